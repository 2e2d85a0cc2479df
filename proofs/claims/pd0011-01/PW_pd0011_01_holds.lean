import PyProof.Rows.All
import Wide.All
import OpenK.AllK
import Wide.FinOn
import Lean
import PySem.Challenge.RW_pd0011_01
set_option Elab.async false
set_option maxRecDepth 100000
namespace Mine
section
open PySem PySem.W PyProof.Rows PySem.Calls

/-- the program -/
abbrev Pg : Program := PySem.Challenge.pw_pd0011_01
def nth (n : Nat) : Stmt := (Pg.main.body[n]?).getD (.Pass ⟨0, 0, 0, 0⟩)
def nameOf : Stmt → Str
  | .FunctionDef n .. => n
  | _ => Str.empty
def parsOf : Stmt → Arguments
  | .FunctionDef _ a .. => a
  | _ => ⟨[], [], none, [], [], none, []⟩
def bodyOf : Stmt → List Stmt
  | .FunctionDef _ _ b .. => b
  | _ => []
def scopeOf : Stmt → Scope
  | .FunctionDef _ _ _ _ _ _ sc .. => sc
  | _ => ⟨.function, [], false, false, []⟩

abbrev Nv : Value → Shared → Prop := fun _ _ => False

/-! heaps -/
def Kp (h h' : Heap) : Prop := ∀ b o, h.get? b = some o → h'.get? b = some o
theorem Kp.refl (h : Heap) : Kp h h := fun _ _ e => e
theorem Kp.trans {a b c : Heap} (x : Kp a b) (y : Kp b c) : Kp a c := fun _ _ e => y _ _ (x _ _ e)

def gone : Obj := ⟨.none, none, .freed, #[]⟩
def put (g : Heap) (a : Addr) (o : Obj) : Heap := { g with objs := (g.objs ++ Array.replicate (a + 1 - g.objs.size) gone).setIfInBounds a o }
theorem put_self {g : Heap} {a : Addr} {o : Obj} (ho : o.isFreed = false) : (put g a o).get? a = some o := by
  refine Heap.get?_some_iff.mpr ⟨?_, ho⟩
  simp only [put]
  rw [Array.getElem?_setIfInBounds_self_of_lt]
  simp; omega
theorem put_ne {g : Heap} {a b : Addr} {o : Obj} (h : b ≠ a) : (put g a o).get? b = g.get? b := by
  have e : ∀ x, (put g a o).get? b = some x ↔ g.get? b = some x := by
    intro x
    rw [Heap.get?_some_iff, Heap.get?_some_iff]
    simp only [put, Array.getElem?_setIfInBounds, if_neg (Ne.symm h)]
    by_cases hb : b < g.objs.size
    · rw [Array.getElem?_append_left hb]
    · rw [Array.getElem?_append_right (Nat.le_of_not_lt hb)]
      constructor
      · rintro ⟨e1, e2⟩
        exfalso
        rw [Array.getElem?_replicate] at e1
        split at e1
        · cases e1; cases e2
        · cases e1
      · rintro ⟨e1, _⟩
        rw [Array.getElem?_eq_none (Nat.le_of_not_lt hb)] at e1; cases e1
  cases q : g.get? b with
  | some x => exact (e x).mpr q
  | none =>
    cases r : (put g a o).get? b with
    | none => rfl
    | some x => rw [(e x).mp r] at q; cases q
theorem put_kp {g : Heap} {a : Addr} {o : Obj} (h : g.get? a = none) : Kp g (put g a o) := fun b x e => by
  rw [put_ne (fun q => by rw [q, h] at e; cases e)]; exact e
theorem put_sub {g h : Heap} {a : Addr} {o : Obj} (k : Kp g h) (e : h.get? a = some o) : Kp (put g a o) h := fun b x q => by
  by_cases hb : b = a
  · subst hb
    rw [put_self (Heap.get?_some_iff.mp e).2] at q; cases q; exact e
  · rw [put_ne hb] at q; exact k _ _ q
theorem none_of_kp {h h' : Heap} {a : Addr} (k : Kp h h') (e : h'.get? a = none) : h.get? a = none := by
  cases q : h.get? a with
  | none => rfl
  | some o => rw [k _ _ q] at e; cases e
theorem fresh_size (h : Heap) : h.get? h.objs.size = none := by
  cases q : h.get? h.objs.size with
  | none => rfl
  | some o => exact absurd (Heap.lt_size q) (Nat.lt_irrefl _)

/-! what a value says -/
def Rd (g : Heap) (v : Value) (d : PyData) : Prop := ∃ as, Reads g v d as
def RdL (g : Heap) (vs : List Value) (ds : List PyData) : Prop := ∃ as, ReadsAll g vs ds as
theorem Rd.up {g g' : Heap} {v : Value} {d : PyData} (k : Kp g g') (r : Rd g v d) : Rd g' v d := let ⟨as, h⟩ := r; ⟨as, Reads.keeps k h⟩
theorem RdL.up {g g' : Heap} {v : List Value} {d : List PyData} (k : Kp g g') (r : RdL g v d) : RdL g' v d := let ⟨as, h⟩ := r; ⟨as, ReadsAll.keeps k h⟩
theorem RdL.nil {g : Heap} : RdL g [] [] := ⟨_, .nil⟩
theorem RdL.cons {g : Heap} {v vs d ds} (h : Rd g v d) (t : RdL g vs ds) : RdL g (v :: vs) (d :: ds) := let ⟨_, a⟩ := h; let ⟨_, b⟩ := t; ⟨_, .cons a b⟩
theorem Rd.int {g : Heap} (i : Int) (t : Tok) : Rd g (.int i t) (.int i) := ⟨_, .int i t⟩
theorem Rd.bool {g : Heap} (b : Bool) : Rd g (.bool b) (.bool b) := ⟨_, .bool b⟩
theorem Rd.str {g : Heap} (x : Str) (t : Tok) : Rd g (.str x t) (.str x) := ⟨_, .str x t⟩
theorem Rd.int_inv {g : Heap} {v : Value} {i : Int} (r : Rd g v (.int i)) : ∃ t, v = .int i t := by obtain ⟨_, h⟩ := r; cases h; exact ⟨_, rfl⟩
theorem Rd.str_inv {g : Heap} {v : Value} {x : Str} (r : Rd g v (.str x)) : ∃ t, v = .str x t := by obtain ⟨_, h⟩ := r; cases h; exact ⟨_, rfl⟩
theorem Rd.bool_inv {g : Heap} {v : Value} {b : Bool} (r : Rd g v (.bool b)) : v = .bool b := by obtain ⟨_, h⟩ := r; cases h; rfl
theorem Rd.list_inv {g : Heap} {v : Value} {ds : List PyData} (r : Rd g v (.list ds)) : ∃ a vs, v = .ref a ∧ g.IsList a vs.toArray ∧ RdL g vs ds := by
  obtain ⟨_, h⟩ := r
  cases h with
  | list h1 h2 h3 h4 => exact ⟨_, _, rfl, ⟨_, h1, h2, _, h3⟩, ⟨_, h4⟩⟩
theorem Rd.tuple_inv {g : Heap} {v : Value} {ds : List PyData} (r : Rd g v (.tuple ds)) : ∃ a vs, v = .ref a ∧ IsTup g a vs.toArray ∧ RdL g vs ds := by
  obtain ⟨_, h⟩ := r
  cases h with
  | tuple h1 h2 h3 h4 => exact ⟨_, _, rfl, ⟨_, h1, h2, _, h3⟩, ⟨_, h4⟩⟩
theorem Rd.list {g : Heap} {a : Addr} {o : Obj} {vs : Array Value} {n : Nat} {ds : List PyData} (h1 : g.get? a = some o) (h2 : o.cls = .type "list") (h3 : o.data = .seq vs n) (h4 : RdL g vs.toList ds) : Rd g (.ref a) (.list ds) :=
  let ⟨_, h⟩ := h4; ⟨_, .list h1 h2 h3 h⟩
theorem Rd.tuple {g : Heap} {a : Addr} {o : Obj} {vs : Array Value} {n : Nat} {ds : List PyData} (h1 : g.get? a = some o) (h2 : o.cls = .type "tuple") (h3 : o.data = .seq vs n) (h4 : RdL g vs.toList ds) : Rd g (.ref a) (.tuple ds) :=
  let ⟨_, h⟩ := h4; ⟨_, .tuple h1 h2 h3 h⟩
theorem RdL.nil_inv {g : Heap} {vs} (r : RdL g vs []) : vs = [] := by obtain ⟨_, h⟩ := r; cases h; rfl
theorem RdL.cons_inv {g : Heap} {vs d ds} (r : RdL g vs (d :: ds)) : ∃ v vs', vs = v :: vs' ∧ Rd g v d ∧ RdL g vs' ds := by
  obtain ⟨_, h⟩ := r
  cases h with
  | cons h1 h2 => exact ⟨_, _, rfl, ⟨_, h1⟩, ⟨_, h2⟩⟩
theorem RdL.length {g : Heap} : ∀ {ds vs}, RdL g vs ds → vs.length = ds.length
  | [], vs, r => by rw [r.nil_inv]; rfl
  | d :: ds, vs, r => by obtain ⟨v, vs', rfl, _, h⟩ := r.cons_inv; rw [List.length_cons, List.length_cons, h.length]
theorem RdL.append {g : Heap} : ∀ {ds ds' vs vs'}, RdL g vs ds → RdL g vs' ds' → RdL g (vs ++ vs') (ds ++ ds')
  | [], ds', vs, vs', r, r' => by rw [r.nil_inv]; exact r'
  | d :: ds, ds', vs, vs', r, r' => by
    obtain ⟨v, us, rfl, h, t⟩ := r.cons_inv
    exact .cons h (t.append r')
theorem RdL.get {g : Heap} : ∀ {ds vs} (_ : RdL g vs ds) {i : Nat} {d : PyData}, ds[i]? = some d → ∃ v, vs[i]? = some v ∧ Rd g v d
  | [], _, _, i, d, e => by simp at e
  | d :: ds, vs, r, i, e, q => by
    obtain ⟨v, us, rfl, h, t⟩ := r.cons_inv
    cases i with
    | zero => simp at q; subst q; exact ⟨v, rfl, h⟩
    | succ i => simpa using t.get (i := i) (by simpa using q)
theorem RdL.take {g : Heap} : ∀ {ds vs} (_ : RdL g vs ds) (n : Nat), RdL g (vs.take n) (ds.take n)
  | [], vs, r, n => by rw [r.nil_inv]; simp; exact .nil
  | d :: ds, vs, r, n => by
    obtain ⟨v, us, rfl, h, t⟩ := r.cons_inv
    cases n with
    | zero => exact .nil
    | succ n => exact .cons h (t.take n)
theorem RdL.drop {g : Heap} : ∀ {ds vs} (_ : RdL g vs ds) (n : Nat), RdL g (vs.drop n) (ds.drop n)
  | [], vs, r, n => by rw [r.nil_inv]; simp; exact .nil
  | d :: ds, vs, r, n => by
    obtain ⟨v, us, rfl, h, t⟩ := r.cons_inv
    cases n with
    | zero => exact .cons h t
    | succ n => exact t.drop n

theorem snoc_cases {α : Type} (l : List α) : l = [] ∨ ∃ i v, l = i ++ [v] := by
  rcases List.eq_nil_or_concat l with h | ⟨i, v, h⟩
  · exact .inl h
  · exact .inr ⟨i, v, by rw [h, List.concat_eq_append]⟩
theorem RdL.snoc_inv {g : Heap} : ∀ {ds : List PyData} {vs : List Value} {d : PyData} {v : Value}, RdL g (vs ++ [v]) (ds ++ [d]) → RdL g vs ds ∧ Rd g v d
  | [], vs, d, v, r => by
    have e := r.length
    cases vs with
    | nil => obtain ⟨_, _, e1, h, _⟩ := r.cons_inv; cases e1; exact ⟨.nil, h⟩
    | cons a b => simp at e
  | d' :: ds, vs, d, v, r => by
    cases vs with
    | nil => have e := r.length; simp at e
    | cons a b =>
      obtain ⟨_, _, e1, h, t⟩ := r.cons_inv
      cases e1
      obtain ⟨p, q⟩ := snoc_inv t
      exact ⟨.cons h p, q⟩
/-! what of a state the proofs follow: its heap, its generators, its outside -/
structure Core where
  heap : Heap
  gens : Array GenState
  os : OsState
abbrev core (s : Shared) : Core := ⟨s.heap, s.gens, s.os⟩

/-! a step of a pure function, g the frozen part -/
structure Stp (g : Heap) (s : Core) (g' : Heap) (s' : Core) : Prop where
  kh : Kp s.heap s'.heap
  kg : Kp g g'
  sub : Kp g' s'.heap
  new : ∀ a o, g'.get? a = some o → g.get? a = some o ∨ s.heap.get? a = none
  gens : s'.gens = s.gens
  os : s'.os = s.os
theorem Stp.refl {g : Heap} {s : Core} (k : Kp g s.heap) : Stp g s g s := ⟨Kp.refl _, Kp.refl _, k, fun _ _ e => .inl e, rfl, rfl⟩
theorem Stp.trans {g g' g'' : Heap} {s s' s'' : Core} (x : Stp g s g' s') (y : Stp g' s' g'' s'') : Stp g s g'' s'' :=
  ⟨x.kh.trans y.kh, x.kg.trans y.kg, y.sub, fun a o e => (y.new a o e).elim (x.new a o) fun q => .inr (none_of_kp x.kh q), y.gens.trans x.gens, y.os.trans x.os⟩
theorem Stp.hid {g g' : Heap} {s s' : Core} (x : Stp g s g' s') {a : Addr} {o : Obj} (h : g.get? a = none) (l : s.heap.get? a = some o) : g'.get? a = none := by
  cases q : g'.get? a with
  | none => rfl
  | some o' => rcases x.new a o' q with e | e
               · rw [h] at e; cases e
               · rw [l] at e; cases e
/-- a state that differs in its heap (grown) and counts alone -/
theorem Stp.grow {g : Heap} {s s' : Core} (k : Kp g s.heap) (kh : Kp s.heap s'.heap) (gens : s'.gens = s.gens) (os : s'.os = s.os) : Stp g s g s' :=
  ⟨kh, Kp.refl _, k.trans kh, fun _ _ e => .inl e, gens, os⟩
/-- a new object, frozen at once -/
theorem Stp.alloc {g : Heap} {s s' : Core} {a : Addr} {o : Obj} (k : Kp g s.heap) (kh : Kp s.heap s'.heap) (hn : s.heap.get? a = none) (ho : s'.heap.get? a = some o) (gens : s'.gens = s.gens) (os : s'.os = s.os) : Stp g s (put g a o) s' :=
  ⟨kh, put_kp (none_of_kp k hn), put_sub (k.trans kh) ho, fun b x e => by
    by_cases hb : b = a
    · subst hb; exact .inr hn
    · rw [put_ne hb] at e; exact .inl e, gens, os⟩

/-! a body's state -/
structure St (g0 : Heap) (s0 : Core) (g : Heap) (L : Addr) (m : Str → Option Value) (mu : List (Addr × Obj)) (s : Core) : Prop where
  base : Stp g0 s0 g s
  ns : s.heap.Ns L m
  hidL : g.get? L = none
  newL : s0.heap.get? L = none
  has : ∀ p ∈ mu, s.heap.get? p.1 = some p.2 ∧ p.1 ≠ L ∧ g.get? p.1 = none ∧ s0.heap.get? p.1 = none
  nodup : (mu.map (·.1)).Nodup

section
variable {g0 g g' : Heap} {s0 s s' : Core} {L : Addr} {m m' : Str → Option Value} {mu : List (Addr × Obj)}
theorem St.kp (S : St g0 s0 g L m mu s) : Kp g s.heap := S.base.sub
theorem St.kp0 (S : St g0 s0 g L m mu s) : Kp g0 s.heap := S.base.kg.trans S.base.sub
theorem St.liveL (S : St g0 s0 g L m mu s) : ∃ o, s.heap.get? L = some o := let ⟨o, _, _, h, _⟩ := S.ns; ⟨o, h⟩
theorem St.step (S : St g0 s0 g L m mu s) (x : Stp g s g' s') : St g0 s0 g' L m mu s' :=
  ⟨S.base.trans x, S.ns.keeps x.kh, let ⟨_, h⟩ := S.liveL; x.hid S.hidL h, S.newL, fun p hp => let ⟨a, b, c, d⟩ := S.has p hp; ⟨x.kh _ _ a, b, x.hid c a, d⟩, S.nodup⟩
theorem St.store (S : St g0 s0 g L m mu s) {h' : Heap} (hn : h'.Ns L m') (hs : Heap.SameBut L s.heap h') : St g0 s0 g L m' mu ⟨h', s.gens, s.os⟩ where
  base := ⟨fun b o e => (hs.2 b (fun q => by rw [q, S.newL] at e; cases e)).trans (S.base.kh b o e), S.base.kg, fun b o e => (hs.2 b (fun q => by rw [q, S.hidL] at e; cases e)).trans (S.base.sub b o e), S.base.new, S.base.gens, S.base.os⟩
  ns := hn
  hidL := S.hidL
  newL := S.newL
  has := fun p hp => let ⟨a, b, c, d⟩ := S.has p hp; ⟨(hs.2 _ b).trans a, b, c, d⟩
  nodup := S.nodup
/-- a new object, the call's own to change -/
theorem St.own (S : St g0 s0 g L m mu s) {a : Addr} {o : Obj} (kh : Kp s.heap s'.heap) (hn : s.heap.get? a = none) (ho : s'.heap.get? a = some o) (gens : s'.gens = s.gens) (os : s'.os = s.os) : St g0 s0 g L m ((a, o) :: mu) s' :=
  have S' := S.step (Stp.grow S.kp kh gens os)
  { S' with
    has := fun p hp => by
      rcases List.mem_cons.mp hp with rfl | hp
      · refine ⟨ho, fun q => ?_, none_of_kp S.kp hn, none_of_kp S.base.kh hn⟩
        obtain ⟨x, h⟩ := S.liveL
        rw [← q, hn] at h; cases h
      · exact S'.has p hp
    nodup := by
      rw [List.map_cons, List.nodup_cons]
      refine ⟨fun q => ?_, S.nodup⟩
      obtain ⟨p, hp, e⟩ := List.mem_map.mp q
      have := (S.has p hp).1
      rw [e, hn] at this; cases this }
/-- an own object changed -/
theorem St.upd {pre post : List (Addr × Obj)} {a : Addr} {o o' : Obj} (S : St g0 s0 g L m (pre ++ (a, o) :: post) s) {h' : Heap} (hs : ∀ b x, b ≠ a → s.heap.get? b = some x → h'.get? b = some x) (ho : h'.get? a = some o') : St g0 s0 g L m (pre ++ (a, o') :: post) ⟨h', s.gens, s.os⟩ := by
  have D := S.has (a, o) (by simp)
  have nd : ∀ p ∈ pre ++ post, p.1 ≠ a := by
    have := S.nodup
    simp only [List.map_append, List.map_cons] at this
    have n1 := List.nodup_append.mp this
    intro p hp q
    rcases List.mem_append.mp hp with hp | hp
    · exact n1.2.2 p.1 (List.mem_map_of_mem hp) a (.head _) q
    · exact (List.nodup_cons.mp n1.2.1).1 (q ▸ List.mem_map_of_mem hp)
  refine ⟨⟨fun b x e => hs b x (fun q => by rw [q, D.2.2.2] at e; cases e) (S.base.kh b x e), S.base.kg, fun b x e => hs b x (fun q => by rw [q, D.2.2.1] at e; cases e) (S.base.sub b x e), S.base.new, S.base.gens, S.base.os⟩, ?_, S.hidL, S.newL, fun p hp => ?_, ?_⟩
  · obtain ⟨oL, es, ep, hL, r⟩ := S.ns
    exact ⟨oL, es, ep, hs L oL (Ne.symm D.2.1) hL, r⟩
  · rcases List.mem_append.mp hp with q | q
    · have P := S.has p (List.mem_append_left _ q); exact ⟨hs _ _ (nd p (List.mem_append_left _ q)) P.1, P.2⟩
    · rcases List.mem_cons.mp q with rfl | q
      · exact ⟨ho, D.2⟩
      · have P := S.has p (List.mem_append_right _ (.tail _ q)); exact ⟨hs _ _ (nd p (List.mem_append_right _ q)) P.1, P.2⟩
  · simpa using S.nodup
/-- fewer own objects -/
theorem St.drop {mu' : List (Addr × Obj)} (S : St g0 s0 g L m mu s) (h : mu'.Sublist mu) : St g0 s0 g L m mu' s :=
  { S with has := fun p hp => S.has p (h.subset hp), nodup := S.nodup.sublist (h.map _) }
/-- an own object frozen -/
theorem St.freeze {a : Addr} {o : Obj} (S : St g0 s0 g L m ((a, o) :: mu) s) : St g0 s0 (put g a o) L m mu s := by
  have D := S.has (a, o) (.head _)
  have nd : a ∉ mu.map (·.1) ∧ (mu.map (·.1)).Nodup := List.nodup_cons.mp S.nodup
  refine ⟨⟨S.base.kh, S.base.kg.trans (put_kp D.2.2.1), put_sub S.base.sub D.1, fun b x e => ?_, S.base.gens, S.base.os⟩, S.ns, ?_, S.newL, fun p hp => ?_, nd.2⟩
  · by_cases hb : b = a
    · subst hb; exact .inr D.2.2.2
    · rw [put_ne hb] at e; exact S.base.new b x e
  · rw [put_ne (Ne.symm D.2.1)]; exact S.hidL
  · have P := S.has p (.tail _ hp)
    refine ⟨P.1, P.2.1, ?_, P.2.2.2⟩
    have ne : p.1 ≠ a := fun q => nd.1 (q ▸ List.mem_map_of_mem hp)
    rw [put_ne ne]; exact P.2.2.1
theorem St.frozen {a : Addr} {o : Obj} (S : St g0 s0 g L m ((a, o) :: mu) s) : Kp g (put g a o) ∧ (put g a o).get? a = some o :=
  have D := S.has (a, o) (.head _)
  ⟨put_kp D.2.2.1, put_self (Heap.get?_some_iff.mp D.1).2⟩
end

end
section
open PySem PySem.W PyProof.Rows PySem.Calls

def defsN : List Nat := [3, 12, 16, 17, 18, 19, 20, 21, 23, 24, 25, 26, 27, 28, 29, 30, 31, 32, 33]
def bnames : List Str := ["iter", "next", "type", "issubclass", "isinstance", "str", "bytes", "len", "tuple", "map", "min", "max", "enumerate", "range", "sum"]

/-- what the top has laid, on the frozen part -/
structure Gnd (mg mb : Str → Option Value) (fa : Nat → Addr) (dT mi : Addr) (g : Heap) : Prop where
  ng : g.Ns mainGlobals mg
  nb : g.Ns builtinsNs mb
  bi : ∀ x : Str, x ≠ "__name__" → mb x = bootBuiltins x
  lim : g.NoLimit
  fn : ∀ n ∈ defsN, mg (nameOf (nth n)) = some (.ref (fa n)) ∧ ∃ o kV doc pm an cdv ct, g.get? (fa n) = some o ∧
    o.data = .func (fnOf (nameOf (nth n)) (nameOf (nth n)) (parsOf (nth n)) (bodyOf (nth n)) (scopeOf (nth n)) (if n = 3 then .ref dT else .none) kV doc pm an cdv ct) ∧ g.CodeRec cdv (nameOf (nth n))
  free : ∀ x ∈ bnames, mg x = none
  miss : mg "_initial_missing" = some (.ref mi)
  dflt : ∃ o n, g.get? dT = some o ∧ o.data = .seq #[.ref mi] n
  missO : ∃ o, g.get? mi = some o ∧ o.cls = .type "object"
theorem Gnd.up {mg mb : Str → Option Value} {fa : Nat → Addr} {dT mi : Addr} {g g' : Heap} (k : Kp g g') (G : Gnd mg mb fa dT mi g) : Gnd mg mb fa dT mi g' where
  ng := G.ng.keeps k
  nb := G.nb.keeps k
  bi := G.bi
  lim := G.lim.keeps k
  fn := fun n hn => let ⟨a, o, kV, doc, pm, an, cdv, ct, h1, h2, h3⟩ := G.fn n hn; ⟨a, o, kV, doc, pm, an, cdv, ct, k _ _ h1, h2, h3.keeps k⟩
  free := G.free
  miss := G.miss
  dflt := let ⟨o, n, a, b⟩ := G.dflt; ⟨o, n, k _ _ a, b⟩
  missO := let ⟨o, a, b⟩ := G.missO; ⟨o, k _ _ a, b⟩

theorem Gnd.miss_ne {mg mb : Str → Option Value} {fa : Nat → Addr} {dT mi : Addr} {g : Heap} (G : Gnd mg mb fa dT mi g) {v : Value} {d : PyData} (r : Rd g v d) : (v == .ref mi) = false := by
  obtain ⟨o, ho, hc⟩ := G.missO
  obtain ⟨_, r⟩ := r
  cases q : v == Value.ref mi with
  | false => rfl
  | true =>
    have e := eq_of_beq q
    subst e
    cases r with
    | list h1 h2 _ _ => rw [ho] at h1; cases h1; rw [hc] at h2; injection h2 with q2; exact absurd q2 (by decide)
    | tuple h1 h2 _ _ => rw [ho] at h1; cases h1; rw [hc] at h2; injection h2 with q2; exact absurd q2 (by decide)
    | dict h1 h2 _ _ _ => rw [ho] at h1; cases h1; rw [hc] at h2; injection h2 with q2; exact absurd q2 (by decide)
/-- room -/
structure Ok (A : Around) (k : Nat) : Prop where
  d : A.depth + k < recursionLimit
  u : A.units + 8 * k + 200 < cLine
  h : A.handled = none
theorem Ok.deeper {A : Around} {k : Nat} {env : Env} (o : Ok A (k + 1)) : Ok (A.deeper env) k := ⟨by have := o.d; simp only [Around.deeper]; omega, by have := o.u; simp only [Around.deeper]; omega, o.h⟩
theorem Ok.in1 {A : Around} {k : Nat} (o : Ok A (k + 1)) : Ok A.in1 k := ⟨by have := o.d; simp only; omega, by have := o.u; simp only; omega, o.h⟩
theorem Ok.le {A : Around} {k j : Nat} (o : Ok A k) (h : j ≤ k) : Ok A j := ⟨by have := o.d; omega, by have := o.u; omega, o.h⟩
theorem Ok.room {A : Around} {k : Nat} (o : Ok A k) : A.depth < recursionLimit := by have := o.d; omega
theorem Ok.units {A : Around} {k : Nat} (o : Ok A k) : A.units + 200 < cLine := by have := o.u; omega

section
variable {mg mb : Str → Option Value} {fa : Nat → Addr} {dT mi : Addr} {w : World} {A : Around} {g g0 : Heap} {s : Shared} {s0 : Core} {Q : Value → Shared → Prop} {E : Value → Shared → Prop} {n : Nat}

theorem ite_t {c : Bool} {P R : Prop} (h : c = true) (p : P) : if c = true then P else R := by rw [if_pos h]; exact p
theorem ite_f {c : Bool} {P R : Prop} (h : c = false) (p : R) : if c = true then P else R := by rw [h]; exact p
def retv : Flow → Value
  | .ret v => v
  | _ => .none

theorem enter {vs : List Value} {binds : List (Str × Value)} (G : Gnd mg mb fa dT mi g) {j : Nat} (k : Kp g s.heap) (ok : Ok A (j + 1))
    (hn : n ∈ defsN) (h3 : n ≠ 3)
    (hbind : ∀ kV doc pm an cdv ct, BindsTo s (fnOf (nameOf (nth n)) (nameOf (nth n)) (parsOf (nth n)) (bodyOf (nth n)) (scopeOf (nth n)) .none kV doc pm an cdv ct) ⟨vs, []⟩ binds)
    (hloc : ∀ x ∈ binds, (scopeOf (nth n)).names.lookup x.1 = some .local)
    (h : ∀ cd L s1, St g (core s) g L (fun y => binds.reverse.lookup y) [] (core s1) → Ok (A.deeper (envOf (nameOf (nth n)) (scopeOf (nth n)) L (fa n) cd)) j →
      wpAny (model Pg w) (A.deeper (envOf (nameOf (nth n)) (scopeOf (nth n)) L (fa n) cd)) (execs (bodyOf (nth n)) (envOf (nameOf (nth n)) (scopeOf (nth n)) L (fa n) cd)) (fun fl s' => Q (retv fl) s') Nv s1)
    (hcell : ∀ x ∈ (scopeOf (nth n)).names, x.2 ≠ .cell := by decide +kernel) (hco : (scopeOf (nth n)).isCoroutine = false := by rfl) (hgen : (scopeOf (nth n)).isGenerator = false := by rfl) (hk : (scopeOf (nth n)).kind = .function := by rfl) :
    wpAny (model Pg w) A (call (.ref (fa n)) vs) Q E s := by
  obtain ⟨_, o, kV, doc, pm, an, cdv, ct, h1, h2, h4⟩ := G.fn n hn
  rw [if_neg h3] at h2
  refine wpAny_call (codeAny_call_def ok.room (k _ _ h1) h2 (G.lim.keeps k) (h4.keeps k) rfl (hbind kV doc pm an cdv ct) hcell hloc (fun h₀ hns hkp => ?_) hco hgen hk)
  refine wpAny_mono (h cdv s.heap.objs.size { s with heap := h₀, toks := s.toks + binds.length } ?_ ok.deeper) (fun fl s' hq => ?_) fun _ _ f => f.elim
  · exact ⟨Stp.grow k hkp rfl rfl, hns, none_of_kp k (fresh_size _), fresh_size _, (fun _ hp => nomatch hp), List.nodup_nil⟩
  · cases fl <;> exact hq

/-- reduce, with its default -/
theorem enterR {vs : List Value} {binds : List (Str × Value)} (G : Gnd mg mb fa dT mi g) {j : Nat} (k : Kp g s.heap) (ok : Ok A (j + 1))
    (hbind : ∀ kV doc pm an cdv ct, BindsTo s (fnOf (nameOf (nth 3)) (nameOf (nth 3)) (parsOf (nth 3)) (bodyOf (nth 3)) (scopeOf (nth 3)) (.ref dT) kV doc pm an cdv ct) ⟨vs, []⟩ binds)
    (hloc : ∀ x ∈ binds, (scopeOf (nth 3)).names.lookup x.1 = some .local)
    (h : ∀ cd L s1, St g (core s) g L (fun y => binds.reverse.lookup y) [] (core s1) → Ok (A.deeper (envOf (nameOf (nth 3)) (scopeOf (nth 3)) L (fa 3) cd)) j →
      wpAny (model Pg w) (A.deeper (envOf (nameOf (nth 3)) (scopeOf (nth 3)) L (fa 3) cd)) (execs (bodyOf (nth 3)) (envOf (nameOf (nth 3)) (scopeOf (nth 3)) L (fa 3) cd)) (fun fl s' => Q (retv fl) s') Nv s1) :
    wpAny (model Pg w) A (call (.ref (fa 3)) vs) Q E s := by
  obtain ⟨_, o, kV, doc, pm, an, cdv, ct, h1, h2, h4⟩ := G.fn 3 (by decide)
  rw [if_pos rfl] at h2
  refine wpAny_call (codeAny_call_def ok.room (k _ _ h1) h2 (G.lim.keeps k) (h4.keeps k) rfl (hbind kV doc pm an cdv ct) (show ∀ x ∈ (scopeOf (nth 3)).names, x.2 ≠ .cell from by decide +kernel) hloc (fun h₀ hns hkp => ?_) rfl rfl rfl)
  refine wpAny_mono (h cdv s.heap.objs.size { s with heap := h₀, toks := s.toks + binds.length } ?_ ok.deeper) (fun fl s' hq => ?_) fun _ _ f => f.elim
  · exact ⟨Stp.grow k hkp rfl rfl, hns, none_of_kp k (fresh_size _), fresh_size _, (fun _ hp => nomatch hp), List.nodup_nil⟩
  · cases fl <;> exact hq

/-! names -/
variable {env : Env} {L : Addr} {m : Str → Option Value} {mu : List (Addr × Obj)}
theorem ldL {x : Str} {pos : Pos} {v : Value} (hl : env.kindOf x = some .local) (S : St g0 s0 g L m mu (core s)) (hL : env.locals = L) (hv : m x = some v) (h : Q v s)
    (hk : env.scope.kind = .function := by rfl) (hd : (x == ("__debug__" : Str)) = false := by rfl) :
    wpAny (model Pg w) A (eval (.Name x pos) env) Q E s := wpAny_Name (wpAny_loadName_local hk hl (hL ▸ S.ns) hv h) hd
theorem ldnL {x : Str} {v : Value} (hl : env.kindOf x = some .local) (S : St g0 s0 g L m mu (core s)) (hL : env.locals = L) (hv : m x = some v) (h : Q v s)
    (hk : env.scope.kind = .function := by rfl) :
    wpAny (model Pg w) A (loadName env x) Q E s := wpAny_loadName_local hk hl (hL ▸ S.ns) hv h
theorem ldG {x : Str} {pos : Pos} {v : Value} (S : St g0 s0 g L m mu (core s)) (G : Gnd mg mb fa dT mi g0) (hg : env.globals = mainGlobals) (hv : mg x = some v) (h : Q v s)
    (hk : env.scope.kind = .function := by rfl) (hx : env.kindOf x = some .globalImplicit := by rfl) (hd : (x == ("__debug__" : Str)) = false := by rfl) :
    wpAny (model Pg w) A (eval (.Name x pos) env) Q E s := Name_function_global hk hx (loadGlobal_global (hg ▸ G.ng.keeps S.kp0) hv h) hd
theorem ldF {x : Str} {pos : Pos} (n : Nat) (S : St g0 s0 g L m mu (core s)) (G : Gnd mg mb fa dT mi g0) (hx' : x = nameOf (nth n)) (hn : n ∈ defsN) (hg : env.globals = mainGlobals) (h : Q (.ref (fa n)) s)
    (hk : env.scope.kind = .function := by rfl) (hx : env.kindOf x = some .globalImplicit := by rfl) (hd : (x == ("__debug__" : Str)) = false := by rfl) :
    wpAny (model Pg w) A (eval (.Name x pos) env) Q E s := ldG S G hg (hx' ▸ (G.fn n hn).1) h hk hx hd
theorem ldB {x : Str} {pos : Pos} {v : Value} (S : St g0 s0 g L m mu (core s)) (G : Gnd mg mb fa dT mi g0) (hg : env.globals = mainGlobals) (hb : env.builtins = builtinsNs) (hm : bnames.contains x = true) (hv : bootBuiltins x = some v) (h : Q v s)
    (hk : env.scope.kind = .function := by rfl) (hx : env.kindOf x = some .globalImplicit := by rfl) (hd : (x == ("__debug__" : Str)) = false := by rfl) :
    wpAny (model Pg w) A (eval (.Name x pos) env) Q E s :=
  have hm := List.contains_iff_mem.mp hm
  have hn : x ≠ "__name__" := fun e => absurd (e ▸ hm : ("__name__" : Str) ∈ bnames) (by decide +kernel)
  Name_function_global hk hx (loadGlobal_builtin (hg ▸ G.ng.keeps S.kp0) (G.free x hm) (hb ▸ G.nb.keeps S.kp0) ((G.bi x hn).trans hv) h) hd
theorem stL {x : Str} {v : Value} {Q : Unit → Shared → Prop} (S : St g0 s0 g L m mu (core s)) (hL : env.locals = L)
    (h : ∀ s', St g0 s0 g L (fun y => if y = x then some v else m y) mu (core s') → Q () s')
    (hk : env.scope.kind = .function := by rfl) (hl : env.kindOf x = some .local := by rfl) :
    wpAny (model Pg w) A (storeName env x v) Q E s :=
  wpAny_storeName_local hl (hL ▸ S.ns) (fun _ hn hs => h _ (S.store (hL ▸ hn) (hL ▸ hs))) (by rw [hk]; rfl)
/-- a call of a def of the text -/
theorem callN {pos : Pos} {e : Expr} {rest : List Expr} (G : Gnd mg mb fa dT mi g0) (hn : n ∈ defsN)
    (h : wpAny (model Pg w) A (spliced (backTo pos (starEach (e :: rest) env))) (fun vs s₁ => Kp g0 s₁.heap ∧ wpAny (model Pg w) A (call (.ref (fa n)) vs) Q E s₁) E s)
    (he : starEach (e :: rest) env = (false, eval e env) :: starEach rest env := by rfl) :
    wpAny (model Pg w) A (callWith pos (.ref (fa n)) [] (backTo pos (starEach (e :: rest) env)) []) Q E s := by
  obtain ⟨_, o, kV, doc, pm, an, cdv, ct, h1, h2, h4⟩ := G.fn n hn
  exact callWith_def h2 (wpAny_mono h (fun vs s₁ h => ⟨h.1 _ _ h1, h.2⟩) fun _ _ x => x) he
/-! contracts -/
def Gives (w : World) (A : Around) (g : Heap) (s : Shared) (f : Value) (vs : List Value) (d : PyData) : Prop :=
  ∀ (Q E : Value → Shared → Prop), (∀ r g' s', Stp g (core s) g' (core s') → Rd g' r d → Q r s') → wpAny (model Pg w) A (call f vs) Q E s
theorem Gives.use {f : Value} {vs : List Value} {d : PyData} (c : Gives w A g s f vs d) (S : St g0 s0 g L m mu (core s)) (h : ∀ r g' s', St g0 s0 g' L m mu (core s') → Kp g g' → Rd g' r d → Q r s') :
    wpAny (model Pg w) A (call f vs) Q E s := c Q E fun r g' s' X R => h r g' s' (S.step X) X.kg R
theorem Gives.useS {f : Value} {vs : List Value} {x : Str} (c : Gives w A g s f vs (.str x)) (S : St g0 s0 g L m mu (core s)) (h : ∀ t g' s', St g0 s0 g' L m mu (core s') → Kp g g' → Q (.str x t) s') :
    wpAny (model Pg w) A (call f vs) Q E s := c.use S fun r g' s' S K R => by obtain ⟨t, rfl⟩ := R.str_inv; exact h t g' s' S K
theorem St.ret {v : Value} {d : PyData} {g' : Heap} {s' : Shared} (S : St g0 s0 g' L m mu (core s')) (h : ∀ r g' s', Stp g0 s0 g' (core s') → Rd g' r d → Q r s') (r : Rd g' v d) : Q v s' := h _ _ _ S.base r
end

end
section
open PySem PySem.W PyProof.Rows PySem.Calls
set_option maxHeartbeats 400000
section
variable {mg mb : Str → Option Value} {fa : Nat → Addr} {dT mi : Addr} {w : World} {A : Around} {g g0 : Heap} {s : Shared} {s0 : Core} {Q : Value → Shared → Prop} {E : Value → Shared → Prop} {n : Nat}
  {env : Env} {L : Addr} {m : Str → Option Value} {mu : List (Addr × Obj)}

/-! new objects -/
abbrev lob (vs : List Value) (n : Nat) : Obj := { cls := .type "list", data := .seq vs.toArray n }
abbrev tob (vs : List Value) : Obj := { cls := .type "tuple", data := .seq vs.toArray }
theorem push_kp (h : Heap) (o : Obj) : Kp h (h.push o) := fun _ _ e => Heap.get?_push_of_some o e
theorem tupR {vs : List Value} (S : St g0 s0 g L m mu (core s)) (h : ∀ a s', IsTup s'.heap a vs.toArray → St g0 s0 g L m mu (core s') → Q (.ref a) s') (hsz : vs.length ≤ sizeLine := by size_fits) :
    wpAny (model Pg w) A (newTuple vs) Q E s :=
  wpAny_newObj_type (h _ _ ⟨_, Heap.get?_push_size _ rfl, rfl, _, rfl⟩ (S.step (Stp.grow S.kp (push_kp _ _) rfl rfl))) (by show vs.toArray.size ≤ sizeLine; rw [List.size_toArray]; exact hsz)
theorem tupF {vs : List Value} {ds : List PyData} (S : St g0 s0 g L m mu (core s)) (r : RdL g vs ds) (h : ∀ a g' s', St g0 s0 g' L m mu (core s') → Kp g g' → Rd g' (.ref a) (.tuple ds) → Q (.ref a) s') (hsz : vs.length ≤ sizeLine := by size_fits) :
    wpAny (model Pg w) A (newTuple vs) Q E s := by
  have x := Stp.alloc (s := core s) (s' := ⟨s.heap.push (tob vs), s.gens, s.os⟩) S.kp (push_kp _ (tob vs)) (fresh_size _) (Heap.get?_push_size _ rfl) rfl rfl
  exact wpAny_newObj_type (h _ _ _ (S.step x) x.kg (Rd.tuple (put_self rfl) rfl rfl (by simpa using r.up x.kg))) (by show vs.toArray.size ≤ sizeLine; rw [List.size_toArray]; exact hsz)
theorem lstO {vs : List Value} (S : St g0 s0 g L m mu (core s)) (h : ∀ a s', St g0 s0 g L m ((a, lob vs 0) :: mu) (core s') → Q (.ref a) s') (hsz : vs.length ≤ sizeLine := by size_fits) :
    wpAny (model Pg w) A (newList vs) Q E s :=
  wpAny_newObj_type (h _ _ (S.own (push_kp _ _) (fresh_size _) (Heap.get?_push_size _ rfl) rfl rfl)) (by show vs.toArray.size ≤ sizeLine; rw [List.size_toArray]; exact hsz)
theorem lstF {vs : List Value} {ds : List PyData} (S : St g0 s0 g L m mu (core s)) (r : RdL g vs ds) (h : ∀ a g' s', St g0 s0 g' L m mu (core s') → Kp g g' → Rd g' (.ref a) (.list ds) → Q (.ref a) s') (hsz : vs.length ≤ sizeLine := by size_fits) :
    wpAny (model Pg w) A (newList vs) Q E s := by
  have x := Stp.alloc (s := core s) (s' := ⟨s.heap.push (lob vs 0), s.gens, s.os⟩) S.kp (push_kp _ (lob vs 0)) (fresh_size _) (Heap.get?_push_size _ rfl) rfl rfl
  exact wpAny_newObj_type (h _ _ _ (S.step x) x.kg (Rd.list (put_self rfl) rfl rfl (by simpa using r.up x.kg))) (by show vs.toArray.size ≤ sizeLine; rw [List.size_toArray]; exact hsz)

/-! issubclass of str -/
theorem issub_nested_self {prog : Program} {k : Value} {dep : Int} {tk : Tok} {Q : Fin → Shared → Prop} (hk : k = .int dep tk)
    (hq : Q (.done (.ret (.bool true))) s) :
    wpAny (model prog w) A (Builtin.«issubclass.nested» ⟨[.type "str", .type "str", k], []⟩) Q E s := by
  have hself : isSubtype (.type "str") (.type "str") = pure true := by kernel_rfl
  subst hk
  repeat (any_goals (first | assumption | (rw [hself]) | wp_step))
theorem issub_str {T : Addr} (hT : IsTup s.heap T #[.type "str", .type "bytes"]) (h : Q (.bool true) s) :
    wpAny (model Pg w) A (call (.builtin "issubclass") [.type "str", .ref T]) Q E s := by
  refine call_issubclass (S := fun _ R s => IsTup s.heap T #[.type "str", .type "bytes"] ∧ R (.ok (.ret (.bool true))) s) (fun prog w A R s hs => issubclass_outer ?_) ⟨hT, h⟩
  obtain ⟨hT, h⟩ := hs
  have hty : s.TypeIs (.ref T) "tuple" := by obtain ⟨o, ho, hc, n, hd⟩ := hT; exact ⟨o, ho, hc⟩
  obtain ⟨o, ho, hc, n, hd⟩ := hT
  have hi : isSubtype (.type "tuple") (.type "tuple") = pure true := by kernel_rfl
  repeat (any_goals (first | assumption | wp_step))
  rw [hd]
  refine wpAny_pure ?_
  show wpAny _ _ (forIn #[Value.type "str", Value.type "bytes"] _ _ >>= _) _ _ _
  rw [List.forIn_toArray, List.forIn_cons]
  refine wpAny_bind (wpAny_bind (wpAny_bind ?_))
  refine call_function_entry (id := "issubclass.nested") (b := Builtin.«issubclass.nested») (by decide +kernel) (by decide +kernel) F.entry_issubclass_nested (by unfold argsOk; kernel_rfl) ?_
  refine issub_nested_self (dep := 0 + 1) (tk := 0) rfl ⟨_, rfl, ?_⟩
  repeat (any_goals (first | assumption | wp_step))
/-! slices of texts -/
abbrev slOb (vl vu : Value) : Obj := { cls := .type "slice", data := .fields #[vl, vu, .none] }
theorem St.pushed (S : St g0 s0 g L m mu (core s)) (o : Obj) : St g0 s0 g L m mu ⟨s.heap.push o, s.gens, s.os⟩ := S.step (Stp.grow S.kp (push_kp _ _) rfl rfl)
inductive SP : Value → Option (Int × Tok) → Prop
  | none : SP .none .none
  | int (i : Int) (t : Tok) : SP (.int i t) (some (i, t))
theorem slS {value slice : Expr} {x : Str} {t : Tok} {vl vu : Value} {l u : Option (Int × Tok)} (pl : SP vl l) (pu : SP vu u) (S : St g0 s0 g L m mu (core s))
    (h : ∀ t' s', St g0 s0 g L m mu (core s') → Q (.str (Txt.slice x (l.map (·.1)) (u.map (·.1))) t') s')
    (hs : subscripted slice false (.str x t) (.ref s.heap.objs.size) = operate [.ref s.heap.objs.size, .str x t] (getItem (.str x t) (.ref s.heap.objs.size)) := by with_unfolding_all rfl)
    (ht : ∀ r, letTemporaryGo value (.str x t) r = pure () := by intro _; with_unfolding_all rfl) (hsz : x.length ≤ sizeLine := by size_fits) :
    wpAny (model Pg w) A (subscriptTail value slice (.str x t) (.ref s.heap.objs.size)) Q E { s with heap := s.heap.push (slOb vl vu) } := by
  refine subscriptTail_ops (typeIs_str _ _ _) F.slot_str_getitem.lookup ?_ hs ht
  have el : vl = partValue l := by cases pl <;> rfl
  have eu : vu = partValue u := by cases pu <;> rfl
  subst el eu
  refine wpAny_getItem_str_slice (l := l) (u := u) (st := none) ⟨_, Heap.get?_push_size _ rfl, rfl, rfl⟩ rfl ?_
  have a := Txt.slice_le x (l.map (·.1)) (u.map (·.1))
  have b := Nat.le_trans a hsz
  refine post_val_or_str ⟨b, fun t' k => h t' _ (S.pushed (slOb (partValue l) (partValue u)))⟩

/-! unpacking -/
theorem ext_kp {h h' : Heap} (x : Heap.ExtBut h.objs.size h h') : Kp h h' := fun b o e => x b o (Nat.ne_of_lt (Heap.lt_size e)) e
theorem asgT {elts : List Expr} {x1 : Nat} {pos : Pos} {t : Addr} {items : Array Value} {Q : Unit → Shared → Prop} {j : Nat} (o : Ok A j) (S : St g0 s0 g L m mu (core s)) (ht : IsTup g t items)
    (hn : (assignEach elts env).length = items.size) (hstar : (assignEach elts env).findIdx? (·.1) = none)
    (h : ∀ s', St g0 s0 g L m mu (core s') → wpAny (model Pg w) A (assignInOrder ((assignEach elts env).map (·.2)) items.toList) Q E s') :
    wpAny (model Pg w) A (assign (.Tuple elts x1 pos) env (.ref t)) Q E s :=
  assign_Tuple_tuple o.h (ht.keeps S.kp) hn hstar fun _ x => h _ (S.step (Stp.grow S.kp (ext_kp x) rfl rfl))

/-! split -/
theorem rdl_strs (g : Heap) : ∀ l : List (Str × Tok), RdL g (strValues l) (l.map fun p => .str p.1)
  | [] => .nil
  | (x, t) :: r => .cons (.str x t) (rdl_strs g r)
theorem splitP {x y : Str} {t u : Tok} (hy : (y.length == 0) = false) (hsz : x.length ≤ sizeLine) (hsz2 : (PySem.Builtin.Str.partsBetween x (PySem.Builtin.Str.occurrences x y 0 x.length (x.length + 1)) y.length).length ≤ sizeLine)
    (hq : ∀ l k, l.map (·.1) = Txt.split x y → Q (.ref s.heap.objs.size) { s with heap := s.heap.push (lob (strValues l) 0), toks := k }) :
    wpAny (model Pg w) A (call (.builtin "str.split") [.str x t, .str y u]) Q E s := by
  cases h1 : (decide (x.length < y.length) || decide (PySem.Builtin.Str.strKind x < PySem.Builtin.Str.strKind y))
  · cases hf : (PySem.Builtin.Str.occurrences x y 0 x.length (x.length + 1)).isEmpty
    · refine call_meets F.slot_str_split (typeIs_str _ _ _) F.entry_str_split (F.args_str_split_2 _ _) (meets_str_split_sep x y t u h1 hy hf hsz hsz2) ?_
      show wants Q E _ { s with toks := _, heap := s.heap.push { cls := .type "list", data := .seq (strsFrom s.toks (PySem.Builtin.Str.partsBetween x (PySem.Builtin.Str.occurrences x y 0 x.length (x.length + 1)) y.length)).toArray } }
      rw [strsFrom_eq]
      exact hq (numbered s.toks _) _ ((numbered_texts _ _).trans ((if_neg (ne_true_of_eq_false h1)).trans (if_neg (ne_true_of_eq_false hf))).symm)
    · exact call_meets F.slot_str_split (typeIs_str _ _ _) F.entry_str_split (F.args_str_split_2 _ _) (meets_str_split_not_found x y t u h1 hy hf) (hq [(x, t)] s.toks ((if_neg (ne_true_of_eq_false h1)).trans (if_pos hf)).symm)
  · exact call_meets F.slot_str_split (typeIs_str _ _ _) F.entry_str_split (F.args_str_split_2 _ _) (meets_str_split_cannot_occur x y t u h1) (hq [(x, t)] s.toks (if_pos h1).symm)
theorem splF {x y : Str} {t u : Tok} (S : St g0 s0 g L m mu (core s)) (hy : (y.length == 0) = false) (hx : x.length ≤ 2000)
    (h : ∀ a g' s', St g0 s0 g' L m mu (core s') → Kp g g' → Rd g' (.ref a) (.list ((Txt.split x y).map .str)) → Q (.ref a) s') :
    wpAny (model Pg w) A (call (.builtin "str.split") [.str x t, .str y u]) Q E s := by
  have hl : (PySem.Builtin.Str.partsBetween x (PySem.Builtin.Str.occurrences x y 0 x.length (x.length + 1)) y.length).length ≤ sizeLine := by
    rw [len_partsBetween, sizeLine_eq]
    have := StrLaws.occ_length_le x y 0 x.length (x.length + 1)
    omega
  refine splitP hy (by rw [sizeLine_eq]; omega) hl fun l k e => ?_
  have X := Stp.alloc (s := core s) (s' := ⟨s.heap.push (lob (strValues l) 0), s.gens, s.os⟩) S.kp (push_kp _ _) (fresh_size _) (Heap.get?_push_size _ rfl) rfl rfl
  refine h _ _ _ (S.step X) X.kg (Rd.list (put_self rfl) rfl rfl ?_)
  have r := rdl_strs (put g s.heap.objs.size (lob (strValues l) 0)) l
  rw [show (l.map fun p => PyData.str p.1) = (l.map (·.1)).map .str by rw [List.map_map]; rfl, e] at r
  simpa using r
end

end
section
open PySem PySem.W PyProof.Rows PySem.Calls
set_option maxHeartbeats 400000

/-! a frame's map behind a loop's turn -/
def trk (T : List (Str × Value)) (N : List Str) (j m : Str → Option Value) : Str → Option Value := fun y => match T.lookup y with
  | some v => some v
  | none => if N.contains y then j y else m y
def Off (N : List Str) (m m' : Str → Option Value) : Prop := ∀ y, N.contains y = false → m' y = m y
def Has (m : Str → Option Value) : List (Str × Value) → Prop
  | [] => True
  | (a, v) :: r => m a = some v ∧ Has m r
theorem Off.refl {N m} : Off N m m := fun _ _ => rfl
theorem Off.set {N : List Str} {m m' : Str → Option Value} {a : Str} {v : Option Value} (ha : N.contains a = true) (h : Off N m m') : Off N m (fun y => if y = a then v else m' y) := fun y hy => by
  have : y ≠ a := fun e => by rw [e, ha] at hy; cases hy
  show (if y = a then v else m' y) = m y
  rw [if_neg this]; exact h y hy
theorem Off.trk {N : List Str} {m m' j : Str → Option Value} {T : List (Str × Value)} (hT : (T.all fun p => N.contains p.1) = true) (h : Off N m m') : Off N m (trk T N j m') := fun y hy => by
  have e : T.lookup y = none := by
    cases q : T.lookup y with
    | none => rfl
    | some v =>
      exfalso
      have : ∀ (l : List (Str × Value)), (l.all fun p => N.contains p.1) = true → l.lookup y = some v → False := by
        intro l
        induction l with
        | nil => intro _ e; cases e
        | cons p r ih =>
          intro ha e
          obtain ⟨a, b⟩ := p
          simp only [List.all_cons, Bool.and_eq_true] at ha
          rw [List.lookup_cons] at e
          cases hb : y == a with
          | true => rw [eq_of_beq hb] at hy; rw [hy] at ha; cases ha.1
          | false => rw [hb] at e; exact ih ha.2 e
      exact this T hT q
  show (match T.lookup y with | some v => some v | none => if N.contains y then j y else m' y) = m y
  rw [e]
  show (if N.contains y then j y else m' y) = m y
  rw [if_neg (by rw [hy]; exact Bool.false_ne_true)]
  exact h y hy
theorem Off.trk2 {N N' : List Str} {m m' j : Str → Option Value} {T : List (Str × Value)} (hT : (T.all fun p => N.contains p.1) = true) (hN : (N'.all fun a => N.contains a) = true) (h : Off N m m') : Off N m (Mine.trk T N' j m') := fun y hy => by
  have e : T.lookup y = none := by
    cases q : T.lookup y with
    | none => rfl
    | some v =>
      exfalso
      have : ∀ (l : List (Str × Value)), (l.all fun p => N.contains p.1) = true → l.lookup y = some v → False := by
        intro l
        induction l with
        | nil => intro _ e; cases e
        | cons p r ih =>
          intro ha e
          obtain ⟨a, b⟩ := p
          simp only [List.all_cons, Bool.and_eq_true] at ha
          rw [List.lookup_cons] at e
          cases hb : y == a with
          | true => rw [eq_of_beq hb] at hy; rw [hy] at ha; cases ha.1
          | false => rw [hb] at e; exact ih ha.2 e
      exact this T hT q
  have e' : N'.contains y = false := by
    cases q : N'.contains y with
    | false => rfl
    | true =>
      have := List.all_eq_true.mp hN y (List.contains_iff_mem.mp q)
      rw [hy] at this; cases this
  show (match T.lookup y with | some v => some v | none => if N'.contains y then j y else m' y) = m y
  rw [e]
  show (if N'.contains y then j y else m' y) = m y
  rw [e']; exact h y hy
theorem trk_self {N : List Str} {m m' : Str → Option Value} : ∀ {T : List (Str × Value)}, Has m' T → Off N m m' → m' = trk T N m' m
  | [], _, ho => by
    funext y
    show m' y = if N.contains y then m' y else m y
    cases q : N.contains y with
    | true => rfl
    | false => rw [ho y q]; rfl
  | (a, v) :: r, h, ho => by
    have ih := trk_self (T := r) h.2 ho
    funext y
    show m' y = (match List.lookup y ((a, v) :: r) with | some v => some v | none => if N.contains y then m' y else m y)
    rw [List.lookup_cons]
    cases q : y == a with
    | true => rw [eq_of_beq q]; exact h.1
    | false => exact congrFun ih y

section
variable {mg mb : Str → Option Value} {fa : Nat → Addr} {dT mi : Addr} {w : World} {A : Around} {g g0 : Heap} {s : Shared} {s0 : Core} {n : Nat}
  {env : Env} {L : Addr} {m : Str → Option Value} {mu : List (Addr × Obj)}

/-- an iterator -/
structure Itr (w : World) (A : Around) (tg : Expr) (I : Value) (g : Heap) (n : Nat) (ms : Nat → List (Addr × Obj) → Prop) (P : Nat → Heap → Value → Prop) : Prop where
  item : ∀ i, i < n → ∀ (g0 : Heap) (s0 : Core) (g' : Heap) (L : Addr) (m : Str → Option Value) (mu ps : List (Addr × Obj)) (s : Shared) (K : Value → Shared → Prop), Kp g g' → ms i ps → St g0 s0 g' L m (ps ++ mu) (core s) →
    (∀ v g'' ps' s', Kp g' g'' → P i g'' v → ms (i + 1) ps' → St g0 s0 g'' L m (ps' ++ mu) (core s') → K v s') →
    wpAny (model Pg w) A (pyNext I) (fun r s₁ => match r with | none => False | some v => wpAny (model Pg w) A (letOwnedTupleGo tg I v) (fun _ s' => K v s') Nv s₁) Nv s
  done : ∀ (g0 : Heap) (s0 : Core) (g' : Heap) (L : Addr) (m : Str → Option Value) (mu ps : List (Addr × Obj)) (s : Shared) (K : Shared → Prop), Kp g g' → ms n ps → St g0 s0 g' L m (ps ++ mu) (core s) →
    (∀ s', St g0 s0 g' L m mu (core s') → K s') → wpAny (model Pg w) A (pyNext I) (fun r s₁ => match r with | none => K s₁ | some _ => False) Nv s
  self : ∀ i (g0 : Heap) (s0 : Core) (g' : Heap) (L : Addr) (m : Str → Option Value) (mu ps : List (Addr × Obj)) (s : Shared) (Q : Value → Shared → Prop), Kp g g' → ms i ps → St g0 s0 g' L m (ps ++ mu) (core s) → Q I s → wpAny (model Pg w) A (pyIter I) Q Nv s

def TurnEnd (g0 : Heap) (s0 : Core) (g' : Heap) (L : Addr) (N : List Str) (m : Str → Option Value) (J : Heap → List (Str × Value) → List (Addr × Obj) → Prop) (ps : List (Addr × Obj)) (Q : Flow → Shared → Prop) (f : Flow) (s'' : Shared) : Prop :=
  match f with
  | .next | .cont => ∃ g'' m'' T'' mu'', Kp g' g'' ∧ J g'' T'' mu'' ∧ Has m'' T'' ∧ Off N m m'' ∧ St g0 s0 g'' L m'' (ps ++ mu'') (core s'')
  | .brk => Q .next s''
  | .ret v => Q (.ret v) s''

theorem for_from {tg : Expr} {I : Value} {ms : Nat → List (Addr × Obj) → Prop} {P : Nat → Heap → Value → Prop} {ps : List (Addr × Obj)} {body : List Stmt} {Q : Flow → Shared → Prop}
    {i0 : Nat} (W : Itr w A tg I g n ms P) (hi0 : i0 ≤ n) (hms : ms i0 ps) (S : St g0 s0 g L m (ps ++ mu) (core s)) (N : List Str)
    (J : Nat → Heap → List (Str × Value) → List (Addr × Obj) → Prop) (mono : ∀ i g₁ g₂ T mu, Kp g₁ g₂ → J i g₁ T mu → J i g₂ T mu) (T0 : List (Str × Value)) (hT0 : Has m T0) (h0 : J i0 g T0 mu)
    (turn : ∀ i v g' T mu' ps' jk s', i < n → Kp g g' → P i g' v → J i g' T mu' → St g0 s0 g' L (trk T N jk m) (ps' ++ mu') (core s') →
      wpAny (model Pg w) A (assign tg env v) (fun _ s1 => wpAny (model Pg w) A (execs body env) (TurnEnd g0 s0 g' L N m (J (i + 1)) ps' Q) Nv s1) Nv s')
    (fin : ∀ g' T mu' jk s', Kp g g' → J n g' T mu' → St g0 s0 g' L (trk T N jk m) mu' (core s') → Q .next s') :
    codeAny (model Pg w) A (.forLoop tg I body [] env) (fun r s' => match r with | .ok f => Q f s' | .error e => cameBackBy (model Pg w) A env Nv e s') s := by
  refine codeAny_forLoop_any (fun k s' => ∃ i g' T mu' ps' jk, i ≤ n ∧ k = n - i ∧ Kp g g' ∧ ms i ps' ∧ J i g' T mu' ∧ St g0 s0 g' L (trk T N jk m) (ps' ++ mu') (core s')) ?_ (n - i0)
    ⟨i0, g, T0, mu, ps, m, hi0, rfl, Kp.refl _, hms, h0, trk_self hT0 Off.refl ▸ S⟩
  rintro k s' ⟨i, g', T, mu', ps', jk, hi, rfl, kg, hm, hJ, S'⟩
  refine wpAny_passesOwn (E := Nv) PassesOwn.never ?_
  rcases Nat.lt_or_ge i n with hlt | hge
  · refine wpAny_mono (W.item i hlt _ _ _ _ _ _ _ _ (fun v s'' => ∃ g'' ps'', Kp g' g'' ∧ P i g'' v ∧ ms (i + 1) ps'' ∧ St g0 s0 g'' L (trk T N jk m) (ps'' ++ mu') (core s'')) kg hm S'
      fun v g'' ps'' s'' k2 hP hm' S'' => ⟨g'', ps'', k2, hP, hm', S''⟩) (fun r s₁ h => ?_) fun _ _ f => f.elim
    cases r with
    | none => exact h.elim
    | some v =>
      refine wpAny_passesOwn (E := Nv) PassesOwn.never (wpAny_mono h (fun _ s₂ h₂ => ?_) fun _ _ f => f.elim)
      obtain ⟨g'', ps'', k2, hP, hm', S''⟩ := h₂
      refine wpAny_passesOwn (E := Nv) PassesOwn.never (wpAny_mono (turn i v g'' T mu' ps'' jk s₂ hlt (kg.trans k2) hP (mono _ _ _ _ _ k2 hJ) S'') (fun _ s₃ h₃ => ?_) fun _ _ f => f.elim)
      refine wpAny_passesOwn (E := Nv) PassesOwn.never (wpAny_mono h₃ (fun f s₄ h₄ => ?_) fun _ _ f => f.elim)
      cases f with
      | next =>
        obtain ⟨g3, m3, T3, mu3, k3, hJ3, hT3, ho3, S3⟩ := h₄
        exact ⟨n - (i + 1), by omega, i + 1, g3, T3, mu3, ps'', m3, hlt, rfl, (kg.trans k2).trans k3, hm', hJ3, trk_self hT3 ho3 ▸ S3⟩
      | cont =>
        obtain ⟨g3, m3, T3, mu3, k3, hJ3, hT3, ho3, S3⟩ := h₄
        exact ⟨n - (i + 1), by omega, i + 1, g3, T3, mu3, ps'', m3, hlt, rfl, (kg.trans k2).trans k3, hm', hJ3, trk_self hT3 ho3 ▸ S3⟩
      | brk => exact h₄
      | ret v => exact h₄
  · obtain rfl : i = n := Nat.le_antisymm hi hge
    refine wpAny_mono (W.done _ _ _ _ _ _ _ _ _ kg hm S' fun s'' S'' => fin g' T mu' jk s'' kg hJ S'') (fun r s₁ h => ?_) fun _ _ f => f.elim
    cases r with
    | none => exact wpAny_execs_nil h
    | some v => exact h.elim

theorem for_itr {tg : Expr} {I : Value} {ms : Nat → List (Addr × Obj) → Prop} {P : Nat → Heap → Value → Prop} {ps : List (Addr × Obj)} {body : List Stmt} {Q : Flow → Shared → Prop}
    (W : Itr w A tg I g n ms P) (hms : ms 0 ps) (S : St g0 s0 g L m (ps ++ mu) (core s)) (N : List Str)
    (J : Nat → Heap → List (Str × Value) → List (Addr × Obj) → Prop) (mono : ∀ i g₁ g₂ T mu, Kp g₁ g₂ → J i g₁ T mu → J i g₂ T mu) (T0 : List (Str × Value)) (hT0 : Has m T0) (h0 : J 0 g T0 mu)
    (turn : ∀ i v g' T mu' ps' jk s', i < n → Kp g g' → P i g' v → J i g' T mu' → St g0 s0 g' L (trk T N jk m) (ps' ++ mu') (core s') →
      wpAny (model Pg w) A (assign tg env v) (fun _ s1 => wpAny (model Pg w) A (execs body env) (TurnEnd g0 s0 g' L N m (J (i + 1)) ps' Q) Nv s1) Nv s')
    (fin : ∀ g' T mu' jk s', Kp g g' → J n g' T mu' → St g0 s0 g' L (trk T N jk m) mu' (core s') → Q .next s') :
    codeAny (model Pg w) A (.forLoop tg I body [] env) (fun r s' => match r with | .ok f => Q f s' | .error e => cameBackBy (model Pg w) A env Nv e s') s :=
  for_from W (Nat.zero_le _) hms S N J mono T0 hT0 h0 turn fin
/-- an own object lost -/
theorem St.lose {pre post : List (Addr × Obj)} {a : Addr} {o : Obj} {s : Core} (S : St g0 s0 g L m (pre ++ (a, o) :: post) s) {h' : Heap} (hs : ∀ b x, b ≠ a → s.heap.get? b = some x → h'.get? b = some x) : St g0 s0 g L m (pre ++ post) ⟨h', s.gens, s.os⟩ := by
  have D := S.has (a, o) (by simp)
  have nd : ∀ p ∈ pre ++ post, p.1 ≠ a := by
    have := S.nodup
    simp only [List.map_append, List.map_cons] at this
    have n1 := List.nodup_append.mp this
    intro p hp q
    rcases List.mem_append.mp hp with hp | hp
    · exact n1.2.2 p.1 (List.mem_map_of_mem hp) a (.head _) q
    · exact (List.nodup_cons.mp n1.2.1).1 (q ▸ List.mem_map_of_mem hp)
  have sub : (pre ++ post).Sublist (pre ++ (a, o) :: post) := List.Sublist.append (List.Sublist.refl _) (List.sublist_cons_self _ _)
  refine ⟨⟨fun b x e => hs b x (fun q => by rw [q, D.2.2.2] at e; cases e) (S.base.kh b x e), S.base.kg, fun b x e => hs b x (fun q => by rw [q, D.2.2.1] at e; cases e) (S.base.sub b x e), S.base.new, S.base.gens, S.base.os⟩, ?_, S.hidL, S.newL, fun p hp => ?_, S.nodup.sublist (sub.map _)⟩
  · obtain ⟨oL, es, ep, hL, r⟩ := S.ns
    exact ⟨oL, es, ep, hs L oL (Ne.symm D.2.1) hL, r⟩
  · have P := S.has p (sub.subset hp)
    exact ⟨hs _ _ (nd p hp) P.1, P.2⟩

theorem owned_name {x : Str} {px : Pos} {I v : Value} {Q : Unit → Shared → Prop} (h : Q () s) : wpAny (model Pg w) A (letOwnedTupleGo (.Name x px) I v) Q Nv s := wpAny_pure h

theorem Itr.ofWalks {tg : Expr} {I : Addr} {fp : List Addr} {P : Nat → Value → Prop} {Sx : Nat → Heap → Prop} (W : Walks Pg w A I fp [I] n P Sx)
    (hfp : ∀ b ∈ fp, b = I ∨ ∃ o, g.get? b = some o) (live : ∀ i h, Sx i h → ∃ o, h.get? I = some o)
    (go : ∀ i (s : Shared) v (Q : Unit → Shared → Prop), Sx i s.heap → P (i - 1) v → Q () s → wpAny (model Pg w) A (letOwnedTupleGo tg (.ref I) v) Q Nv s) :
    Itr w A tg (.ref I) g n (fun i ps => ∃ o, ps = [(I, o)] ∧ ∀ h, h.get? I = some o → Kp g h → Sx i h) (fun i _ v => P i v) where
  item := fun i hi g0 s0 g' L m mu ps s K kg ⟨o, e, hx⟩ S hK => by
    subst e
    have D := S.has (I, o) (by simp)
    have st := hx s.heap D.1 (kg.trans S.kp)
    refine W.item i s _ _ hi st fun v h' tk hP hst' hk => ?_
    have hk' : ∀ b x, b ≠ I → s.heap.get? b = some x → h'.get? b = some x := fun b x hb e => hk b x (by simpa using hb) e
    obtain ⟨o', ho'⟩ := live _ _ hst'
    have S' := St.upd (pre := []) S hk' ho'
    refine go (i + 1) _ v _ hst' (by simpa using hP) (hK v g' [(I, o')] _ (Kp.refl _) hP ⟨o', rfl, fun h e kh => ?_⟩ S')
    refine W.frame _ _ _ hst' fun b hb x e1 => ?_
    rcases hfp b hb with rfl | ⟨y, hy⟩
    · rw [ho'] at e1; cases e1; exact e
    · have : h'.get? b = some y := hk' b y (fun q => by rw [← q] at D; rw [kg _ _ hy] at D; cases D.2.2.1) (S.kp _ _ (kg _ _ hy))
      rw [this] at e1; cases e1; exact kh _ _ hy
  done := fun g0 s0 g' L m mu ps s K kg ⟨o, e, hx⟩ S hK => by
    subst e
    have D := S.has (I, o) (by simp)
    refine W.done s _ _ (hx s.heap D.1 (kg.trans S.kp)) fun h' tk hk => hK _ ?_
    exact St.lose (pre := []) S fun b x hb e => hk b x (by simpa using hb) e
  self := fun i g0 s0 g' L m mu ps s Q kg ⟨o, e, hx⟩ S hQ => by
    subst e
    exact W.self i s _ _ (hx s.heap (S.has (I, o) (by simp)).1 (kg.trans S.kp)) hQ

/-! lists, tuples, ranges -/
theorem owned_list {tg : Expr} {I l : Addr} {i : Nat} {v : Value} {Q : Unit → Shared → Prop} (hit : s.heap.IsListIter I l i) (h : Q () s) : wpAny (model Pg w) A (letOwnedTupleGo tg (.ref I) v) Q Nv s := by
  cases tg with
  | Tuple elts k pos => cases v <;> first | exact wpAny_letOwnedTupleGo_listiter hit h | exact wpAny_pure h
  | List elts pos =>
    cases v with
    | ref T => exact wpAny_letOwnedTupleGo_listiter (elts := elts) (x1 := 0) (pos := pos) hit h
    | _ => exact wpAny_pure h
  | _ => exact wpAny_pure h
def LIt (l : Addr) (i : Nat) (o : Obj) : Prop := o.cls = .type "list_iterator" ∧ o.data = .fields #[.ref l, .int i 0]
theorem itr_list {I l : Addr} {o : Obj} {i : Nat} {vs : List Value} {pre post : List (Addr × Obj)} (hl : g.IsList l vs.toArray) (S : St g0 s0 g L m (pre ++ (I, o) :: post) (core s)) (hit : LIt l i o) (w : World) :
    ∃ ms, (∀ A tg, A.handled = none → Itr w A tg (.ref I) g vs.length ms (fun i _ v => vs[i]? = some v)) ∧ ms i [(I, o)] := by
  have D := S.has (I, o) (by simp)
  obtain ⟨ol, hol, hc, nl, hdl⟩ := hl
  have hne : l ≠ I := fun e => by rw [e, D.2.2.1] at hol; cases hol
  refine ⟨fun i ps => ∃ o, ps = [(I, o)] ∧ ∀ h, h.get? I = some o → Kp g h → h.IsListIter I l i ∧ h.IsList l vs.toArray, fun A tg hh => ?_, o, rfl, fun h e kh => ?_⟩
  · have IT := Itr.ofWalks (g := g) (tg := tg) (Walks.list (prog := Pg) (w := w) (A := A) hh I l hne vs.toArray) (fun b hb => by
      rcases List.mem_cons.mp hb with e | hb
      · exact .inl e
      · exact .inr ⟨ol, by rw [List.mem_singleton.mp hb]; exact hol⟩) (fun i h x => let ⟨o, ho, _⟩ := x.1; ⟨o, ho⟩) (fun i s v Q x _ hQ => owned_list x.1 hQ)
    rw [List.size_toArray] at IT
    simp only [List.getElem?_toArray] at IT
    exact IT
  · exact ⟨⟨_, e, hit.1, hit.2⟩, ⟨ol, kh _ _ hol, hc, nl, hdl⟩⟩
theorem pyIter_raw {l : Addr} {vs : List Value} {Q : Value → Shared → Prop} {E : Value → Shared → Prop} (hl : g.IsList l vs.toArray) (S : St g0 s0 g L m mu (core s))
    (h : ∀ I o s', LIt l 0 o → St g0 s0 g L m ((I, o) :: mu) (core s') → Q (.ref I) s') : wpAny (model Pg w) A (pyIter (.ref l)) Q E s := by
  obtain ⟨ol, hol, hc, nl, hdl⟩ := hl
  refine wpAny_pyIter_list ⟨ol, S.kp _ _ hol, hc, nl, hdl⟩ ?_
  exact h _ _ _ ⟨rfl, rfl⟩ (S.own (push_kp _ _) (fresh_size _) (Heap.get?_push_size _ rfl) rfl rfl)
theorem pyIter_list {l : Addr} {vs : List Value} {Q : Value → Shared → Prop} (hl : g.IsList l vs.toArray) (S : St g0 s0 g L m mu (core s)) (hh : A.handled = none)
    (h : ∀ I ms ps s', (∀ tg, Itr w A tg I g vs.length ms (fun i _ v => vs[i]? = some v)) → ms 0 ps → St g0 s0 g L m (ps ++ mu) (core s') → Q I s') : wpAny (model Pg w) A (pyIter (.ref l)) Q Nv s :=
  pyIter_raw hl S fun I o s' hit S' => by
    obtain ⟨ms, W, hm⟩ := itr_list (pre := []) hl S' hit w
    exact h (.ref I) ms [(I, o)] s' (fun tg => W A tg hh) hm S'
theorem iterB {l : Addr} {vs : List Value} {Q : Value → Shared → Prop} {E : Value → Shared → Prop} (hl : g.IsList l vs.toArray) (S : St g0 s0 g L m mu (core s))
    (h : ∀ I o s', LIt l 0 o → St g0 s0 g L m ((I, o) :: mu) (core s') → Q (.ref I) s') : wpAny (model Pg w) A (call (.builtin "iter") [.ref l]) Q E s := by
  refine call_function_entry (by decide +kernel) (by decide +kernel) kdk_entry_iter (kdk_args_iter _) ?_
  unfold Builtin.«iter»
  refine wpAny_bind (m := someArgs "iter" 1 2 _) (wpAny_of_eq (a := [Value.ref l]) (by first | rfl | kernel_rfl!) ?_)
  show wpAny _ _ (pyIter (.ref l) >>= _) _ _ _
  exact wpAny_bind (pyIter_raw hl S fun I o s' hit S' => wpAny_pure ⟨_, rfl, h I o s' hit S'⟩)
theorem nextB {I l : Addr} {o : Obj} {i : Nat} {vs : List Value} {v : Value} {Q : Value → Shared → Prop} {E : Value → Shared → Prop} (hl : g.IsList l vs.toArray) (S : St g0 s0 g L m ((I, o) :: mu) (core s)) (hit : LIt l i o) (hv : vs[i]? = some v)
    (h : ∀ o' s', LIt l (i + 1) o' → St g0 s0 g L m ((I, o') :: mu) (core s') → Q v s') : wpAny (model Pg w) A (call (.builtin "next") [.ref I]) Q E s := by
  have D := S.has (I, o) (.head _)
  have hi : s.heap.IsListIter I l i := ⟨o, D.1, hit.1, hit.2⟩
  obtain ⟨ol, hol, hc, nl, hdl⟩ := hl
  have hol' := S.kp _ _ hol
  refine call_function_entry (by decide +kernel) (by decide +kernel) kdk_entry_next (kdk_args_next _) ?_
  unfold Builtin.«next»
  refine wpAny_bind (m := someArgs "next" 1 2 _) (wpAny_of_eq (a := [Value.ref I]) (by first | rfl | kernel_rfl!) ?_)
  dsimp only
  refine wpAny_bind (wpAny_specialOf (name := Str.ofString "__next__") hi.typeIs slot_listiter_next.lookup ?_)
  refine wpAny_ite_split (fun hab => absurd hab (by decide)) (fun _ => ?_)
  refine wpAny_bind (wpAny_callSpecial?_slot (name := Str.ofString "__next__") hi.typeIs slot_listiter_next (wpAny_call_entry slot_listiter_next hi.typeIs entry_listiter_next ?_ (args_listiter_next _)))
  show wpAny _ _ (field (.ref I) 0 >>= _) _ _ s
  refine wpAny_bind (wpAny_field D.1 hit.2 (x := .ref l) rfl ?_)
  show wpAny _ _ (if (Value.ref l == Value.none) = true then _ else _) _ _ s
  rw [if_neg (show ¬ ((Value.ref l == Value.none) = true) from Bool.false_ne_true)]
  show wpAny _ _ (field (.ref I) 1 >>= _) _ _ s
  refine wpAny_bind (wpAny_field D.1 hit.2 (x := .int i 0) rfl ?_)
  show wpAny _ _ (seqItems? (.ref l) >>= _) _ _ s
  refine wpAny_bind (wpAny_seqItems hol' hdl ?_)
  simp only [Int.toNat_natCast, List.getElem?_toArray, hv]
  refine wpAny_bind (wpAny_setField D.1 hit.2 (by simp) (wpAny_pure ⟨v, rfl, wpAny_pure ⟨_, rfl, ?_⟩⟩))
  have ho' := Heap.get?_update_self (h := s.heap) (a := I) (Obj.mapFields (·.setIfInBounds 1 (rawInt ((i : Int) + 1)))) D.1 (Obj.isFreed_of_fields (Obj.data_mapFields hit.2 _))
  refine h (Obj.mapFields (·.setIfInBounds 1 (rawInt ((i : Int) + 1))) o) _ ⟨(Obj.cls_mapFields ..).trans hit.1, by rw [Obj.data_mapFields hit.2]; simp [rawInt]⟩ ?_
  exact St.upd (pre := []) S (fun b x hb e => (Heap.get?_update_other _ _ (Ne.symm hb)).trans e) ho'
theorem pyIter_tuple {l : Addr} {vs : List Value} {Q : Value → Shared → Prop} (hl : IsTup g l vs.toArray) (S : St g0 s0 g L m mu (core s)) (hh : A.handled = none)
    (h : ∀ I ms ps s', (∀ x px, Itr w A (.Name x px) I g vs.length ms (fun i _ v => vs[i]? = some v)) → ms 0 ps → St g0 s0 g L m (ps ++ mu) (core s') → Q I s') : wpAny (model Pg w) A (pyIter (.ref l)) Q Nv s := by
  obtain ⟨ol, hol, hc, nl, hdl⟩ := hl
  have hls : s.heap.IsTuple l vs.toArray := ⟨ol, S.kp _ _ hol, hc, nl, hdl⟩
  refine wpAny_pyIter_tuple hls ?_
  have hne : l ≠ s.heap.objs.size := Nat.ne_of_lt (Heap.lt_size (S.kp _ _ hol))
  have W := Walks.tuple (prog := Pg) (w := w) (A := A) hh s.heap.objs.size l hne vs.toArray
  have IT := fun x px => Itr.ofWalks (g := g) (tg := .Name x px) W (fun b hb => by
      rcases List.mem_cons.mp hb with e | hb
      · exact .inl e
      · exact .inr ⟨ol, by rw [List.mem_singleton.mp hb]; exact hol⟩) (fun i h x => let ⟨o, ho, _⟩ := x.1; ⟨o, ho⟩) (fun i s v Q x _ hQ => owned_name hQ)
  rw [List.size_toArray] at IT
  simp only [List.getElem?_toArray] at IT
  refine h _ _ [(s.heap.objs.size, { cls := .type "tuple_iterator", data := .fields #[.ref l, .int 0 0] })] _ IT ⟨_, rfl, fun h e kh => ⟨⟨_, e, rfl, rfl⟩, ⟨ol, kh _ _ hol, hc, nl, hdl⟩⟩⟩ ?_
  exact S.own (push_kp _ _) (fresh_size _) (Heap.get?_push_size _ rfl) rfl rfl
end

end
section
open PySem PySem.W PyProof.Rows PySem.Calls
set_option maxHeartbeats 400000
section
variable {mg mb : Str → Option Value} {fa : Nat → Addr} {dT mi : Addr} {w : World} {A : Around} {g g0 : Heap} {s : Shared} {s0 : Core} {Q : Value → Shared → Prop} {E : Value → Shared → Prop} {n : Nat}
  {env : Env} {L : Addr} {m : Str → Option Value} {mu pre post : List (Addr × Obj)} {D : Addr} {vals : List Value} {c : Nat}

theorem own_plain (S : St g0 s0 g L m (pre ++ (D, lob vals c) :: post) (core s)) : s.heap.PlainList D vals.toArray := ⟨c, (S.has (D, lob vals c) (by simp)).1⟩
theorem own_isList (S : St g0 s0 g L m (pre ++ (D, lob vals c) :: post) (core s)) : s.heap.IsList D vals.toArray := ⟨_, (S.has (D, lob vals c) (by simp)).1, rfl, _, rfl⟩
theorem gmO {name : Str} {id : String} {pl : Sem Bool} {Q : Value × List Value → Shared → Prop} (S : St g0 s0 g L m (pre ++ (D, lob vals c) :: post) (core s)) (slot : Slot "list" name id)
    (hty : typeOf (.builtin id) = pure (.type "method_descriptor")) (h : Q (.builtin id, [.ref D]) s) : wpAny (model Pg w) A (getMethod (.ref D) name pl) Q E s :=
  getMethod_builtin (own_isList S).typeIs F.plainAttrs_list slot hty (fun a e => by cases e; exact ⟨_, (S.has (D, lob vals c) (by simp)).1, rfl⟩) h
theorem appO {v : Value} (S : St g0 s0 g L m (pre ++ (D, lob vals c) :: post) (core s)) (hz : vals.length ≤ 100000)
    (h : ∀ c' s', St g0 s0 g L m (pre ++ (D, lob (vals ++ [v]) c') :: post) (core s') → Q .none s') : wpAny (model Pg w) A (call (.builtin "list.append") [.ref D, v]) Q E s := by
  refine wpAny_list_append_plain (own_plain S) (fun h' ⟨c', ho⟩ hs => h c' _ ?_) (by rw [List.size_toArray, sizeLine_eq]; omega)
  exact S.upd (fun b x hb e => (hs.2 b hb).trans e) (by rw [ho]; simp [lob])
theorem popO {v : Value} (S : St g0 s0 g L m (pre ++ (D, lob (vals ++ [v]) c) :: post) (core s)) (hz : vals.length ≤ 100000)
    (h : ∀ c' s', St g0 s0 g L m (pre ++ (D, lob vals c') :: post) (core s') → Q v s') : wpAny (model Pg w) A (call (.builtin "list.pop") [.ref D]) Q E s := by
  have ho := (S.has (D, lob (vals ++ [v]) c) (by simp)).1
  refine call_meets F.slot_list_pop (own_isList S).typeIs F.entry_list_pop (F.args_list_pop_1 _) (MeetsSeq.list_pop_last D (vals ++ [v]).toArray c v (by simp) (by simp [sizeLine_eq]; omega)) ⟨ho, ?_⟩
  refine h (c + 1) _ (S.upd (fun b x hb e => (Heap.get?_update_other _ _ (Ne.symm hb)).trans e) ?_)
  rw [Heap.get?_update_self _ ho (by simp [Obj.mapSeq, Obj.isFreed])]
  have e : ((vals ++ [v]).toArray.eraseIdxIfInBounds ((vals ++ [v]).toArray.size - 1)) = vals.toArray := by
    apply Array.ext'
    simp [Array.eraseIdxIfInBounds, List.eraseIdx_append_of_length_le]
  simp only [Obj.mapSeq, e]
  simp
theorem trO {Q : Bool → Shared → Prop} (S : St g0 s0 g L m (pre ++ (D, lob vals c) :: post) (core s)) (hz : vals.length ≤ 100000)
    (h : ∀ s', St g0 s0 g L m (pre ++ (D, lob vals c) :: post) (core s') → Q (!vals.isEmpty) s') : wpAny (model Pg w) A (truthy (.ref D)) Q E s := by
  refine wpAny_truthy_list (own_isList S) (by rw [List.size_toArray]; omega) ?_
  rw [show vals.toArray.isEmpty = vals.isEmpty by simp]
  exact h _ S
theorem itO1 {value slice : Expr} {v : Value} {u : Tok} (S : St g0 s0 g L m (pre ++ (D, lob (vals ++ [v]) c) :: post) (core s)) (h : Q v s)
    (hs : subscripted slice false (.ref D) (.int (-1) u) = operate [.ref D, .int (-1) u] (getItem (.ref D) (.int (-1) u)) := by with_unfolding_all rfl) :
    wpAny (model Pg w) A (subscriptTail value slice (.ref D) (.int (-1) u)) Q E s :=
  tail_any (own_isList S).typeIs slot_list_getitem.lookup (wpAny_getItem_list_neg (own_isList S) (by decide) (by simp; omega) (by decide) (by
    simp only [List.size_toArray, List.length_append, List.length_singleton, List.getElem?_toArray]
    rw [show ((-1 : Int) + ((vals.length + 1 : Nat) : Int)).toNat = vals.length by omega]
    simp) h) hs
theorem trS {x : Str} {t : Tok} {Q : Bool → Shared → Prop} (hz : x.length ≤ 100000) (h : Q ((x.length : Int) != 0) { s with toks := s.toks + 1 + 1 }) : wpAny (model Pg w) A (truthy (.str x t)) Q E s :=
  P.truthy_str (by omega) h
theorem trO0 {Q : Bool → Shared → Prop} (S : St g0 s0 g L m (pre ++ (D, lob [] c) :: post) (core s))
    (h : ∀ s', St g0 s0 g L m (pre ++ (D, lob [] c) :: post) (core s') → Q false s') : wpAny (model Pg w) A (truthy (.ref D)) Q E s := trO S (by decide) fun s' S' => h s' S'
theorem trO1 {Q : Bool → Shared → Prop} {v : Value} (S : St g0 s0 g L m (pre ++ (D, lob (vals ++ [v]) c) :: post) (core s)) (hz : (vals ++ [v]).length ≤ 100000)
    (h : ∀ s', St g0 s0 g L m (pre ++ (D, lob (vals ++ [v]) c) :: post) (core s') → Q true s') : wpAny (model Pg w) A (truthy (.ref D)) Q E s := trO S hz fun s' S' => by
  rw [show (!(vals ++ [v]).isEmpty) = true by simp]; exact h s' S'
/-- the texts of a list -/
theorem strsAre_of {g : Heap} : ∀ {ys : List Str} {vs : List Value}, RdL g vs (ys.map .str) → StrsAre vs ys
  | [], vs, r => by rw [r.nil_inv]; exact .nil
  | y :: ys, vs, r => by
    obtain ⟨v, us, rfl, h, t⟩ := r.cons_inv
    obtain ⟨t', rfl⟩ := h.str_inv
    exact .cons _ _ (strsAre_of t)
theorem joinP {x : Str} {t : Tok} {ys : List Str} (S : St g0 s0 g L m mu (core s)) (hl : s.heap.IsList D vals.toArray) (r : RdL g vals (ys.map .str)) (hx : x.length ≤ 16) (hw : (ys.map (·.length)).sum + ys.length ≤ 100000)
    (h : ∀ t' s', St g0 s0 g L m mu (core s') → Q (.str (Txt.join x ys) t') s') : wpAny (model Pg w) A (call (.builtin "str.join") [.str x t, .ref D]) Q E s :=
  join_listW hl (by simpa using strsAre_of r) hx (by omega) fun t' k => h t' _ S
theorem jlen {x : Str} (hx : x.length ≤ 1) (ys : List Str) : (Txt.join x ys).length ≤ (ys.map (·.length)).sum + ys.length := by
  have e : (Txt.join x ys).length = (ys.map (·.length)).sum + (ys.length - 1) * x.length := PySem.size_glued x ys
  rw [e]
  have : (ys.length - 1) * x.length ≤ (ys.length - 1) * 1 := Nat.mul_le_mul_left _ hx
  omega
theorem sum_le {B : Nat} : ∀ {ys : List Str}, (∀ y ∈ ys, y.length ≤ B) → (ys.map (·.length)).sum ≤ ys.length * B
  | [], _ => by simp
  | y :: ys, h => by
    have h1 := h y (.head _)
    have h2 := sum_le (ys := ys) fun z hz => h z (.tail _ hz)
    simp only [List.map_cons, List.sum_cons, List.length_cons, Nat.add_mul]
    omega
theorem addS {x y : Str} {t u : Tok} (S : St g0 s0 g L m mu (core s)) (hz : x.length + y.length ≤ 1000000) (h : ∀ t' s', St g0 s0 g L m mu (core s') → Q (.str (x ++ y) t') s') :
    wpAny (model Pg w) A (binaryOp .Add (.str x t) (.str y u)) Q E s := SB.add (fun t' k => h t' _ S) (by rw [sizeLine_eq]; omega)
end

end
section
open PySem PySem.W PyProof.Rows PySem.Calls
set_option maxHeartbeats 400000

/-! comprehensions: two frames, the outer one kept as an own object -/
def NsO (o : Obj) (m : Str → Option Value) : Prop := ∃ es ep, o.data = .dict es ep ∧ StrKeys es ∧ ∀ name, nsFind es name = m name
theorem NsO.ns {h : Heap} {a : Addr} {o : Obj} {m : Str → Option Value} (x : NsO o m) (e : h.get? a = some o) : h.Ns a m := let ⟨es, ep, r⟩ := x; ⟨o, es, ep, e, r⟩
theorem NsO.of {h : Heap} {a : Addr} {m : Str → Option Value} (x : h.Ns a m) : ∃ o, h.get? a = some o ∧ NsO o m := let ⟨o, es, ep, e, r⟩ := x; ⟨o, e, es, ep, r⟩

section
variable {mg mb : Str → Option Value} {fa : Nat → Addr} {dT mi : Addr} {w : World} {A : Around} {g g0 : Heap} {s : Shared} {s0 : Core} {Q : Value → Shared → Prop} {E : Value → Shared → Prop} {n : Nat}
  {env : Env} {L C : Addr} {m mc : Str → Option Value} {mu mu' : List (Addr × Obj)}
theorem St.perm {s : Core} (S : St g0 s0 g L m mu s) (h : mu.Perm mu') : St g0 s0 g L m mu' s :=
  { S with has := fun p hp => S.has p (h.mem_iff.mpr hp), nodup := (h.map _).nodup_iff.mp S.nodup }
theorem St.swap {s : Core} {oC : Obj} (S : St g0 s0 g L m ((C, oC) :: mu) s) (hc : NsO oC mc) : ∃ oL, NsO oL m ∧ St g0 s0 g C mc ((L, oL) :: mu) s := by
  obtain ⟨oL, hoL, hn⟩ := NsO.of S.ns
  have D := S.has (C, oC) (.head _)
  have nd : C ∉ mu.map (·.1) ∧ (mu.map (·.1)).Nodup := List.nodup_cons.mp S.nodup
  refine ⟨oL, hn, S.base, hc.ns D.1, D.2.2.1, D.2.2.2, fun p hp => ?_, ?_⟩
  · rcases List.mem_cons.mp hp with rfl | hp
    · exact ⟨hoL, Ne.symm D.2.1, S.hidL, S.newL⟩
    · have P := S.has p (.tail _ hp)
      exact ⟨P.1, fun q => nd.1 (q ▸ List.mem_map_of_mem hp), P.2.2⟩
  · rw [List.map_cons, List.nodup_cons]
    refine ⟨fun q => ?_, nd.2⟩
    obtain ⟨p, hp, e⟩ := List.mem_map.mp q
    exact (S.has p (.tail _ hp)).2.1 e

/-! cells -/
theorem St.isCell {c : Addr} {o : Obj} {v : Option Value} {s : Core} (S : St g0 s0 g L m mu s) (hm : (c, o) ∈ mu) (hd : o.data = .cell v) : s.heap.IsCell c v := ⟨o, (S.has _ hm).1, hd⟩
theorem ldC {x : Str} {pos : Pos} {c : Addr} {o : Obj} {v : Value} (S : St g0 s0 g L m mu (core s)) (hl : env.kindOf x = some .cell) (hc : env.cells.lookup x = some c) (hm : (c, o) ∈ mu) (hd : o.data = .cell (some v)) (h : Q v s)
    (hk : env.scope.kind = .function := by rfl) (hb : (x == ("__debug__" : Str)) = false := by rfl) :
    wpAny (model Pg w) A (eval (.Name x pos) env) Q E s := wpAny_Name (wpAny_loadName_cell hk hl hc (S.isCell hm hd) h) hb
theorem ldnC {x : Str} {c : Addr} {o : Obj} {v : Value} (S : St g0 s0 g L m mu (core s)) (hl : env.kindOf x = some .cell) (hc : env.cells.lookup x = some c) (hm : (c, o) ∈ mu) (hd : o.data = .cell (some v)) (h : Q v s)
    (hk : env.scope.kind = .function := by rfl) :
    wpAny (model Pg w) A (loadName env x) Q E s := wpAny_loadName_cell hk hl hc (S.isCell hm hd) h
theorem stC {x : Str} {c : Addr} {o : Obj} {v₀ : Option Value} {v : Value} {pre post : List (Addr × Obj)} {Q : Unit → Shared → Prop} (S : St g0 s0 g L m (pre ++ (c, o) :: post) (core s)) (hl : env.kindOf x = some .cell) (hc : env.cells.lookup x = some c) (hd : o.data = .cell v₀)
    (h : ∀ o' s', o'.data = .cell (some v) → St g0 s0 g L m (pre ++ (c, o') :: post) (core s') → Q () s')
    (hk : env.scope.kind = .function := by rfl) :
    wpAny (model Pg w) A (storeName env x v) Q E s := by
  unfold storeName
  simp only [hl, hk]
  have ho := (S.has (c, o) (by simp)).1
  refine wpAny_bind (wpAny_cellOf hc ?_)
  unfold cellSet
  refine wpAny_bind (wpAny_load ho ?_)
  rw [hd]
  refine wpAny_update ho (h { o with data := .cell (some v) } _ rfl ?_)
  exact S.upd (fun b x hb e => (Heap.get?_update_other _ _ (Ne.symm hb)).trans e) (Heap.get?_update_self _ ho rfl)

/-! the loop of a list comprehension -/
def Tst (w : World) (A : Around) (ifs : List Expr) (env : Env) (Q : Bool → Shared → Prop) (s : Shared) : Prop := match ifs with
  | [] => Q true s
  | [c] => wpAny (model Pg w) A (isTrue c env (eval c env)) Q Nv s
  | _ => False
theorem Tst.wp {ifs : List Expr} {Q : Bool → Shared → Prop} (h : Tst w A ifs env Q s) :
    wpAny (model Pg w) A (forIn ifs true fun c r => if r = true then do let ok ← isTrue c env (eval c env); pure (ForInStep.yield ok) else pure (ForInStep.yield r)) Q Nv s := by
  match ifs, h with
  | [], h => exact wpAny_tests_nil h
  | [c], h => exact wpAny_tests_one h
def CFin (g0 : Heap) (s0 : Core) (g' : Heap) (C : Addr) (rest : List (Addr × Obj)) (a a' : List PyData) (x : Value) (s3 : Shared) : Prop := ∃ g'' mc' d, Kp g' g'' ∧ a' = a ++ [d] ∧ Rd g'' x d ∧ St g0 s0 g'' C mc' rest (core s3)
def CEnd (w : World) (A : Around) (g0 : Heap) (s0 : Core) (g' : Heap) (C : Addr) (rest : List (Addr × Obj)) (a a' : List PyData) (elt : Expr) (env : Env) (ok : Bool) (s : Shared) : Prop :=
  if ok = true then wpAny (model Pg w) A (eval elt env) (CFin g0 s0 g' C rest a a') Nv s
  else ∃ g'' mc', Kp g' g'' ∧ a' = a ∧ St g0 s0 g'' C mc' rest (core s)

theorem lc_loop {elt tg iter : Expr} {ifs : List Expr} {scope : Scope} {pos : Pos} {I : Value} {D : Addr} {ms : Nat → List (Addr × Obj) → Prop} {P : Nat → Heap → Value → Prop} {ps : List (Addr × Obj)} {R : Result → Shared → Prop} {c : Nat}
    (acc : Nat → List PyData) (h0 : acc 0 = []) (hn : n ≤ 1000) (W : Itr w A tg I g n ms P) (hms : ms 0 ps) (S : St g0 s0 g C mc (ps ++ (D, lob [] c) :: mu) (core s))
    (turn : ∀ i v g' mc' ps' vals c s', i < n → Kp g g' → P i g' v → St g0 s0 g' C mc' (ps' ++ (D, lob vals c) :: mu) (core s') →
      wpAny (model Pg w) A (assign tg env v) (fun _ s1 => Tst w A ifs env (CEnd w A g0 s0 g' C (ps' ++ (D, lob vals c) :: mu) (acc i) (acc (i + 1)) elt env) s1) Nv s')
    (fin : ∀ g' mc' vals c s', Kp g g' → RdL g' vals (acc n) → St g0 s0 g' C mc' ((D, lob vals c) :: mu) (core s') → R (.ok .next) s') :
    codeAny (model Pg w) A (.compLoop (.ListComp elt [⟨tg, iter, ifs, 0⟩] scope pos) 0 I (.ref D) env) R s := by
  refine codeAny_loop rfl (fun k s' => ∃ i g' mc' ps' vals c, i ≤ n ∧ k = n - i ∧ Kp g g' ∧ ms i ps' ∧ RdL g' vals (acc i) ∧ vals.length ≤ i ∧ St g0 s0 g' C mc' (ps' ++ (D, lob vals c) :: mu) (core s')) ?_ n
    ⟨0, g, mc, ps, [], c, Nat.zero_le _, rfl, Kp.refl _, hms, h0 ▸ .nil, Nat.le_refl _, S⟩
  rintro k s' ⟨i, g', mc', ps', vals, c, hi, rfl, kg, hm, hv, hvl, S'⟩
  show wpAny _ A ((compTurn (.ListComp elt [⟨tg, iter, ifs, 0⟩] scope pos) 0 I (.ref D) env).onRaise (fun x => do noteFrame x env; theTreesLotGoes x)) _ _ s'
  refine wpAny_noted ?_
  rw [compTurn_list]
  refine wpAny_bind (wpAny_standAt (wpAny_bind ?_))
  rcases Nat.lt_or_ge i n with hlt | hge
  · refine wpAny_mono (W.item i hlt _ _ _ _ _ _ _ _ (fun v s'' => ∃ g'' ps'', Kp g' g'' ∧ P i g'' v ∧ ms (i + 1) ps'' ∧ St g0 s0 g'' C mc' (ps'' ++ (D, lob vals c) :: mu) (core s'')) kg hm S'
      fun v g'' ps'' s'' k2 hP hm' S'' => ⟨g'', ps'', k2, hP, hm', S''⟩) (fun r s₁ h => ?_) fun _ _ f => f.elim
    cases r with
    | none => exact h.elim
    | some v =>
      refine wpAny_bind (wpAny_mono h (fun _ s₂ h₂ => ?_) fun _ _ f => f.elim)
      obtain ⟨g'', ps'', k2, hP, hm', S''⟩ := h₂
      refine wpAny_bind (wpAny_mono (turn i v g'' mc' ps'' vals c s₂ hlt (kg.trans k2) hP S'') (fun _ s₃ h₃ => ?_) fun _ _ f => f.elim)
      refine wpAny_bind (wpAny_mono h₃.wp (fun ok s₄ h₄ => ?_) fun _ _ f => f.elim)
      unfold CEnd at h₄
      cases ok with
      | false =>
        obtain ⟨g3, m3, k3, e, S3⟩ := h₄
        exact wpAny_pure ⟨rfl, n - (i + 1), by omega, i + 1, g3, m3, ps'', vals, c, hlt, rfl, (kg.trans k2).trans k3, hm', e ▸ hv.up (k2.trans k3), by omega, S3⟩
      | true =>
        refine wpAny_bind (wpAny_bind (wpAny_mono h₄ (fun x s₅ h₅ => ?_) fun _ _ f => f.elim))
        obtain ⟨g3, m3, d, k3, e, r, S3⟩ := h₅
        refine wpAny_bind (appO (pre := ps'') S3 (by omega) fun c' s6 S6 => wpAny_pure (wpAny_pure ?_))
        exact ⟨rfl, n - (i + 1), by omega, i + 1, g3, m3, ps'', vals ++ [x], c', hlt, rfl, (kg.trans k2).trans k3, hm', e ▸ (hv.up (k2.trans k3)).append (.cons r .nil), by simp; omega, S6⟩
  · obtain rfl : i = n := Nat.le_antisymm hi hge
    refine wpAny_mono (W.done _ _ _ _ _ _ _ _ _ kg hm S' fun s'' S'' => fin g' mc' vals c s'' kg hv S'') (fun r s₁ h => ?_) fun _ _ f => f.elim
    cases r with
    | none => exact wpAny_pure h
    | some v => exact h.elim

/-- what a thing hands out, one by one -/
def Ible (w : World) (A : Around) (tg : Expr) (g : Heap) (xv : Value) (n : Nat) (P : Nat → Heap → Value → Prop) : Prop :=
  ∀ (g0 : Heap) (s0 : Core) (L : Addr) (m : Str → Option Value) (mu : List (Addr × Obj)) (s : Shared) (Q : Value → Shared → Prop), St g0 s0 g L m mu (core s) →
    (∀ I ms ps s', Itr w A tg I g n ms P → ms 0 ps → St g0 s0 g L m (ps ++ mu) (core s') → Q I s') → wpAny (model Pg w) A (pyIter xv) Q Nv s
theorem Ible.list {l : Addr} {vs : List Value} {tg : Expr} (hh : A.handled = none) (hl : g.IsList l vs.toArray) : Ible w A tg g (.ref l) vs.length (fun i _ v => vs[i]? = some v) :=
  fun _ _ _ _ _ _ _ S h => pyIter_list hl S hh fun I ms ps s' W hm S' => h I ms ps s' (W tg) hm S'
theorem Ible.tuple {l : Addr} {vs : List Value} {x : Str} {px : Pos} (hh : A.handled = none) (hl : IsTup g l vs.toArray) : Ible w A (.Name x px) g (.ref l) vs.length (fun i _ v => vs[i]? = some v) :=
  fun _ _ _ _ _ _ _ S h => pyIter_tuple hl S hh fun I ms ps s' W hm S' => h I ms ps s' (W x px) hm S'
theorem Ible.data {l : Value} {ds : List PyData} {tg : Expr} (hh : A.handled = none) (r : Rd g l (.list ds)) : Ible w A tg g l ds.length (fun i g' v => Kp g g' → ∃ d, ds[i]? = some d ∧ Rd g' v d) := by
  obtain ⟨a, vs, rfl, hl, hr⟩ := r.list_inv
  intro g0 s0 L m mu s Q S h
  refine pyIter_list hl S hh fun I ms ps s' W hm S' => h I ms ps s' ?_ hm S'
  rw [← hr.length]
  have W := W tg
  refine ⟨fun i hi g0 s0 g' L m mu ps s K kg hms S hK => W.item i hi g0 s0 g' L m mu ps s K kg hms S fun v g'' ps' s' k2 hP hm' S' => hK v g'' ps' s' k2 (fun k3 => ?_) hm' S', W.done, W.self⟩
  obtain ⟨d, hd⟩ : ∃ d, ds[i]? = some d := ⟨_, List.getElem?_eq_getElem (by rw [← hr.length]; exact hi)⟩
  obtain ⟨v', hv', rv⟩ := hr.get hd
  rw [hP] at hv'
  cases hv'
  exact ⟨d, hd, rv.up k3⟩

theorem lc_block {elt tg iter : Expr} {ifs : List Expr} {scope : Scope} {pos : Pos} {I : Value} {cl : List (Str × Addr)} {ms : Nat → List (Addr × Obj) → Prop} {P : Nat → Heap → Value → Prop} {ps : List (Addr × Obj)} {use : Option (Value → Sem Unit)}
    (acc : Nat → List PyData) (h0 : acc 0 = []) (hn : n ≤ 1000) (hcell : ∀ y ∈ scope.names, y.2 ≠ .cell) (hkind : scope.kind = .function)
    (W : Itr w A tg I g n ms P) (hms : ms 0 ps) (S : St g0 s0 g L m (ps ++ mu) (core s))
    (turn : ∀ C oL, NsO oL m → ∀ i D v g' mc' ps' vals c s', i < n → Kp g g' → P i g' v → St g0 s0 g' C mc' (ps' ++ (D, lob vals c) :: (L, oL) :: mu) (core s') →
      wpAny (model Pg w) A (assign tg (compEnvC scope cl C env) v) (fun _ s1 => Tst w A ifs (compEnvC scope cl C env) (CEnd w A g0 s0 g' C (ps' ++ (D, lob vals c) :: (L, oL) :: mu) (acc i) (acc (i + 1)) elt (compEnvC scope cl C env)) s1) Nv s')
    (fin : ∀ C oC D g' vals c s', Kp g g' → RdL g' vals (acc n) → (∃ mc, NsO oC mc) → St g0 s0 g' L m ((C, oC) :: (D, lob vals c) :: mu) (core s') → compPost (model Pg w) A Nv use Q (.ref D) C (.ok .next) s') :
    wpAny (model Pg w) A (newList []) (fun acc s₃ => wpAny (model Pg w) A (newFunctionEnv scope env.globals cl [] env.qual none .none (some env)) (fun cenv s₄ =>
      codeAny (model Pg w) A (.compStart (.ListComp elt [⟨tg, iter, ifs, 0⟩] scope pos) 0 I acc { cenv with scope := relabel scope env }) (compPost (model Pg w) A Nv use Q acc cenv.locals) s₄) Nv s₃) Nv s := by
  refine lstO S fun D s3 S3 => ?_
  refine wpAny_newFunctionEnv hcell (by intro y hy; simp at hy) (fun h₁ hns hsb => ?_) hkind
  obtain ⟨oC, hoC, hN⟩ := NsO.of hns
  have kh : Kp s3.heap h₁ := fun b o e => hsb.extBut b o (Nat.ne_of_lt (Heap.lt_size e)) (Heap.get?_push_of_some _ e)
  have S4 : St g0 s0 g L m ((s3.heap.objs.size, oC) :: (D, lob [] 0) :: (ps ++ mu)) ⟨h₁, s3.gens, s3.os⟩ := S3.own (s := core s3) (s' := ⟨h₁, s3.gens, s3.os⟩) kh (fresh_size _) hoC rfl rfl
  obtain ⟨oL, hL, S5⟩ := S4.swap hN
  have S6 := S5.perm (mu' := ps ++ (D, lob [] 0) :: (L, oL) :: mu) (by
    have e1 : List.Perm ((L, oL) :: (D, lob [] 0) :: (ps ++ mu)) ((D, lob [] 0) :: (L, oL) :: (ps ++ mu)) := .swap _ _ _
    refine e1.trans ?_
    have e2 : ((D, lob [] 0) :: (L, oL) :: (ps ++ mu)) = ([(D, lob [] 0), (L, oL)] ++ ps) ++ mu := by simp
    have e3 : (ps ++ (D, lob [] 0) :: (L, oL) :: mu) = (ps ++ [(D, lob [] 0), (L, oL)]) ++ mu := by simp
    rw [e2, e3]
    exact (List.perm_append_comm).append_right _)
  have loop : ∀ s₃ : Shared, core s₃ = ⟨h₁, s3.gens, s3.os⟩ →
      codeAny (model Pg w) A (.compLoop (.ListComp elt [⟨tg, iter, ifs, 0⟩] scope pos) 0 I (.ref D) (compEnvC scope cl s3.heap.objs.size env))
        (compPost (model Pg w) A Nv use Q (.ref D) s3.heap.objs.size) s₃ := by
    intro s₃ e
    rw [← e] at S6
    refine lc_loop acc h0 hn W hms S6 (fun i v g' mc' ps' vals c s' hi kg hP S' => turn _ oL hL i D v g' mc' ps' vals c s' hi kg hP S') fun g' mc' vals c s' kg hr S' => ?_
    obtain ⟨oC', hC', S7⟩ := (S'.perm (.swap _ _ _)).swap hL
    exact fin _ oC' D g' vals c s' kg hr ⟨_, hC'⟩ S7
  refine codeAny_compStart_list (loop _ rfl) (wpAny_mono (W.self 0 _ _ _ _ _ _ _ _ _ (Kp.refl _) hms S6 (loop _ rfl)) (fun _ _ x => x) fun _ _ f => f.elim)

/-- the comprehension as a value -/
theorem lcomp {elt tg iter : Expr} {ifs : List Expr} {scope : Scope} {pos : Pos} {cl : List (Str × Addr)}
    (acc : Nat → List PyData) (h0 : acc 0 = []) (SS : St g0 s0 g L m mu (core s))
    (h : wpAny (model Pg w) A (eval iter env) (fun xv s1 => ∃ g1, ∃ (n : Nat), ∃ P, n ≤ 1000 ∧ Ible w A tg g1 xv n P ∧ St g0 s0 g1 L m mu (core s1) ∧
      (∀ C oL, NsO oL m → ∀ i D v g' mc' ps' vals c s', i < n → Kp g1 g' → P i g' v → St g0 s0 g' C mc' (ps' ++ (D, lob vals c) :: (L, oL) :: mu) (core s') →
        wpAny (model Pg w) A (assign tg (compEnvC scope cl C env) v) (fun _ s1 => Tst w A ifs (compEnvC scope cl C env) (CEnd w A g0 s0 g' C (ps' ++ (D, lob vals c) :: (L, oL) :: mu) (acc i) (acc (i + 1)) elt (compEnvC scope cl C env)) s1) Nv s') ∧
      (∀ r g' s', Kp g1 g' → St g0 s0 g' L m mu (core s') → Rd g' r (.list (acc n)) → Q r s')) Nv s)
    (hclos : closureFor scope env = pure cl := by with_unfolding_all rfl) (hcell : ∀ y ∈ scope.names, y.2 ≠ .cell := by decide +kernel) (hkind : scope.kind = .function := by rfl)
    (hnames : ∀ y ∈ scope.names, y.2 = .local → scope.names.lookup y.1 = some .local := by decide +kernel)
    (hs : ∀ x, foldedSetIterable iter env x = pure x := by intro _; rfl) :
    wpAny (model Pg w) A (eval (.ListComp elt [⟨tg, iter, ifs, 0⟩] scope pos) env) Q Nv s := by
  rw [eval_ListComp]
  refine wpAny_comprehension_free (use := none) rfl hs hclos hkind hnames (wpAny_mono h (fun xv s₁ h₁ => ?_) fun _ _ e => e)
  obtain ⟨g1, n, P, hn, hI, S1, turn, fin⟩ := h₁
  refine hI _ _ _ _ _ _ _ S1 fun I ms ps s2 W hms S2 => ?_
  refine lc_block acc h0 hn hcell hkind W hms S2 turn fun C oC D g' vals c s' kg hr hC S' => ?_
  obtain ⟨mc, hC⟩ := hC
  refine ⟨mc, hC.ns (S'.has _ (.head _)).1, fun h' hs' => ?_⟩
  have S8 := St.lose (pre := []) S' (h' := h') fun b x hb e => (hs'.2 b hb).trans e
  have F := S8.frozen
  exact fin (.ref D) _ _ (kg.trans F.1) S8.freeze (Rd.list F.2 rfl rfl (by simpa using hr.up F.1))

/-- the comprehension stored -/
theorem lcompA {elt tg iter : Expr} {ifs : List Expr} {scope : Scope} {pos spos : Pos} {cl : List (Str × Addr)} {y : Str} {py : Pos} {Q : Flow → Shared → Prop}
    (acc : Nat → List PyData) (h0 : acc 0 = []) (hL : env.locals = L) (SS : St g0 s0 g L m mu (core s))
    (h : wpAny (model Pg w) A (eval iter env) (fun xv s1 => ∃ g1, ∃ (n : Nat), ∃ P, n ≤ 1000 ∧ Ible w A tg g1 xv n P ∧ St g0 s0 g1 L m mu (core s1) ∧
      (∀ C oL, NsO oL m → ∀ i D v g' mc' ps' vals c s', i < n → Kp g1 g' → P i g' v → St g0 s0 g' C mc' (ps' ++ (D, lob vals c) :: (L, oL) :: mu) (core s') →
        wpAny (model Pg w) A (assign tg (compEnvC scope cl C env) v) (fun _ s1 => Tst w A ifs (compEnvC scope cl C env) (CEnd w A g0 s0 g' C (ps' ++ (D, lob vals c) :: (L, oL) :: mu) (acc i) (acc (i + 1)) elt (compEnvC scope cl C env)) s1) Nv s') ∧
      (∀ r g' s', Kp g1 g' → St g0 s0 g' L (fun z => if z = y then some r else m z) mu (core s') → Rd g' r (.list (acc n)) → Q .next s')) Nv s)
    (hclos : closureFor scope env = pure cl := by with_unfolding_all rfl) (hcell : ∀ y ∈ scope.names, y.2 ≠ .cell := by decide +kernel) (hkind : scope.kind = .function := by rfl)
    (hnames : ∀ y ∈ scope.names, y.2 = .local → scope.names.lookup y.1 = some .local := by decide +kernel)
    (hsw : swapsWith (.ListComp elt [⟨tg, iter, ifs, 0⟩] scope pos) (some (.Name y py)) spos.line env = pure true := by with_unfolding_all rfl)
    (hk : env.scope.kind = .function := by rfl) (hl : env.kindOf y = some .local := by rfl)
    (hs : ∀ x, foldedSetIterable iter env x = pure x := by intro _; rfl) :
    wpAny (model Pg w) A (exec (.Assign [.Name y py] (.ListComp elt [⟨tg, iter, ifs, 0⟩] scope pos) spos) env) Q Nv s := by
  rw [exec_Assign_Name_used _ _ _ _ hsw]
  refine wpAny_bind (wpAny_standAt (wpAny_bind ?_))
  show wpAny _ A (do let _ ← comprehension (.ListComp elt [⟨tg, iter, ifs, 0⟩] scope pos) scope env _ (newList []) false (eval iter env) (some (assign (.Name y py) env))) _ _ s
  refine wpAny_bind (wpAny_mono (wpAny_comprehension_free (use := some (assign (.Name y py) env)) (Q := fun _ s' => Q .next s') rfl hs hclos hkind hnames
    (wpAny_mono h (fun xv s₁ h₁ => ?_) fun _ _ e => e)) (fun _ s' hq => wpAny_pure (wpAny_pure hq)) fun _ _ e => e)
  obtain ⟨g1, n, P, hn, hI, S1, turn, fin⟩ := h₁
  refine hI _ _ _ _ _ _ _ S1 fun I ms ps s2 W hms S2 => ?_
  refine lc_block acc h0 hn hcell hkind W hms S2 turn fun C oC D g' vals c s' kg hr hC S' => ?_
  obtain ⟨mc, hC⟩ := hC
  show wpAny _ A (assign (.Name y py) env (.ref D)) _ _ _
  refine wpAny_assign_Name (stL S' hL (fun s3 S3 => ?_) hk hl)
  refine ⟨mc, hC.ns (S3.has _ (.head _)).1, fun h' hs' => ?_⟩
  have S8 := St.lose (pre := []) S3 (h' := h') fun b x hb e => (hs'.2 b hb).trans e
  have F := S8.frozen
  exact fin (.ref D) _ _ (kg.trans F.1) S8.freeze (Rd.list F.2 rfl rfl (by simpa using hr.up F.1))
end

end
section
open PySem PySem.W PyProof.Rows PySem.Calls
set_option maxHeartbeats 400000
abbrev envC (name : Str) (scope : Scope) (L a : Addr) (cd : Value) (cl : List (Str × Addr)) : Env :=
  { scope := scope, locals := L, globals := mainGlobals, cells := cl, qual := name ++ ".<locals>.", func := some a, code := cd, frame := some L, builtins := builtinsNs }
section
variable {mg mb : Str → Option Value} {fa : Nat → Addr} {dT mi : Addr} {w : World} {A : Around} {g g0 : Heap} {s : Shared} {s0 : Core} {Q : Value → Shared → Prop} {E : Value → Shared → Prop} {n : Nat}
  {env : Env} {L C : Addr} {m mc : Str → Option Value} {mu mu' : List (Addr × Obj)}

theorem inC_base {cs : List (Str × Addr)} {cm : Str → Option Value} {s1 : Shared} (k : Kp g s.heap) (x : InCallC s L m cs cm s1) : St g (core s) g L m [] (core s1) := by
  have hk := x.toInCall.keep
  obtain ⟨h', tk, rfl⟩ := x.toInCall.same
  have hL : s.heap.get? L = none := by
    cases q : s.heap.get? L with
    | none => rfl
    | some o => exact absurd (Heap.lt_size q) (Nat.not_lt.mpr x.toInCall.fresh)
  exact ⟨Stp.grow k hk rfl rfl, x.toInCall.ns, none_of_kp k hL, hL, (fun _ hp => nomatch hp), List.nodup_nil⟩
theorem inC_cell {cs : List (Str × Addr)} {cm : Str → Option Value} {s1 : Shared} {y : Str} {c : Addr} (k : Kp g s.heap) (x : InCallC s L m cs cm s1) (hc : cs.lookup y = some c) :
    ∃ o, o.data = .cell (cm y) ∧ s1.heap.get? c = some o ∧ c ≠ L ∧ g.get? c = none ∧ s.heap.get? c = none := by
  obtain ⟨o, ho, hd⟩ := x.cell _ _ hc
  have hlt := x.above _ _ (mem_of_lookup hc)
  have hc0 : s.heap.get? c = none := by
    cases q : s.heap.get? c with
    | none => rfl
    | some o => exact absurd (Heap.lt_size q) (Nat.not_lt.mpr (Nat.le_of_lt (Nat.lt_of_le_of_lt x.toInCall.fresh hlt)))
  exact ⟨o, hd, ho, Nat.ne_of_gt hlt, none_of_kp k hc0, hc0⟩

/-- a def with one cell -/
theorem enterC1 {vs : List Value} {binds : List (Str × Value)} {x : Str} (G : Gnd mg mb fa dT mi g) {j : Nat} (k : Kp g s.heap) (ok : Ok A (j + 1))
    (hn : n ∈ defsN) (h3 : n ≠ 3)
    (hbind : ∀ kV doc pm an cdv ct, bindArgs (fnOf (nameOf (nth n)) (nameOf (nth n)) (parsOf (nth n)) (bodyOf (nth n)) (scopeOf (nth n)) .none kV doc pm an cdv ct) ⟨vs, []⟩ = pure binds)
    (hcs : ∀ a, cellsFrom a (scopeOf (nth n)).names [] = [(x, a)])
    (hkind : ∀ y ∈ binds, (scopeOf (nth n)).names.lookup y.1 = some .local ∨ ((scopeOf (nth n)).names.lookup y.1 = some .cell ∧ y.1 = x))
    (h : ∀ cd L c o s1, o.data = .cell (bindC (fun y => (scopeOf (nth n)).names.lookup y) binds (fun _ => none) x) →
      St g (core s) g L (bindL (fun y => (scopeOf (nth n)).names.lookup y) binds fun _ => none) [(c, o)] (core s1) → Ok (A.deeper (envC (nameOf (nth n)) (scopeOf (nth n)) L (fa n) cd [(x, c)])) j →
      wpAny (model Pg w) (A.deeper (envC (nameOf (nth n)) (scopeOf (nth n)) L (fa n) cd [(x, c)])) (execs (bodyOf (nth n)) (envC (nameOf (nth n)) (scopeOf (nth n)) L (fa n) cd [(x, c)])) (fun fl s' => Q (retv fl) s') Nv s1)
    (hco : (scopeOf (nth n)).isCoroutine = false := by rfl) (hgen : (scopeOf (nth n)).isGenerator = false := by rfl) (hk : (scopeOf (nth n)).kind = .function := by rfl) :
    wpAny (model Pg w) A (call (.ref (fa n)) vs) Q E s := by
  obtain ⟨_, o, kV, doc, pm, an, cdv, ct, h1, h2, h4⟩ := G.fn n hn
  rw [if_neg h3] at h2
  refine wpAny_call (codeAny_call_cells ok.room (k _ _ h1) h2 (G.lim.keeps k) (h4.keeps k) rfl (hbind kV doc pm an cdv ct) rfl ?_ (fun s1 X => ?_) hco hgen hk)
  · intro y hy
    rcases hkind y hy with h | ⟨h, e⟩
    · exact .inl h
    · refine .inr ⟨h, ?_⟩
      show ((cellsFrom (s.heap.objs.size + 1) (scopeOf (nth n)).names []).lookup y.1).isSome = true
      rw [hcs, e]; simp
  · have hcs' := hcs (s.heap.objs.size + 1)
    have hlk : (cellsFrom (s.heap.objs.size + 1) (scopeOf (nth n)).names []).lookup x = some (s.heap.objs.size + 1) := by rw [hcs']; simp
    obtain ⟨oc, hd, p1, p2, p3, p4⟩ := inC_cell k X hlk
    have B := inC_base k X
    have S : St g (core s) g s.heap.objs.size (bindL (fun y => (scopeOf (nth n)).names.lookup y) binds fun _ => none) [(s.heap.objs.size + 1, oc)] (core s1) :=
      { B with has := fun p hp => by rw [List.mem_singleton.mp hp]; exact ⟨p1, p2, p3, p4⟩, nodup := by simp }
    have := h cdv s.heap.objs.size (s.heap.objs.size + 1) oc s1 hd S ok.deeper
    simp only [callEnvC, newEnv]
    show wpAny (model Pg w) (A.deeper { scope := scopeOf (nth n), locals := s.heap.objs.size, globals := mainGlobals, cells := cellsFrom (s.heap.objs.size + 1) (scopeOf (nth n)).names [], qual := nameOf (nth n) ++ ".<locals>.", func := some (fa n), code := cdv, frame := some s.heap.objs.size, builtins := builtinsNs }) _ _ _ _
    rw [hcs']
    refine wpAny_mono this (fun fl s' hq => ?_) fun _ _ f => f.elim
    cases fl <;> exact hq
/-- a def with two cells -/
theorem enterC2 {vs : List Value} {binds : List (Str × Value)} {x y : Str} (G : Gnd mg mb fa dT mi g) {j : Nat} (k : Kp g s.heap) (ok : Ok A (j + 1))
    (hn : n ∈ defsN) (h3 : n ≠ 3)
    (hbind : ∀ kV doc pm an cdv ct, bindArgs (fnOf (nameOf (nth n)) (nameOf (nth n)) (parsOf (nth n)) (bodyOf (nth n)) (scopeOf (nth n)) .none kV doc pm an cdv ct) ⟨vs, []⟩ = pure binds)
    (hcs : ∀ a, cellsFrom a (scopeOf (nth n)).names [] = [(y, a + 1), (x, a)]) (hxy : (x == y) = false)
    (hkind : ∀ y ∈ binds, (scopeOf (nth n)).names.lookup y.1 = some .local)
    (h : ∀ cd L c c' o o' s1, o.data = .cell (bindC (fun y => (scopeOf (nth n)).names.lookup y) binds (fun _ => none) x) → o'.data = .cell (bindC (fun y => (scopeOf (nth n)).names.lookup y) binds (fun _ => none) y) →
      St g (core s) g L (bindL (fun y => (scopeOf (nth n)).names.lookup y) binds fun _ => none) [(c, o), (c', o')] (core s1) → Ok (A.deeper (envC (nameOf (nth n)) (scopeOf (nth n)) L (fa n) cd [(y, c'), (x, c)])) j →
      wpAny (model Pg w) (A.deeper (envC (nameOf (nth n)) (scopeOf (nth n)) L (fa n) cd [(y, c'), (x, c)])) (execs (bodyOf (nth n)) (envC (nameOf (nth n)) (scopeOf (nth n)) L (fa n) cd [(y, c'), (x, c)])) (fun fl s' => Q (retv fl) s') Nv s1)
    (hco : (scopeOf (nth n)).isCoroutine = false := by rfl) (hgen : (scopeOf (nth n)).isGenerator = false := by rfl) (hk : (scopeOf (nth n)).kind = .function := by rfl) :
    wpAny (model Pg w) A (call (.ref (fa n)) vs) Q E s := by
  obtain ⟨_, o, kV, doc, pm, an, cdv, ct, h1, h2, h4⟩ := G.fn n hn
  rw [if_neg h3] at h2
  refine wpAny_call (codeAny_call_cells ok.room (k _ _ h1) h2 (G.lim.keeps k) (h4.keeps k) rfl (hbind kV doc pm an cdv ct) rfl (fun y hy => .inl (hkind y hy)) (fun s1 X => ?_) hco hgen hk)
  have hcs' := hcs (s.heap.objs.size + 1)
  have hlk : (cellsFrom (s.heap.objs.size + 1) (scopeOf (nth n)).names []).lookup x = some (s.heap.objs.size + 1) := by rw [hcs', List.lookup_cons, hxy]; simp
  have hlk' : (cellsFrom (s.heap.objs.size + 1) (scopeOf (nth n)).names []).lookup y = some (s.heap.objs.size + 1 + 1) := by rw [hcs']; simp
  obtain ⟨oc, hd, p1, p2, p3, p4⟩ := inC_cell k X hlk
  obtain ⟨oc', hd', p1', p2', p3', p4'⟩ := inC_cell k X hlk'
  have B := inC_base k X
  have S : St g (core s) g s.heap.objs.size (bindL (fun y => (scopeOf (nth n)).names.lookup y) binds fun _ => none) [(s.heap.objs.size + 1, oc), (s.heap.objs.size + 1 + 1, oc')] (core s1) :=
    { B with
      has := fun p hp => by
        rcases List.mem_cons.mp hp with rfl | hp
        · exact ⟨p1, p2, p3, p4⟩
        · rw [List.mem_singleton.mp hp]; exact ⟨p1', p2', p3', p4'⟩
      nodup := by simp }
  have := h cdv s.heap.objs.size (s.heap.objs.size + 1) (s.heap.objs.size + 1 + 1) oc oc' s1 hd hd' S ok.deeper
  simp only [callEnvC, newEnv]
  show wpAny (model Pg w) (A.deeper { scope := scopeOf (nth n), locals := s.heap.objs.size, globals := mainGlobals, cells := cellsFrom (s.heap.objs.size + 1) (scopeOf (nth n)).names [], qual := nameOf (nth n) ++ ".<locals>.", func := some (fa n), code := cdv, frame := some s.heap.objs.size, builtins := builtinsNs }) _ _ _ _
  rw [hcs']
  refine wpAny_mono this (fun fl s' hq => ?_) fun _ _ f => f.elim
  cases fl <;> exact hq

/-! deep comparisons -/
theorem eqD {a b : Value} {da db : PyData} {j : Nat} (ra : Rd g a da) (rb : Rd g b db) (o : Ok A j) (S : St g0 s0 g L m mu (core s)) (ha : SeqAt.shaped da = true) (hb : SeqAt.shaped db = true)
    (h : Q (.bool (PyData.eqv da db)) s) : wpAny (model Pg w) A (compareOp .Eq a b) Q E s :=
  let ⟨_, ra⟩ := ra; let ⟨_, rb⟩ := rb; eq_dataH (Reads.keeps S.kp ra) (Reads.keeps S.kp rb) ha hb (by have := o.units; omega) h
theorem neD {a b : Value} {da db : PyData} {j : Nat} (ra : Rd g a da) (rb : Rd g b db) (o : Ok A j) (S : St g0 s0 g L m mu (core s)) (ha : SeqAt.shaped da = true) (hb : SeqAt.shaped db = true)
    (h : Q (.bool (!PyData.eqv da db)) s) : wpAny (model Pg w) A (compareOp .NotEq a b) Q E s :=
  let ⟨_, ra⟩ := ra; let ⟨_, rb⟩ := rb; ne_dataH (Reads.keeps S.kp ra) (Reads.keeps S.kp rb) ha hb (by have := o.units; omega) h
end

end
section
open PySem PySem.W PyProof.Rows PySem.Calls
set_option maxHeartbeats 400000
/-! the plain law's words -/
def pieceL : List Str := ["", "a", "ab", "..", ".", "/", "a", "../ab"]
def pieceAt (k : Int) : Str := pieceL.getD (k.fmod 8).toNat ""
def piecesOf (x : Int) : List Str := [pieceAt (x.fdiv 4), pieceAt (x.fdiv 32)]
def goneN (ns : List Str) (p : Str) : List Str :=
  if p = "/" then [] else if p = ".." then ns.dropLast else if p = "../ab" then ns.dropLast ++ [("ab" : Str)] else if p = "a" ∨ p = "ab" then ns ++ [p] else ns
def goN (ns : List Str) (x : Int) : List Str := (piecesOf x).foldl goneN ns
def textN (ns : List Str) : Str := "/" ++ Txt.join "/" ns
/-- a folder's names -/
structure Good (ns : List Str) : Prop where
  nm : ∀ y ∈ ns, y = "a" ∨ y = "ab"
  len : ns.length ≤ 40
theorem fmod8 (k : Int) : 0 ≤ k.fmod 8 ∧ k.fmod 8 < 8 := by rw [Int.fmod_eq_emod_of_nonneg _ (by decide)]; omega
theorem piece_get (k : Int) : (pieceL.map PyData.str)[(k.fmod 8).toNat]? = some (.str (pieceAt k)) := by
  have h := fmod8 k
  have hl : (k.fmod 8).toNat < pieceL.length := by show (k.fmod 8).toNat < 8; omega
  rw [List.getElem?_map, List.getElem?_eq_getElem hl]
  simp [pieceAt, List.getD, hl]
theorem piece_mem (k : Int) : pieceAt k ∈ pieceL := by
  have h := fmod8 k
  have hl : (k.fmod 8).toNat < pieceL.length := by show (k.fmod 8).toNat < 8; omega
  unfold pieceAt
  rw [List.getD_eq_getElem?_getD, List.getElem?_eq_getElem hl]
  exact List.getElem_mem hl
/-- the data of names, entries, rows -/
def dN (ns : List Str) : PyData := .list (ns.map .str)
def dW (p : List Str × Int) : PyData := .tuple [dN p.1, .int p.2]
def dT (p : List Str × Int) : PyData := .tuple [.str (textN p.1), .int p.2]
abbrev WL := List (List Str × Int)
def wentN (cs : List Int) : List Str × WL := cs.foldl (fun p x => (goN p.1 x, p.2 ++ [(goN p.1 x, x.fmod 4)])) ([], [])
/-- a later row ends what a row has set -/
def ends (ns : List Str) (p : List Str × Int) : Bool := decide (p.1 = ns) || (decide (p.2.fmod 2 = 1) && decide (ns.take p.1.length = p.1))
def lateN (went : WL) (k : Nat) (ns : List Str) : List (List Str) := ((went.drop (k + 1)).filter (ends ns)).map (·.1)
def livN (went : WL) : Nat → WL
  | 0 => []
  | k + 1 => match went[k]? with
    | none => livN went k
    | some (ns, d) => if d < 2 ∧ lateN went k ns = [] then livN went k ++ [(ns, (k : Int))] else livN went k
def livingN (went : WL) : WL := livN went went.length
/-- the fold's step -/
structure Sta where
  ns : List Str
  ct : Int
  tab : WL
def stepN (p : Sta) (x : Int) : Sta :=
  let ns := goN p.ns x
  ⟨ns, p.ct + 1, p.tab.filter (fun e => decide (e.1 ≠ ns) && (decide (x.fmod 2 = 0) || decide (¬ e.1.take ns.length = ns))) ++ if x.fmod 4 < 2 then [(ns, p.ct)] else []⟩
def dS (p : Sta) : PyData := .tuple [.str (textN p.ns), .int p.ct, .list (p.tab.map dT)]
def hereN (ns : List Str) (tab : WL) : List Int := (tab.filter fun e => decide (e.1 = ns)).map (·.2)
def foundN (tab : WL) : Nat → List Str → List Int
  | 0, _ => []
  | f + 1, ns => if hereN ns tab ≠ [] ∨ ns = [] then hereN ns tab else foundN tab f ns.dropLast
def aboveN (asked : List Str) (liv : WL) : List (Int × Int) := (liv.filter fun e => decide (asked.take e.1.length = e.1)).map fun e => ((e.1.length : Int), e.2)

end
section
open PySem PySem.W PyProof.Rows PySem.Calls
set_option maxHeartbeats 400000
theorem up2 {a b c : Heap} {v : Value} {d : PyData} (r : Rd a v d) (y : Kp b c) (x : Kp a b) : Rd c v d := r.up (x.trans y)
theorem up3 {a b c e : Heap} {v : Value} {d : PyData} (r : Rd a v d) (z : Kp c e) (y : Kp b c) (x : Kp a b) : Rd e v d := r.up (x.trans (y.trans z))
theorem up4 {a b c e f : Heap} {v : Value} {d : PyData} (r : Rd a v d) (u : Kp e f) (z : Kp c e) (y : Kp b c) (x : Kp a b) : Rd f v d := r.up (x.trans (y.trans (z.trans u)))
section
variable {mg mb : Str → Option Value} {fa : Nat → Addr} {dT mi : Addr} {w : World} {A : Around} {g g0 : Heap} {s : Shared} {s0 : Core} {Q : Value → Shared → Prop} {E : Value → Shared → Prop} {n : Nat}
  {env : Env} {L C : Addr} {m mc : Str → Option Value} {mu mu' : List (Addr × Obj)}
/-- an item of a frozen list -/
theorem itF {value slice : Expr} {l : Addr} {k : Int} {u : Tok} {ds : List PyData} {d : PyData} (S : St g0 s0 g L m mu (core s)) (r : Rd g (.ref l) (.list ds)) (h0 : 0 ≤ k) (hhi : k < 2 ^ 63) (hx : ds[k.toNat]? = some d)
    (h : ∀ v, Rd g v d → Q v s)
    (hs : subscripted slice false (.ref l) (.int k u) = operate [.ref l, .int k u] (getItem (.ref l) (.int k u)) := by with_unfolding_all rfl) :
    wpAny (model Pg w) A (subscriptTail value slice (.ref l) (.int k u)) Q E s := by
  obtain ⟨a, vs, e, hl, hr⟩ := r.list_inv
  cases e
  obtain ⟨v, hv, rv⟩ := hr.get hx
  have hl' : s.heap.IsList l vs.toArray := let ⟨o, ho, r⟩ := hl; ⟨o, S.kp _ _ ho, r⟩
  exact tail_any hl'.typeIs slot_list_getitem.lookup (wpAny_getItem_list hl' h0 hhi (by simpa using hv) (h v rv)) hs
/-- a slice of a frozen list -/
theorem slG {value slice : Expr} {l : Addr} {vl vu vt : Value} {lo hi st : Option Int} {ds ds' : List PyData} {ops : List Value} (S : St g0 s0 g L m mu (core s)) (r : Rd g (.ref l) (.list ds)) (pl : IsPart vl lo) (pu : IsPart vu hi) (pt : IsPart vt st) (hst : st ≠ some 0)
    (hp : ∀ vs, RdL g vs ds → RdL g (slicePick vs.toArray lo hi st).toList ds') (hz : ds.length ≤ 100000)
    (h : ∀ a g' s', St g0 s0 g' L m mu (core s') → Kp g g' → Rd g' (.ref a) (.list ds') → Q (.ref a) s')
    (hs : subscripted slice false (.ref l) (.ref s.heap.objs.size) = operate ops (getItem (.ref l) (.ref s.heap.objs.size)) := by with_unfolding_all rfl)
    (ht : ∀ r, letTemporaryGo value (.ref l) r = pure () := by intro _; with_unfolding_all rfl) :
    wpAny (model Pg w) A (subscriptTail value slice (.ref l) (.ref s.heap.objs.size)) Q E { s with heap := s.heap.push { cls := .type "slice", data := .fields #[vl, vu, vt] } } := by
  obtain ⟨a, vs, e, hl, hr⟩ := r.list_inv
  cases e
  have hl' : s.heap.IsList l vs.toArray := let ⟨o, ho, r⟩ := hl; ⟨o, S.kp _ _ ho, r⟩
  have hlen := hr.length
  refine subscriptTail_ops (Heap.IsList.typeIs (s := { s with heap := s.heap.push { cls := .type "slice", data := .fields #[vl, vu, vt] } }) (hl'.push _)) list_getitem_lookup
    (wpAny_getItem_list_slice (hl'.push _) (Heap.IsSliceOf.new ..) pl pu pt hst ?_ (by rw [List.size_toArray, sizeLine_eq]; omega)) hs ht
  have S1 := S.pushed { cls := .type "slice", data := .fields #[vl, vu, vt] }
  have X := Stp.alloc (s := ⟨s.heap.push { cls := .type "slice", data := .fields #[vl, vu, vt] }, s.gens, s.os⟩) (s' := ⟨(s.heap.push { cls := .type "slice", data := .fields #[vl, vu, vt] }).push { cls := .type "list", data := .seq (slicePick vs.toArray lo hi st) }, s.gens, s.os⟩) S1.kp (push_kp _ _) (fresh_size _) (Heap.get?_push_size _ rfl) rfl rfl
  exact h _ _ _ (S1.step X) X.kg (Rd.list (put_self rfl) rfl rfl ((hp vs hr).up X.kg))
theorem slTake {value slice : Expr} {l : Addr} {k : Nat} {u : Tok} {ds : List PyData} {ops : List Value} (S : St g0 s0 g L m mu (core s)) (r : Rd g (.ref l) (.list ds)) (hz : ds.length ≤ 100000)
    (h : ∀ a g' s', St g0 s0 g' L m mu (core s') → Kp g g' → Rd g' (.ref a) (.list (ds.take k)) → Q (.ref a) s')
    (hs : subscripted slice false (.ref l) (.ref s.heap.objs.size) = operate ops (getItem (.ref l) (.ref s.heap.objs.size)) := by with_unfolding_all rfl)
    (ht : ∀ r, letTemporaryGo value (.ref l) r = pure () := by intro _; with_unfolding_all rfl) :
    wpAny (model Pg w) A (subscriptTail value slice (.ref l) (.ref s.heap.objs.size)) Q E { s with heap := s.heap.push { cls := .type "slice", data := .fields #[.none, .int (k : Int) u, .none] } } :=
  slG S r .none (.int _ _) .none (by decide) (fun vs hr => by rw [slicePick_upto']; simpa using hr.take k) hz h hs ht
theorem slBut {value slice : Expr} {l : Addr} {u : Tok} {ds : List PyData} {ops : List Value} (S : St g0 s0 g L m mu (core s)) (r : Rd g (.ref l) (.list ds)) (hz : ds.length ≤ 100000)
    (h : ∀ a g' s', St g0 s0 g' L m mu (core s') → Kp g g' → Rd g' (.ref a) (.list ds.dropLast) → Q (.ref a) s')
    (hs : subscripted slice false (.ref l) (.ref s.heap.objs.size) = operate ops (getItem (.ref l) (.ref s.heap.objs.size)) := by with_unfolding_all rfl)
    (ht : ∀ r, letTemporaryGo value (.ref l) r = pure () := by intro _; with_unfolding_all rfl) :
    wpAny (model Pg w) A (subscriptTail value slice (.ref l) (.ref s.heap.objs.size)) Q E { s with heap := s.heap.push { cls := .type "slice", data := .fields #[.none, .int (-1) u, .none] } } :=
  slG S r .none (.int _ _) .none (by decide) (fun vs hr => by
    have e : slicePick vs.toArray none (some (-1)) none = (vs.toArray.toList.take (vs.toArray.size - 1)).toArray := slicePick_butLast vs.toArray 1 (Nat.le_refl _)
    rw [e, List.dropLast_eq_take, ← hr.length]
    simpa using hr.take (vs.length - 1)) hz h hs ht
theorem slFrom {value slice : Expr} {l : Addr} {k : Nat} {u : Tok} {ds : List PyData} {ops : List Value} (S : St g0 s0 g L m mu (core s)) (r : Rd g (.ref l) (.list ds)) (hz : ds.length ≤ 100000)
    (h : ∀ a g' s', St g0 s0 g' L m mu (core s') → Kp g g' → Rd g' (.ref a) (.list (ds.drop k)) → Q (.ref a) s')
    (hs : subscripted slice false (.ref l) (.ref s.heap.objs.size) = operate ops (getItem (.ref l) (.ref s.heap.objs.size)) := by with_unfolding_all rfl)
    (ht : ∀ r, letTemporaryGo value (.ref l) r = pure () := by intro _; with_unfolding_all rfl) :
    wpAny (model Pg w) A (subscriptTail value slice (.ref l) (.ref s.heap.objs.size)) Q E { s with heap := s.heap.push { cls := .type "slice", data := .fields #[.int (k : Int) u, .none, .none] } } :=
  slG S r (.int _ _) .none .none (by decide) (fun vs hr => by rw [slicePick_from']; simpa using hr.drop k) hz h hs ht
/-- two lists joined -/
theorem addL {a b : Addr} {ds ds' : List PyData} (S : St g0 s0 g L m mu (core s)) (ra : Rd g (.ref a) (.list ds)) (rb : Rd g (.ref b) (.list ds')) (hz : ds.length + ds'.length ≤ 100000)
    (h : ∀ a g' s', St g0 s0 g' L m mu (core s') → Kp g g' → Rd g' (.ref a) (.list (ds ++ ds')) → Q (.ref a) s') : wpAny (model Pg w) A (binaryOp .Add (.ref a) (.ref b)) Q E s := by
  obtain ⟨a, vs, e, hl, hr⟩ := ra.list_inv
  cases e
  obtain ⟨b, ws, e, hb, hr'⟩ := rb.list_inv
  cases e
  have n1 := hr.length
  have n2 := hr'.length
  obtain ⟨⟨cls, dd, data, sl⟩, ho, hc, n, hd⟩ := hl
  obtain ⟨⟨cls2, dd2, data2, sl2⟩, ho2, hc2, n2, hd2⟩ := hb
  simp only at hc hd hc2 hd2
  subst hc hd hc2 hd2
  have ho := S.kp _ _ ho
  have ho2 := S.kp _ _ ho2
  refine concat_meets ⟨_, ho, rfl⟩ ⟨_, ho2, rfl⟩ noFill_list_add seq_list_add PySem.F.slot_list_add PySem.F.entry_list_add (PySem.F.args_list_add_2 _ _) (list_addW _ _ vs.toArray ws.toArray n _ dd dd2 sl sl2 (by simp [sizeLine_eq]; omega)) ⟨ho, ho2, ?_⟩
  have e : vs.toArray ++ ws.toArray = (vs ++ ws).toArray := by simp
  rw [e]
  have X := Stp.alloc (s := core s) (s' := ⟨s.heap.push (lob (vs ++ ws) 0), s.gens, s.os⟩) S.kp (push_kp _ _) (fresh_size _) (Heap.get?_push_size _ rfl) rfl rfl
  exact h _ _ _ (S.step X) X.kg (Rd.list (put_self rfl) rfl rfl (by simpa using (hr.append hr').up X.kg))
theorem lenL {a : Addr} {ds : List PyData} (S : St g0 s0 g L m mu (core s)) (ra : Rd g (.ref a) (.list ds)) (hz : ds.length ≤ 100000)
    (h : ∀ t s', St g0 s0 g L m mu (core s') → Q (.int (ds.length : Int) t) s') : wpAny (model Pg w) A (call (.builtin "len") [.ref a]) Q E s := by
  obtain ⟨a, vs, e, hl, hr⟩ := ra.list_inv
  cases e
  have n1 := hr.length
  have hl' : s.heap.IsList a vs.toArray := let ⟨o, ho, r⟩ := hl; ⟨o, S.kp _ _ ho, r⟩
  refine PyProof.Rows.len_list hl' (by rw [List.size_toArray]; omega) ?_
  rw [List.size_toArray, n1]
  exact h _ _ S
theorem joinL {x : Str} {t : Tok} {ys : List Str} {a : Addr} (S : St g0 s0 g L m mu (core s)) (r : Rd g (.ref a) (.list (ys.map .str))) (hx : x.length ≤ 16) (hw : (ys.map (·.length)).sum + ys.length ≤ 100000)
    (h : ∀ t' s', St g0 s0 g L m mu (core s') → Q (.str (Txt.join x ys) t') s') : wpAny (model Pg w) A (call (.builtin "str.join") [.str x t, .ref a]) Q E s := by
  obtain ⟨a, vs, e, hl, hr⟩ := r.list_inv
  cases e
  have hl' : s.heap.IsList a vs.toArray := let ⟨o, ho, r⟩ := hl; ⟨o, S.kp _ _ ho, r⟩
  exact joinP S hl' hr hx hw h
end

end
section
open PySem PySem.W PyProof.Rows PySem.Calls PySem.MeetsSeq PySem.SeqAt
set_option maxHeartbeats 400000
theorem plain_eq_loop' : plainId "list.__eq__.loop" = true := by decide +kernel
theorem entry_eq_loop' : entryFor table "list.__eq__.loop" = some Builtin.«list.__eq__.loop» := entryFor_of_fast (by kernel_rfl)
def strLt (x y : Str) : Bool := decide (x.cps.toList < y.cps.toList)
/-- texts in order, item by item -/
def ltL : List Str → List Str → Bool
  | [], [] => false
  | [], _ :: _ => true
  | _ :: _, [] => false
  | x :: xs, y :: ys => if x = y then ltL xs ys else strLt x y
def gtL (xs ys : List Str) : Bool := ltL ys xs
theorem gtL_nil_nil : gtL [] [] = false := rfl
theorem gtL_nil_cons {y ys} : gtL [] (y :: ys) = false := rfl
theorem gtL_cons_nil {x xs} : gtL (x :: xs) [] = true := rfl
theorem gtL_cons {x y xs ys} : gtL (x :: xs) (y :: ys) = if x = y then gtL xs ys else strLt y x := by
  show (if y = x then _ else _) = _
  by_cases h : x = y
  · rw [if_pos h, if_pos h.symm]; rfl
  · rw [if_neg h, if_neg (Ne.symm h)]
theorem ltL_cons {x y xs ys} : ltL (x :: xs) (y :: ys) = if x = y then ltL xs ys else strLt x y := rfl
theorem RdL.strAt {g : Heap} {vs : List Value} {xs : List Str} (r : RdL g vs (xs.map .str)) {i : Nat} (h : i < xs.length) : ∃ t, vs[i]? = some (.str xs[i] t) := by
  obtain ⟨v, hv, rv⟩ := r.get (i := i) (d := .str xs[i]) (by simp [h])
  obtain ⟨t, rfl⟩ := rv.str_inv
  exact ⟨t, hv⟩

theorem rc_lt_str {prog : Program} {w : World} {A : Around} {E : Value → Shared → Prop} {Q : Value → Shared → Prop} {s : Shared} {x y : Str} {t u : Tok} (h : Q (.bool (strLt x y)) s) : wpAny (model prog w) A (richCompare .Lt (.str x t) (.str y u)) Q E s :=
  PyProof.Rows.lt_str (x := x) (y := y) h
theorem rc_gt_str {prog : Program} {w : World} {A : Around} {E : Value → Shared → Prop} {Q : Value → Shared → Prop} {s : Shared} {x y : Str} {t u : Tok} (h : Q (.bool (strLt y x)) s) : wpAny (model prog w) A (richCompare .Gt (.str x t) (.str y u)) Q E s :=
  PySem.P.gt_str (x := x) (y := y) h

theorem lt_loop (l b : Addr) {g : Heap} {vs ws : List Value} {xs ys : List Str} (n n2 : Nat) (dd dd2 : Option Addr) (sl sl2 : Array (Option Value)) (rx : RdL g vs (xs.map .str)) (ry : RdL g ws (ys.map .str)) (k : Nat) :
    ∀ i : Nat, xs.length + ys.length - i = k → Meets (Builtin.«list.__eq__.loop» ⟨[.ref l, .ref b, rawInt i, rawInt 0], []⟩)
      (fun _ R s => s.heap.get? l = some { cls := .type "list", dict := dd, data := .seq vs.toArray n, slots := sl } ∧ s.heap.get? b = some { cls := .type "list", dict := dd2, data := .seq ws.toArray n2, slots := sl2 } ∧
        i ≤ xs.length ∧ i ≤ ys.length ∧
        R (.ok (.ret (.bool (ltL (xs.drop i) (ys.drop i))))) s) := by
  have lx : vs.length = xs.length := by simpa using rx.length
  have ly : ws.length = ys.length := by simpa using ry.length
  induction k with
  | zero =>
    intro i hk prog w A R s h
    obtain ⟨hp, gg, d, tk, os⟩ := s; obtain ⟨hl, hb, h1, h2, h⟩ := h
    wp_walk using wpAny_loadPart' hl, wpAny_loadPart' hb
    have e1 : xs.length = 0 := by omega
    have e2 : ys.length = 0 := by omega
    have e3 : xs = [] := List.length_eq_zero_iff.mp e1
    have e4 : ys = [] := List.length_eq_zero_iff.mp e2
    subst e3 e4
    have e5 : vs = [] := List.length_eq_zero_iff.mp lx
    have e6 : ws = [] := List.length_eq_zero_iff.mp ly
    subst e5 e6
    have hi1 : (([] : List Value).toArray)[((i : Nat) : Int).toNat]? = none := by simp
    rw [hi1]
    wp_walk using wpAny_loadPart' hl, wpAny_loadPart' hb
    rw [List.drop_nil] at h
    exact h
  | succ k ih =>
    intro i hk prog w A R s h
    obtain ⟨hp, gg, d, tk, os⟩ := s; obtain ⟨hl, hb, h1, h2, h⟩ := h
    wp_walk using wpAny_loadPart' hl, wpAny_loadPart' hb
    have hc : ((i : Int) + 1) = ((i + 1 : Nat) : Int) := by push_cast; rfl
    rcases Nat.lt_or_ge i xs.length with hx | hx
    · obtain ⟨t, hvx⟩ := rx.strAt hx
      have hi1 : (vs.toArray)[((i : Nat) : Int).toNat]? = some (.str xs[i] t) := by simpa using hvx
      have dx : xs.drop i = xs[i] :: xs.drop (i + 1) := List.drop_eq_getElem_cons hx
      rcases Nat.lt_or_ge i ys.length with hy | hy
      · obtain ⟨u, hvy⟩ := ry.strAt hy
        have hi2 : (ws.toArray)[((i : Nat) : Int).toNat]? = some (.str ys[i] u) := by simpa using hvy
        have dy : ys.drop i = ys[i] :: ys.drop (i + 1) := List.drop_eq_getElem_cons hy
        rw [dx, dy, ltL_cons] at h
        rw [hi1, hi2]
        refine wpAny_bind (EqAt.str_str xs[i] t ys[i] u prog w _ _ ?_)
        by_cases he : xs[i] = ys[i]
        · rw [if_pos he] at h
          have hb' : (xs[i] == ys[i]) = true := by simpa using he
          rw [hb']
          wp_walk
          rw [hc]
          exact ⟨plainId_quiet plain_eq_loop' _, codeAny_builtin entry_eq_loop' (by
            rw [Around.under_plainId plain_eq_loop' _]
            exact ih (i + 1) (by omega) prog w A R _ ⟨hl, hb, hx, hy, h⟩)⟩
        · rw [if_neg he] at h
          have hb' : (xs[i] == ys[i]) = false := by simpa using he
          rw [hb']
          wp_walk using wpAny_loadPart' hl, wpAny_loadPart' hb
          rw [hi1, hi2]
          refine wpAny_bind (rc_lt_str (x := xs[i]) (y := ys[i]) ?_)
          wp_walk
          exact h
      · have hi2 : (ws.toArray)[((i : Nat) : Int).toNat]? = none := by simp; omega
        have dy : ys.drop i = [] := by simp; omega
        rw [dx, dy] at h
        rw [hi1, hi2]
        wp_walk using wpAny_loadPart' hl, wpAny_loadPart' hb
        show R (.ok (.ret (.bool (decide (vs.toArray.size < ws.toArray.size)))) ) _
        have e : decide (vs.toArray.size < ws.toArray.size) = false := by simp; omega
        rw [e]; exact h
    · have hi1 : (vs.toArray)[((i : Nat) : Int).toNat]? = none := by simp; omega
      have dx : xs.drop i = [] := by simp; omega
      rcases Nat.lt_or_ge i ys.length with hy | hy
      · have dy : ys.drop i = ys[i] :: ys.drop (i + 1) := List.drop_eq_getElem_cons hy
        rw [dx, dy] at h
        rw [hi1]
        wp_walk using wpAny_loadPart' hl, wpAny_loadPart' hb
        show R (.ok (.ret (.bool (decide (vs.toArray.size < ws.toArray.size)))) ) _
        have e : decide (vs.toArray.size < ws.toArray.size) = true := by simp; omega
        rw [e]; exact h
      · have dy : ys.drop i = [] := by simp; omega
        rw [dx, dy] at h
        rw [hi1]
        wp_walk using wpAny_loadPart' hl, wpAny_loadPart' hb
        show R (.ok (.ret (.bool (decide (vs.toArray.size < ws.toArray.size)))) ) _
        have e : decide (vs.toArray.size < ws.toArray.size) = false := by simp; omega
        rw [e]; exact h
theorem lt_list {prog : Program} {w : World} {A : Around} {E : Value → Shared → Prop} {Q : Value → Shared → Prop} {s : Shared} {g : Heap} {a b : Value} {xs ys : List Str} {j : Nat} (k : Kp g s.heap) (o : Ok A j)
    (ra : Rd g a (.list (xs.map .str))) (rb : Rd g b (.list (ys.map .str))) (h : Q (.bool (ltL xs ys)) s) : wpAny (model prog w) A (richCompare .Lt a b) Q E s := by
  obtain ⟨a, vs, rfl, hl, rx⟩ := ra.list_inv
  obtain ⟨b, ws, rfl, hb, ry⟩ := rb.list_inv
  obtain ⟨⟨cls, dd, data, sl⟩, ho, hc, n, hd⟩ := hl
  obtain ⟨⟨cls2, dd2, data2, sl2⟩, ho2, hc2, n2, hd2⟩ := hb
  simp only at hc hd hc2 hd2
  subst hc hd hc2 hd2
  have ho := k _ _ ho
  have ho2 := k _ _ ho2
  refine richCompare_meets_room (op := .Lt) ⟨_, ho, rfl⟩ ⟨_, ho2, rfl⟩ F.slot_list_lt F.entry_list_lt (F.args_list_lt_2 _ _) (S := fun A R s => s.heap.get? a = some { cls := .type "list", dict := dd, data := .seq vs.toArray n, slots := sl } ∧ s.heap.get? b = some { cls := .type "list", dict := dd2, data := .seq ws.toArray n2, slots := sl2 } ∧ R (.ok (.ret (.bool (ltL xs ys)))) s) ?_
    ⟨ho, ho2, show Value.bool (ltL xs ys) ≠ Value.notImplemented ∧ Q (.bool (ltL xs ys)) s from ⟨(fun x => nomatch x), h⟩⟩ (by have := o.units; omega)
  intro prog w A R s h
  obtain ⟨hp, gg, d, tk, os⟩ := s; obtain ⟨hl, hb, h⟩ := h
  have f3 := AutoSeq1.sub_list_list
  wp_walk using wpAny_loadPart' hl, wpAny_loadPart' hb
  exact ⟨plainId_quiet plain_eq_loop' _, codeAny_builtin entry_eq_loop' (by
    rw [Around.under_plainId plain_eq_loop' _]
    exact lt_loop a b n n2 dd dd2 sl sl2 rx ry _ 0 rfl prog w A R _ ⟨hl, hb, Nat.zero_le _, Nat.zero_le _, h⟩)⟩

theorem gt_loop (l b : Addr) {g : Heap} {vs ws : List Value} {xs ys : List Str} (n n2 : Nat) (dd dd2 : Option Addr) (sl sl2 : Array (Option Value)) (rx : RdL g vs (xs.map .str)) (ry : RdL g ws (ys.map .str)) (k : Nat) :
    ∀ i : Nat, xs.length + ys.length - i = k → Meets (Builtin.«list.__eq__.loop» ⟨[.ref l, .ref b, rawInt i, rawInt 4], []⟩)
      (fun _ R s => s.heap.get? l = some { cls := .type "list", dict := dd, data := .seq vs.toArray n, slots := sl } ∧ s.heap.get? b = some { cls := .type "list", dict := dd2, data := .seq ws.toArray n2, slots := sl2 } ∧
        i ≤ xs.length ∧ i ≤ ys.length ∧
        R (.ok (.ret (.bool (gtL (xs.drop i) (ys.drop i))))) s) := by
  have lx : vs.length = xs.length := by simpa using rx.length
  have ly : ws.length = ys.length := by simpa using ry.length
  induction k with
  | zero =>
    intro i hk prog w A R s h
    obtain ⟨hp, gg, d, tk, os⟩ := s; obtain ⟨hl, hb, h1, h2, h⟩ := h
    wp_walk using wpAny_loadPart' hl, wpAny_loadPart' hb
    have e1 : xs.length = 0 := by omega
    have e2 : ys.length = 0 := by omega
    have e3 : xs = [] := List.length_eq_zero_iff.mp e1
    have e4 : ys = [] := List.length_eq_zero_iff.mp e2
    subst e3 e4
    have e5 : vs = [] := List.length_eq_zero_iff.mp lx
    have e6 : ws = [] := List.length_eq_zero_iff.mp ly
    subst e5 e6
    have hi1 : (([] : List Value).toArray)[((i : Nat) : Int).toNat]? = none := by simp
    rw [hi1]
    wp_walk using wpAny_loadPart' hl, wpAny_loadPart' hb
    rw [List.drop_nil] at h
    exact h
  | succ k ih =>
    intro i hk prog w A R s h
    obtain ⟨hp, gg, d, tk, os⟩ := s; obtain ⟨hl, hb, h1, h2, h⟩ := h
    wp_walk using wpAny_loadPart' hl, wpAny_loadPart' hb
    have hc : ((i : Int) + 1) = ((i + 1 : Nat) : Int) := by push_cast; rfl
    rcases Nat.lt_or_ge i xs.length with hx | hx
    · obtain ⟨t, hvx⟩ := rx.strAt hx
      have hi1 : (vs.toArray)[((i : Nat) : Int).toNat]? = some (.str xs[i] t) := by simpa using hvx
      have dx : xs.drop i = xs[i] :: xs.drop (i + 1) := List.drop_eq_getElem_cons hx
      rcases Nat.lt_or_ge i ys.length with hy | hy
      · obtain ⟨u, hvy⟩ := ry.strAt hy
        have hi2 : (ws.toArray)[((i : Nat) : Int).toNat]? = some (.str ys[i] u) := by simpa using hvy
        have dy : ys.drop i = ys[i] :: ys.drop (i + 1) := List.drop_eq_getElem_cons hy
        rw [dx, dy, gtL_cons] at h
        rw [hi1, hi2]
        refine wpAny_bind (EqAt.str_str xs[i] t ys[i] u prog w _ _ ?_)
        by_cases he : xs[i] = ys[i]
        · rw [if_pos he] at h
          have hb' : (xs[i] == ys[i]) = true := by simpa using he
          rw [hb']
          wp_walk
          rw [hc]
          exact ⟨plainId_quiet plain_eq_loop' _, codeAny_builtin entry_eq_loop' (by
            rw [Around.under_plainId plain_eq_loop' _]
            exact ih (i + 1) (by omega) prog w A R _ ⟨hl, hb, hx, hy, h⟩)⟩
        · rw [if_neg he] at h
          have hb' : (xs[i] == ys[i]) = false := by simpa using he
          rw [hb']
          wp_walk using wpAny_loadPart' hl, wpAny_loadPart' hb
          rw [hi1, hi2]
          refine wpAny_bind (rc_gt_str (x := xs[i]) (y := ys[i]) ?_)
          wp_walk
          exact h
      · have hi2 : (ws.toArray)[((i : Nat) : Int).toNat]? = none := by simp; omega
        have dy : ys.drop i = [] := by simp; omega
        rw [dx, dy] at h
        rw [hi1, hi2]
        wp_walk using wpAny_loadPart' hl, wpAny_loadPart' hb
        show R (.ok (.ret (.bool (decide (vs.toArray.size > ws.toArray.size)))) ) _
        have e : decide (vs.toArray.size > ws.toArray.size) = true := by simp; omega
        rw [e]; exact h
    · have hi1 : (vs.toArray)[((i : Nat) : Int).toNat]? = none := by simp; omega
      have dx : xs.drop i = [] := by simp; omega
      rcases Nat.lt_or_ge i ys.length with hy | hy
      · have dy : ys.drop i = ys[i] :: ys.drop (i + 1) := List.drop_eq_getElem_cons hy
        rw [dx, dy] at h
        rw [hi1]
        wp_walk using wpAny_loadPart' hl, wpAny_loadPart' hb
        show R (.ok (.ret (.bool (decide (vs.toArray.size > ws.toArray.size)))) ) _
        have e : decide (vs.toArray.size > ws.toArray.size) = false := by simp; omega
        rw [e]; exact h
      · have dy : ys.drop i = [] := by simp; omega
        rw [dx, dy] at h
        rw [hi1]
        wp_walk using wpAny_loadPart' hl, wpAny_loadPart' hb
        show R (.ok (.ret (.bool (decide (vs.toArray.size > ws.toArray.size)))) ) _
        have e : decide (vs.toArray.size > ws.toArray.size) = false := by simp; omega
        rw [e]; exact h
theorem gt_list {prog : Program} {w : World} {A : Around} {E : Value → Shared → Prop} {Q : Value → Shared → Prop} {s : Shared} {g : Heap} {a b : Value} {xs ys : List Str} {j : Nat} (k : Kp g s.heap) (o : Ok A j)
    (ra : Rd g a (.list (xs.map .str))) (rb : Rd g b (.list (ys.map .str))) (h : Q (.bool (gtL xs ys)) s) : wpAny (model prog w) A (richCompare .Gt a b) Q E s := by
  obtain ⟨a, vs, rfl, hl, rx⟩ := ra.list_inv
  obtain ⟨b, ws, rfl, hb, ry⟩ := rb.list_inv
  obtain ⟨⟨cls, dd, data, sl⟩, ho, hc, n, hd⟩ := hl
  obtain ⟨⟨cls2, dd2, data2, sl2⟩, ho2, hc2, n2, hd2⟩ := hb
  simp only at hc hd hc2 hd2
  subst hc hd hc2 hd2
  have ho := k _ _ ho
  have ho2 := k _ _ ho2
  refine richCompare_meets_room (op := .Gt) ⟨_, ho, rfl⟩ ⟨_, ho2, rfl⟩ F.slot_list_gt F.entry_list_gt (F.args_list_gt_2 _ _) (S := fun A R s => s.heap.get? a = some { cls := .type "list", dict := dd, data := .seq vs.toArray n, slots := sl } ∧ s.heap.get? b = some { cls := .type "list", dict := dd2, data := .seq ws.toArray n2, slots := sl2 } ∧ R (.ok (.ret (.bool (gtL xs ys)))) s) ?_
    ⟨ho, ho2, show Value.bool (gtL xs ys) ≠ Value.notImplemented ∧ Q (.bool (gtL xs ys)) s from ⟨(fun x => nomatch x), h⟩⟩ (by have := o.units; omega)
  intro prog w A R s h
  obtain ⟨hp, gg, d, tk, os⟩ := s; obtain ⟨hl, hb, h⟩ := h
  have f3 := AutoSeq1.sub_list_list
  wp_walk using wpAny_loadPart' hl, wpAny_loadPart' hb
  exact ⟨plainId_quiet plain_eq_loop' _, codeAny_builtin entry_eq_loop' (by
    rw [Around.under_plainId plain_eq_loop' _]
    exact gt_loop a b n n2 dd dd2 sl sl2 rx ry _ 0 rfl prog w A R _ ⟨hl, hb, Nat.zero_le _, Nat.zero_le _, h⟩)⟩

/-- pairs of ints -/
def gtP (p q : Int × Int) : Bool := if p.1 = q.1 then decide (q.2 < p.2) else decide (q.1 < p.1)
theorem rc_gt_int {prog : Program} {w : World} {A : Around} {E : Value → Shared → Prop} {Q : Value → Shared → Prop} {s : Shared} {x y : Int} {t u : Tok} (h : Q (.bool (decide (y < x))) s) : wpAny (model prog w) A (richCompare .Gt (.int x t) (.int y u)) Q E s :=
  PyProof.Rows.gt_int h
theorem gt_tup (l b : Addr) (n n2 : Nat) (dd dd2 : Option Addr) (sl sl2 : Array (Option Value)) (a1 a2 b1 b2 : Int) (t1 t2 u1 u2 : Tok) :
    Meets (Builtin.«tuple.__gt__» ⟨[.ref l, .ref b], []⟩)
      (fun _ R s => s.heap.get? l = some { cls := .type "tuple", dict := dd, data := .seq #[.int a1 t1, .int a2 t2] n, slots := sl } ∧ s.heap.get? b = some { cls := .type "tuple", dict := dd2, data := .seq #[.int b1 u1, .int b2 u2] n2, slots := sl2 } ∧
        R (.ok (.ret (.bool (gtP (a1, a2) (b1, b2))))) s) :=
  .of_wp fun prog w A R s h => by
    obtain ⟨hp, g, d, tk, os⟩ := s; obtain ⟨hl, hb, h⟩ := h
    have f2 := AutoSeq1.sub_tuple_tuple
    wp_walk using wpAny_loadPart' hl, wpAny_loadPart' hb, wpAny_forIn_list _ (fun rest b s' => b.1 = none ∧ s' = ⟨hp, g, d, tk, os⟩ ∧
      ((rest = [(Value.int a1 t1, Value.int b1 u1), (Value.int a2 t2, Value.int b2 u2)] ∧ R (.ok (.ret (.bool (gtP (a1, a2) (b1, b2))))) ⟨hp, g, d, tk, os⟩) ∨
       (rest = [(Value.int a2 t2, Value.int b2 u2)] ∧ R (.ok (.ret (.bool (decide (b2 < a2))))) ⟨hp, g, d, tk, os⟩) ∨
       (rest = [] ∧ R (.ok (.ret (.bool false))) ⟨hp, g, d, tk, os⟩))) _
    case turn =>
      rintro ⟨y, x⟩ rest b s' ⟨hb', rfl, h1⟩
      rcases h1 with ⟨e, hR⟩ | ⟨e, hR⟩ | ⟨e, _⟩
      · cases e
        refine wpAny_bind (EqAt.int_int a1 t1 b1 u1 prog w _ _ ?_)
        by_cases he : a1 = b1
        · rw [show (a1 == b1) = true by simpa using he]
          have e1 : gtP (a1, a2) (b1, b2) = decide (b2 < a2) := if_pos he
          rw [e1] at hR
          wp_walk
          exact ⟨rfl, rfl, .inr (.inl ⟨rfl, hR⟩)⟩
        · rw [show (a1 == b1) = false by simpa using he]
          have e1 : gtP (a1, a2) (b1, b2) = decide (b1 < a1) := if_neg he
          rw [e1] at hR
          refine wpAny_bind (wpAny_rule ?_)
          refine wpAny_bind (rc_gt_int ?_)
          wp_walk
          exact ⟨_, rfl, hR⟩
      · cases e
        refine wpAny_bind (EqAt.int_int a2 t2 b2 u2 prog w _ _ ?_)
        by_cases he : a2 = b2
        · rw [show (a2 == b2) = true by simpa using he]
          have e1 : decide (b2 < a2) = false := by simp; omega
          rw [e1] at hR
          wp_walk
          exact ⟨rfl, rfl, .inr (.inr ⟨rfl, hR⟩)⟩
        · rw [show (a2 == b2) = false by simpa using he]
          refine wpAny_bind (wpAny_rule ?_)
          refine wpAny_bind (rc_gt_int ?_)
          wp_walk
          exact ⟨_, rfl, hR⟩
      · cases e
    case fin =>
      rintro ⟨b1, b2⟩ s' ⟨hb', rfl, h1⟩
      simp only at hb'
      subst hb'
      rcases h1 with ⟨e, hR⟩ | ⟨e, hR⟩ | ⟨_, hR⟩
      · cases e
      · cases e
      · wp_walk
        exact ⟨_, rfl, hR⟩
    case h =>
      exact ⟨rfl, rfl, .inl ⟨rfl, h⟩⟩
theorem gt_pair {prog : Program} {w : World} {A : Around} {E : Value → Shared → Prop} {Q : Value → Shared → Prop} {s : Shared} {g : Heap} {a b : Value} {p q : Int × Int} {j : Nat} (k : Kp g s.heap) (o : Ok A j)
    (ra : Rd g a (.tuple [.int p.1, .int p.2])) (rb : Rd g b (.tuple [.int q.1, .int q.2])) (h : Q (.bool (gtP p q)) s) : wpAny (model prog w) A (richCompare .Gt a b) Q E s := by
  obtain ⟨a, vs, rfl, hl, rx⟩ := ra.tuple_inv
  obtain ⟨b, ws, rfl, hb, ry⟩ := rb.tuple_inv
  obtain ⟨v1, vs, rfl, r1, rx⟩ := rx.cons_inv
  obtain ⟨v2, vs, rfl, r2, rx⟩ := rx.cons_inv
  obtain rfl := rx.nil_inv
  obtain ⟨w1, ws, rfl, q1, ry⟩ := ry.cons_inv
  obtain ⟨w2, ws, rfl, q2, ry⟩ := ry.cons_inv
  obtain rfl := ry.nil_inv
  obtain ⟨t1, rfl⟩ := r1.int_inv
  obtain ⟨t2, rfl⟩ := r2.int_inv
  obtain ⟨u1, rfl⟩ := q1.int_inv
  obtain ⟨u2, rfl⟩ := q2.int_inv
  obtain ⟨⟨cls, dd, data, sl⟩, ho, hc, n, hd⟩ := hl
  obtain ⟨⟨cls2, dd2, data2, sl2⟩, ho2, hc2, n2, hd2⟩ := hb
  simp only at hc hd hc2 hd2
  subst hc hd hc2 hd2
  have ho := k _ _ ho
  have ho2 := k _ _ ho2
  exact richCompare_meets_room (op := .Gt) ⟨_, ho, rfl⟩ ⟨_, ho2, rfl⟩ F.slot_tuple_gt F.entry_tuple_gt (F.args_tuple_gt_2 _ _) (gt_tup a b n n2 dd dd2 sl sl2 p.1 p.2 q.1 q.2 t1 t2 u1 u2)
    ⟨ho, ho2, show Value.bool (gtP (p.1, p.2) (q.1, q.2)) ≠ Value.notImplemented ∧ Q (.bool (gtP (p.1, p.2) (q.1, q.2))) s from ⟨(fun x => nomatch x), h⟩⟩ (by have := o.units; omega)

/-- min of a list, by an order known on the frozen part -/
theorem minl_loop {w : World} {A : Around} {R : Result → Shared → Prop} {g g0 : Heap} {s0 : Core} {L : Addr} {m : Str → Option Value} {mu : List (Addr × Obj)} {I : Addr} {l : Addr} {vs : List Value} (hh : A.handled = none) (bt : Nat → Nat → Bool)
    (hl : g.IsList l vs.toArray)
    (hcmp : ∀ i j vi vj (s : Shared) (Q : Value → Shared → Prop) (E : Value → Shared → Prop), Kp g s.heap → vs[i]? = some vi → vs[j]? = some vj → Q (.bool (bt i j)) s → wpAny (model Pg w) A.in1 (richCompare .Lt vi vj) Q E s)
    (D : Addr) (hR : ∀ v s', vs[argBest bt (vs.length - 1)]? = some v → St g0 s0 g L m mu (core s') → R (.ok (.ret v)) s') :
    ∀ (k j : Nat) (s : Shared) (vb : Value) (c : Nat) (ob : Obj), vs.length - (j + 1) = k → j + 1 ≤ vs.length → vs[argBest bt j]? = some vb → LIt l (j + 1) ob → St g0 s0 g L m ((I, ob) :: (D, lob [vb, vb] c) :: mu) (core s) →
    codeAny (model Pg w) A (.builtin "min.loop" ⟨[.ref I, .none, .ref D], []⟩) R s := by
  have hname : (toString "min" ++ toString ".loop" : String) = "min.loop" := by decide
  intro k
  induction k with
  | zero =>
    intro j s vb c ob hk hj hvb hit S
    have hin : j + 1 = vs.length := by omega
    refine codeAny_builtin PySem.F.entry_min_loop ?_
    rw [Around.under_plainId PySem.F.plain_min_loop _]
    have hS := (S.has (D, lob [vb, vb] c) (by simp)).1
    show wpAny _ A.in1 (seqItems? (.ref D) >>= _) _ _ s
    refine wpAny_bind (wpAny_seqItems hS rfl ?_)
    show wpAny _ A.in1 (tryCatch (pyNext (.ref I)) _ >>= _) _ _ s
    obtain ⟨ms, W, hms⟩ := itr_list (pre := []) hl S hit w
    refine wpAny_bind (wpAny_tryCatch (wpAny_mono ((W A.in1 (.Name (Str.ofString "x") ⟨0, 0, 0, 0⟩) hh).done g0 s0 g L m ((D, lob [vb, vb] c) :: mu) [(I, ob)] s (fun s' => St g0 s0 g L m ((D, lob [vb, vb] c) :: mu) (core s')) (Kp.refl _) (hin ▸ hms) S fun s' S' => S') (fun r s' h => ?_) fun _ _ f => f.elim))
    cases r with
    | some v => exact h.elim
    | none =>
      have hS' := (h.has (D, lob [vb, vb] c) (by simp)).1
      show wpAny _ A.in1 (updateSeq D (fun _ => #[]) >>= _) _ _ _
      refine wpAny_bind ?_
      refine wpAny_updateSeq hS' rfl (wpAny_bind (wpAny_letGo (wpAny_pure ?_)))
      refine hR vb _ (by rw [← hin]; exact hvb) ?_
      exact St.lose (pre := []) h fun b x hb e => (Heap.get?_update_other _ _ (Ne.symm hb)).trans e
  | succ k ih =>
    intro j s vb c ob hk hj hvb hit S
    have hlt : j + 1 < vs.length := by omega
    refine codeAny_builtin PySem.F.entry_min_loop ?_
    rw [Around.under_plainId PySem.F.plain_min_loop _]
    have hS := (S.has (D, lob [vb, vb] c) (by simp)).1
    show wpAny _ A.in1 (seqItems? (.ref D) >>= _) _ _ s
    refine wpAny_bind (wpAny_seqItems hS rfl ?_)
    show wpAny _ A.in1 (tryCatch (pyNext (.ref I)) _ >>= _) _ _ s
    have hiter : s.heap.IsListIter I l (j + 1) := ⟨ob, (S.has (I, ob) (.head _)).1, hit.1, hit.2⟩
    have hls : s.heap.IsList l vs.toArray := by obtain ⟨ol, hol, r⟩ := hl; exact ⟨ol, S.kp _ _ hol, r⟩
    refine wpAny_bind (wpAny_tryCatch (wpAny_pyNext_list_item hiter hls (x := vs[j + 1]) (by simp [hlt]) fun h' hit' hs' => ?_))
    obtain ⟨ob', hob', hc', hd'⟩ := hit'
    have S' := St.upd (pre := []) S (h' := h') (o' := ob') (fun b x hb e => (hs'.2 b hb).trans e) hob'
    have hS' := (S'.has (D, lob [vb, vb] c) (by simp)).1
    have hv : vs[j + 1]? = some vs[j + 1] := by simp [hlt]
    show wpAny _ A.in1 (tryCatch (holding [vs[j + 1], vs[j + 1]] (richCompare .Lt vs[j + 1] vb >>= _)) _ >>= _) _ _ _
    refine wpAny_bind (wpAny_tryCatch (wpAny_holding (wpAny_bind (hcmp (j + 1) (argBest bt j) vs[j + 1] vb _ _ _ S'.kp hv hvb ?_))))
    refine wpAny_bind (wpAny_holding (wpAny_truthy_bool ?_))
    refine wpAny_bind (wpAny_letGo (wpAny_pure ?_))
    cases hb : bt (j + 1) (argBest bt j) with
    | true =>
      simp only [if_true]
      refine wpAny_bind ?_
      refine wpAny_updateSeq hS' rfl (wpAny_bind (wpAny_letGo ?_))
      rw [hname]
      obtain ⟨c', ec⟩ : ∃ c', Obj.mapSeq (fun _ => #[vs[j + 1], vs[j + 1]]) (lob [vb, vb] c) = lob [vs[j + 1], vs[j + 1]] c' := ⟨_, rfl⟩
      refine wpAny_pure ⟨plainId_quiet PySem.F.plain_min_loop _, ih (j + 1) _ vs[j + 1] c' ob' (by omega) hlt (by simp only [argBest, hb, if_true]; exact hv) ⟨hc', hd'⟩ ?_⟩
      exact St.upd (pre := [(I, ob')]) (o' := lob [vs[j + 1], vs[j + 1]] c') S' (h' := h'.update D (·.mapSeq fun _ => #[vs[j + 1], vs[j + 1]])) (fun b x hb e => (Heap.get?_update_other _ _ (Ne.symm hb)).trans e) ((Heap.get?_update_self (h := h') (a := D) (fun x => Obj.mapSeq (fun _ => #[vs[j + 1], vs[j + 1]]) x) hS' rfl).trans (congrArg some ec))
    | false =>
      simp only [Bool.false_eq_true, if_false]
      refine wpAny_bind (wpAny_letGo ?_)
      rw [hname]
      exact wpAny_pure ⟨plainId_quiet PySem.F.plain_min_loop _, ih (j + 1) _ vb c ob' (by omega) hlt (by simp only [argBest, hb, Bool.false_eq_true, if_false]; exact hvb) ⟨hc', hd'⟩ S'⟩
theorem minl {w : World} {A : Around} {g g0 : Heap} {s0 : Core} {L : Addr} {m : Str → Option Value} {mu : List (Addr × Obj)} {l : Addr} {vs : List Value} {s : Shared} {Q E : Value → Shared → Prop} (hh : A.handled = none) (bt : Nat → Nat → Bool)
    (hl : g.IsList l vs.toArray) (h0 : 0 < vs.length) (S : St g0 s0 g L m mu (core s))
    (hcmp : ∀ i j vi vj (s : Shared) (Q : Value → Shared → Prop) (E : Value → Shared → Prop), Kp g s.heap → vs[i]? = some vi → vs[j]? = some vj → Q (.bool (bt i j)) s → wpAny (model Pg w) A.in1 (richCompare .Lt vi vj) Q E s)
    (hR : ∀ v s', vs[argBest bt (vs.length - 1)]? = some v → St g0 s0 g L m mu (core s') → Q v s') : wpAny (model Pg w) A (call (.builtin "min") [.ref l]) Q E s := by
  have hname : (toString "min" ++ toString ".loop" : String) = "min.loop" := by decide
  refine call_function_tree PySem.F.kind_min PySem.F.plain_min PySem.F.entry_min (PySem.F.args_min1 _) ?_
  show wpAny _ A.in1 (Builtin.Builtins.bindParams "min" ["key", "default"] 0 ⟨[], []⟩ >>= _) _ _ s
  refine wpAny_bind (wpAny_of_eq (show Builtin.Builtins.bindParams "min" ["key", "default"] 0 ⟨[], []⟩ = pure [none, none] from rfl) ?_)
  refine wpAny_bind (wpAny_pure ?_)
  refine wpAny_bind (pyIter_raw hl S fun I o s2 hit S2 => ?_)
  refine wpAny_bind (lstO S2 fun D s3 S3 => ?_)
  rw [hname]
  refine wpAny_pure ⟨plainId_quiet PySem.F.plain_min_loop _, ?_⟩
  refine codeAny_builtin PySem.F.entry_min_loop ?_
  rw [Around.under_plainId PySem.F.plain_min_loop _]
  have hS := (S3.has (D, lob [] 0) (by simp)).1
  show wpAny _ _ (seqItems? (.ref D) >>= _) _ _ _
  refine wpAny_bind (wpAny_seqItems hS rfl ?_)
  show wpAny _ _ (tryCatch (pyNext (.ref I)) _ >>= _) _ _ _
  have hiter : s3.heap.IsListIter I l 0 := ⟨o, (S3.has (I, o) (by simp)).1, hit.1, hit.2⟩
  have hls : s3.heap.IsList l vs.toArray := by obtain ⟨ol, hol, r⟩ := hl; exact ⟨ol, S3.kp _ _ hol, r⟩
  refine wpAny_bind (wpAny_tryCatch (wpAny_pyNext_list_item hiter hls (x := vs[0]) (by simp [h0]) fun h' hit' hs' => ?_))
  obtain ⟨ob', hob', hc', hd'⟩ := hit'
  have S' := St.upd (pre := [(D, lob [] 0)]) S3 (h' := h') (o' := ob') (fun b x hb e => (hs'.2 b hb).trans e) hob'
  have hS' := (S'.has (D, lob [] 0) (by simp)).1
  show wpAny _ _ (updateSeq D (fun _ => #[vs[0], vs[0]]) >>= _) _ _ _
  refine wpAny_bind ?_
  refine wpAny_updateSeq hS' rfl ?_
  rw [hname]
  refine wpAny_pure ⟨plainId_quiet PySem.F.plain_min_loop _, minl_loop (I := I) (D := D) hh bt hl hcmp (fun v s' hv S' => hR v s' hv S') _ 0 _ vs[0] 1 ob' rfl h0 (by simp [argBest, h0]) ⟨hc', hd'⟩ ?_⟩
  have S4 := St.upd (pre := []) (o' := lob [vs[0], vs[0]] 1) S' (h' := h'.update D (·.mapSeq fun _ => #[vs[0], vs[0]])) (fun b x hb e => (Heap.get?_update_other _ _ (Ne.symm hb)).trans e) (Heap.get?_update_self _ hS' rfl)
  exact S4.perm (.swap _ _ _)

/-- max of a list, by an order known on the frozen part -/
theorem maxl_loop {w : World} {A : Around} {R : Result → Shared → Prop} {g g0 : Heap} {s0 : Core} {L : Addr} {m : Str → Option Value} {mu : List (Addr × Obj)} {I : Addr} {l : Addr} {vs : List Value} (hh : A.handled = none) (bt : Nat → Nat → Bool)
    (hl : g.IsList l vs.toArray)
    (hcmp : ∀ i j vi vj (s : Shared) (Q : Value → Shared → Prop) (E : Value → Shared → Prop), Kp g s.heap → vs[i]? = some vi → vs[j]? = some vj → Q (.bool (bt i j)) s → wpAny (model Pg w) A.in1 (richCompare .Gt vi vj) Q E s)
    (D : Addr) (hR : ∀ v s', vs[argBest bt (vs.length - 1)]? = some v → St g0 s0 g L m mu (core s') → R (.ok (.ret v)) s') :
    ∀ (k j : Nat) (s : Shared) (vb : Value) (c : Nat) (ob : Obj), vs.length - (j + 1) = k → j + 1 ≤ vs.length → vs[argBest bt j]? = some vb → LIt l (j + 1) ob → St g0 s0 g L m ((I, ob) :: (D, lob [vb, vb] c) :: mu) (core s) →
    codeAny (model Pg w) A (.builtin "max.loop" ⟨[.ref I, .none, .ref D], []⟩) R s := by
  have hname : (toString "max" ++ toString ".loop" : String) = "max.loop" := by decide
  intro k
  induction k with
  | zero =>
    intro j s vb c ob hk hj hvb hit S
    have hin : j + 1 = vs.length := by omega
    refine codeAny_builtin PySem.F.entry_max_loop ?_
    rw [Around.under_plainId PySem.F.plain_max_loop _]
    have hS := (S.has (D, lob [vb, vb] c) (by simp)).1
    show wpAny _ A.in1 (seqItems? (.ref D) >>= _) _ _ s
    refine wpAny_bind (wpAny_seqItems hS rfl ?_)
    show wpAny _ A.in1 (tryCatch (pyNext (.ref I)) _ >>= _) _ _ s
    obtain ⟨ms, W, hms⟩ := itr_list (pre := []) hl S hit w
    refine wpAny_bind (wpAny_tryCatch (wpAny_mono ((W A.in1 (.Name (Str.ofString "x") ⟨0, 0, 0, 0⟩) hh).done g0 s0 g L m ((D, lob [vb, vb] c) :: mu) [(I, ob)] s (fun s' => St g0 s0 g L m ((D, lob [vb, vb] c) :: mu) (core s')) (Kp.refl _) (hin ▸ hms) S fun s' S' => S') (fun r s' h => ?_) fun _ _ f => f.elim))
    cases r with
    | some v => exact h.elim
    | none =>
      have hS' := (h.has (D, lob [vb, vb] c) (by simp)).1
      show wpAny _ A.in1 (updateSeq D (fun _ => #[]) >>= _) _ _ _
      refine wpAny_bind ?_
      refine wpAny_updateSeq hS' rfl (wpAny_bind (wpAny_letGo (wpAny_pure ?_)))
      refine hR vb _ (by rw [← hin]; exact hvb) ?_
      exact St.lose (pre := []) h fun b x hb e => (Heap.get?_update_other _ _ (Ne.symm hb)).trans e
  | succ k ih =>
    intro j s vb c ob hk hj hvb hit S
    have hlt : j + 1 < vs.length := by omega
    refine codeAny_builtin PySem.F.entry_max_loop ?_
    rw [Around.under_plainId PySem.F.plain_max_loop _]
    have hS := (S.has (D, lob [vb, vb] c) (by simp)).1
    show wpAny _ A.in1 (seqItems? (.ref D) >>= _) _ _ s
    refine wpAny_bind (wpAny_seqItems hS rfl ?_)
    show wpAny _ A.in1 (tryCatch (pyNext (.ref I)) _ >>= _) _ _ s
    have hiter : s.heap.IsListIter I l (j + 1) := ⟨ob, (S.has (I, ob) (.head _)).1, hit.1, hit.2⟩
    have hls : s.heap.IsList l vs.toArray := by obtain ⟨ol, hol, r⟩ := hl; exact ⟨ol, S.kp _ _ hol, r⟩
    refine wpAny_bind (wpAny_tryCatch (wpAny_pyNext_list_item hiter hls (x := vs[j + 1]) (by simp [hlt]) fun h' hit' hs' => ?_))
    obtain ⟨ob', hob', hc', hd'⟩ := hit'
    have S' := St.upd (pre := []) S (h' := h') (o' := ob') (fun b x hb e => (hs'.2 b hb).trans e) hob'
    have hS' := (S'.has (D, lob [vb, vb] c) (by simp)).1
    have hv : vs[j + 1]? = some vs[j + 1] := by simp [hlt]
    show wpAny _ A.in1 (tryCatch (holding [vs[j + 1], vs[j + 1]] (richCompare .Gt vs[j + 1] vb >>= _)) _ >>= _) _ _ _
    refine wpAny_bind (wpAny_tryCatch (wpAny_holding (wpAny_bind (hcmp (j + 1) (argBest bt j) vs[j + 1] vb _ _ _ S'.kp hv hvb ?_))))
    refine wpAny_bind (wpAny_holding (wpAny_truthy_bool ?_))
    refine wpAny_bind (wpAny_letGo (wpAny_pure ?_))
    cases hb : bt (j + 1) (argBest bt j) with
    | true =>
      simp only [if_true]
      refine wpAny_bind ?_
      refine wpAny_updateSeq hS' rfl (wpAny_bind (wpAny_letGo ?_))
      rw [hname]
      obtain ⟨c', ec⟩ : ∃ c', Obj.mapSeq (fun _ => #[vs[j + 1], vs[j + 1]]) (lob [vb, vb] c) = lob [vs[j + 1], vs[j + 1]] c' := ⟨_, rfl⟩
      refine wpAny_pure ⟨plainId_quiet PySem.F.plain_max_loop _, ih (j + 1) _ vs[j + 1] c' ob' (by omega) hlt (by simp only [argBest, hb, if_true]; exact hv) ⟨hc', hd'⟩ ?_⟩
      exact St.upd (pre := [(I, ob')]) (o' := lob [vs[j + 1], vs[j + 1]] c') S' (h' := h'.update D (·.mapSeq fun _ => #[vs[j + 1], vs[j + 1]])) (fun b x hb e => (Heap.get?_update_other _ _ (Ne.symm hb)).trans e) ((Heap.get?_update_self (h := h') (a := D) (fun x => Obj.mapSeq (fun _ => #[vs[j + 1], vs[j + 1]]) x) hS' rfl).trans (congrArg some ec))
    | false =>
      simp only [Bool.false_eq_true, if_false]
      refine wpAny_bind (wpAny_letGo ?_)
      rw [hname]
      exact wpAny_pure ⟨plainId_quiet PySem.F.plain_max_loop _, ih (j + 1) _ vb c ob' (by omega) hlt (by simp only [argBest, hb, Bool.false_eq_true, if_false]; exact hvb) ⟨hc', hd'⟩ S'⟩
theorem maxl {w : World} {A : Around} {g g0 : Heap} {s0 : Core} {L : Addr} {m : Str → Option Value} {mu : List (Addr × Obj)} {l : Addr} {vs : List Value} {s : Shared} {Q E : Value → Shared → Prop} (hh : A.handled = none) (bt : Nat → Nat → Bool)
    (hl : g.IsList l vs.toArray) (h0 : 0 < vs.length) (S : St g0 s0 g L m mu (core s))
    (hcmp : ∀ i j vi vj (s : Shared) (Q : Value → Shared → Prop) (E : Value → Shared → Prop), Kp g s.heap → vs[i]? = some vi → vs[j]? = some vj → Q (.bool (bt i j)) s → wpAny (model Pg w) A.in1 (richCompare .Gt vi vj) Q E s)
    (hR : ∀ v s', vs[argBest bt (vs.length - 1)]? = some v → St g0 s0 g L m mu (core s') → Q v s') : wpAny (model Pg w) A (call (.builtin "max") [.ref l]) Q E s := by
  have hname : (toString "max" ++ toString ".loop" : String) = "max.loop" := by decide
  refine call_function_tree PySem.F.kind_max PySem.F.plain_max PySem.F.entry_max (PySem.F.args_max1 _) ?_
  show wpAny _ A.in1 (Builtin.Builtins.bindParams "max" ["key", "default"] 0 ⟨[], []⟩ >>= _) _ _ s
  refine wpAny_bind (wpAny_of_eq (show Builtin.Builtins.bindParams "max" ["key", "default"] 0 ⟨[], []⟩ = pure [none, none] from rfl) ?_)
  refine wpAny_bind (wpAny_pure ?_)
  refine wpAny_bind (pyIter_raw hl S fun I o s2 hit S2 => ?_)
  refine wpAny_bind (lstO S2 fun D s3 S3 => ?_)
  rw [hname]
  refine wpAny_pure ⟨plainId_quiet PySem.F.plain_max_loop _, ?_⟩
  refine codeAny_builtin PySem.F.entry_max_loop ?_
  rw [Around.under_plainId PySem.F.plain_max_loop _]
  have hS := (S3.has (D, lob [] 0) (by simp)).1
  show wpAny _ _ (seqItems? (.ref D) >>= _) _ _ _
  refine wpAny_bind (wpAny_seqItems hS rfl ?_)
  show wpAny _ _ (tryCatch (pyNext (.ref I)) _ >>= _) _ _ _
  have hiter : s3.heap.IsListIter I l 0 := ⟨o, (S3.has (I, o) (by simp)).1, hit.1, hit.2⟩
  have hls : s3.heap.IsList l vs.toArray := by obtain ⟨ol, hol, r⟩ := hl; exact ⟨ol, S3.kp _ _ hol, r⟩
  refine wpAny_bind (wpAny_tryCatch (wpAny_pyNext_list_item hiter hls (x := vs[0]) (by simp [h0]) fun h' hit' hs' => ?_))
  obtain ⟨ob', hob', hc', hd'⟩ := hit'
  have S' := St.upd (pre := [(D, lob [] 0)]) S3 (h' := h') (o' := ob') (fun b x hb e => (hs'.2 b hb).trans e) hob'
  have hS' := (S'.has (D, lob [] 0) (by simp)).1
  show wpAny _ _ (updateSeq D (fun _ => #[vs[0], vs[0]]) >>= _) _ _ _
  refine wpAny_bind ?_
  refine wpAny_updateSeq hS' rfl ?_
  rw [hname]
  refine wpAny_pure ⟨plainId_quiet PySem.F.plain_max_loop _, maxl_loop (I := I) (D := D) hh bt hl hcmp (fun v s' hv S' => hR v s' hv S') _ 0 _ vs[0] 1 ob' rfl h0 (by simp [argBest, h0]) ⟨hc', hd'⟩ ?_⟩
  have S4 := St.upd (pre := []) (o' := lob [vs[0], vs[0]] 1) S' (h' := h'.update D (·.mapSeq fun _ => #[vs[0], vs[0]])) (fun b x hb e => (Heap.get?_update_other _ _ (Ne.symm hb)).trans e) (Heap.get?_update_self _ hS' rfl)
  exact S4.perm (.swap _ _ _)

end
section
open PySem PySem.W PyProof.Rows PySem.Calls
set_option maxHeartbeats 400000
def Nm (ns : List Str) : Prop := ∀ y ∈ ns, y = "a" ∨ y = "ab"
theorem Nm.take {ns : List Str} (h : Nm ns) (k : Nat) : Nm (ns.take k) := fun y hy => h y (List.mem_of_mem_take hy)
theorem Nm.dropLast {ns : List Str} (h : Nm ns) : Nm ns.dropLast := fun y hy => h y (List.dropLast_subset _ hy)
theorem Nm.nil : Nm [] := fun _ h => nomatch h
theorem Nm.ok {ns : List Str} (h : Nm ns) : ∀ y ∈ ns, PyData.strOk y = true := fun y hy => by rcases h y hy with rfl | rfl <;> decide +kernel
theorem canStrs : ∀ {ns : List Str}, (∀ y ∈ ns, PyData.strOk y = true) → PyData.canLayAll0 (ns.map .str) = true
  | [], _ => rfl
  | x :: xs, h => by
    simp only [List.map_cons, PyData.canLayAll0, PyData.canLay0, h x (.head _), canStrs (ns := xs) fun y hy => h y (.tail _ hy), Bool.and_self]
theorem depStrs : ∀ {ns : List Str}, PyData.depthAll (ns.map .str) = 0
  | [] => rfl
  | x :: xs => by simp [PyData.depthAll, PyData.depth, depStrs (ns := xs)]
theorem shaped_dN {ns : List Str} (h : ∀ y ∈ ns, PyData.strOk y = true) : SeqAt.shaped (dN ns) = true := by
  unfold SeqAt.shaped dN
  simp only [PyData.canLay0, canStrs h, PyData.depth, depStrs, Bool.true_and]
  decide
theorem eqvStrs : ∀ {xs ys : List Str}, PyData.eqvAll (xs.map .str) (ys.map .str) = decide (xs = ys)
  | [], [] => by simp [PyData.eqvAll]
  | [], _ :: _ => by simp [PyData.eqvAll]
  | _ :: _, [] => by simp [PyData.eqvAll]
  | x :: xs, y :: ys => by
    simp only [List.map_cons, PyData.eqvAll, PyData.eqv, eqvStrs (xs := xs) (ys := ys)]
    by_cases h : x = y <;> by_cases h' : xs = ys <;> simp [h, h']
theorem eqv_dN {xs ys : List Str} : PyData.eqv (dN xs) (dN ys) = decide (xs = ys) := eqvStrs
section
variable {mg mb : Str → Option Value} {fa : Nat → Addr} {dT mi : Addr} {w : World} {A : Around} {g g0 : Heap} {s : Shared} {s0 : Core} {Q : Value → Shared → Prop} {E : Value → Shared → Prop} {n : Nat}
  {env : Env} {L C : Addr} {m mc : Str → Option Value} {mu mu' : List (Addr × Obj)}
theorem eqN {a b : Value} {xs ys : List Str} {j : Nat} (S : St g0 s0 g L m mu (core s)) (ra : Rd g a (dN xs)) (rb : Rd g b (dN ys)) (o : Ok A j) (hx : Nm xs) (hy : Nm ys)
    (h : Q (.bool (decide (xs = ys))) s) : wpAny (model Pg w) A (compareOp .Eq a b) Q E s :=
  eqD ra rb o S (shaped_dN hx.ok) (shaped_dN hy.ok) (by rw [eqv_dN]; exact h)
/-- unpacking data -/
theorem asgD {elts : List Expr} {x1 : Nat} {pos : Pos} {v : Value} {ds : List PyData} {Q : Unit → Shared → Prop} {j : Nat} (o : Ok A j) (S : St g0 s0 g L m mu (core s)) (r : Rd g v (.tuple ds))
    (hn : (assignEach elts env).length = ds.length) (hstar : (assignEach elts env).findIdx? (·.1) = none)
    (h : ∀ vs s', RdL g vs ds → St g0 s0 g L m mu (core s') → wpAny (model Pg w) A (assignInOrder ((assignEach elts env).map (·.2)) vs) Q E s') :
    wpAny (model Pg w) A (assign (.Tuple elts x1 pos) env v) Q E s := by
  obtain ⟨a, vs, rfl, hT, hr⟩ := r.tuple_inv
  exact asgT o S hT (by rw [hn, List.size_toArray]; exact hr.length.symm) hstar fun s' S' => h _ _ (by simpa using hr) S'
theorem asg2 {elts : List Expr} {x1 : Nat} {pos : Pos} {v : Value} {d1 d2 : PyData} {Q : Unit → Shared → Prop} {j : Nat} (o : Ok A j) (S : St g0 s0 g L m mu (core s)) (r : Rd g v (.tuple [d1, d2]))
    (hn : (assignEach elts env).length = 2) (hstar : (assignEach elts env).findIdx? (·.1) = none)
    (h : ∀ v1 v2 s', Rd g v1 d1 → Rd g v2 d2 → St g0 s0 g L m mu (core s') → wpAny (model Pg w) A (assignInOrder ((assignEach elts env).map (·.2)) [v1, v2]) Q E s') :
    wpAny (model Pg w) A (assign (.Tuple elts x1 pos) env v) Q E s :=
  asgD o S r hn hstar fun vs s' hr S' => by
    obtain ⟨v1, vs, rfl, r1, hr⟩ := hr.cons_inv
    obtain ⟨v2, vs, rfl, r2, hr⟩ := hr.cons_inv
    obtain rfl := hr.nil_inv
    exact h v1 v2 s' r1 r2 S'
theorem asg3 {elts : List Expr} {x1 : Nat} {pos : Pos} {v : Value} {d1 d2 d3 : PyData} {Q : Unit → Shared → Prop} {j : Nat} (o : Ok A j) (S : St g0 s0 g L m mu (core s)) (r : Rd g v (.tuple [d1, d2, d3]))
    (hn : (assignEach elts env).length = 3) (hstar : (assignEach elts env).findIdx? (·.1) = none)
    (h : ∀ v1 v2 v3 s', Rd g v1 d1 → Rd g v2 d2 → Rd g v3 d3 → St g0 s0 g L m mu (core s') → wpAny (model Pg w) A (assignInOrder ((assignEach elts env).map (·.2)) [v1, v2, v3]) Q E s') :
    wpAny (model Pg w) A (assign (.Tuple elts x1 pos) env v) Q E s :=
  asgD o S r hn hstar fun vs s' hr S' => by
    obtain ⟨v1, vs, rfl, r1, hr⟩ := hr.cons_inv
    obtain ⟨v2, vs, rfl, r2, hr⟩ := hr.cons_inv
    obtain ⟨v3, vs, rfl, r3, hr⟩ := hr.cons_inv
    obtain rfl := hr.nil_inv
    exact h v1 v2 v3 s' r1 r2 r3 S'
/-- a list against the empty list -/
theorem eqE {a b : Value} {ds : List PyData} {j : Nat} (S : St g0 s0 g L m mu (core s)) (ra : Rd g a (.list ds)) (rb : Rd g b (.list [])) (o : Ok A j)
    (h : Q (.bool ds.isEmpty) s) : wpAny (model Pg w) A (compareOp .Eq a b) Q E s := by
  obtain ⟨a, vs, rfl, hl, hr⟩ := ra.list_inv
  obtain ⟨b, ws, rfl, hb, hr'⟩ := rb.list_inv
  obtain rfl := hr'.nil_inv
  have n1 := hr.length
  have hl' : s.heap.IsList a vs.toArray := let ⟨o, ho, r⟩ := hl; ⟨o, S.kp _ _ ho, r⟩
  have hb' : s.heap.IsList b ([] : List Value).toArray := let ⟨o, ho, r⟩ := hb; ⟨o, S.kp _ _ ho, r⟩
  have hu : A.units < cLine := by have := o.units; omega
  cases ds with
  | nil =>
    obtain rfl := hr.nil_inv
    exact SeqAt.RcAt.lists (e := fun _ => true) hl' hb' rfl hu (fun j h1 _ => absurd h1 (by simp)) Pg w E Q (by simpa using h)
  | cons d ds => exact SeqAt.RcAt.lists_lengths hl' hb' (by rw [List.size_toArray, n1]; simp) hu Pg w E Q h
theorem neE {a b : Value} {ds : List PyData} {j : Nat} (S : St g0 s0 g L m mu (core s)) (ra : Rd g a (.list ds)) (rb : Rd g b (.list [])) (o : Ok A j) (hd : SeqAt.shaped (.list ds) = true)
    (h : Q (.bool (!ds.isEmpty)) s) : wpAny (model Pg w) A (compareOp .NotEq a b) Q E s :=
  neD ra rb o S hd (by decide) (by rw [show PyData.eqv (.list ds) (.list []) = ds.isEmpty by cases ds <;> simp [PyData.eqv, PyData.eqvAll]]; exact h)
theorem canInts : ∀ {ns : List Int}, PyData.canLayAll0 (ns.map .int) = true
  | [] => rfl
  | x :: xs => by simp only [List.map_cons, PyData.canLayAll0, PyData.canLay0, canInts (ns := xs), Bool.and_self]
theorem depInts : ∀ {ns : List Int}, PyData.depthAll (ns.map .int) = 0
  | [] => rfl
  | x :: xs => by simp [PyData.depthAll, PyData.depth, depInts (ns := xs)]
theorem shaped_ints (ns : List Int) : SeqAt.shaped (.list (ns.map .int)) = true := by
  unfold SeqAt.shaped
  simp only [PyData.canLay0, canInts, PyData.depth, depInts, Bool.true_and]
  decide
def dP (p : Int × Int) : PyData := .tuple [.int p.1, .int p.2]
theorem canPairs : ∀ {ns : List (Int × Int)}, PyData.canLayAll0 (ns.map dP) = true
  | [] => rfl
  | x :: xs => by simp [dP, PyData.canLayAll0, PyData.canLay0, canPairs (ns := xs)]
theorem depPairs : ∀ {ns : List (Int × Int)}, PyData.depthAll (ns.map dP) ≤ 1
  | [] => by simp [PyData.depthAll]
  | x :: xs => by have := depPairs (ns := xs); simp [dP, PyData.depthAll, PyData.depth]; omega
theorem shaped_pairs (ns : List (Int × Int)) : SeqAt.shaped (.list (ns.map dP)) = true := by
  unfold SeqAt.shaped
  have := depPairs (ns := ns)
  simp only [PyData.canLay0, canPairs, PyData.depth, Bool.true_and]
  exact decide_eq_true (by omega)
theorem shaped_nil : SeqAt.shaped (.list []) = true := by decide
theorem eqv_nil {ds : List PyData} : PyData.eqv (.list ds) (.list []) = ds.isEmpty := by cases ds <;> simp [PyData.eqv, PyData.eqvAll]
theorem eqvInts : ∀ {xs ys : List Int}, PyData.eqvAll (xs.map .int) (ys.map .int) = decide (xs = ys)
  | [], [] => by simp [PyData.eqvAll]
  | [], _ :: _ => by simp [PyData.eqvAll]
  | _ :: _, [] => by simp [PyData.eqvAll]
  | x :: xs, y :: ys => by
    simp only [List.map_cons, PyData.eqvAll, PyData.eqv, eqvInts (xs := xs) (ys := ys)]
    by_cases h : x = y <;> by_cases h' : xs = ys <;> simp [h, h']
theorem neI {a b : Value} {xs ys : List Int} {j : Nat} (S : St g0 s0 g L m mu (core s)) (ra : Rd g a (.list (xs.map .int))) (rb : Rd g b (.list (ys.map .int))) (o : Ok A j) (e : xs = ys)
    (h : Q (.bool false) s) : wpAny (model Pg w) A (compareOp .NotEq a b) Q E s :=
  neD ra rb o S (shaped_ints xs) (shaped_ints ys) (by
    rw [show PyData.eqv (.list (xs.map .int)) (.list (ys.map .int)) = decide (xs = ys) from eqvInts, e]; simpa using h)
/-- ranges -/
theorem Ible.range {a : Addr} {t u v : Tok} {x : Str} {px : Pos} (hh : A.handled = none) (hn : n ≤ 1000) (hr : IsRange g a 0 (n : Int) 1 t u v) : Ible w A (.Name x px) g (.ref a) n (fun i _ v => ∃ t, v = .int (i : Int) t) := by
  intro g0 s0 L m mu s Q S h
  have hsz : Builtin.Range.rangeSize 0 (n : Int) 1 = (n : Int) := by rw [rangeSize_one]; split <;> omega
  refine wpAny_pyIter_range (S.kp _ _ hr) (small_one (by decide) (by decide) (by omega) (by omega)) ?_
  rw [hsz]
  have W := Walks.range (prog := Pg) (w := w) (A := A) hh s.heap.objs.size 0 1 n
  have IT := Itr.ofWalks (g := g) (tg := .Name x px) W (fun b hb => .inl (List.mem_singleton.mp hb)) (fun i h x => ⟨_, x⟩) (fun i s v Q x _ hQ => owned_name hQ)
  refine h _ _ [(s.heap.objs.size, { cls := .type "range_iterator", data := .fields #[rawInt 0, rawInt n, rawInt 1] })] _ ⟨?_, IT.done, IT.self⟩ ⟨_, rfl, fun h e kh => ?_⟩ (S.own (push_kp _ _) (fresh_size _) (Heap.get?_push_size _ rfl) rfl rfl)
  · exact fun i hi g0 s0 g' L m mu ps s K kg hms S hK => IT.item i hi g0 s0 g' L m mu ps s K kg hms S fun v g'' ps' s' k2 hP hm' S' => hK v g'' ps' s' k2 (by simpa using hP) hm' S'
  · show IsRangeIter h _ _ _ _
    have e1 : (0 + ((0 : Nat) : Int) * 1) = 0 := by simp
    have e2 : ((n : Int) - ((0 : Nat) : Int)) = n := by simp
    rw [e1, e2]; exact e
theorem rangeF {t : Tok} (S : St g0 s0 g L m mu (core s)) (hn : n ≤ 1000)
    (h : ∀ a g' s', St g0 s0 g' L m mu (core s') → Kp g g' → (∀ (A : Around) x px, A.handled = none → Ible w A (.Name x px) g' (.ref a) n (fun i _ v => ∃ t, v = .int (i : Int) t)) → Q (.ref a) s') :
    wpAny (model Pg w) A (call (.type "range") [.int (n : Int) t]) Q E s := by
  refine call_range_1 ?_
  have X := Stp.alloc (s := core s) (s' := ⟨s.heap.push { cls := .type "range", data := .fields #[.int 0 s.toks, .int (n : Int) t, .int 1 (s.toks + 1)] }, s.gens, s.os⟩) S.kp (push_kp _ _) (fresh_size _) (Heap.get?_push_size _ rfl) rfl rfl
  exact h _ _ _ (S.step X) X.kg fun A x px hh => Ible.range hh hn (put_self rfl)
theorem stC0 {x : Str} {c : Addr} {o : Obj} {v₀ : Option Value} {v : Value} {post : List (Addr × Obj)} {Q : Unit → Shared → Prop} (S : St g0 s0 g L m ((c, o) :: post) (core s)) (hl : env.kindOf x = some .cell) (hc : env.cells.lookup x = some c) (hd : o.data = .cell v₀)
    (h : ∀ o' s', o'.data = .cell (some v) → St g0 s0 g L m ((c, o') :: post) (core s') → Q () s')
    (hk : env.scope.kind = .function := by rfl) :
    wpAny (model Pg w) A (storeName env x v) Q E s := stC (pre := []) S hl hc hd h hk
theorem slTakeE {value slice : Expr} {l : Addr} {k : Nat} {z : Int} {u : Tok} {ds : List PyData} {ops : List Value} (S : St g0 s0 g L m mu (core s)) (r : Rd g (.ref l) (.list ds)) (e : z = (k : Int)) (hz : ds.length ≤ 100000)
    (h : ∀ a g' s', St g0 s0 g' L m mu (core s') → Kp g g' → Rd g' (.ref a) (.list (ds.take k)) → Q (.ref a) s')
    (hs : subscripted slice false (.ref l) (.ref s.heap.objs.size) = operate ops (getItem (.ref l) (.ref s.heap.objs.size)) := by with_unfolding_all rfl)
    (ht : ∀ r, letTemporaryGo value (.ref l) r = pure () := by intro _; with_unfolding_all rfl) :
    wpAny (model Pg w) A (subscriptTail value slice (.ref l) (.ref s.heap.objs.size)) Q E { s with heap := s.heap.push { cls := .type "slice", data := .fields #[.none, .int z u, .none] } } := by
  subst e; exact slTake S r hz h hs ht
theorem slFromE {value slice : Expr} {l : Addr} {k : Nat} {z : Int} {u : Tok} {ds : List PyData} {ops : List Value} (S : St g0 s0 g L m mu (core s)) (r : Rd g (.ref l) (.list ds)) (e : z = (k : Int)) (hz : ds.length ≤ 100000)
    (h : ∀ a g' s', St g0 s0 g' L m mu (core s') → Kp g g' → Rd g' (.ref a) (.list (ds.drop k)) → Q (.ref a) s')
    (hs : subscripted slice false (.ref l) (.ref s.heap.objs.size) = operate ops (getItem (.ref l) (.ref s.heap.objs.size)) := by with_unfolding_all rfl)
    (ht : ∀ r, letTemporaryGo value (.ref l) r = pure () := by intro _; with_unfolding_all rfl) :
    wpAny (model Pg w) A (subscriptTail value slice (.ref l) (.ref s.heap.objs.size)) Q E { s with heap := s.heap.push { cls := .type "slice", data := .fields #[.int z u, .none, .none] } } := by
  subst e; exact slFrom S r hz h hs ht
/-- an item of a tuple -/
theorem itT {value slice : Expr} {l : Addr} {k : Int} {u : Tok} {ds : List PyData} {d : PyData} (S : St g0 s0 g L m mu (core s)) (r : Rd g (.ref l) (.tuple ds)) (h0 : 0 ≤ k) (hhi : k < ds.length) (hz : ds.length ≤ 1000) (hx : ds[k.toNat]? = some d)
    (h : ∀ v, Rd g v d → Q v s)
    (hs : subscripted slice false (.ref l) (.int k u) = operate [.ref l, .int k u] (getItem (.ref l) (.int k u)) := by with_unfolding_all rfl) :
    wpAny (model Pg w) A (subscriptTail value slice (.ref l) (.int k u)) Q E s := by
  obtain ⟨a, vs, e, hl, hr⟩ := r.tuple_inv
  cases e
  obtain ⟨v, hv, rv⟩ := hr.get hx
  have n1 := hr.length
  have hl' : IsTup s.heap l vs.toArray := hl.keeps S.kp
  refine tail_any hl'.typeIs slot_tuple_getitem.lookup (PyProof.Rows.getItem_tuple (j := k.toNat) hl' (by omega) (by omega) ?_ (by simpa using hv) (h v rv)) hs
  unfold seqIndex?
  rw [List.size_toArray, n1]
  simp
  omega
/-- the last item of a list -/
theorem itL {value slice : Expr} {l : Addr} {u : Tok} {ds : List PyData} {d : PyData} (S : St g0 s0 g L m mu (core s)) (r : Rd g (.ref l) (.list (ds ++ [d]))) (hz : ds.length ≤ 1000)
    (h : ∀ v, Rd g v d → Q v s)
    (hs : subscripted slice false (.ref l) (.int (-1) u) = operate [.ref l, .int (-1) u] (getItem (.ref l) (.int (-1) u)) := by with_unfolding_all rfl) :
    wpAny (model Pg w) A (subscriptTail value slice (.ref l) (.int (-1) u)) Q E s := by
  obtain ⟨a, vs, e, hl, hr⟩ := r.list_inv
  cases e
  obtain ⟨v, hv, rv⟩ := hr.get (i := ds.length) (d := d) (by simp)
  have n1 := hr.length
  simp at n1
  have hl' : s.heap.IsList l vs.toArray := let ⟨o, ho, r⟩ := hl; ⟨o, S.kp _ _ ho, r⟩
  refine tail_any hl'.typeIs slot_list_getitem.lookup (wpAny_getItem_list_neg hl' (by decide) (by simp; omega) (by decide) ?_ (h v rv)) hs
  rw [List.size_toArray, n1, show ((-1 : Int) + ((ds.length + 1 : Nat) : Int)).toNat = ds.length by omega]
  simpa using hv
/-- a contract used -/
theorem useG {f : Value} {vs : List Value} {d : PyData} (S : St g0 s0 g L m mu (core s)) (c : Kp g s.heap → Gives w A g s f vs d) (h : ∀ r g' s', St g0 s0 g' L m mu (core s') → Kp g g' → Rd g' r d → Q r s') :
    wpAny (model Pg w) A (call f vs) Q E s := (c S.kp).use S h
theorem useGS {f : Value} {vs : List Value} {x : Str} (S : St g0 s0 g L m mu (core s)) (c : Kp g s.heap → Gives w A g s f vs (.str x)) (h : ∀ t g' s', St g0 s0 g' L m mu (core s') → Kp g g' → Q (.str x t) s') :
    wpAny (model Pg w) A (call f vs) Q E s := (c S.kp).useS S h
end

end
open PySem PySem.W PyProof.Rows PySem.Calls
local macro_rules | `(tactic| w_left) => `(tactic| first | (k_unfold; (try dsimp only)) | ((with_reducible show wpAny _ _ (eval (Expr.Name _ _) _) _ _ _); first | (refine ldL (by exact rfl) (by first | with_reducible assumption | assumption) rfl (by exact rfl) ?_) | (refine ldB (by first | with_reducible assumption | assumption) (by first | with_reducible assumption | assumption) rfl rfl (by decide +kernel) (by boot_by_name) ?_) | (refine ldF 12 (by first | with_reducible assumption | assumption) (by first | with_reducible assumption | assumption) rfl (by decide) rfl ?_) | (refine ldF 16 (by first | with_reducible assumption | assumption) (by first | with_reducible assumption | assumption) rfl (by decide) rfl ?_) | (refine ldF 18 (by first | with_reducible assumption | assumption) (by first | with_reducible assumption | assumption) rfl (by decide) rfl ?_) | (refine ldF 17 (by first | with_reducible assumption | assumption) (by first | with_reducible assumption | assumption) rfl (by decide) rfl ?_) | (refine ldF 3 (by first | with_reducible assumption | assumption) (by first | with_reducible assumption | assumption) rfl (by decide) rfl ?_) | (refine ldF 19 (by first | with_reducible assumption | assumption) (by first | with_reducible assumption | assumption) rfl (by decide) rfl ?_) | (refine ldF 20 (by first | with_reducible assumption | assumption) (by first | with_reducible assumption | assumption) rfl (by decide) rfl ?_) | (refine ldF 21 (by first | with_reducible assumption | assumption) (by first | with_reducible assumption | assumption) rfl (by decide) rfl ?_) | (refine ldF 23 (by first | with_reducible assumption | assumption) (by first | with_reducible assumption | assumption) rfl (by decide) rfl ?_) | (refine ldF 24 (by first | with_reducible assumption | assumption) (by first | with_reducible assumption | assumption) rfl (by decide) rfl ?_) | (refine ldF 25 (by first | with_reducible assumption | assumption) (by first | with_reducible assumption | assumption) rfl (by decide) rfl ?_) | (refine ldF 26 (by first | with_reducible assumption | assumption) (by first | with_reducible assumption | assumption) rfl (by decide) rfl ?_) | (refine ldF 27 (by first | with_reducible assumption | assumption) (by first | with_reducible assumption | assumption) rfl (by decide) rfl ?_) | (refine ldF 28 (by first | with_reducible assumption | assumption) (by first | with_reducible assumption | assumption) rfl (by decide) rfl ?_) | (refine ldF 29 (by first | with_reducible assumption | assumption) (by first | with_reducible assumption | assumption) rfl (by decide) rfl ?_) | (refine ldF 30 (by first | with_reducible assumption | assumption) (by first | with_reducible assumption | assumption) rfl (by decide) rfl ?_) | (refine ldF 31 (by first | with_reducible assumption | assumption) (by first | with_reducible assumption | assumption) rfl (by decide) rfl ?_) | (refine ldF 32 (by first | with_reducible assumption | assumption) (by first | with_reducible assumption | assumption) rfl (by decide) rfl ?_)) | ((with_reducible show wpAny _ _ (storeName _ _ _) _ _ _); refine stL (by first | with_reducible assumption | assumption) rfl ?_; intro s' S'; (try dsimp only)) | ((with_reducible show Kp _ _ ∧ _); refine ⟨St.kp0 (by first | with_reducible assumption | assumption), ?_⟩) | ((with_reducible show wpAny _ _ (callWith _ (Value.ref _) _ _ _) _ _ _); refine callN (by first | with_reducible assumption | assumption) (by first | with_reducible assumption | assumption | decide) ?_) | ((with_reducible show ite _ _ _); first | (refine ite_t (by with_reducible assumption) ?_) | (refine ite_f (by with_reducible assumption) ?_) | (refine ite_t (by decide) ?_) | (refine ite_f (by decide) ?_) | (refine ite_t (by assumption) ?_) | (refine ite_f (by assumption) ?_)) | ((with_reducible show wpAny _ _ (truthy (Value.str _ _)) _ _ _); refine trS (by first | omega | decide) ?_; (try dsimp only)) | ((with_reducible show wpAny _ _ (subscriptTail _ _ (Value.str _ _) (Value.ref _)) _ _ _); refine slS (by constructor) (by constructor) (by first | with_reducible assumption | assumption) ?_; intro t' s' S'; (try dsimp only [Option.map])) | ((with_reducible show wpAny _ _ (loadName _ _) _ _ _); refine ldnL (by exact rfl) (by first | with_reducible assumption | assumption) rfl (by exact rfl) ?_) | (with_reducible (first | refine wpAny_execs_cons ?_ | refine wpAny_execs_nil ?_ | refine wpAny_If ?_ | refine wpAny_Return_some ?_)))
local macro_rules | `(tactic| walk_at "M.rds") => `(tactic| repeat' (first | exact RdL.nil | apply RdL.cons | exact Rd.str _ _ | exact Rd.int _ _ | exact Rd.bool _ | with_reducible assumption | assumption | exact Rd.up (by first | with_reducible assumption | assumption) (by first | with_reducible assumption | assumption) | exact up2 (by first | with_reducible assumption | assumption) (by first | with_reducible assumption | assumption) (by first | with_reducible assumption | assumption) | exact up3 (by first | with_reducible assumption | assumption) (by first | with_reducible assumption | assumption) (by first | with_reducible assumption | assumption) (by first | with_reducible assumption | assumption) | exact up4 (by first | with_reducible assumption | assumption) (by first | with_reducible assumption | assumption) (by first | with_reducible assumption | assumption) (by first | with_reducible assumption | assumption) (by first | with_reducible assumption | assumption)))
local macro_rules | `(tactic| tb_rel) => `(tactic| first | with_reducible assumption | assumption | exact Rd.up (by first | with_reducible assumption | assumption) (by first | with_reducible assumption | assumption) | exact up2 (by first | with_reducible assumption | assumption) (by first | with_reducible assumption | assumption) (by first | with_reducible assumption | assumption) | exact up3 (by first | with_reducible assumption | assumption) (by first | with_reducible assumption | assumption) (by first | with_reducible assumption | assumption) (by first | with_reducible assumption | assumption) | exact up4 (by first | with_reducible assumption | assumption) (by first | with_reducible assumption | assumption) (by first | with_reducible assumption | assumption) (by first | with_reducible assumption | assumption) (by first | with_reducible assumption | assumption))
local macro_rules | `(tactic| walk_at "M.mem") => `(tactic| repeat' (first | exact List.Mem.head _ | apply List.Mem.tail | apply List.mem_append_right))
section
open PySem PySem.W PyProof.Rows PySem.Calls
set_option maxHeartbeats 1000000
section
variable {mg mb : Str → Option Value} {fa : Nat → Addr} {dT mi : Addr} {w : World} {A : Around} {g g0 : Heap} {s : Shared} {s0 : Core} {Q : Value → Shared → Prop} {E : Value → Shared → Prop} {n : Nat}
  {env : Env} {L : Addr} {m : Str → Option Value} {mu : List (Addr × Obj)}
section
theorem spec_fspath {x : Str} {t : Tok} (G : Gnd mg mb fa dT mi g) (k : Kp g s.heap) (o : Ok A 1)
    (h : ∀ s', Stp g (core s) g (core s') → Q (.str x t) s') : wpAny (model Pg w) A (call (.ref (fa 12)) [.str x t]) Q E s := by
  refine enter (binds := [(Str.ofString "path", .str x t)]) G k o (by decide) (by decide) (fun kV doc pm an cdv ct => BindsTo.of_eq rfl) (locs rfl) fun cd L s1 S o' => ?_
  refine wpAny_execs_cons ?_
  k_fold
  (repeat' (first | w_left | ((with_reducible show wpAny _ _ (newTuple _) _ _ _); refine tupR (by first | with_reducible assumption | assumption) ?_; intro _ _ _ _; (try dsimp only)) | ((with_reducible show wpAny _ _ (call (Value.builtin "issubclass") _) _ _ _); refine issub_str (by first | with_reducible assumption | assumption) ?_; (try dsimp only)) | walk1 | (dsimp only; walk1)))
  exact h _ (St.base (by first | with_reducible assumption | assumption))
end
theorem use_fspath {x : Str} {t : Tok} (S : St g0 s0 g L m mu (core s)) (G : Gnd mg mb fa dT mi g0) (o : Ok A 1) (h : ∀ s', St g0 s0 g L m mu (core s') → Q (.str x t) s') : wpAny (model Pg w) A (call (.ref (fa 12)) [.str x t]) Q E s :=
  spec_fspath (G.up S.base.kg) S.kp o fun s' X => h s' (S.step X)
theorem spec_sep {x : Str} {t : Tok} (G : Gnd mg mb fa dT mi g) (k : Kp g s.heap) (o : Ok A 1)
    (h : ∀ u s', Stp g (core s) g (core s') → Q (.str "/" u) s') : wpAny (model Pg w) A (call (.ref (fa 16)) [.str x t]) Q E s := by
  refine enter (binds := [(Str.ofString "path", .str x t)]) G k o (by decide) (by decide) (fun kV doc pm an cdv ct => BindsTo.of_eq rfl) (locs rfl) fun cd L s1 S o' => ?_
  refine wpAny_execs_cons ?_
  k_fold
  (repeat' (first | w_left | ((with_reducible show wpAny _ _ (newTuple _) _ _ _); refine tupR (by first | with_reducible assumption | assumption) ?_; intro _ _ _ _; (try dsimp only)) | ((with_reducible show wpAny _ _ (call (Value.builtin "issubclass") _) _ _ _); refine issub_str (by first | with_reducible assumption | assumption) ?_; (try dsimp only)) | walk1 | (dsimp only; walk1)))
  exact h _ _ (St.base (by first | with_reducible assumption | assumption))
theorem use_sep {x : Str} {t : Tok} (S : St g0 s0 g L m mu (core s)) (G : Gnd mg mb fa dT mi g0) (o : Ok A 1) (h : ∀ u s', St g0 s0 g L m mu (core s') → Q (.str "/" u) s') : wpAny (model Pg w) A (call (.ref (fa 16)) [.str x t]) Q E s :=
  spec_sep (G.up S.base.kg) S.kp o fun u s' X => h u s' (S.step X)
end

end
section
open PySem PySem.W PyProof.Rows PySem.Calls
set_option maxHeartbeats 1000000
section
variable {mg mb : Str → Option Value} {fa : Nat → Addr} {dT mi : Addr} {w : World} {A : Around} {g g0 : Heap} {s : Shared} {s0 : Core} {Q : Value → Shared → Prop} {E : Value → Shared → Prop} {n : Nat}
  {env : Env} {L : Addr} {m : Str → Option Value} {mu : List (Addr × Obj)}
/-- one slash ahead -/
structure Rooted (x : Str) : Prop where
  h1 : (Txt.slice x none (some 1) != "/") = false
  h2 : (Txt.slice x (some 1) (some 2) != "/") = true
  len : x.length ≤ 200
  ne : x.length ≠ 0
theorem spec_root {x : Str} {t : Tok} (G : Gnd mg mb fa dT mi g) (k : Kp g s.heap) (o : Ok A 2) (hx : Rooted x) :
    Gives w A g s (.ref (fa 18)) [.str x t] (.tuple [.str "", .str "/", .str (Txt.slice x (some 1) none)]) := by
  intro Q E h
  obtain ⟨h1, h2, hx, _⟩ := hx
  refine enter (binds := [(Str.ofString "p", .str x t)]) G k o (by decide) (by decide) (fun kV doc pm an cdv ct => BindsTo.of_eq rfl) (locs rfl) fun cd L s1 S o' => ?_
  refine wpAny_execs_cons ?_
  k_fold
  (repeat' (first | w_left | ((with_reducible show wpAny _ _ (call (Value.ref _) _) _ _ _); first | (refine use_fspath (by first | with_reducible assumption | assumption) (by first | with_reducible assumption | assumption) (Ok.le (by first | with_reducible assumption | assumption) (by decide)) ?_; intro _ _; (try dsimp only)) | (refine use_sep (by first | with_reducible assumption | assumption) (by first | with_reducible assumption | assumption) (Ok.le (by first | with_reducible assumption | assumption) (by decide)) ?_; intro _ _ _; (try dsimp only))) | walk1 | (dsimp only; walk1)))
  refine tupF (by first | with_reducible assumption | assumption) (.cons (.str _ _) (.cons (.str _ _) (.cons (.str _ _) .nil))) fun a g' s' S' K R => ?_
  exact h _ _ _ S'.base R
theorem use_root {x : Str} {t : Tok} (S : St g0 s0 g L m mu (core s)) (G : Gnd mg mb fa dT mi g0) (o : Ok A 2) (hx : Rooted x)
    (h : ∀ a t1 t2 t3 g' s', St g0 s0 g' L m mu (core s') → Kp g g' → IsTup g' a #[.str "" t1, .str "/" t2, .str (Txt.slice x (some 1) none) t3] → Q (.ref a) s') : wpAny (model Pg w) A (call (.ref (fa 18)) [.str x t]) Q E s := by
  refine (spec_root (G.up S.base.kg) S.kp o hx).use S fun r g' s' S' K R => ?_
  obtain ⟨a, vs, rfl, hT, hr⟩ := R.tuple_inv
  obtain ⟨v1, vs, rfl, r1, hr⟩ := hr.cons_inv
  obtain ⟨v2, vs, rfl, r2, hr⟩ := hr.cons_inv
  obtain ⟨v3, vs, rfl, r3, hr⟩ := hr.cons_inv
  obtain rfl := hr.nil_inv
  obtain ⟨t1, rfl⟩ := r1.str_inv
  obtain ⟨t2, rfl⟩ := r2.str_inv
  obtain ⟨t3, rfl⟩ := r3.str_inv
  exact h a t1 t2 t3 g' s' S' K hT
end

end
section
open PySem PySem.W PyProof.Rows PySem.Calls
set_option maxHeartbeats 2000000
/-- what normpath keeps of the names -/
def nstep (acc : List Str) (c : Str) : List Str := if c.length = 0 ∨ c = "." then acc else if c = ".." then acc.dropLast else acc ++ [c]
def nfold (cs : List Str) : List Str := cs.foldl nstep []
theorem nstep_len (acc : List Str) (c : Str) : (nstep acc c).length ≤ acc.length + 1 := by
  unfold nstep; split
  · omega
  · split
    · simp; omega
    · simp
theorem nstep_dots {acc : List Str} {c : Str} (h : (".." : Str) ∉ acc) : (".." : Str) ∉ nstep acc c := by
  unfold nstep; split
  · exact h
  · split
    · exact fun q => h (List.dropLast_subset _ q)
    · rename_i h1 h2
      intro q
      rcases List.mem_append.mp q with q | q
      · exact h q
      · exact h2 (List.mem_singleton.mp q).symm
theorem nfold_snoc (cs : List Str) (c : Str) : nfold (cs ++ [c]) = nstep (nfold cs) c := by simp [nfold]
theorem nstep_mem {acc : List Str} {c y : Str} (h : y ∈ nstep acc c) : y ∈ acc ∨ y = c := by
  unfold nstep at h; split at h
  · exact .inl h
  · split at h
    · exact .inl (List.dropLast_subset _ h)
    · simpa using h
theorem nfold_mem {cs : List Str} {y : Str} (h : y ∈ nfold cs) : y ∈ cs := by
  suffices ∀ (cs acc : List Str) (y : Str), y ∈ cs.foldl nstep acc → y ∈ acc ∨ y ∈ cs from (this cs [] y h).elim (fun q => nomatch q) id
  intro cs
  induction cs with
  | nil => intro acc y h; exact .inl h
  | cons c cs ih =>
    intro acc y h
    rcases ih _ y h with h | h
    · rcases nstep_mem h with h | h
      · exact .inl h
      · exact .inr (by rw [h]; exact .head _)
    · exact .inr (.tail _ h)
theorem nfold_len (cs : List Str) : (nfold cs).length ≤ cs.length := by
  suffices ∀ (cs acc : List Str), (cs.foldl nstep acc).length ≤ acc.length + cs.length by have := this cs []; rw [List.length_nil, Nat.zero_add] at this; exact this
  intro cs
  induction cs with
  | nil => intro acc; simp
  | cons c cs ih => intro acc; have := ih (nstep acc c); have := nstep_len acc c; simp only [List.foldl_cons, List.length_cons]; omega
section
variable {mg mb : Str → Option Value} {fa : Nat → Addr} {dT mi : Addr} {w : World} {A : Around} {g g0 : Heap} {s : Shared} {s0 : Core} {Q : Value → Shared → Prop} {E : Value → Shared → Prop} {n : Nat}
  {env : Env} {L : Addr} {m : Str → Option Value} {mu : List (Addr × Obj)}
theorem spec_norm {x : Str} {t : Tok} (G : Gnd mg mb fa dT mi g) (k : Kp g s.heap) (o : Ok A 3) (hx : Rooted x) :
    Gives w A g s (.ref (fa 20)) [.str x t] (.str ("/" ++ Txt.join "/" (nfold (Txt.split (Txt.slice x (some 1) none) "/")))) := by
  intro Q E h
  have hlen := hx.len
  have hl2 : (Txt.slice x (some 1) none).length ≤ 2000 := Nat.le_trans (Txt.slice_le _ _ _) (by omega)
  generalize hcs : Txt.split (Txt.slice x (some 1) none) "/" = cs at h
  have hcl : cs.length ≤ 2000 := by rw [← hcs]; exact Nat.le_trans (split_le _ _) (by have := Txt.slice_le x (some 1) none; omega)
  refine enter (binds := [(Str.ofString "path", .str x t)]) G k o (by decide) (by decide) (fun kV doc pm an cdv ct => BindsTo.of_eq rfl) (locs rfl) fun cd L s1 S o' => ?_
  refine wpAny_execs_cons ?_
  k_fold
  (repeat' (first | w_left | ((with_reducible show wpAny _ _ (call (Value.ref _) _) _ _ _); first | (refine use_fspath (by first | with_reducible assumption | assumption) (by first | with_reducible assumption | assumption) (Ok.le (by first | with_reducible assumption | assumption) (by decide)) ?_; intro _ _; (try dsimp only)) | (refine use_sep (by first | with_reducible assumption | assumption) (by first | with_reducible assumption | assumption) (Ok.le (by first | with_reducible assumption | assumption) (by decide)) ?_; intro _ _ _; (try dsimp only)) | (refine use_root (by first | with_reducible assumption | assumption) (by first | with_reducible assumption | assumption) (Ok.le (by first | with_reducible assumption | assumption) (by decide)) (by first | with_reducible assumption | assumption) ?_; intro _ _ _ _ _ _ _ _ _; (try dsimp only))) | ((with_reducible show wpAny _ _ (assign (Expr.Tuple _ _ _) _ (Value.ref _)) _ _ _); refine asgT (by first | with_reducible assumption | assumption) (by first | with_reducible assumption | assumption) (by first | with_reducible assumption | assumption) rfl rfl ?_; intro _ _; (try dsimp only)) | ((with_reducible show wpAny _ _ (newList _) _ _ _); refine lstO (by first | with_reducible assumption | assumption) ?_; intro _ _ _; (try dsimp only)) | ((with_reducible show wpAny _ _ (call (Value.builtin "str.split") _) _ _ _); refine splF (by first | with_reducible assumption | assumption) (by decide) (by first | with_reducible assumption | assumption) ?_; intro _ _ _ _ _ _; (try dsimp only)) | ((with_reducible show wpAny _ _ (getMethod (Value.ref _) _ _) _ _ _); refine gmO (by first | with_reducible assumption | assumption) F.slot_list_append F.type_list_append ?_) | ((with_reducible show wpAny _ _ (call (Value.builtin "list.append") _) _ _ _); refine appO (by first | with_reducible assumption | assumption) (by first | with_reducible assumption | assumption) ?_; intro _ _ _; (try dsimp only)) | walk1 | (dsimp only; walk1)))
  rotate_left
  · exfalso
    have := hx.ne
    omega
  rename_i aL gL sL SL KL RL sM SM D sA SA sB SB
  rw [show Str.ofString "/" = ("/" : Str) from rfl, hcs] at RL
  obtain ⟨a, vs, e, hl, hr⟩ := RL.list_inv
  cases e
  refine wpAny_For ?_
  refine ldL (by exact rfl) SB rfl (by exact rfl) ?_
  refine pyIter_list hl SB o'.h fun I ms ps s2 W hms S2 => ?_
  refine for_itr (W _) hms S2 ["comp"] (fun i g T mu => T = [] ∧ ∃ vals cc, mu = [(D, lob vals cc)] ∧ RdL g vals ((nfold (cs.take i)).map .str) ∧ vals.length ≤ i ∧ (".." : Str) ∉ nfold (cs.take i))
    (fun i g₁ g₂ T mu kk hJ => ?mono) [] trivial ⟨rfl, [], 0, rfl, .nil, Nat.le_refl _, by simp [nfold]⟩ ?turn ?fin
  case mono => exact ⟨hJ.1, let ⟨vals, cc, e, r, hh⟩ := hJ.2; ⟨vals, cc, e, r.up kk, hh⟩⟩
  case turn =>
    intro i v g' T mu' ps' jk s' hi kg hP hJ S'
    obtain ⟨rfl, vals, cc, rfl, hr', hlen', hdd⟩ := hJ
    have hlr := hr.length
    have hv100 : vals.length ≤ 100000 := by simp at hlr; omega
    obtain ⟨cv, hcv⟩ : ∃ cv, cs[i]? = some cv := ⟨_, List.getElem?_eq_getElem (by simp at hlr; omega)⟩
    obtain ⟨v', hv', rv⟩ := hr.get (i := i) (d := .str cv) (by simp [hcv])
    rw [hP] at hv'
    cases hv'
    obtain ⟨tv, rfl⟩ := rv.str_inv
    have hcvl : cv.length ≤ 200 := by
      have := PySem.join_mem_le "/" cs cv (List.mem_of_getElem? hcv)
      rw [← hcs, StrLaws.join_split] at this
      exact Nat.le_trans this (Nat.le_trans (Txt.slice_le _ _ _) hlen)
    have hstep : nfold (cs.take (i + 1)) = nstep (nfold (cs.take i)) cv := by rw [List.take_add_one, hcv]; simp [nfold]
    refine wpAny_assign_Name ?_
    k_fold
    (repeat' (first | w_left | ((with_reducible show wpAny _ _ (call (Value.ref _) _) _ _ _); first | (refine use_fspath (by first | with_reducible assumption | assumption) (by first | with_reducible assumption | assumption) (Ok.le (by first | with_reducible assumption | assumption) (by decide)) ?_; intro _ _; (try dsimp only)) | (refine use_sep (by first | with_reducible assumption | assumption) (by first | with_reducible assumption | assumption) (Ok.le (by first | with_reducible assumption | assumption) (by decide)) ?_; intro _ _ _; (try dsimp only)) | (refine use_root (by first | with_reducible assumption | assumption) (by first | with_reducible assumption | assumption) (Ok.le (by first | with_reducible assumption | assumption) (by decide)) (by first | with_reducible assumption | assumption) ?_; intro _ _ _ _ _ _ _ _ _; (try dsimp only))) | ((with_reducible show wpAny _ _ (assign (Expr.Tuple _ _ _) _ (Value.ref _)) _ _ _); refine asgT (by first | with_reducible assumption | assumption) (by first | with_reducible assumption | assumption) (by first | with_reducible assumption | assumption) rfl rfl ?_; intro _ _; (try dsimp only)) | ((with_reducible show wpAny _ _ (newList _) _ _ _); refine lstO (by first | with_reducible assumption | assumption) ?_; intro _ _ _; (try dsimp only)) | ((with_reducible show wpAny _ _ (call (Value.builtin "str.split") _) _ _ _); refine splF (by first | with_reducible assumption | assumption) (by decide) (by first | with_reducible assumption | assumption) ?_; intro _ _ _ _ _ _; (try dsimp only)) | ((with_reducible show wpAny _ _ (getMethod (Value.ref _) _ _) _ _ _); refine gmO (by first | with_reducible assumption | assumption) F.slot_list_append F.type_list_append ?_) | ((with_reducible show wpAny _ _ (call (Value.builtin "list.append") _) _ _ _); refine appO (by first | with_reducible assumption | assumption) (by first | with_reducible assumption | assumption) ?_; intro _ _ _; (try dsimp only)) | walk1 | (dsimp only; walk1)))
    · rename_i _ SX n1 n2
      have e : nstep (nfold (cs.take i)) cv = nfold (cs.take i) := if_pos (.inr (eq_of_beq n2))
      exact ⟨g', _, [], [(D, lob vals cc)], Kp.refl _, ⟨rfl, vals, cc, rfl, by rw [hstep, e]; exact hr', by omega, by rw [hstep, e]; exact hdd⟩, trivial, Off.set rfl (Off.trk rfl Off.refl), SX⟩
    · rename_i sX SX n1 n2 n3 c' sY SY
      have e : nstep (nfold (cs.take i)) cv = nfold (cs.take i) ++ [cv] := by
        unfold nstep
        rw [if_neg (by intro q; rcases q with q | q; (exact n1 (by omega)); (rw [q] at n2; exact absurd n2 (by decide))), if_neg (by simpa using n3)]
      exact ⟨g', _, [], [(D, lob (vals ++ [.str cv tv]) c')], Kp.refl _, ⟨rfl, _, _, rfl, by rw [hstep, e, List.map_append]; exact hr'.append (.cons (.str _ _) .nil), by simp; omega, by rw [hstep]; exact nstep_dots hdd⟩, trivial, Off.set rfl (Off.trk rfl Off.refl), SY⟩
    · rename_i sX SX n1 n2 n3
      have ec : cv = ".." := by simpa using n3
      have e : nstep (nfold (cs.take i)) cv = (nfold (cs.take i)).dropLast := by
        unfold nstep
        rw [if_neg (by intro q; rcases q with q | q; (exact n1 (by omega)); (rw [q] at n2; exact absurd n2 (by decide))), if_pos ec]
      rcases snoc_cases vals with rfl | ⟨init, v0, rfl⟩
      · (repeat' (first | w_left | ((with_reducible show wpAny _ _ (truthy (Value.ref _)) _ _ _); first | (refine trO0 (by first | with_reducible assumption | assumption) ?_; intro _ _; (try dsimp only)) | (refine trO1 (by first | with_reducible assumption | assumption) (by first | with_reducible assumption | assumption) ?_; intro _ _; (try dsimp only))) | ((with_reducible show wpAny _ _ (subscriptTail _ _ (Value.ref _) (Value.int _ _)) _ _ _); refine itO1 (by first | with_reducible assumption | assumption) ?_) | ((with_reducible show wpAny _ _ (getMethod (Value.ref _) _ _) _ _ _); refine gmO (by first | with_reducible assumption | assumption) F.slot_list_pop F.type_list_pop ?_) | ((with_reducible show wpAny _ _ (call (Value.builtin "list.pop") _) _ _ _); refine popO (by first | with_reducible assumption | assumption) (by first | with_reducible assumption | assumption) ?_; intro _ _ _; (try dsimp only)) | ((with_reducible show wpAny _ _ (call (Value.builtin "str.join") _) _ _ _); refine joinO (by first | with_reducible assumption | assumption) (by first | with_reducible assumption | assumption) (by first | with_reducible assumption | assumption) ?_; intro _ _ _; (try dsimp only)) | ((with_reducible show wpAny _ _ (binaryOp Operator.Add (Value.str _ _) (Value.str _ _)) _ _ _); refine addS (by first | with_reducible assumption | assumption) (by first | omega | assumption) ?_; intro _ _ _; (try dsimp only)) | walk1 | (dsimp only; walk1)))
        rename_i sW SW
        have e0 : nfold (cs.take i) = [] := by have := hr'.length; simpa using this.symm
        exact ⟨g', _, [], [(D, lob [] cc)], Kp.refl _, ⟨rfl, _, _, rfl, by rw [hstep, e, e0]; exact .nil, Nat.zero_le _, by rw [hstep]; exact nstep_dots hdd⟩, trivial, Off.set rfl (Off.trk rfl Off.refl), SW⟩
      · obtain ⟨dl, d0, ed⟩ : ∃ dl d0, nfold (cs.take i) = dl ++ [d0] := by
          rcases snoc_cases (nfold (cs.take i)) with q | ⟨dl, d0, q⟩
          · rw [q] at hr'; have := hr'.length; simp at this
          · exact ⟨dl, d0, q⟩
        have hr2 := hr'
        rw [ed, List.map_append] at hr2
        obtain ⟨hr3, hr4⟩ := RdL.snoc_inv hr2
        obtain ⟨t0, rfl⟩ := hr4.str_inv
        have hi100 : init.length ≤ 100000 := by simp at hv100; omega
        have hd0 : (d0 == Str.ofString "..") = false := by
          cases q : d0 == Str.ofString ".." with
          | false => rfl
          | true => exact absurd (by rw [ed, eq_of_beq q]; simp) hdd
        (repeat' (first | w_left | ((with_reducible show wpAny _ _ (truthy (Value.ref _)) _ _ _); first | (refine trO0 (by first | with_reducible assumption | assumption) ?_; intro _ _; (try dsimp only)) | (refine trO1 (by first | with_reducible assumption | assumption) (by first | with_reducible assumption | assumption) ?_; intro _ _; (try dsimp only))) | ((with_reducible show wpAny _ _ (subscriptTail _ _ (Value.ref _) (Value.int _ _)) _ _ _); refine itO1 (by first | with_reducible assumption | assumption) ?_) | ((with_reducible show wpAny _ _ (getMethod (Value.ref _) _ _) _ _ _); refine gmO (by first | with_reducible assumption | assumption) F.slot_list_pop F.type_list_pop ?_) | ((with_reducible show wpAny _ _ (call (Value.builtin "list.pop") _) _ _ _); refine popO (by first | with_reducible assumption | assumption) (by first | with_reducible assumption | assumption) ?_; intro _ _ _; (try dsimp only)) | ((with_reducible show wpAny _ _ (call (Value.builtin "str.join") _) _ _ _); refine joinO (by first | with_reducible assumption | assumption) (by first | with_reducible assumption | assumption) (by first | with_reducible assumption | assumption) ?_; intro _ _ _; (try dsimp only)) | ((with_reducible show wpAny _ _ (binaryOp Operator.Add (Value.str _ _) (Value.str _ _)) _ _ _); refine addS (by first | with_reducible assumption | assumption) (by first | omega | assumption) ?_; intro _ _ _; (try dsimp only)) | walk1 | (dsimp only; walk1)))
        rename_i c' sW SW
        exact ⟨g', _, [], [(D, lob init c')], Kp.refl _, ⟨rfl, _, _, rfl, by rw [hstep, e, ed, List.dropLast_concat]; exact hr3, by simp at hlen'; omega, by rw [hstep]; exact nstep_dots hdd⟩, trivial, Off.set rfl (Off.trk rfl Off.refl), SW⟩
    · rename_i _ SX n1
      have e : nstep (nfold (cs.take i)) cv = nfold (cs.take i) := if_pos (.inl (by omega))
      exact ⟨g', _, [], [(D, lob vals cc)], Kp.refl _, ⟨rfl, vals, cc, rfl, by rw [hstep, e]; exact hr', by omega, by rw [hstep, e]; exact hdd⟩, trivial, Off.set rfl (Off.trk rfl Off.refl), SX⟩
  case fin =>
    intro g' T mu' jk s' kg hJ S'
    obtain ⟨rfl, vals, cc, rfl, hr', hlen', hdd⟩ := hJ
    (try k_unfold)
    (try dsimp only)
    (repeat' (first | w_left | ((with_reducible show wpAny _ _ (truthy (Value.ref _)) _ _ _); first | (refine trO0 (by first | with_reducible assumption | assumption) ?_; intro _ _; (try dsimp only)) | (refine trO1 (by first | with_reducible assumption | assumption) (by first | with_reducible assumption | assumption) ?_; intro _ _; (try dsimp only))) | ((with_reducible show wpAny _ _ (subscriptTail _ _ (Value.ref _) (Value.int _ _)) _ _ _); refine itO1 (by first | with_reducible assumption | assumption) ?_) | ((with_reducible show wpAny _ _ (getMethod (Value.ref _) _ _) _ _ _); refine gmO (by first | with_reducible assumption | assumption) F.slot_list_pop F.type_list_pop ?_) | ((with_reducible show wpAny _ _ (call (Value.builtin "list.pop") _) _ _ _); refine popO (by first | with_reducible assumption | assumption) (by first | with_reducible assumption | assumption) ?_; intro _ _ _; (try dsimp only)) | ((with_reducible show wpAny _ _ (call (Value.builtin "str.join") _) _ _ _); refine joinO (by first | with_reducible assumption | assumption) (by first | with_reducible assumption | assumption) (by first | with_reducible assumption | assumption) ?_; intro _ _ _; (try dsimp only)) | ((with_reducible show wpAny _ _ (binaryOp Operator.Add (Value.str _ _) (Value.str _ _)) _ _ _); refine addS (by first | with_reducible assumption | assumption) (by first | omega | assumption) ?_; intro _ _ _; (try dsimp only)) | walk1 | (dsimp only; walk1)))
    rename_i sW SW
    have hall : cs.take vs.length = cs := List.take_of_length_le (by have := hr.length; simp at this; omega)
    rw [hall] at hr' hdd
    have hmem : ∀ y ∈ nfold cs, y.length ≤ 200 := fun y hy => by
      have := PySem.join_mem_le "/" cs y (nfold_mem hy)
      rw [← hcs, StrLaws.join_split] at this
      exact Nat.le_trans this (Nat.le_trans (Txt.slice_le _ _ _) hlen)
    have hw1 := sum_le hmem
    have hnl : (nfold cs).length ≤ 202 := Nat.le_trans (nfold_len cs) (by rw [← hcs]; exact Nat.le_trans (split_le _ _) (by have := Txt.slice_le x (some 1) none; omega))
    have hw2 : (nfold cs).length * 200 ≤ 202 * 200 := Nat.mul_le_mul_right _ hnl
    have hw : ((nfold cs).map (·.length)).sum + (nfold cs).length ≤ 100000 := by omega
    have hjl := jlen (x := "/") (by decide) (nfold cs)
    refine joinP SW (own_isList (pre := []) SW) hr' (by decide) hw fun t' s' S' => ?_
    have hal : ((Str.ofString "/") : Str).length + (Txt.join (Str.ofString "/") (nfold cs)).length ≤ 60000 := by
      have : (Str.ofString "/").length = 1 := by decide
      have e : (Txt.join (Str.ofString "/") (nfold cs)).length ≤ 50000 := Nat.le_trans hjl (by omega)
      omega
    (repeat' (first | w_left | ((with_reducible show wpAny _ _ (truthy (Value.ref _)) _ _ _); first | (refine trO0 (by first | with_reducible assumption | assumption) ?_; intro _ _; (try dsimp only)) | (refine trO1 (by first | with_reducible assumption | assumption) (by first | with_reducible assumption | assumption) ?_; intro _ _; (try dsimp only))) | ((with_reducible show wpAny _ _ (subscriptTail _ _ (Value.ref _) (Value.int _ _)) _ _ _); refine itO1 (by first | with_reducible assumption | assumption) ?_) | ((with_reducible show wpAny _ _ (getMethod (Value.ref _) _ _) _ _ _); refine gmO (by first | with_reducible assumption | assumption) F.slot_list_pop F.type_list_pop ?_) | ((with_reducible show wpAny _ _ (call (Value.builtin "list.pop") _) _ _ _); refine popO (by first | with_reducible assumption | assumption) (by first | with_reducible assumption | assumption) ?_; intro _ _ _; (try dsimp only)) | ((with_reducible show wpAny _ _ (call (Value.builtin "str.join") _) _ _ _); refine joinO (by first | with_reducible assumption | assumption) (by first | with_reducible assumption | assumption) (by first | with_reducible assumption | assumption) ?_; intro _ _ _; (try dsimp only)) | ((with_reducible show wpAny _ _ (binaryOp Operator.Add (Value.str _ _) (Value.str _ _)) _ _ _); refine addS (by first | with_reducible assumption | assumption) (by first | omega | assumption) ?_; intro _ _ _; (try dsimp only)) | walk1 | (dsimp only; walk1)))
    · exact h _ _ _ (St.base (by first | with_reducible assumption | assumption)) (.str _ _)
    · rename_i q
      have : (Str.ofString "/").length = 1 := by decide
      rw [Str.length_append] at q
      omega
end

end
section
open PySem PySem.W PyProof.Rows PySem.Calls
set_option maxHeartbeats 2000000
/-- what dirname gives -/
def dnm (x : Str) : Str :=
  let hd := Txt.slice x none (some (Txt.rfind x "/" + 1))
  if ((hd.length : Int) != 0) = true then (if (hd != Txt.mul "/" (hd.length : Int)) = true then Txt.rstripChars hd "/" else hd) else hd
abbrev dhd (x : Str) : Str := Txt.slice x none (some (Txt.rfind x (Str.ofString "/") + 1))
theorem dnm1 {x : Str} (h1 : ((dhd x).length : Int) ≠ 0) (h2 : (dhd x != Txt.mul "/" ((dhd x).length : Int)) = true) : dnm x = Txt.rstripChars (dhd x) "/" := by
  unfold dnm
  rw [if_pos (by simpa using h1), if_pos h2]
theorem dnm2 {x : Str} (h1 : ((dhd x).length : Int) ≠ 0) (h2 : (dhd x != Txt.mul "/" ((dhd x).length : Int)) = false) : dnm x = dhd x := by
  unfold dnm
  rw [if_pos (by simpa using h1), if_neg (by rw [h2]; exact Bool.false_ne_true)]
theorem dnm3 {x : Str} (h1 : ((dhd x).length : Int) = 0) : dnm x = dhd x := by
  unfold dnm
  rw [if_neg (by simpa using h1)]
section
variable {mg mb : Str → Option Value} {fa : Nat → Addr} {dT mi : Addr} {w : World} {A : Around} {g g0 : Heap} {s : Shared} {s0 : Core} {Q : Value → Shared → Prop} {E : Value → Shared → Prop} {n : Nat}
  {env : Env} {L : Addr} {m : Str → Option Value} {mu : List (Addr × Obj)}
theorem spec_dir {x : Str} {t : Tok} (G : Gnd mg mb fa dT mi g) (k : Kp g s.heap) (o : Ok A 3) (hx : x.length ≤ 200) :
    Gives w A g s (.ref (fa 19)) [.str x t] (.str (dnm x)) := by
  intro Q E h
  refine enter (binds := [(Str.ofString "p", .str x t)]) G k o (by decide) (by decide) (fun kV doc pm an cdv ct => BindsTo.of_eq rfl) (locs rfl) fun cd L s1 S o' => ?_
  have hsl := Txt.slice_le x none (some (Txt.rfind x (Str.ofString "/") + 1))
  refine wpAny_execs_cons ?_
  k_fold
  (repeat' (first | w_left | ((with_reducible show wpAny _ _ (call (Value.ref _) _) _ _ _); first | (refine use_fspath (by first | with_reducible assumption | assumption) (by first | with_reducible assumption | assumption) (Ok.le (by first | with_reducible assumption | assumption) (by decide)) ?_; intro _ _; (try dsimp only)) | (refine use_sep (by first | with_reducible assumption | assumption) (by first | with_reducible assumption | assumption) (Ok.le (by first | with_reducible assumption | assumption) (by decide)) ?_; intro _ _ _; (try dsimp only))) | walk1 | (dsimp only; walk1)))
  · rw [dnm1 (by first | with_reducible assumption | assumption) (by first | with_reducible assumption | assumption)] at h
    exact h _ _ _ (St.base (by first | with_reducible assumption | assumption)) (.str _ _)
  · rw [dnm2 (by first | with_reducible assumption | assumption) (by first | with_reducible assumption | assumption)] at h
    exact h _ _ _ (St.base (by first | with_reducible assumption | assumption)) (.str _ _)
  · rw [dnm3 (by first | with_reducible assumption | assumption)] at h
    exact h _ _ _ (St.base (by first | with_reducible assumption | assumption)) (.str _ _)
end

end
section
open PySem PySem.W PyProof.Rows PySem.Calls
set_option maxHeartbeats 2000000
theorem bind_join (v1 v2 kV doc pm an cdv ct) : bindArgs (fnOf (nameOf (nth 17)) (nameOf (nth 17)) (parsOf (nth 17)) (bodyOf (nth 17)) (scopeOf (nth 17)) Value.none kV doc pm an cdv ct) { pos := [v1, v2] } =
    (newTuple [v2] >>= fun t => (pure [((Str.ofString "a"), v1), ((Str.ofString "p"), t)] : Sem (List (Str × Value)))) := by rfl
/-- what join gives -/
def jn (x y : Str) : Str := if Txt.startswith y "/" = true then y else if (x.length : Int) = 0 then y else if Txt.endswith x "/" = true then x ++ y else x ++ ("/" ++ y)
theorem jn1 {x y : Str} (h : Txt.startswith y (Str.ofString "/") = true) : jn x y = y := if_pos h
theorem jn2 {x y : Str} (h : Txt.startswith y (Str.ofString "/") = false) (h2 : (x.length : Int) = 0) : jn x y = y := by unfold jn; rw [if_neg (by rw [h]; exact Bool.false_ne_true), if_pos h2]
theorem jn3 {x y : Str} (h : Txt.startswith y (Str.ofString "/") = false) (h2 : (x.length : Int) ≠ 0) (h3 : Txt.endswith x (Str.ofString "/") = true) : jn x y = x ++ y := by unfold jn; rw [if_neg (by rw [h]; exact Bool.false_ne_true), if_neg h2, if_pos h3]
theorem jn4 {x y : Str} (h : Txt.startswith y (Str.ofString "/") = false) (h2 : (x.length : Int) ≠ 0) (h3 : Txt.endswith x (Str.ofString "/") = false) : jn x y = x ++ (Str.ofString "/" ++ y) := by unfold jn; rw [if_neg (by rw [h]; exact Bool.false_ne_true), if_neg h2, if_neg (by rw [h3]; exact Bool.false_ne_true)]
section
variable {mg mb : Str → Option Value} {fa : Nat → Addr} {dT mi : Addr} {w : World} {A : Around} {g g0 : Heap} {s : Shared} {s0 : Core} {Q : Value → Shared → Prop} {E : Value → Shared → Prop} {n : Nat}
  {env : Env} {L : Addr} {m : Str → Option Value} {mu : List (Addr × Obj)}
theorem tryN {body orelse : List Stmt} {h₀ : ExceptHandler} {hs : List ExceptHandler} {pos : Pos} {Q : Flow → Shared → Prop}
    (h : wpAny (model Pg w) A (execs body env) (fun f s₁ => match f with | .next => wpAny (model Pg w) A (execs orelse env) Q Nv s₁ | f => Q f s₁) Nv s) :
    wpAny (model Pg w) A (exec (.Try body (h₀ :: hs) orelse [] pos) env) Q Nv s := wpAny_Try_except (wpAny_mono h (fun _ _ x => x) fun _ _ f => f.elim)
theorem enterJ {v1 v2 : Value} {d2 : PyData} (G : Gnd mg mb fa dT mi g) {j : Nat} (k : Kp g s.heap) (ok : Ok A (j + 1)) (rr2 : Rd g v2 d2)
    (h : ∀ cd L s1 T g', Stp g (core s) g' (core s1) → IsTup g' T #[v2] → St g (core s) g' L (fun y => [(Str.ofString "a", v1), (Str.ofString "p", .ref T)].reverse.lookup y) [] (core s1) → Ok (A.deeper (envOf (nameOf (nth 17)) (scopeOf (nth 17)) L (fa 17) cd)) j →
      wpAny (model Pg w) (A.deeper (envOf (nameOf (nth 17)) (scopeOf (nth 17)) L (fa 17) cd)) (execs (bodyOf (nth 17)) (envOf (nameOf (nth 17)) (scopeOf (nth 17)) L (fa 17) cd)) (fun fl s' => Q (retv fl) s') Nv s1) :
    wpAny (model Pg w) A (call (.ref (fa 17)) [v1, v2]) Q E s := by
  obtain ⟨_, o, kV, doc, pm, an, cdv, ct, h1, h2, h4⟩ := G.fn 17 (by decide)
  rw [if_neg (by decide)] at h2
  refine wpAny_call (codeAny_call_function ok.room (k _ _ h1) h2 rfl rfl rfl (h4.keeps k) ?_)
  rw [bind_join]
  refine wpAny_bind (wpAny_newObj_type (wpAny_pure ?_) (by size_fits))
  refine wpAny_newFunctionEnv (show ∀ x ∈ (scopeOf (nth 17)).names, x.2 ≠ .cell from by decide +kernel) (locs rfl) (fun h₁ hns hsb => ?_) rfl
  have X := Stp.alloc (s := core s) (s' := ⟨s.heap.push (tob [v2]), s.gens, s.os⟩) k (push_kp _ (tob [v2])) (fresh_size _) (Heap.get?_push_size _ rfl) rfl rfl
  have kh : Kp (s.heap.push (tob [v2])) h₁ := fun b o e => hsb.extBut b o (Nat.ne_of_lt (Heap.lt_size e)) (Heap.get?_push_of_some _ e)
  have Y := X.trans (Stp.grow (s := ⟨s.heap.push (tob [v2]), s.gens, s.os⟩) (s' := ⟨h₁, s.gens, s.os⟩) X.sub kh rfl rfl)
  refine ⟨((G.lim.keeps k).keeps X.kh).keeps kh, codeAny_func (wpAny_mono (h cdv (s.heap.push (tob [v2])).objs.size _ s.heap.objs.size _ Y ⟨_, put_self rfl, rfl, _, rfl⟩ ?_ ok.deeper) (fun fl s' hq => ?_) fun _ _ f => f.elim)⟩
  · refine ⟨Y, hns, none_of_kp X.sub (fresh_size _), none_of_kp X.kh (fresh_size _), (fun _ hp => nomatch hp), List.nodup_nil⟩
  · cases fl <;> exact hq
theorem spec_join {x y : Str} {t u : Tok} (G : Gnd mg mb fa dT mi g) (k : Kp g s.heap) (o : Ok A 3) (hx : x.length ≤ 300) (hy : y.length ≤ 300) :
    Gives w A g s (.ref (fa 17)) [.str x t, .str y u] (.str (jn x y)) := by
  intro Q E h
  refine enterJ G k o (.str y u) fun cd L s1 T g1 X hT S o' => ?_
  refine wpAny_execs_cons ?_
  k_fold
  (repeat' (first | w_left | ((with_reducible show wpAny _ _ (call (Value.ref _) _) _ _ _); first | (refine use_fspath (by first | with_reducible assumption | assumption) (by first | with_reducible assumption | assumption) (Ok.le (by first | with_reducible assumption | assumption) (by decide)) ?_; intro _ _; (try dsimp only)) | (refine use_sep (by first | with_reducible assumption | assumption) (by first | with_reducible assumption | assumption) (Ok.le (by first | with_reducible assumption | assumption) (by decide)) ?_; intro _ _ _; (try dsimp only))) | ((with_reducible show wpAny _ _ (binaryOp Operator.Add (Value.str _ _) (Value.str _ _)) _ _ _); refine addS (by first | with_reducible assumption | assumption) (by first | omega | assumption) ?_; intro _ _ _; (try dsimp only)) | ((with_reducible show wpAny _ _ (exec (Stmt.Try _ _ _ _ _) _) _ _ _); refine tryN ?_) | walk1 | (dsimp only; walk1)))
  rename_i tS sS SS sB SB
  refine wpAny_For ?_
  refine ldL (by exact rfl) SB rfl (by exact rfl) ?_
  refine pyIter_tuple hT SB o'.h fun I ms ps s2 W hms S2 => ?_
  refine for_itr (W _ _) hms S2 ["b", "path"] (fun i g T mu => (∃ t', T = [(Str.ofString "path", .str (if i = 0 then x else jn x y) t')]) ∧ mu = [])
    (fun i g₁ g₂ T mu kk hJ => hJ) [(Str.ofString "path", .str x t)] ⟨rfl, trivial⟩ ⟨⟨t, rfl⟩, rfl⟩ ?turn ?fin
  case turn =>
    intro i v g' T mu' ps' jk s' hi kg hP hJ S'
    obtain ⟨⟨t', rfl⟩, rfl⟩ := hJ
    obtain rfl : i = 0 := by simp at hi; omega
    cases hP
    rw [if_pos rfl] at S'
    refine wpAny_assign_Name ?_
    k_fold
    (repeat' (first | w_left | ((with_reducible show wpAny _ _ (call (Value.ref _) _) _ _ _); first | (refine use_fspath (by first | with_reducible assumption | assumption) (by first | with_reducible assumption | assumption) (Ok.le (by first | with_reducible assumption | assumption) (by decide)) ?_; intro _ _; (try dsimp only)) | (refine use_sep (by first | with_reducible assumption | assumption) (by first | with_reducible assumption | assumption) (Ok.le (by first | with_reducible assumption | assumption) (by decide)) ?_; intro _ _ _; (try dsimp only))) | ((with_reducible show wpAny _ _ (binaryOp Operator.Add (Value.str _ _) (Value.str _ _)) _ _ _); refine addS (by first | with_reducible assumption | assumption) (by first | omega | assumption) ?_; intro _ _ _; (try dsimp only)) | ((with_reducible show wpAny _ _ (exec (Stmt.Try _ _ _ _ _) _) _ _ _); refine tryN ?_) | walk1 | (dsimp only; walk1)))
    · refine ⟨g', _, [(Str.ofString "path", .str y _)], [], Kp.refl _, ⟨⟨_, by rw [if_neg (by decide), jn1 (by first | with_reducible assumption | assumption)]⟩, rfl⟩, ⟨rfl, trivial⟩, ?_, by assumption⟩
      repeat (first | exact Off.trk rfl Off.refl | refine Off.set rfl ?_)
    · refine ⟨g', _, [(Str.ofString "path", .str (x ++ y) _)], [], Kp.refl _, ⟨⟨_, by rw [if_neg (by decide), jn3 (by first | with_reducible assumption | assumption) (by first | with_reducible assumption | assumption) (by first | with_reducible assumption | assumption)]⟩, rfl⟩, ⟨rfl, trivial⟩, ?_, by assumption⟩
      repeat (first | exact Off.trk rfl Off.refl | refine Off.set rfl ?_)
    · refine ⟨g', _, [(Str.ofString "path", .str (x ++ (Str.ofString "/" ++ y)) _)], [], Kp.refl _, ⟨⟨_, by rw [if_neg (by decide), jn4 (by first | with_reducible assumption | assumption) (by first | with_reducible assumption | assumption) (by first | with_reducible assumption | assumption)]⟩, rfl⟩, ⟨rfl, trivial⟩, ?_, by assumption⟩
      repeat (first | exact Off.trk rfl Off.refl | refine Off.set rfl ?_)
    · refine ⟨g', _, [(Str.ofString "path", .str y _)], [], Kp.refl _, ⟨⟨_, by rw [if_neg (by decide), jn2 (by first | with_reducible assumption | assumption) (by first | with_reducible assumption | assumption)]⟩, rfl⟩, ⟨rfl, trivial⟩, ?_, by assumption⟩
      repeat (first | exact Off.trk rfl Off.refl | refine Off.set rfl ?_)
  case fin => 
    intro g' T mu' jk s' kg hJ S'
    obtain ⟨⟨t', rfl⟩, rfl⟩ := hJ
    rw [if_neg (by simp)] at S'
    (try k_unfold)
    (try dsimp only)
    (repeat' (first | w_left | ((with_reducible show wpAny _ _ (call (Value.ref _) _) _ _ _); first | (refine use_fspath (by first | with_reducible assumption | assumption) (by first | with_reducible assumption | assumption) (Ok.le (by first | with_reducible assumption | assumption) (by decide)) ?_; intro _ _; (try dsimp only)) | (refine use_sep (by first | with_reducible assumption | assumption) (by first | with_reducible assumption | assumption) (Ok.le (by first | with_reducible assumption | assumption) (by decide)) ?_; intro _ _ _; (try dsimp only))) | ((with_reducible show wpAny _ _ (binaryOp Operator.Add (Value.str _ _) (Value.str _ _)) _ _ _); refine addS (by first | with_reducible assumption | assumption) (by first | omega | assumption) ?_; intro _ _ _; (try dsimp only)) | ((with_reducible show wpAny _ _ (exec (Stmt.Try _ _ _ _ _) _) _ _ _); refine tryN ?_) | walk1 | (dsimp only; walk1)))
    exact h _ _ _ (St.base (by first | with_reducible assumption | assumption)) (.str _ _)
end

end
section
open PySem PySem.W PyProof.Rows PySem.Calls
set_option maxHeartbeats 2000000
section
variable {mg mb : Str → Option Value} {fa : Nat → Addr} {dT mi : Addr} {w : World} {A : Around} {g g0 : Heap} {s : Shared} {s0 : Core} {Q : Value → Shared → Prop} {E : Value → Shared → Prop} {n : Nat}
  {env : Env} {L : Addr} {m : Str → Option Value} {mu : List (Addr × Obj)}
theorem is_miss {v : Value} {d : PyData} (G : Gnd mg mb fa dT mi g) (k : Kp g s.heap) (r : Rd g v d) (h : Q (.bool false) s) : wpAny (model Pg w) A (compareOp .Is v (.ref mi)) Q E s := by
  have hne := G.miss_ne r
  obtain ⟨om, hm, hc⟩ := G.missO
  obtain ⟨as, r⟩ := r
  show wpAny (model Pg w) A (do return Value.bool (← isSame v (.ref mi))) Q E s
  have key : ∀ (a : Addr) (oa : Obj), v = .ref a → g.get? a = some oa → wpAny (model Pg w) A (isSame v (.ref mi)) (fun b s' => wpAny (model Pg w) A (pure (Value.bool b)) Q E s') E s := by
    intro a oa e ho
    subst e
    have hx : (a == mi) = false := by
      cases q : a == mi with
      | false => rfl
      | true => rw [eq_of_beq q] at hne; simp at hne
    unfold isSame
    dsimp only
    rw [hx]
    refine wpAny_bind (wpAny_load (k _ _ ho) (wpAny_bind (wpAny_load (k _ _ hm) ?_)))
    rw [hc]
    split
    · rename_i q _ _
      injection q with q; exact absurd q (by decide)
    · exact wpAny_pure (wpAny_pure h)
  cases r with
  | list h1 _ _ _ => exact wpAny_bind (key _ _ rfl h1)
  | tuple h1 _ _ _ => exact wpAny_bind (key _ _ rfl h1)
  | dict h1 _ _ _ _ => exact wpAny_bind (key _ _ rfl h1)
  | _ => exact wpAny_bind (wpAny_pure (wpAny_pure h))
theorem reduce_loop {cd : Value} {a I : Addr} {ob : Obj} {vs : List Value} {es : List PyData} {acc : Nat → PyData} {v0 : Value} {i0 j : Nat} (G : Gnd mg mb fa dT mi g0) (o' : Ok A j) (hn : n ∈ defsN)
    (hl : g.IsList a vs.toArray) (hr : RdL g vs es) (hi0 : i0 ≤ es.length) (hit : LIt a i0 ob) (S : St g0 s0 g L m [(I, ob)] (core s))
    (m1 : m (Str.ofString "it") = some (.ref I)) (m2 : m (Str.ofString "value") = some v0) (m3 : m (Str.ofString "function") = some (.ref (fa n))) (hv : Rd g v0 (acc i0))
    (hf : ∀ i e, i0 ≤ i → es[i]? = some e → ∀ A' g' s' v ev, Ok A' j → Gnd mg mb fa dT mi g' → Kp g' s'.heap → Rd g' v (acc i) → Rd g' ev e → Gives w A' g' s' (.ref (fa n)) [v, ev] (acc (i + 1)))
    (h : ∀ r g' s', Stp g0 s0 g' (core s') → Rd g' r (acc es.length) → Q r s') :
    wpAny (model Pg w) A (exec (((bodyOf (nth 3))[2]?).getD (.Pass ⟨0, 0, 0, 0⟩)) (envOf (nameOf (nth 3)) (scopeOf (nth 3)) L (fa 3) cd)) (fun f s' => match f with
      | .next => wpAny (model Pg w) A (execs ((bodyOf (nth 3)).drop 3) (envOf (nameOf (nth 3)) (scopeOf (nth 3)) L (fa 3) cd)) (fun fl s' => Q (retv fl) s') Nv s'
      | f => Q (retv f) s') Nv s := by
  have hlen := hr.length
  refine wpAny_For ?_
  refine ldL (by exact rfl) S rfl m1 ?_
  obtain ⟨ms, W, hms⟩ := itr_list (pre := []) hl S hit w
  refine (W A (.Name (Str.ofString "x") ⟨0, 0, 0, 0⟩) o'.h).self i0 g0 s0 g L m [] [(I, ob)] s _ (Kp.refl _) hms S ?_
  refine for_from (i0 := i0) (ps := [(I, ob)]) (mu := []) (W A _ o'.h) (by omega) hms S ["element", "value"] (fun i g T mu => i0 ≤ i ∧ (∃ v, T = [(Str.ofString "value", v)] ∧ Rd g v (acc i)) ∧ mu = [])
    (fun i g₁ g₂ T mu kk hJ => ⟨hJ.1, let ⟨v, e, r⟩ := hJ.2.1; ⟨v, e, r.up kk⟩, hJ.2.2⟩) [(Str.ofString "value", v0)] ⟨m2, trivial⟩ ⟨Nat.le_refl _, ⟨v0, rfl, hv⟩, rfl⟩ ?turn ?fin
  case turn =>
    intro i v g' T mu' ps' jk s' hi kg hP hJ S'
    obtain ⟨hii, ⟨v1, rfl, r1⟩, rfl⟩ := hJ
    obtain ⟨e, he⟩ : ∃ e, es[i]? = some e := ⟨_, List.getElem?_eq_getElem (by omega)⟩
    obtain ⟨v', hv', rv⟩ := hr.get he
    rw [hP] at hv'
    cases hv'
    have m3' : ∀ jk, (fun y => if y = Str.ofString "element" then some v else trk [(Str.ofString "value", v1)] ["element", "value"] jk m y) (Str.ofString "function") = some (.ref (fa n)) := fun _ => m3
    refine wpAny_assign_Name ?_
    refine stL S' rfl fun s2 S2 => ?_
    refine wpAny_execs_cons (wpAny_Assign_Name ?_)
    refine Call_ (ldL (by exact rfl) S2 rfl (m3' jk) ?_)
    refine callN G hn ?_
    refine args_cons (ldL (by exact rfl) S2 rfl (by exact rfl) ?_)
    refine args_cons (ldL (by exact rfl) S2 rfl (by exact rfl) ?_)
    refine args_nil ⟨S2.kp0, ?_⟩
    refine (hf i e hii he A g' s2 v1 v o' (G.up S2.base.kg) S2.kp r1 (rv.up kg)).use S2 fun r g3 s3 S3 k3 r3 => ?_
    refine stL S3 rfl fun s4 S4 => ?_
    refine wpAny_execs_nil ?_
    refine ⟨g3, _, [(Str.ofString "value", r)], [], k3, ⟨by omega, ⟨r, rfl, r3⟩, rfl⟩, ⟨rfl, trivial⟩, ?_, S4⟩
    repeat (first | exact Off.trk rfl Off.refl | refine Off.set rfl ?_)
  case fin =>
    intro g' T mu' jk s' kg hJ S'
    obtain ⟨hii, ⟨v1, rfl, r1⟩, rfl⟩ := hJ
    rw [hlen] at r1
    refine wpAny_execs_cons (wpAny_Return_some ?_)
    refine ldL (by exact rfl) S' rfl (by exact rfl) ?_
    exact h _ _ _ S'.base r1
theorem spec_reduce {sv v0 : Value} {es : List PyData} {acc : Nat → PyData} {j : Nat} (G : Gnd mg mb fa dT mi g) (k : Kp g s.heap) (o : Ok A (j + 1)) (hn : n ∈ defsN)
    (hs : Rd g sv (.list es)) (hv : Rd g v0 (acc 0))
    (hf : ∀ i e, es[i]? = some e → ∀ A' g' s' v ev, Ok A' j → Gnd mg mb fa dT mi g' → Kp g' s'.heap → Rd g' v (acc i) → Rd g' ev e → Gives w A' g' s' (.ref (fa n)) [v, ev] (acc (i + 1))) :
    Gives w A g s (.ref (fa 3)) [.ref (fa n), sv, v0] (acc es.length) := by
  intro Q E h
  obtain ⟨oD, nD, hD1, hD2⟩ := G.dflt
  obtain ⟨a, vs, rfl, hl, hr⟩ := hs.list_inv
  refine enterR (binds := [(Str.ofString "function", .ref (fa n)), (Str.ofString "sequence", .ref a), (Str.ofString "initial", v0)]) G k o (fun kV doc pm an cdv ct => BindsTo.of_defaults rfl (k _ _ hD1) hD2 rfl rfl) (locs rfl) fun cd L s1 S o' => ?_
  refine wpAny_execs_cons ?_
  k_fold
  (repeat' (first | w_left | ((with_reducible show wpAny _ _ (compareOp CmpOp.Is _ (Value.ref _)) _ _ _); refine is_miss (by first | with_reducible assumption | assumption) (St.kp0 (by first | with_reducible assumption | assumption)) (by first | with_reducible assumption | assumption) ?_) | ((with_reducible show wpAny _ _ (call (Value.builtin "iter") _) _ _ _); refine iterB (by first | with_reducible assumption | assumption) (by first | with_reducible assumption | assumption) ?_; intro _ _ _ _ _; (try dsimp only)) | ((with_reducible show wpAny _ _ (eval (Expr.Name _ _) _) _ _ _); refine ldG (by first | with_reducible assumption | assumption) (by first | with_reducible assumption | assumption) rfl (Gnd.miss (by first | with_reducible assumption | assumption)) ?_) | walk1 | (dsimp only; walk1)))
  rename_i sB SB
  exact reduce_loop G o' hn hl hr (Nat.zero_le _) (by first | with_reducible assumption | assumption) SB rfl rfl rfl hv (fun i e _ => hf i e) h
theorem spec_reduce2 {sv : Value} {es : List PyData} {acc : Nat → PyData} {j : Nat} (G : Gnd mg mb fa dT mi g) (k : Kp g s.heap) (o : Ok A (j + 1)) (hn : n ∈ defsN)
    (hs : Rd g sv (.list (acc 1 :: es)))
    (hf : ∀ i e, 1 ≤ i → (acc 1 :: es)[i]? = some e → ∀ A' g' s' v ev, Ok A' j → Gnd mg mb fa dT mi g' → Kp g' s'.heap → Rd g' v (acc i) → Rd g' ev e → Gives w A' g' s' (.ref (fa n)) [v, ev] (acc (i + 1))) :
    Gives w A g s (.ref (fa 3)) [.ref (fa n), sv] (acc (es.length + 1)) := by
  intro Q E h
  obtain ⟨oD, nD, hD1, hD2⟩ := G.dflt
  obtain ⟨a, vs, rfl, hl, hr⟩ := hs.list_inv
  refine enterR (binds := [(Str.ofString "function", .ref (fa n)), (Str.ofString "sequence", .ref a), (Str.ofString "initial", .ref mi)]) G k o (fun kV doc pm an cdv ct => BindsTo.of_defaults rfl (k _ _ hD1) hD2 rfl rfl) (locs rfl) fun cd L s1 S o' => ?_
  refine wpAny_execs_cons ?_
  k_fold
  (repeat' (first | w_left | ((with_reducible show wpAny _ _ (compareOp CmpOp.Is _ (Value.ref _)) _ _ _); refine is_miss (by first | with_reducible assumption | assumption) (St.kp0 (by first | with_reducible assumption | assumption)) (by first | with_reducible assumption | assumption) ?_) | ((with_reducible show wpAny _ _ (call (Value.builtin "iter") _) _ _ _); refine iterB (by first | with_reducible assumption | assumption) (by first | with_reducible assumption | assumption) ?_; intro _ _ _ _ _; (try dsimp only)) | ((with_reducible show wpAny _ _ (eval (Expr.Name _ _) _) _ _ _); refine ldG (by first | with_reducible assumption | assumption) (by first | with_reducible assumption | assumption) rfl (Gnd.miss (by first | with_reducible assumption | assumption)) ?_) | walk1 | (dsimp only; walk1)))
  obtain ⟨v0, us, rfl, hv, hr'⟩ := hr.cons_inv
  refine nextB hl (by first | with_reducible assumption | assumption) (by first | with_reducible assumption | assumption) rfl fun o2 s2 h2 S2 => ?_
  (repeat' (first | w_left | ((with_reducible show wpAny _ _ (compareOp CmpOp.Is _ (Value.ref _)) _ _ _); refine is_miss (by first | with_reducible assumption | assumption) (St.kp0 (by first | with_reducible assumption | assumption)) (by first | with_reducible assumption | assumption) ?_) | ((with_reducible show wpAny _ _ (call (Value.builtin "iter") _) _ _ _); refine iterB (by first | with_reducible assumption | assumption) (by first | with_reducible assumption | assumption) ?_; intro _ _ _ _ _; (try dsimp only)) | ((with_reducible show wpAny _ _ (eval (Expr.Name _ _) _) _ _ _); refine ldG (by first | with_reducible assumption | assumption) (by first | with_reducible assumption | assumption) rfl (Gnd.miss (by first | with_reducible assumption | assumption)) ?_) | walk1 | (dsimp only; walk1)))
  rename_i sB SB
  exact reduce_loop (es := acc 1 :: es) G o' hn hl hr (by simp) h2 SB rfl rfl rfl hv hf h
end

end
section
open PySem PySem.W PyProof.Rows PySem.Calls
set_option maxHeartbeats 2000000
section
variable {mg mb : Str → Option Value} {fa : Nat → Addr} {dT mi : Addr} {w : World} {A : Around} {g g0 : Heap} {s : Shared} {s0 : Core} {Q : Value → Shared → Prop} {E : Value → Shared → Prop} {n : Nat}
  {env : Env} {L : Addr} {m : Str → Option Value} {mu : List (Addr × Obj)}
theorem spec_pieces {x : Int} {t : Tok} (G : Gnd mg mb fa dT mi g) (k : Kp g s.heap) (o : Ok A 1) :
    Gives w A g s (.ref (fa 23)) [.int x t] (.list ((piecesOf x).map .str)) := by
  intro Q E h
  refine enter (binds := [(Str.ofString "x", .int x t)]) G k o (by decide) (by decide) (fun kV doc pm an cdv ct => BindsTo.of_eq rfl) (locs rfl) fun cd L s1 S o' => ?_
  refine wpAny_execs_cons ?_
  k_fold
  (repeat' (first | w_left | ((with_reducible show wpAny _ _ (newList _) _ _ _); refine' lstF (by first | with_reducible assumption | assumption) ?rds ?_; (case rds => walk_at "M.rds"); intro _ _ _ _ _ _; (try dsimp only)) | ((with_reducible show wpAny _ _ (subscriptTail _ _ (Value.ref _) (Value.int _ _)) _ _ _); refine itF (by first | with_reducible assumption | assumption) (by first | with_reducible assumption | assumption) (fmod8 _).1 (Int.lt_trans (fmod8 _).2 (by decide)) (piece_get _) ?_; intro _ _; (try dsimp only)) | walk1 | (dsimp only; walk1)))
  exact h _ _ _ (St.base (by first | with_reducible assumption | assumption)) (by first | with_reducible assumption | assumption)
end

end
section
open PySem PySem.W PyProof.Rows PySem.Calls
set_option maxHeartbeats 2000000
theorem beqF {x y : Str} (h : (x == y) = false) : x ≠ y := by simpa using h
theorem gn1 {ns : List Str} {p : Str} (h : (p == Str.ofString "/") = true) : dN (goneN ns p) = .list [] := by
  unfold goneN; rw [if_pos (eq_of_beq h)]; rfl
theorem gn2 {ns : List Str} {p : Str} (h : (p == Str.ofString "/") = false) (h2 : (p == Str.ofString "..") = true) : dN (goneN ns p) = .list (ns.map .str).dropLast := by
  unfold goneN; rw [if_neg (beqF h), if_pos (eq_of_beq h2)]; unfold dN; rw [List.map_dropLast]
theorem gn3 {ns : List Str} {p : Str} (h : (p == Str.ofString "/") = false) (h2 : (p == Str.ofString "..") = false) (h3 : (p == Str.ofString "../ab") = true) : dN (goneN ns p) = .list ((ns.map .str).dropLast ++ [.str (Str.ofString "ab")]) := by
  unfold goneN; rw [if_neg (beqF h), if_neg (beqF h2), if_pos (eq_of_beq h3)]; unfold dN; rw [List.map_append, List.map_dropLast]; rfl
theorem gn4 {ns : List Str} {p : Str} (h : (p == Str.ofString "/") = false) (h2 : (p == Str.ofString "..") = false) (h3 : (p == Str.ofString "../ab") = false) (h4 : (p == Str.ofString "a") = true) : dN (goneN ns p) = .list (ns.map .str ++ [.str p]) := by
  unfold goneN; rw [if_neg (beqF h), if_neg (beqF h2), if_neg (beqF h3), if_pos (.inl (eq_of_beq h4))]; unfold dN; rw [List.map_append]; rfl
theorem gn5 {ns : List Str} {p : Str} (h : (p == Str.ofString "/") = false) (h2 : (p == Str.ofString "..") = false) (h3 : (p == Str.ofString "../ab") = false) (h4 : (p == Str.ofString "ab") = true) : dN (goneN ns p) = .list (ns.map .str ++ [.str p]) := by
  unfold goneN; rw [if_neg (beqF h), if_neg (beqF h2), if_neg (beqF h3), if_pos (.inr (eq_of_beq h4))]; unfold dN; rw [List.map_append]; rfl
theorem gn6 {ns : List Str} {p : Str} (h : (p == Str.ofString "/") = false) (h2 : (p == Str.ofString "..") = false) (h3 : (p == Str.ofString "../ab") = false) (h4 : (p == Str.ofString "a") = false) (h5 : (p == Str.ofString "ab") = false) : dN (goneN ns p) = .list (ns.map .str) := by
  unfold goneN; rw [if_neg (beqF h), if_neg (beqF h2), if_neg (beqF h3), if_neg (fun q => q.elim (beqF h4) (beqF h5))]; rfl
section
variable {mg mb : Str → Option Value} {fa : Nat → Addr} {dT mi : Addr} {w : World} {A : Around} {g g0 : Heap} {s : Shared} {s0 : Core} {Q : Value → Shared → Prop} {E : Value → Shared → Prop} {n : Nat}
  {env : Env} {L : Addr} {m : Str → Option Value} {mu : List (Addr × Obj)}
theorem spec_gone {nv : Value} {ns : List Str} {p : Str} {t : Tok} (G : Gnd mg mb fa dT mi g) (k : Kp g s.heap) (o : Ok A 1) (hn : ns.length ≤ 1000) (rn : Rd g nv (dN ns)) :
    Gives w A g s (.ref (fa 26)) [nv, .str p t] (dN (goneN ns p)) := by
  intro Q E h
  have rn' := rn
  obtain ⟨na, nvs, rfl, _, _⟩ := rn'.list_inv
  unfold dN at rn
  refine enter (binds := [(Str.ofString "names", .ref na), (Str.ofString "piece", .str p t)]) G k o (by decide) (by decide) (fun kV doc pm an cdv ct => BindsTo.of_eq rfl) (locs rfl) fun cd L s1 S o' => ?_
  refine wpAny_execs_cons ?_
  k_fold
  (repeat' (first | w_left | ((with_reducible show wpAny _ _ (newList _) _ _ _); refine' lstF (by first | with_reducible assumption | assumption) ?rds ?_; (case rds => walk_at "M.rds"); intro _ _ _ _ _ _; (try dsimp only)) | ((with_reducible show wpAny _ _ (subscriptTail _ _ (Value.ref _) (Value.ref _)) _ _ _); refine slBut (by first | with_reducible assumption | assumption) (by tb_rel) (by simp; omega) ?_; intro _ _ _ _ _ _; (try dsimp only)) | ((with_reducible show wpAny _ _ (binaryOp Operator.Add (Value.ref _) (Value.ref _)) _ _ _); refine addL (by first | with_reducible assumption | assumption) (by tb_rel) (by tb_rel) (by simp; omega) ?_; intro _ _ _ _ _ _; (try dsimp only)) | walk1 | (dsimp only; walk1)))
  · rw [gn1 (by first | with_reducible assumption | assumption)] at h; exact h _ _ _ (St.base (by first | with_reducible assumption | assumption)) (by first | with_reducible assumption | assumption)
  · rw [gn2 (by first | with_reducible assumption | assumption) (by first | with_reducible assumption | assumption)] at h; exact h _ _ _ (St.base (by first | with_reducible assumption | assumption)) (by first | with_reducible assumption | assumption)
  · rw [gn3 (by first | with_reducible assumption | assumption) (by first | with_reducible assumption | assumption) (by first | with_reducible assumption | assumption)] at h; exact h _ _ _ (St.base (by first | with_reducible assumption | assumption)) (by first | with_reducible assumption | assumption)
  · rw [gn4 (by first | with_reducible assumption | assumption) (by first | with_reducible assumption | assumption) (by first | with_reducible assumption | assumption) (by first | with_reducible assumption | assumption)] at h; exact h _ _ _ (St.base (by first | with_reducible assumption | assumption)) (by first | with_reducible assumption | assumption)
  · rw [gn5 (by first | with_reducible assumption | assumption) (by first | with_reducible assumption | assumption) (by first | with_reducible assumption | assumption) (by first | with_reducible assumption | assumption)] at h; exact h _ _ _ (St.base (by first | with_reducible assumption | assumption)) (by first | with_reducible assumption | assumption)
  · rw [gn6 (by first | with_reducible assumption | assumption) (by first | with_reducible assumption | assumption) (by first | with_reducible assumption | assumption) (by first | with_reducible assumption | assumption) (by first | with_reducible assumption | assumption)] at h; exact h _ _ _ (St.base (by first | with_reducible assumption | assumption)) rn
theorem Good.sum {ns : List Str} (h : Good ns) : (ns.map (·.length)).sum + ns.length ≤ 120 := by
  have h1 := sum_le (B := 2) (ys := ns) fun y hy => by rcases h.nm y hy with rfl | rfl <;> decide
  have h2 := h.len
  omega
theorem Good.jlen {ns : List Str} (h : Good ns) : (Txt.join "/" ns).length ≤ 120 := Nat.le_trans (Mine.jlen (by decide) ns) h.sum
theorem spec_text {nv : Value} {ns : List Str} (G : Gnd mg mb fa dT mi g) (k : Kp g s.heap) (o : Ok A 1) (hn : Good ns) (rn : Rd g nv (dN ns)) :
    Gives w A g s (.ref (fa 29)) [nv] (.str (textN ns)) := by
  intro Q E h
  have rn' := rn
  obtain ⟨na, nvs, rfl, _, _⟩ := rn'.list_inv
  unfold dN at rn
  refine enter (binds := [(Str.ofString "names", .ref na)]) G k o (by decide) (by decide) (fun kV doc pm an cdv ct => BindsTo.of_eq rfl) (locs rfl) fun cd L s1 S o' => ?_
  refine wpAny_execs_cons ?_
  k_fold
  (repeat' (first | w_left | ((with_reducible show wpAny _ _ (call (Value.builtin "str.join") _) _ _ _); refine joinL (by first | with_reducible assumption | assumption) (by first | with_reducible assumption | assumption) (by decide) (Nat.le_trans (Good.sum (by first | with_reducible assumption | assumption)) (by decide)) ?_; intro _ _ _; (try dsimp only)) | ((with_reducible show wpAny _ _ (binaryOp Operator.Add (Value.str _ _) (Value.str _ _)) _ _ _); refine addS (by first | with_reducible assumption | assumption) (Nat.le_trans (Nat.add_le_add (show _ ≤ 1 by decide) (Good.jlen (by first | with_reducible assumption | assumption))) (by decide)) ?_; intro _ _ _; (try dsimp only)) | walk1 | (dsimp only; walk1)))
  exact h _ _ _ (St.base (by first | with_reducible assumption | assumption)) (.str _ _)
end

end
section
open PySem PySem.W PyProof.Rows PySem.Calls
set_option maxHeartbeats 2000000
theorem snoc_ind {α : Type} {P : List α → Prop} (h0 : P []) (h1 : ∀ l x, P l → P (l ++ [x])) (l : List α) : P l := by
  have : ∀ r : List α, P r.reverse := by
    intro r
    induction r with
    | nil => exact h0
    | cons a r ih => rw [List.reverse_cons]; exact h1 _ _ ih
  have := this l.reverse
  rwa [List.reverse_reverse] at this
theorem goneN_len (ns : List Str) (p : Str) : (goneN ns p).length ≤ ns.length + 1 := by
  unfold goneN
  repeat' split
  all_goals simp
  all_goals omega
theorem goneN_good {ns : List Str} {p : Str} (h : ∀ y ∈ ns, y = "a" ∨ y = "ab") : ∀ y ∈ goneN ns p, y = "a" ∨ y = "ab" := by
  have hd : ∀ y ∈ ns.dropLast, y = "a" ∨ y = "ab" := fun y hy => h y (List.dropLast_subset _ hy)
  unfold goneN
  repeat' split
  · intro y hy; cases hy
  · exact hd
  · intro y hy
    rcases List.mem_append.mp hy with hy | hy
    · exact hd y hy
    · rw [List.mem_singleton.mp hy]; exact .inr rfl
  · rename_i hp
    intro y hy
    rcases List.mem_append.mp hy with hy | hy
    · exact h y hy
    · rw [List.mem_singleton.mp hy]; exact hp
  · exact h
theorem goN_len (ns : List Str) (x : Int) : (goN ns x).length ≤ ns.length + 2 := by
  show (goneN (goneN ns _) _).length ≤ _
  have h1 := goneN_len ns (pieceAt (x.fdiv 4))
  have h2 := goneN_len (goneN ns (pieceAt (x.fdiv 4))) (pieceAt (x.fdiv 32))
  omega
theorem goN_good {ns : List Str} {x : Int} (h : ∀ y ∈ ns, y = "a" ∨ y = "ab") : ∀ y ∈ goN ns x, y = "a" ∨ y = "ab" := goneN_good (goneN_good h)
theorem wentN_snoc (cs : List Int) (x : Int) : wentN (cs ++ [x]) = (goN (wentN cs).1 x, (wentN cs).2 ++ [(goN (wentN cs).1 x, x.fmod 4)]) := by simp [wentN]
theorem wentN_len (cs : List Int) : (wentN cs).1.length ≤ 2 * cs.length ∧ (∀ y ∈ (wentN cs).1, y = "a" ∨ y = "ab") ∧ (wentN cs).2.length = cs.length ∧ (∀ p ∈ (wentN cs).2, p.1.length ≤ 2 * cs.length ∧ ∀ y ∈ p.1, y = "a" ∨ y = "ab") := by
  refine snoc_ind (P := fun cs => (wentN cs).1.length ≤ 2 * cs.length ∧ (∀ y ∈ (wentN cs).1, y = "a" ∨ y = "ab") ∧ (wentN cs).2.length = cs.length ∧ (∀ p ∈ (wentN cs).2, p.1.length ≤ 2 * cs.length ∧ ∀ y ∈ p.1, y = "a" ∨ y = "ab")) ?_ ?_ cs
  · simp [wentN]
  · intro cs x ih
    obtain ⟨h1, h2, h3, h4⟩ := ih
    rw [wentN_snoc]
    have hl := goN_len (wentN cs).1 x
    refine ⟨by simp; omega, goN_good h2, by simp [h3], fun p hp => ?_⟩
    rcases List.mem_append.mp hp with hp | hp
    · have := h4 p hp; exact ⟨by simp; omega, this.2⟩
    · rw [List.mem_singleton.mp hp]; exact ⟨by simp; omega, goN_good h2⟩
section
variable {mg mb : Str → Option Value} {fa : Nat → Addr} {dT mi : Addr} {w : World} {A : Around} {g g0 : Heap} {s : Shared} {s0 : Core} {Q : Value → Shared → Prop} {E : Value → Shared → Prop} {n : Nat}
  {env : Env} {L : Addr} {m : Str → Option Value} {mu : List (Addr × Obj)}
theorem spec_went {cv : Value} {cs : List Int} (G : Gnd mg mb fa dT mi g) (k : Kp g s.heap) (o : Ok A 2) (hc : cs.length ≤ 60) (rc : Rd g cv (.list (cs.map .int))) :
    Gives w A g s (.ref (fa 27)) [cv] (.list ((wentN cs).2.map dW)) := by
  intro Q E h
  have rc' := rc
  obtain ⟨ca, cvs, rfl, hl, hr⟩ := rc'.list_inv
  refine enter (binds := [(Str.ofString "commands", .ref ca)]) G k o (by decide) (by decide) (fun kV doc pm an cdv ct => BindsTo.of_eq rfl) (locs rfl) fun cd L s1 S o' => ?_
  refine wpAny_execs_cons ?_
  k_fold
  (repeat' (first | w_left | ((with_reducible show wpAny _ _ (newList _) _ _ _); refine lstO (by first | with_reducible assumption | assumption) ?_; intro _ _ _; (try dsimp only)) | walk1 | (dsimp only; walk1)))
  rename_i D1 sA SA sB SB D2 sC SC sD SD
  have SE := (SD.perm (.swap _ _ _)).freeze
  have FE := (SD.perm (.swap _ _ _)).frozen
  have rN : Rd (put g D1 (lob [] 0)) (.ref D1) (dN []) := Rd.list FE.2 rfl rfl .nil
  have hl2 : (put g D1 (lob [] 0)).IsList ca cvs.toArray := let ⟨o, ho, r⟩ := hl; ⟨o, FE.1 _ _ ho, r⟩
  refine wpAny_For ?_
  refine ldL (by exact rfl) SE rfl (by exact rfl) ?_
  have hcl : cvs.length = cs.length := by simpa using hr.length
  refine pyIter_list hl2 SE o'.h fun I ms ps s2 W hms S2 => ?_
  refine for_itr (W _) hms S2 ["x", "piece", "names"] (fun i g T mu => (∃ nv, T = [(Str.ofString "names", nv)] ∧ Rd g nv (dN (wentN (cs.take i)).1)) ∧ ∃ vals cc, mu = [(D2, lob vals cc)] ∧ RdL g vals ((wentN (cs.take i)).2.map dW))
    (fun i g₁ g₂ T mu kk hJ => ?mono) [(Str.ofString "names", .ref D1)] ⟨rfl, trivial⟩ ⟨⟨_, rfl, rN⟩, [], 0, rfl, .nil⟩ ?turn ?fin
  case mono => exact ⟨let ⟨nv, e, r⟩ := hJ.1; ⟨nv, e, r.up kk⟩, let ⟨vals, cc, e, r⟩ := hJ.2; ⟨vals, cc, e, r.up kk⟩⟩
  case turn =>
    intro i v g' T mu' ps' jk s' hi kg hP hJ S'
    obtain ⟨⟨nv, rfl, rn⟩, vals, cc, rfl, hv⟩ := hJ
    obtain ⟨x, hx⟩ : ∃ x, cs[i]? = some x := ⟨_, List.getElem?_eq_getElem (by omega)⟩
    obtain ⟨v', hv', rv⟩ := (hr.up (FE.1.trans kg)).get (i := i) (d := .int x) (by simp [hx])
    rw [hP] at hv'
    cases hv'
    obtain ⟨tx, rfl⟩ := rv.int_inv
    have hti : (cs.take i).length ≤ 60 := by simp; omega
    have hW := wentN_len (cs.take i)
    have hstep : cs.take (i + 1) = cs.take i ++ [x] := by rw [List.take_add_one, hx]; rfl
    have hvl : vals.length ≤ 100000 := by have := hv.length; rw [List.length_map, hW.2.2.1] at this; omega
    refine wpAny_assign_Name ?_
    refine stL S' rfl fun s3 S3 => ?_
    refine wpAny_execs_cons (wpAny_For ?_)
    refine Call_ (ldF 23 S3 G rfl (by decide) rfl ?_)
    refine callN G (by decide) ?_
    refine args_cons (ldL (by exact rfl) S3 rfl (by exact rfl) ?_)
    refine args_nil ⟨S3.kp0, ?_⟩
    refine (spec_pieces (G.up S3.base.kg) S3.kp (o'.le (by decide))).use S3 fun r g4 s4 S4 K4 R4 => ?_
    obtain ⟨pa, pvs, rfl, hpl, hpr⟩ := R4.list_inv
    have hpn : pvs.length = 2 := by simpa [piecesOf] using hpr.length
    refine pyIter_list hpl S4 o'.h fun I2 ms2 ps2 s5 W2 hms2 S5 => ?_
    refine for_itr (W2 _) hms2 S5 ["piece", "names"] (fun j g T mu => (∃ nv, T = [(Str.ofString "names", nv)] ∧ Rd g nv (dN (((piecesOf x).take j).foldl goneN (wentN (cs.take i)).1))) ∧ mu = ps' ++ [(D2, lob vals cc)])
      (fun i g₁ g₂ T mu kk hJ => ⟨let ⟨nv, e, r⟩ := hJ.1; ⟨nv, e, r.up kk⟩, hJ.2⟩) [(Str.ofString "names", nv)] ⟨rfl, trivial⟩ ⟨⟨nv, rfl, rn.up K4⟩, rfl⟩ ?turn2 ?fin2
    case turn2 =>
      intro j v g' T mu' ps3 jk s' hj kg hP hJ S'
      obtain ⟨⟨nv2, rfl, rn2⟩, rfl⟩ := hJ
      obtain ⟨p, hp⟩ : ∃ p, (piecesOf x)[j]? = some p := ⟨_, List.getElem?_eq_getElem (by simp [piecesOf]; omega)⟩
      obtain ⟨v', hv', rv⟩ := (hpr.up kg).get (i := j) (d := .str p) (by simp [hp])
      rw [hP] at hv'
      cases hv'
      obtain ⟨tp, rfl⟩ := rv.str_inv
      have hlen : (((piecesOf x).take j).foldl goneN (wentN (cs.take i)).1).length ≤ 1000 := by
        have e : ∀ (l : List Str) (ns : List Str), (l.foldl goneN ns).length ≤ ns.length + l.length := by
          intro l
          induction l with
          | nil => intro ns; simp
          | cons a l ih => intro ns; have h1 := ih (goneN ns a); have h2 := goneN_len ns a; simp only [List.foldl_cons, List.length_cons]; omega
        have h1 := e ((piecesOf x).take j) (wentN (cs.take i)).1
        have h2 : ((piecesOf x).take j).length ≤ 2 := by simp [piecesOf]; omega
        have h3 := hW.1
        omega
      refine wpAny_assign_Name ?_
      refine stL S' rfl fun s6 S6 => ?_
      refine wpAny_execs_cons (wpAny_Assign_Name ?_)
      refine Call_ (ldF 26 S6 G rfl (by decide) rfl ?_)
      refine callN G (by decide) ?_
      refine args_cons (ldL (by exact rfl) S6 rfl (by exact rfl) ?_)
      refine args_cons (ldL (by exact rfl) S6 rfl (by exact rfl) ?_)
      refine args_nil ⟨S6.kp0, ?_⟩
      refine (spec_gone (G.up S6.base.kg) S6.kp (o'.le (by decide)) hlen rn2).use S6 fun r g7 s7 S7 K7 R7 => ?_
      refine stL S7 rfl fun s8 S8 => ?_
      refine wpAny_execs_nil ?_
      refine ⟨g7, _, [(Str.ofString "names", r)], _, K7, ⟨⟨r, rfl, ?_⟩, rfl⟩, ⟨rfl, trivial⟩, ?_, S8⟩
      · rw [List.take_add_one, hp]
        simpa using R7
      · repeat (first | exact Off.trk rfl Off.refl | refine Off.set rfl ?_)
    case fin2 =>
      intro g' T mu' jk2 s' kg2 hJ S'
      obtain ⟨⟨nv2, rfl, rn2⟩, rfl⟩ := hJ
      rw [hpn, show (piecesOf x).take 2 = piecesOf x from rfl] at rn2
      have rn3 : Rd g' nv2 (dN (goN (wentN (cs.take i)).1 x)) := rn2
      have hv3 := hv.up (K4.trans kg2)
      (try k_unfold)
      (try dsimp only)
      (repeat' (first | w_left | ((with_reducible show wpAny _ _ (newTuple _) _ _ _); refine' tupF (by first | with_reducible assumption | assumption) ?rds ?_; (case rds => walk_at "M.rds"); intro _ _ _ _ _ _; (try dsimp only)) | ((with_reducible show wpAny _ _ (getMethod (Value.ref _) _ _) _ _ _); refine gmO (by first | with_reducible assumption | assumption) F.slot_list_append F.type_list_append ?_) | ((with_reducible show wpAny _ _ (call (Value.builtin "list.append") _) _ _ _); refine appO (by first | with_reducible assumption | assumption) (by first | with_reducible assumption | assumption) ?_; intro _ _ _; (try dsimp only)) | walk1 | (dsimp only; walk1)))
      rename_i a8 g8 s8 S8 K8 R8 c9 s9 S9
      refine ⟨g8, _, [(Str.ofString "names", nv2)], [(D2, lob (vals ++ [.ref a8]) c9)], K4.trans (kg2.trans K8), ⟨⟨nv2, rfl, ?_⟩, _, c9, rfl, ?_⟩, ⟨rfl, trivial⟩, ?_, S9⟩
      · rw [hstep, wentN_snoc]; exact rn3.up K8
      · rw [hstep, wentN_snoc, List.map_append]
        exact (hv3.up K8).append (.cons R8 .nil)
      · repeat (first | exact Off.trk rfl Off.refl | refine Off.set rfl ?_ | refine Off.trk2 rfl rfl ?_)
  case fin =>
    intro g' T mu' jk s' kg hJ S'
    obtain ⟨⟨nv, rfl, rn⟩, vals, cc, rfl, hv⟩ := hJ
    (try k_unfold)
    (try dsimp only)
    (repeat' (first | w_left | ((with_reducible show wpAny _ _ (newTuple _) _ _ _); refine' tupF (by first | with_reducible assumption | assumption) ?rds ?_; (case rds => walk_at "M.rds"); intro _ _ _ _ _ _; (try dsimp only)) | ((with_reducible show wpAny _ _ (getMethod (Value.ref _) _ _) _ _ _); refine gmO (by first | with_reducible assumption | assumption) F.slot_list_append F.type_list_append ?_) | ((with_reducible show wpAny _ _ (call (Value.builtin "list.append") _) _ _ _); refine appO (by first | with_reducible assumption | assumption) (by first | with_reducible assumption | assumption) ?_; intro _ _ _; (try dsimp only)) | walk1 | (dsimp only; walk1)))
    rw [hcl, List.take_length] at hv
    have F := S'.frozen
    exact h _ _ _ (S'.freeze.base) (Rd.list F.2 rfl rfl (by simpa using hv.up F.1))
end

end
section
open PySem PySem.W PyProof.Rows PySem.Calls
set_option maxHeartbeats 2000000
theorem livN_yes {went : WL} {i : Nat} {ns : List Str} {d : Int} (hx : went[i]? = some (ns, d)) (h1 : d < 2) (h2 : lateN went i ns = []) : livN went (i + 1) = livN went i ++ [(ns, (i : Int))] := by
  show (match went[i]? with | none => livN went i | some (ns, d) => if d < 2 ∧ lateN went i ns = [] then livN went i ++ [(ns, (i : Int))] else livN went i) = _
  rw [hx]
  exact if_pos ⟨h1, h2⟩
theorem livN_no {went : WL} {i : Nat} {ns : List Str} {d : Int} (hx : went[i]? = some (ns, d)) (h : ¬ d < 2 ∨ lateN went i ns ≠ []) : livN went (i + 1) = livN went i := by
  show (match went[i]? with | none => livN went i | some (ns, d) => if d < 2 ∧ lateN went i ns = [] then livN went i ++ [(ns, (i : Int))] else livN went i) = _
  rw [hx]
  exact if_neg fun q => h.elim (fun x => x q.1) (fun x => x q.2)
section
variable {mg mb : Str → Option Value} {fa : Nat → Addr} {dT mi : Addr} {w : World} {A : Around} {g g0 : Heap} {s : Shared} {s0 : Core} {Q : Value → Shared → Prop} {E : Value → Shared → Prop} {n : Nat}
  {env : Env} {L : Addr} {m : Str → Option Value} {mu : List (Addr × Obj)}
theorem spec_living {wv : Value} {went : WL} (G : Gnd mg mb fa dT mi g) (k : Kp g s.heap) (o : Ok A 1) (hw : went.length ≤ 60) (hn : ∀ p ∈ went, Nm p.1 ∧ p.1.length ≤ 1000) (rw' : Rd g wv (.list (went.map dW))) :
    Gives w A g s (.ref (fa 28)) [wv] (.list ((livingN went).map dW)) := by
  intro Q E h
  have rc' := rw'
  obtain ⟨wa, wvs, rfl, hl, hr⟩ := rc'.list_inv
  refine enterC1 (x := Str.ofString "names") (binds := [(Str.ofString "went", .ref wa)]) G k o (by decide) (by decide) (fun kV doc pm an cdv ct => rfl) (fun a => rfl) (fun y hy => .inl (locs rfl y hy)) fun cd L c oc s1 hd S o' => ?_
  refine wpAny_execs_cons ?_
  k_fold
  (repeat' (first | w_left | ((with_reducible show wpAny _ _ (newList _) _ _ _); refine lstO (by first | with_reducible assumption | assumption) ?_; intro _ _ _; (try dsimp only)) | ((with_reducible show wpAny _ _ (call (Value.builtin "len") _) _ _ _); refine lenL (by first | with_reducible assumption | assumption) (by tb_rel) (by simp; omega) ?_; intro _ _ _; (try dsimp only)) | ((with_reducible show wpAny _ _ (call (Value.type "range") _) _ _ _); refine rangeF (by first | with_reducible assumption | assumption) (by simp; omega) ?_; intro _ _ _ _ _ _; (try dsimp only)) | walk1 | (dsimp only; walk1)))
  rename_i D sA SA sB SB
  refine wpAny_For ?_
  (repeat' (first | w_left | ((with_reducible show wpAny _ _ (newList _) _ _ _); refine lstO (by first | with_reducible assumption | assumption) ?_; intro _ _ _; (try dsimp only)) | ((with_reducible show wpAny _ _ (call (Value.builtin "len") _) _ _ _); refine lenL (by first | with_reducible assumption | assumption) (by tb_rel) (by simp; omega) ?_; intro _ _ _; (try dsimp only)) | ((with_reducible show wpAny _ _ (call (Value.type "range") _) _ _ _); refine rangeF (by first | with_reducible assumption | assumption) (by simp; omega) ?_; intro _ _ _ _ _ _; (try dsimp only)) | walk1 | (dsimp only; walk1)))
  rename_i t2 s2 S2 a3 g3 s3 S3 K3 I3
  have hwl : (went.map dW).length = went.length := by simp
  refine I3 _ (Str.ofString "k") ⟨215, 8, 215, 9⟩ o'.h _ _ _ _ _ _ _ (S3.perm (.swap _ _ _)) fun I ms ps s4 W hms S4 => ?_
  refine for_itr W hms S4 ["k", "deed", "later"] (fun i g T mu => T = [] ∧ ∃ oc' v0 vals cc, oc'.data = .cell v0 ∧ mu = [(c, oc'), (D, lob vals cc)] ∧ RdL g vals ((livN went i).map dW) ∧ vals.length ≤ i)
    (fun i g₁ g₂ T mu kk hJ => ?mono) [] trivial ⟨rfl, oc, none, [], 0, hd, rfl, .nil, Nat.le_refl _⟩ ?turn ?fin
  case mono => obtain ⟨e, oc', v0, vals, cc, h1, h2, h3, h4⟩ := hJ; exact ⟨e, oc', v0, vals, cc, h1, h2, h3.up kk, h4⟩
  case turn =>
    intro i v g' T mu' ps' jk s' hi kg hP hJ S'
    obtain ⟨rfl, oc', v0, vals, cc, hd', rfl, hv, hvl⟩ := hJ
    obtain ⟨ti, rfl⟩ := hP
    obtain ⟨⟨ns, d⟩, hx⟩ : ∃ p, went[i]? = some p := ⟨_, List.getElem?_eq_getElem (by omega)⟩
    have hx2 : (went.map dW)[((i : Nat) : Int).toNat]? = some (dW (ns, d)) := by simp [hx]
    have hns := hn _ (List.mem_of_getElem? hx)
    have rw2 := rw'.up (K3.trans kg)
    refine wpAny_assign_Name (stL S' rfl fun s5 S5 => ?_)
    refine wpAny_execs_cons ?_
    (repeat' (first | w_left | ((with_reducible show wpAny _ _ (subscriptTail _ _ (Value.ref _) (Value.int _ _)) _ _ _); refine itF (by first | with_reducible assumption | assumption) (by tb_rel) (by omega) (by omega) (by first | with_reducible assumption | assumption) ?_; intro _ _; (try dsimp only)) | ((with_reducible show wpAny _ _ (assign (Expr.Tuple _ _ _) _ _) _ _ _); refine asg2 (by first | with_reducible assumption | assumption) (by first | with_reducible assumption | assumption) (by tb_rel) rfl rfl ?_; intro _ _ _ _ _ _; (try dsimp only)) | ((with_reducible show wpAny _ _ (storeName _ _ _) _ _ _); first | refine stC (by first | with_reducible assumption | assumption) rfl rfl (by first | with_reducible assumption | assumption) ?_ | refine stC0 (by first | with_reducible assumption | assumption) rfl rfl (by first | with_reducible assumption | assumption) ?_; intro _ _ _ _; (try dsimp only)) | walk1 | (dsimp only; walk1)))
    rename_i v6 R6 v7 v8 s7 r7 r8 S7 o8 s8 hd8 S8 s9 S9
    obtain ⟨td, rfl⟩ := r8.int_inv
    obtain ⟨na, nvs, rfl, _, _⟩ := (show Rd g' v7 (.list (ns.map .str)) from r7).list_inv
    refine lcompA (fun j => (((went.drop (i + 1)).take j).filter (ends ns)).map fun p => dN p.1) (by simp) rfl S9 ?_
    (repeat' (first | w_left | ((with_reducible show wpAny _ _ (assign (Expr.Tuple _ _ _) _ _) _ _ _); refine asg2 (by first | with_reducible assumption | assumption) (by first | with_reducible assumption | assumption) (by tb_rel) rfl rfl ?_; intro _ _ _ _ _ _; (try dsimp only)) | ((with_reducible show wpAny _ _ (eval (Expr.Name _ _) _) _ _ _); refine ldC (by first | with_reducible assumption | assumption) (by exact rfl) (by exact rfl) (by walk_at "M.mem") (by first | with_reducible assumption | assumption) ?_) | ((with_reducible show wpAny _ _ (compareOp CmpOp.Eq (Value.ref _) (Value.ref _)) _ _ _); refine eqN (by first | with_reducible assumption | assumption) (by tb_rel) (by tb_rel) (by first | with_reducible assumption | assumption) (by first | with_reducible assumption | assumption) (by first | with_reducible assumption | assumption) ?_; (try dsimp only)) | ((with_reducible show wpAny _ _ (call (Value.builtin "len") _) _ _ _); refine lenL (by first | with_reducible assumption | assumption) (by tb_rel) (by simp; omega) ?_; intro _ _ _; (try dsimp only)) | ((with_reducible show wpAny _ _ (subscriptTail _ _ (Value.ref _) (Value.ref _)) _ _ _); refine slTakeE (by first | with_reducible assumption | assumption) (by tb_rel) (by first | rfl | (simp; rfl)) (by simp; omega) ?_; intro _ _ _ _ _ _; (try dsimp only)) | walk1 | (dsimp only; walk1)))
    refine slFromE (k := i + 1) S9 rw2 rfl (by simp; omega) fun a10 g10 s10 S10 K10 R10 => ?_
    have r7b := r7.up K10
    refine ⟨g10, _, _, ?_, Ible.data o'.h R10, S10, ?_, ?_⟩
    · simp; omega
    · intro C oL hoL j D2 v g11 mc ps2 vals2 cc2 s11 hj kg2 hP S11
      obtain ⟨pd, hpd, rp⟩ := hP kg2
      obtain ⟨⟨one, kind⟩, hq⟩ : ∃ p, (went.drop (i + 1))[j]? = some p := ⟨_, List.getElem?_eq_getElem (by simpa using hj)⟩
      have e : pd = dW (one, kind) := by
        rw [← List.map_drop, List.getElem?_map, hq] at hpd
        simpa using hpd.symm
      subst e
      have hone := hn _ (List.mem_of_mem_drop (List.mem_of_getElem? hq))
      have hone1 : Nm one := hone.1
      have hone2 : one.length ≤ 1000 := hone.2
      have hns1 : Nm ns := hns.1
      have hns2 : ns.length ≤ 1000 := hns.2
      have hns3 : Nm (ns.take one.length) := hns1.take _
      refine asg2 o' S11 rp rfl rfl fun v1 v2 s12 r1 r2 S12 => ?_
      obtain ⟨tk, rfl⟩ := r2.int_inv
      obtain ⟨oa, ovs, rfl, _, _⟩ := (show Rd g11 v1 (.list (one.map .str)) from r1).list_inv
      have r7c : Rd g11 (.ref na) (.list (ns.map .str)) := r7b.up kg2
      have r1c : Rd g11 (.ref oa) (.list (one.map .str)) := r1
      (repeat' (first | w_left | ((with_reducible show wpAny _ _ (assign (Expr.Tuple _ _ _) _ _) _ _ _); refine asg2 (by first | with_reducible assumption | assumption) (by first | with_reducible assumption | assumption) (by tb_rel) rfl rfl ?_; intro _ _ _ _ _ _; (try dsimp only)) | ((with_reducible show wpAny _ _ (eval (Expr.Name _ _) _) _ _ _); refine ldC (by first | with_reducible assumption | assumption) (by exact rfl) (by exact rfl) (by walk_at "M.mem") (by first | with_reducible assumption | assumption) ?_) | ((with_reducible show wpAny _ _ (compareOp CmpOp.Eq (Value.ref _) (Value.ref _)) _ _ _); refine eqN (by first | with_reducible assumption | assumption) (by tb_rel) (by tb_rel) (by first | with_reducible assumption | assumption) (by first | with_reducible assumption | assumption) (by first | with_reducible assumption | assumption) ?_; (try dsimp only)) | ((with_reducible show wpAny _ _ (call (Value.builtin "len") _) _ _ _); refine lenL (by first | with_reducible assumption | assumption) (by tb_rel) (by simp; omega) ?_; intro _ _ _; (try dsimp only)) | ((with_reducible show wpAny _ _ (subscriptTail _ _ (Value.ref _) (Value.ref _)) _ _ _); refine slTakeE (by first | with_reducible assumption | assumption) (by tb_rel) (by first | rfl | (simp; rfl)) (by simp; omega) ?_; intro _ _ _ _ _ _; (try dsimp only)) | walk1 | (dsimp only; walk1)))
      show wpAny (model Pg w) _ (isTrue _ _ _) _ Nv _
      have hst : (went.drop (i + 1)).take (j + 1) = (went.drop (i + 1)).take j ++ [(one, kind)] := by rw [List.take_add_one, hq]; rfl
      (repeat' (first | w_left | ((with_reducible show wpAny _ _ (assign (Expr.Tuple _ _ _) _ _) _ _ _); refine asg2 (by first | with_reducible assumption | assumption) (by first | with_reducible assumption | assumption) (by tb_rel) rfl rfl ?_; intro _ _ _ _ _ _; (try dsimp only)) | ((with_reducible show wpAny _ _ (eval (Expr.Name _ _) _) _ _ _); refine ldC (by first | with_reducible assumption | assumption) (by exact rfl) (by exact rfl) (by walk_at "M.mem") (by first | with_reducible assumption | assumption) ?_) | ((with_reducible show wpAny _ _ (compareOp CmpOp.Eq (Value.ref _) (Value.ref _)) _ _ _); refine eqN (by first | with_reducible assumption | assumption) (by tb_rel) (by tb_rel) (by first | with_reducible assumption | assumption) (by first | with_reducible assumption | assumption) (by first | with_reducible assumption | assumption) ?_; (try dsimp only)) | ((with_reducible show wpAny _ _ (call (Value.builtin "len") _) _ _ _); refine lenL (by first | with_reducible assumption | assumption) (by tb_rel) (by simp; omega) ?_; intro _ _ _; (try dsimp only)) | ((with_reducible show wpAny _ _ (subscriptTail _ _ (Value.ref _) (Value.ref _)) _ _ _); refine slTakeE (by first | with_reducible assumption | assumption) (by tb_rel) (by first | rfl | (simp; rfl)) (by simp; omega) ?_; intro _ _ _ _ _ _; (try dsimp only)) | walk1 | (dsimp only; walk1)))
      · rename_i sX SX n1
        have e : ends ns (one, kind) = true := by unfold ends; simp [n1]
        refine ldL (by exact rfl) SX rfl (by exact rfl) ?_
        exact ⟨g11, _, dN one, Kp.refl _, by rw [hst, List.filter_append]; simp [e], r1, SX⟩
      · rename_i t20 s20 S20 a21 g21 s21 S21 K21 R21
        have R22 : Rd g21 (.ref a21) (dN (ns.take one.length)) := by unfold dN; simpa using R21
        refine eqN S21 R22 (r1c.up K21) o' hns3 hone1 ?_
        (repeat' (first | w_left | ((with_reducible show wpAny _ _ (assign (Expr.Tuple _ _ _) _ _) _ _ _); refine asg2 (by first | with_reducible assumption | assumption) (by first | with_reducible assumption | assumption) (by tb_rel) rfl rfl ?_; intro _ _ _ _ _ _; (try dsimp only)) | ((with_reducible show wpAny _ _ (eval (Expr.Name _ _) _) _ _ _); refine ldC (by first | with_reducible assumption | assumption) (by exact rfl) (by exact rfl) (by walk_at "M.mem") (by first | with_reducible assumption | assumption) ?_) | ((with_reducible show wpAny _ _ (compareOp CmpOp.Eq (Value.ref _) (Value.ref _)) _ _ _); refine eqN (by first | with_reducible assumption | assumption) (by tb_rel) (by tb_rel) (by first | with_reducible assumption | assumption) (by first | with_reducible assumption | assumption) (by first | with_reducible assumption | assumption) ?_; (try dsimp only)) | ((with_reducible show wpAny _ _ (call (Value.builtin "len") _) _ _ _); refine lenL (by first | with_reducible assumption | assumption) (by tb_rel) (by simp; omega) ?_; intro _ _ _; (try dsimp only)) | ((with_reducible show wpAny _ _ (subscriptTail _ _ (Value.ref _) (Value.ref _)) _ _ _); refine slTakeE (by first | with_reducible assumption | assumption) (by tb_rel) (by first | rfl | (simp; rfl)) (by simp; omega) ?_; intro _ _ _ _ _ _; (try dsimp only)) | walk1 | (dsimp only; walk1)))
        · rename_i n1 n2 n3
          have e : ends ns (one, kind) = true := by unfold ends; simp [n2, n3]
          refine ldL (by exact rfl) S21 rfl (by exact rfl) ?_
          exact ⟨g21, _, dN one, K21, by rw [hst, List.filter_append]; simp [e], r1.up K21, S21⟩
        · rename_i n1 n2 n3
          have e : ends ns (one, kind) = false := by unfold ends; simp [n1, n3]
          exact ⟨g21, _, K21, by rw [hst, List.filter_append]; simp [e], S21⟩
      · rename_i sX SX n1 n2
        have e : ends ns (one, kind) = false := by unfold ends; simp [n1, n2]
        exact ⟨g11, _, Kp.refl _, by rw [hst, List.filter_append]; simp [e], SX⟩
    · intro r g13 s13 kg3 S13 R13
      have S14 := S13.perm (mu' := ps' ++ (D, lob vals cc) :: [(c, o8)]) ((List.Perm.swap _ _ _).append_left _)
      have r7d := r7b.up kg3
      have hvl2 : vals.length ≤ 100000 := by omega
      have R13' := R13
      obtain ⟨la, lvs, rfl, _, _⟩ := R13'.list_inv
      (try k_unfold)
      (try dsimp only)
      have hlate : (List.map (fun p => dN p.1) (List.filter (ends ns) (List.take (List.drop (i + 1) (List.map dW went)).length (List.drop (i + 1) went)))).isEmpty = (lateN went i ns).isEmpty := by
        rw [List.take_of_length_le (by simp)]
        unfold lateN
        simp
      have hback : ∀ x, List.Perm (ps' ++ x :: [(c, o8)]) (ps' ++ [(c, o8), x]) := fun x => (List.Perm.swap _ _ _).append_left _
      (repeat' (first | w_left | ((with_reducible show wpAny _ _ (eval (Expr.Name _ _) _) _ _ _); refine ldC (by first | with_reducible assumption | assumption) (by exact rfl) (by exact rfl) (by walk_at "M.mem") (by first | with_reducible assumption | assumption) ?_) | ((with_reducible show wpAny _ _ (newList _) _ _ _); refine' lstF (by first | with_reducible assumption | assumption) ?rds ?_; (case rds => walk_at "M.rds"); intro _ _ _ _ _ _; (try dsimp only)) | ((with_reducible show wpAny _ _ (compareOp CmpOp.Eq (Value.ref _) (Value.ref _)) _ _ _); refine eqE (by first | with_reducible assumption | assumption) (by tb_rel) (by tb_rel) (by first | with_reducible assumption | assumption) ?_; (try dsimp only)) | ((with_reducible show wpAny _ _ (newTuple _) _ _ _); refine' tupF (by first | with_reducible assumption | assumption) ?rds ?_; (case rds => walk_at "M.rds"); intro _ _ _ _ _ _; (try dsimp only)) | ((with_reducible show wpAny _ _ (getMethod (Value.ref _) _ _) _ _ _); refine gmO (by first | with_reducible assumption | assumption) F.slot_list_append F.type_list_append ?_) | ((with_reducible show wpAny _ _ (call (Value.builtin "list.append") _) _ _ _); refine appO (by first | with_reducible assumption | assumption) (by first | with_reducible assumption | assumption) ?_; intro _ _ _; (try dsimp only)) | walk1 | (dsimp only; walk1)))
      · rename_i n0 a30 g30 s30 S30 K30 R30 n1 a31 g31 s31 S31 K31 R31 c32 s32 S32
        have n1' := hlate.symm.trans n1
        refine ⟨g31, _, [], [(c, o8), (D, lob (vals ++ [.ref a31]) c32)], K10.trans (kg3.trans (K30.trans K31)), ⟨rfl, o8, _, _, _, hd8, rfl, ?_, by simp; omega⟩, trivial, ?_, S32.perm (hback _)⟩
        · rw [livN_yes hx n0 (List.isEmpty_iff.mp n1'), List.map_append]
          exact (hv.up (K10.trans (kg3.trans (K30.trans K31)))).append (.cons R31 .nil)
        · repeat (first | exact Off.trk rfl Off.refl | refine Off.set rfl ?_ | refine Off.trk2 rfl rfl ?_)
      · rename_i n0 a30 g30 s30 S30 K30 R30 n1
        have n1' := hlate.symm.trans n1
        refine ⟨g30, _, [], [(c, o8), (D, lob vals cc)], K10.trans (kg3.trans K30), ⟨rfl, o8, _, _, _, hd8, rfl, ?_, by omega⟩, trivial, ?_, S30.perm (hback _)⟩
        · rw [livN_no hx (.inr (fun q => by rw [q] at n1'; cases n1'))]
          exact hv.up (K10.trans (kg3.trans K30))
        · repeat (first | exact Off.trk rfl Off.refl | refine Off.set rfl ?_ | refine Off.trk2 rfl rfl ?_)
      · rename_i n0
        refine ⟨g13, _, [], [(c, o8), (D, lob vals cc)], K10.trans kg3, ⟨rfl, o8, _, _, _, hd8, rfl, ?_, by omega⟩, trivial, ?_, S14.perm (hback _)⟩
        · rw [livN_no hx (.inl n0)]
          exact hv.up (K10.trans kg3)
        · repeat (first | exact Off.trk rfl Off.refl | refine Off.set rfl ?_ | refine Off.trk2 rfl rfl ?_)
  case fin =>
    intro g' T mu' jk s' kg hJ S'
    obtain ⟨rfl, oc', v0, vals, cc, hd', rfl, hv, hvl⟩ := hJ
    (try k_unfold)
    (try dsimp only)
    (repeat' (first | w_left | ((with_reducible show wpAny _ _ (subscriptTail _ _ (Value.ref _) (Value.int _ _)) _ _ _); refine itF (by first | with_reducible assumption | assumption) (by tb_rel) (by omega) (by omega) (by first | with_reducible assumption | assumption) ?_; intro _ _; (try dsimp only)) | ((with_reducible show wpAny _ _ (assign (Expr.Tuple _ _ _) _ _) _ _ _); refine asg2 (by first | with_reducible assumption | assumption) (by first | with_reducible assumption | assumption) (by tb_rel) rfl rfl ?_; intro _ _ _ _ _ _; (try dsimp only)) | ((with_reducible show wpAny _ _ (storeName _ _ _) _ _ _); first | refine stC (by first | with_reducible assumption | assumption) rfl rfl (by first | with_reducible assumption | assumption) ?_ | refine stC0 (by first | with_reducible assumption | assumption) rfl rfl (by first | with_reducible assumption | assumption) ?_; intro _ _ _ _; (try dsimp only)) | walk1 | (dsimp only; walk1)))
    rw [hwl] at hv
    have S6 := S'.perm (.swap _ _ _)
    have F := S6.frozen
    exact h _ _ _ (S6.freeze.base) (Rd.list F.2 rfl rfl (by simpa [livingN] using hv.up F.1))
end

end
section
open PySem PySem.W PyProof.Rows PySem.Calls
set_option maxHeartbeats 2000000
theorem livN_mem {went : WL} : ∀ {k : Nat} {p : List Str × Int}, p ∈ livN went k → ∃ (i : Nat) (d : Int), went[i]? = some (p.1, d) ∧ p.2 = (i : Int) ∧ i < k
  | 0, p, h => nomatch h
  | k + 1, p, h => by
    cases hx : went[k]? with
    | none =>
      have e : livN went (k + 1) = livN went k := by
        show (match went[k]? with | none => livN went k | some (ns, d) => if d < 2 ∧ lateN went k ns = [] then livN went k ++ [(ns, (k : Int))] else livN went k) = _
        rw [hx]
      rw [e] at h
      obtain ⟨i, d, h1, h2, h3⟩ := livN_mem h
      exact ⟨i, d, h1, h2, by omega⟩
    | some q =>
      obtain ⟨ns, d⟩ := q
      by_cases hc : d < 2 ∧ lateN went k ns = []
      · rw [livN_yes hx hc.1 hc.2] at h
        rcases List.mem_append.mp h with h | h
        · obtain ⟨i, d, h1, h2, h3⟩ := livN_mem h
          exact ⟨i, d, h1, h2, by omega⟩
        · rw [List.mem_singleton.mp h]; exact ⟨k, d, hx, rfl, Nat.lt_succ_self _⟩
      · rw [livN_no hx (by rcases Classical.em (d < 2) with h1 | h1
                           · exact .inr fun q => hc ⟨h1, q⟩
                           · exact .inl h1)] at h
        obtain ⟨i, d, h1, h2, h3⟩ := livN_mem h
        exact ⟨i, d, h1, h2, by omega⟩
theorem livN_len {went : WL} : ∀ {k : Nat}, (livN went k).length ≤ k
  | 0 => Nat.le_refl _
  | k + 1 => by
    have ih := livN_len (went := went) (k := k)
    cases hx : went[k]? with
    | none =>
      have e : livN went (k + 1) = livN went k := by
        show (match went[k]? with | none => livN went k | some (ns, d) => if d < 2 ∧ lateN went k ns = [] then livN went k ++ [(ns, (k : Int))] else livN went k) = _
        rw [hx]
      rw [e]; omega
    | some q =>
      obtain ⟨ns, d⟩ := q
      by_cases hc : d < 2 ∧ lateN went k ns = []
      · rw [livN_yes hx hc.1 hc.2]; simp; omega
      · rw [livN_no hx (by rcases Classical.em (d < 2) with h1 | h1
                           · exact .inr fun q => hc ⟨h1, q⟩
                           · exact .inl h1)]; omega
section
variable {mg mb : Str → Option Value} {fa : Nat → Addr} {dT mi : Addr} {w : World} {A : Around} {g g0 : Heap} {s : Shared} {s0 : Core} {Q : Value → Shared → Prop} {E : Value → Shared → Prop} {n : Nat}
  {env : Env} {L : Addr} {m : Str → Option Value} {mu : List (Addr × Obj)}
theorem spec_due {wv : Value} {w0 : WL} {last : List Str × Int} (G : Gnd mg mb fa dT mi g) (k : Kp g s.heap) (o : Ok A 3) (hw : w0.length ≤ 50) (hn : ∀ p ∈ w0 ++ [last], Good p.1) (rw' : Rd g wv (.list ((w0 ++ [last]).map dW))) :
    Gives w A g s (.ref (fa 30)) [wv] (.tuple [.str (textN last.1), .int ((w0 ++ [last]).length : Int), .list ((livingN (w0 ++ [last])).map Mine.dT)]) := by
  intro Q E h
  have rc' := rw'
  obtain ⟨wa, wvs, rfl, hl, hr⟩ := rc'.list_inv
  have rw2 : Rd g (.ref wa) (.list (w0.map dW ++ [dW last])) := by simpa using rw'
  have hw0 : (w0.map dW).length ≤ 1000 := by simp; omega
  refine enter (binds := [(Str.ofString "went", .ref wa)]) G k o (by decide) (by decide) (fun kV doc pm an cdv ct => BindsTo.of_eq rfl) (locs rfl) fun cd L s1 S o' => ?_
  refine wpAny_execs_cons ?_
  k_fold
  (repeat' (first | w_left | ((with_reducible show wpAny _ _ (call (Value.builtin "len") _) _ _ _); refine lenL (by first | with_reducible assumption | assumption) (by tb_rel) (by simp; omega) ?_; intro _ _ _; (try dsimp only)) | ((with_reducible show wpAny _ _ (subscriptTail _ _ (Value.ref _) (Value.int _ _)) _ _ _); refine itL (by first | with_reducible assumption | assumption) (by first | with_reducible assumption | assumption) (by omega) ?_; intro _ _; (try dsimp only)) | walk1 | (dsimp only; walk1)))
  rename_i v6 R6
  obtain ⟨ta, tvs, rfl, _, _⟩ := (show Rd g v6 (.tuple [dN last.1, .int last.2]) from R6).tuple_inv
  refine itT S (show Rd g (.ref ta) (.tuple [dN last.1, .int last.2]) from R6) (by decide) (by simp) (by simp) rfl fun v7 R7 => ?_
  (repeat' (first | w_left | ((with_reducible show wpAny _ _ (call (Value.builtin "len") _) _ _ _); refine lenL (by first | with_reducible assumption | assumption) (by tb_rel) (by simp; omega) ?_; intro _ _ _; (try dsimp only)) | ((with_reducible show wpAny _ _ (subscriptTail _ _ (Value.ref _) (Value.int _ _)) _ _ _); refine itL (by first | with_reducible assumption | assumption) (by first | with_reducible assumption | assumption) (by omega) ?_; intro _ _; (try dsimp only)) | walk1 | (dsimp only; walk1)))
  refine useGS S (fun k => spec_text (G.up S.base.kg) k (o'.le (by decide)) (hn last (by simp)) R7) fun t8 g8 s8 S8 K8 => ?_
  have rw3 := rw'.up K8
  have hlen : ((w0 ++ [last]).map dW).length ≤ 100000 := by simp; omega
  (repeat' (first | w_left | ((with_reducible show wpAny _ _ (call (Value.builtin "len") _) _ _ _); refine lenL (by first | with_reducible assumption | assumption) (by tb_rel) (by simp; omega) ?_; intro _ _ _; (try dsimp only)) | ((with_reducible show wpAny _ _ (subscriptTail _ _ (Value.ref _) (Value.int _ _)) _ _ _); refine itL (by first | with_reducible assumption | assumption) (by first | with_reducible assumption | assumption) (by omega) ?_; intro _ _; (try dsimp only)) | walk1 | (dsimp only; walk1)))
  rename_i t9 s9 S9
  refine lcomp (fun j => ((livingN (w0 ++ [last])).take j).map Mine.dT) (by simp) S9 ?_
  (repeat' (first | w_left | ((with_reducible show wpAny _ _ (call (Value.builtin "len") _) _ _ _); refine lenL (by first | with_reducible assumption | assumption) (by tb_rel) (by simp; omega) ?_; intro _ _ _; (try dsimp only)) | ((with_reducible show wpAny _ _ (subscriptTail _ _ (Value.ref _) (Value.int _ _)) _ _ _); refine itL (by first | with_reducible assumption | assumption) (by first | with_reducible assumption | assumption) (by omega) ?_; intro _ _; (try dsimp only)) | walk1 | (dsimp only; walk1)))
  refine useG S9 (fun k => spec_living (G.up S9.base.kg) k (o'.le (by decide)) (by simp; omega) (fun p hp => ⟨(hn p hp).nm, by have := (hn p hp).len; omega⟩) rw3) fun r10 g10 s10 S10 K10 R10 => ?_
  refine ⟨g10, _, _, ?_, Ible.data o'.h R10, S10, ?_, ?_⟩
  · have := livN_len (went := w0 ++ [last]) (k := (w0 ++ [last]).length)
    simp [livingN] at this ⊢; omega
  · intro C oL hoL j D2 v g11 mc ps2 vals2 cc2 s11 hj kg2 hP S11
    obtain ⟨pd, hpd, rp⟩ := hP kg2
    obtain ⟨⟨one, kk⟩, hq⟩ : ∃ p, (livingN (w0 ++ [last]))[j]? = some p := ⟨_, List.getElem?_eq_getElem (by simpa using hj)⟩
    have e : pd = dW (one, kk) := by
      rw [List.getElem?_map, hq] at hpd
      simpa using hpd.symm
    subst e
    obtain ⟨i1, d1, hm1, _, _⟩ := livN_mem (List.mem_of_getElem? hq)
    have hone : Good one := hn _ (List.mem_of_getElem? hm1)
    refine asg2 o' S11 rp rfl rfl fun v1 v2 s12 r1 r2 S12 => ?_
    obtain ⟨tk, rfl⟩ := r2.int_inv
    have hst : (livingN (w0 ++ [last])).take (j + 1) = (livingN (w0 ++ [last])).take j ++ [(one, kk)] := by rw [List.take_add_one, hq]; rfl
    (repeat' (first | w_left | ((with_reducible show wpAny _ _ (newTuple _) _ _ _); refine' tupF (by first | with_reducible assumption | assumption) ?rds ?_; (case rds => walk_at "M.rds"); intro _ _ _ _ _ _; (try dsimp only)) | walk1 | (dsimp only; walk1)))
    rename_i sX SX sY SY
    show wpAny (model Pg w) _ (eval _ _) _ Nv _
    (repeat' (first | w_left | ((with_reducible show wpAny _ _ (newTuple _) _ _ _); refine' tupF (by first | with_reducible assumption | assumption) ?rds ?_; (case rds => walk_at "M.rds"); intro _ _ _ _ _ _; (try dsimp only)) | walk1 | (dsimp only; walk1)))
    refine useGS SY (fun k => spec_text (G.up SY.base.kg) k (o'.le (by decide)) hone r1) fun t20 g20 s20 S20 K20 => ?_
    (repeat' (first | w_left | ((with_reducible show wpAny _ _ (newTuple _) _ _ _); refine' tupF (by first | with_reducible assumption | assumption) ?rds ?_; (case rds => walk_at "M.rds"); intro _ _ _ _ _ _; (try dsimp only)) | walk1 | (dsimp only; walk1)))
    rename_i a21 g21 s21 S21 K21 R21
    exact ⟨g21, _, Mine.dT (one, kk), K20.trans K21, by rw [hst, List.map_append]; rfl, R21, S21⟩
  · intro r g13 s13 kg3 S13 R13
    rw [List.take_of_length_le (by simp)] at R13
    (repeat' (first | w_left | ((with_reducible show wpAny _ _ (newTuple _) _ _ _); refine' tupF (by first | with_reducible assumption | assumption) ?rds ?_; (case rds => walk_at "M.rds"); intro _ _ _ _ _ _; (try dsimp only)) | walk1 | (dsimp only; walk1)))
    rename_i a21 g21 s21 S21 K21 R21
    have R22 : Rd g21 (.ref a21) (.tuple [.str (textN last.1), .int ((w0 ++ [last]).length : Int), .list ((livingN (w0 ++ [last])).map Mine.dT)]) := by simpa using R21
    exact h _ _ _ S21.base R22
end

end
section
open PySem PySem.W PyProof.Rows PySem.Calls
set_option maxHeartbeats 2000000
abbrev abv (ab : List (Int × Int)) (i j : Nat) : Bool := gtP (ab.getD i (0, 0)) (ab.getD j (0, 0))
def bestN (ab : List (Int × Int)) : Nat := argBest (abv ab) (ab.length - 1)
def nearN (asked : List Str) (liv : WL) : List Int := if aboveN asked liv = [] then [] else [((aboveN asked liv).getD (bestN (aboveN asked liv)) (0, 0)).2]
section
variable {mg mb : Str → Option Value} {fa : Nat → Addr} {dT mi : Addr} {w : World} {A : Around} {g g0 : Heap} {s : Shared} {s0 : Core} {Q : Value → Shared → Prop} {E : Value → Shared → Prop} {n : Nat}
  {env : Env} {L : Addr} {m : Str → Option Value} {mu : List (Addr × Obj)}
theorem spec_max {l : Addr} {ab : List (Int × Int)} {j : Nat} (S : St g0 s0 g L m mu (core s)) (o : Ok A (j + 1)) (r : Rd g (.ref l) (.list (ab.map dP))) (h0 : ab ≠ [])
    (h : ∀ v s', Rd g v (dP (ab.getD (bestN ab) (0, 0))) → St g0 s0 g L m mu (core s') → Q v s') : wpAny (model Pg w) A (call (.builtin "max") [.ref l]) Q E s := by
  obtain ⟨l, vs, e, hl, hr⟩ := r.list_inv
  cases e
  have hn : vs.length = ab.length := by simpa using hr.length
  have hp : 0 < ab.length := List.length_pos_iff.mpr h0
  refine maxl o.h (abv ab) hl (by omega) S (fun i j vi vj s Q E k hi hj hQ => ?_) (fun v s' hv S' => ?_)
  · have li : i < ab.length := by rw [← hn]; exact (List.getElem?_eq_some_iff.mp hi).1
    have lj : j < ab.length := by rw [← hn]; exact (List.getElem?_eq_some_iff.mp hj).1
    obtain ⟨v1, e1, q1⟩ := hr.get (i := i) (d := dP ab[i]) (by simp [li])
    obtain ⟨v2, e2, q2⟩ := hr.get (i := j) (d := dP ab[j]) (by simp [lj])
    rw [hi] at e1; cases e1
    rw [hj] at e2; cases e2
    refine gt_pair k (o := o.in1) (p := ab[i]) (q := ab[j]) q1 q2 ?_
    simpa [abv, List.getD, li, lj] using hQ
  · refine h v s' ?_ S'
    rw [hn] at hv
    have lb := (List.getElem?_eq_some_iff.mp hv).1
    rw [hn] at lb
    obtain ⟨v1, e1, q1⟩ := hr.get (i := argBest (abv ab) (ab.length - 1)) (d := dP ab[argBest (abv ab) (ab.length - 1)]) (by simp [lb])
    rw [hv] at e1; cases e1
    have e : ab.getD (bestN ab) (0, 0) = ab[argBest (abv ab) (ab.length - 1)] := by
      show ab.getD (argBest (abv ab) (ab.length - 1)) (0, 0) = _
      rw [List.getD_eq_getElem?_getD, List.getElem?_eq_getElem lb]; rfl
    rw [e]; exact q1
theorem spec_near {av lv : Value} {asked : List Str} {liv : WL} (G : Gnd mg mb fa dT mi g) (k : Kp g s.heap) (o : Ok A 2) (hw : liv.length ≤ 60) (ha : Nm asked) (hal : asked.length ≤ 1000) (hn : ∀ p ∈ liv, Nm p.1 ∧ p.1.length ≤ 1000)
    (ra : Rd g av (dN asked)) (rl : Rd g lv (.list (liv.map dW))) :
    Gives w A g s (.ref (fa 31)) [av, lv] (.list ((nearN asked liv).map .int)) := by
  intro Q E h
  have ra' := ra
  obtain ⟨aa, avs, rfl, _, _⟩ := (show Rd g av (.list (asked.map .str)) from ra').list_inv
  have rl' := rl
  obtain ⟨la, lvs, rfl, _, _⟩ := rl'.list_inv
  refine enterC1 (x := Str.ofString "asked") (binds := [(Str.ofString "asked", .ref aa), (Str.ofString "living", .ref la)]) G k o (by decide) (by decide) (fun kV doc pm an cdv ct => rfl) (fun a => rfl) (fun y hy => ?_) fun cd L c oc s1 hd S o' => ?_
  · rcases List.mem_cons.mp hy with rfl | hy
    · exact .inr ⟨rfl, rfl⟩
    · rw [List.mem_singleton.mp hy]; exact .inl rfl
  have hd : oc.data = .cell (some (.ref aa)) := hd
  refine wpAny_execs_cons ?_
  k_fold
  refine lcompA (fun j => ((liv.take j).filter fun e => decide (asked.take e.1.length = e.1)).map fun e => dP ((e.1.length : Int), e.2)) (by simp) rfl S ?_
  refine ldL (by exact rfl) S rfl (by exact rfl) ?_
  refine ⟨g, _, _, ?_, Ible.data o'.h rl, S, ?_, ?_⟩
  · simp; omega
  · intro C oL hoL j D2 v g11 mc ps2 vals2 cc2 s11 hj kg2 hP S11
    obtain ⟨pd, hpd, rp⟩ := hP kg2
    obtain ⟨⟨one, kk⟩, hq⟩ : ∃ p, liv[j]? = some p := ⟨_, List.getElem?_eq_getElem (by simpa using hj)⟩
    have e : pd = dW (one, kk) := by
      rw [List.getElem?_map, hq] at hpd
      simpa using hpd.symm
    subst e
    have hone := hn _ (List.mem_of_getElem? hq)
    have hone1 : Nm one := hone.1
    have hone2 : one.length ≤ 1000 := hone.2
    have hst : liv.take (j + 1) = liv.take j ++ [(one, kk)] := by rw [List.take_add_one, hq]; rfl
    refine asg2 o' S11 rp rfl rfl fun v1 v2 s12 r1 r2 S12 => ?_
    obtain ⟨tk, rfl⟩ := r2.int_inv
    obtain ⟨oa, ovs, rfl, _, _⟩ := (show Rd g11 v1 (.list (one.map .str)) from r1).list_inv
    have r1c : Rd g11 (.ref oa) (.list (one.map .str)) := r1
    have ra2 : Rd g11 (.ref aa) (.list (asked.map .str)) := ra.up kg2
    (repeat' (first | w_left | ((with_reducible show wpAny _ _ (assign (Expr.Tuple _ _ _) _ _) _ _ _); refine asg2 (by first | with_reducible assumption | assumption) (by first | with_reducible assumption | assumption) (by tb_rel) rfl rfl ?_; intro _ _ _ _ _ _; (try dsimp only)) | ((with_reducible show wpAny _ _ (eval (Expr.Name _ _) _) _ _ _); refine ldC (by first | with_reducible assumption | assumption) (by exact rfl) (by exact rfl) (by walk_at "M.mem") (by first | with_reducible assumption | assumption) ?_) | ((with_reducible show wpAny _ _ (compareOp CmpOp.Eq (Value.ref _) (Value.ref _)) _ _ _); refine eqN (by first | with_reducible assumption | assumption) (by tb_rel) (by tb_rel) (by first | with_reducible assumption | assumption) (by first | with_reducible assumption | assumption) (by first | with_reducible assumption | assumption) ?_; (try dsimp only)) | ((with_reducible show wpAny _ _ (call (Value.builtin "len") _) _ _ _); refine lenL (by first | with_reducible assumption | assumption) (by tb_rel) (by simp; omega) ?_; intro _ _ _; (try dsimp only)) | ((with_reducible show wpAny _ _ (subscriptTail _ _ (Value.ref _) (Value.ref _)) _ _ _); refine slTakeE (by first | with_reducible assumption | assumption) (by tb_rel) (by first | rfl | (simp; rfl)) (by simp; omega) ?_; intro _ _ _ _ _ _; (try dsimp only)) | ((with_reducible show wpAny _ _ (newTuple _) _ _ _); refine' tupF (by first | with_reducible assumption | assumption) ?rds ?_; (case rds => walk_at "M.rds"); intro _ _ _ _ _ _; (try dsimp only)) | walk1 | (dsimp only; walk1)))
    show wpAny (model Pg w) _ (isTrue _ _ _) _ Nv _
    (repeat' (first | w_left | ((with_reducible show wpAny _ _ (assign (Expr.Tuple _ _ _) _ _) _ _ _); refine asg2 (by first | with_reducible assumption | assumption) (by first | with_reducible assumption | assumption) (by tb_rel) rfl rfl ?_; intro _ _ _ _ _ _; (try dsimp only)) | ((with_reducible show wpAny _ _ (eval (Expr.Name _ _) _) _ _ _); refine ldC (by first | with_reducible assumption | assumption) (by exact rfl) (by exact rfl) (by walk_at "M.mem") (by first | with_reducible assumption | assumption) ?_) | ((with_reducible show wpAny _ _ (compareOp CmpOp.Eq (Value.ref _) (Value.ref _)) _ _ _); refine eqN (by first | with_reducible assumption | assumption) (by tb_rel) (by tb_rel) (by first | with_reducible assumption | assumption) (by first | with_reducible assumption | assumption) (by first | with_reducible assumption | assumption) ?_; (try dsimp only)) | ((with_reducible show wpAny _ _ (call (Value.builtin "len") _) _ _ _); refine lenL (by first | with_reducible assumption | assumption) (by tb_rel) (by simp; omega) ?_; intro _ _ _; (try dsimp only)) | ((with_reducible show wpAny _ _ (subscriptTail _ _ (Value.ref _) (Value.ref _)) _ _ _); refine slTakeE (by first | with_reducible assumption | assumption) (by tb_rel) (by first | rfl | (simp; rfl)) (by simp; omega) ?_; intro _ _ _ _ _ _; (try dsimp only)) | ((with_reducible show wpAny _ _ (newTuple _) _ _ _); refine' tupF (by first | with_reducible assumption | assumption) ?rds ?_; (case rds => walk_at "M.rds"); intro _ _ _ _ _ _; (try dsimp only)) | walk1 | (dsimp only; walk1)))
    rename_i a21 g21 s21 S21 K21 R21
    have R22 : Rd g21 (.ref a21) (dN (asked.take one.length)) := by unfold dN; simpa using R21
    refine eqN S21 R22 (r1c.up K21) o' (ha.take _) hone1 ?_
    (repeat' (first | w_left | ((with_reducible show wpAny _ _ (assign (Expr.Tuple _ _ _) _ _) _ _ _); refine asg2 (by first | with_reducible assumption | assumption) (by first | with_reducible assumption | assumption) (by tb_rel) rfl rfl ?_; intro _ _ _ _ _ _; (try dsimp only)) | ((with_reducible show wpAny _ _ (eval (Expr.Name _ _) _) _ _ _); refine ldC (by first | with_reducible assumption | assumption) (by exact rfl) (by exact rfl) (by walk_at "M.mem") (by first | with_reducible assumption | assumption) ?_) | ((with_reducible show wpAny _ _ (compareOp CmpOp.Eq (Value.ref _) (Value.ref _)) _ _ _); refine eqN (by first | with_reducible assumption | assumption) (by tb_rel) (by tb_rel) (by first | with_reducible assumption | assumption) (by first | with_reducible assumption | assumption) (by first | with_reducible assumption | assumption) ?_; (try dsimp only)) | ((with_reducible show wpAny _ _ (call (Value.builtin "len") _) _ _ _); refine lenL (by first | with_reducible assumption | assumption) (by tb_rel) (by simp; omega) ?_; intro _ _ _; (try dsimp only)) | ((with_reducible show wpAny _ _ (subscriptTail _ _ (Value.ref _) (Value.ref _)) _ _ _); refine slTakeE (by first | with_reducible assumption | assumption) (by tb_rel) (by first | rfl | (simp; rfl)) (by simp; omega) ?_; intro _ _ _ _ _ _; (try dsimp only)) | ((with_reducible show wpAny _ _ (newTuple _) _ _ _); refine' tupF (by first | with_reducible assumption | assumption) ?rds ?_; (case rds => walk_at "M.rds"); intro _ _ _ _ _ _; (try dsimp only)) | walk1 | (dsimp only; walk1)))
    cases hc : decide (asked.take one.length = one) with
    | true =>
      show wpAny (model Pg w) _ (eval _ _) _ Nv _
      have r1d := r1c.up K21
      (repeat' (first | w_left | ((with_reducible show wpAny _ _ (assign (Expr.Tuple _ _ _) _ _) _ _ _); refine asg2 (by first | with_reducible assumption | assumption) (by first | with_reducible assumption | assumption) (by tb_rel) rfl rfl ?_; intro _ _ _ _ _ _; (try dsimp only)) | ((with_reducible show wpAny _ _ (eval (Expr.Name _ _) _) _ _ _); refine ldC (by first | with_reducible assumption | assumption) (by exact rfl) (by exact rfl) (by walk_at "M.mem") (by first | with_reducible assumption | assumption) ?_) | ((with_reducible show wpAny _ _ (compareOp CmpOp.Eq (Value.ref _) (Value.ref _)) _ _ _); refine eqN (by first | with_reducible assumption | assumption) (by tb_rel) (by tb_rel) (by first | with_reducible assumption | assumption) (by first | with_reducible assumption | assumption) (by first | with_reducible assumption | assumption) ?_; (try dsimp only)) | ((with_reducible show wpAny _ _ (call (Value.builtin "len") _) _ _ _); refine lenL (by first | with_reducible assumption | assumption) (by tb_rel) (by simp; omega) ?_; intro _ _ _; (try dsimp only)) | ((with_reducible show wpAny _ _ (subscriptTail _ _ (Value.ref _) (Value.ref _)) _ _ _); refine slTakeE (by first | with_reducible assumption | assumption) (by tb_rel) (by first | rfl | (simp; rfl)) (by simp; omega) ?_; intro _ _ _ _ _ _; (try dsimp only)) | ((with_reducible show wpAny _ _ (newTuple _) _ _ _); refine' tupF (by first | with_reducible assumption | assumption) ?rds ?_; (case rds => walk_at "M.rds"); intro _ _ _ _ _ _; (try dsimp only)) | walk1 | (dsimp only; walk1)))
      rename_i t30 s30 S30 a31 g31 s31 S31 K31 R31
      exact ⟨g31, _, dP ((one.length : Int), kk), K21.trans K31, by rw [hst, List.filter_append]; simp [hc], by simpa [dP] using R31, S31⟩
    | false =>
      exact ⟨g21, _, K21, by rw [hst, List.filter_append]; simp [hc], S21⟩
  · intro r g13 s13 kg3 S13 R13
    rw [List.take_of_length_le (by simp)] at R13
    have R14 : Rd g13 r (.list ((aboveN asked liv).map dP)) := by unfold aboveN; rw [List.map_map]; exact R13
    have R14' := R14
    obtain ⟨ba, bvs, rfl, _, _⟩ := R14'.list_inv
    have hsh := shaped_pairs (aboveN asked liv)
    (repeat' (first | w_left | ((with_reducible show wpAny _ _ (newList _) _ _ _); refine' lstF (by first | with_reducible assumption | assumption) ?rds ?_; (case rds => walk_at "M.rds"); intro _ _ _ _ _ _; (try dsimp only)) | ((with_reducible show wpAny _ _ (compareOp CmpOp.NotEq (Value.ref _) (Value.ref _)) _ _ _); refine neE (by first | with_reducible assumption | assumption) (by tb_rel) (by tb_rel) (by first | with_reducible assumption | assumption) (by first | with_reducible assumption | assumption) ?_; (try dsimp only)) | walk1 | (dsimp only; walk1)))
    · rename_i a20 g20 s20 S20 K20 R20 n1 a21 g21 s21 S21 K21 R21
      have e : nearN asked liv = [] := if_pos (by simpa using n1)
      rw [e] at h
      exact h _ _ _ S21.base R21
    · rename_i a20 g20 s20 S20 K20 R20 n1
      have hne : aboveN asked liv ≠ [] := by simpa using n1
      refine spec_max S20 (o'.le (Nat.le_refl _)) (R14.up K20) hne fun v s22 R22 S22 => ?_
      have e : nearN asked liv = [((aboveN asked liv).getD (bestN (aboveN asked liv)) (0, 0)).2] := if_neg hne
      rw [e] at h
      obtain ⟨ta, tvs, rfl, _, _⟩ := (show Rd g20 v (.tuple [.int _, .int _]) from R22).tuple_inv
      (repeat' (first | w_left | ((with_reducible show wpAny _ _ (newList _) _ _ _); refine' lstF (by first | with_reducible assumption | assumption) ?rds ?_; (case rds => walk_at "M.rds"); intro _ _ _ _ _ _; (try dsimp only)) | ((with_reducible show wpAny _ _ (compareOp CmpOp.NotEq (Value.ref _) (Value.ref _)) _ _ _); refine neE (by first | with_reducible assumption | assumption) (by tb_rel) (by tb_rel) (by first | with_reducible assumption | assumption) (by first | with_reducible assumption | assumption) ?_; (try dsimp only)) | walk1 | (dsimp only; walk1)))
      refine itT S22 (show Rd g20 (.ref ta) (.tuple [.int _, .int _]) from R22) (by decide) (by simp) (by simp) rfl fun v7 R7 => ?_
      (repeat' (first | w_left | ((with_reducible show wpAny _ _ (newList _) _ _ _); refine' lstF (by first | with_reducible assumption | assumption) ?rds ?_; (case rds => walk_at "M.rds"); intro _ _ _ _ _ _; (try dsimp only)) | ((with_reducible show wpAny _ _ (compareOp CmpOp.NotEq (Value.ref _) (Value.ref _)) _ _ _); refine neE (by first | with_reducible assumption | assumption) (by tb_rel) (by tb_rel) (by first | with_reducible assumption | assumption) (by first | with_reducible assumption | assumption) ?_; (try dsimp only)) | walk1 | (dsimp only; walk1)))
      exact h _ _ _ (St.base (by first | with_reducible assumption | assumption)) (by first | with_reducible assumption | assumption)
end

end
section
open PySem PySem.W PyProof.Rows PySem.Calls PySem.StrLaws
set_option maxHeartbeats 400000
/-! texts as lists of codes -/
abbrev tl (x : Str) : List Nat := x.cps.toList
theorem tl_inj {x y : Str} (h : tl x = tl y) : x = y := by cases x; cases y; simp only [Str.mk.injEq]; exact Array.toList_inj.mp h
theorem tl_app (x y : Str) : tl (x ++ y) = tl x ++ tl y := by rw [tl, Str.cps_append, Array.toList_append]
theorem tl_len (x : Str) : (tl x).length = x.length := by simp [Str.length]
theorem slash_eq : ("/" : Str) = ⟨#[47]⟩ := by decide +kernel
theorem tl_slash : tl ("/" : Str) = [47] := by decide +kernel
theorem tl_empty : tl ("" : Str) = [] := by decide +kernel
def jl : List (List Nat) → List Nat
  | [] => []
  | [x] => x
  | x :: y :: r => x ++ 47 :: jl (y :: r)
theorem tl_join : ∀ ys : List Str, tl (Str.join "/" ys) = jl (ys.map tl)
  | [] => by decide +kernel
  | [x] => rfl
  | x :: y :: r => by
    show tl (x ++ "/" ++ Str.join "/" (y :: r)) = _
    rw [tl_app, tl_app, tl_join (y :: r), tl_slash]
    simp [jl]
theorem txt_join (ys : List Str) : Txt.join "/" ys = Str.join "/" ys := glued_eq_join _ _
theorem jl_cons {x : List Nat} {r : List (List Nat)} (h : r ≠ []) : jl (x :: r) = x ++ 47 :: jl r := by
  cases r with
  | nil => exact absurd rfl h
  | cons y r => rfl
theorem jl_app {b : List (List Nat)} (hb : b ≠ []) : ∀ {a : List (List Nat)}, a ≠ [] → jl (a ++ b) = jl a ++ 47 :: jl b
  | [], h => absurd rfl h
  | [x], _ => by rw [List.singleton_append, jl_cons hb]; rfl
  | x :: y :: r, _ => by
    show jl (x :: ((y :: r) ++ b)) = _
    rw [jl_cons (x := x) (r := (y :: r) ++ b) (by simp), jl_app hb (a := y :: r) (by simp), jl_cons (x := x) (r := y :: r) (by simp)]
    simp
theorem app_inj : ∀ {x y : List Nat} {A B : List Nat}, 47 ∉ x → 47 ∉ y → x ++ 47 :: A = y ++ 47 :: B → x = y ∧ A = B
  | [], [], A, B, _, _, h => by simp at h; exact ⟨rfl, h⟩
  | [], b :: y, A, B, _, hy, h => by simp at h; exact absurd (h.1 ▸ List.Mem.head _) hy
  | a :: x, [], A, B, hx, _, h => by simp at h; exact absurd (h.1 ▸ List.Mem.head _) hx
  | a :: x, b :: y, A, B, hx, hy, h => by
    simp at h
    obtain ⟨h1, h2⟩ := h
    obtain ⟨e1, e2⟩ := app_inj (fun q => hx (.tail _ q)) (fun q => hy (.tail _ q)) h2
    exact ⟨by rw [h1, e1], e2⟩
theorem jl_inj : ∀ {a b : List (List Nat)}, a ≠ [] → b ≠ [] → (∀ p ∈ a, 47 ∉ p) → (∀ p ∈ b, 47 ∉ p) → jl a = jl b → a = b
  | [], _, h, _, _, _, _ => absurd rfl h
  | _, [], _, h, _, _, _ => absurd rfl h
  | [x], [y], _, _, _, _, h => by rw [show x = y from h]
  | [x], y :: z :: r, _, _, hx, _, h => by
    exfalso
    have h : x = y ++ 47 :: jl (z :: r) := h
    exact hx x (.head _) (by rw [h]; simp)
  | x :: z :: r, [y], _, _, _, hy, h => by
    exfalso
    have h : x ++ 47 :: jl (z :: r) = y := h
    exact hy y (.head _) (by rw [← h]; simp)
  | x :: x2 :: a, y :: y2 :: b, _, _, hx, hy, h => by
    obtain ⟨e1, e2⟩ := app_inj (hx x (.head _)) (hy y (.head _)) h
    rw [e1, jl_inj (a := x2 :: a) (b := y2 :: b) (by simp) (by simp) (fun p hp => hx p (.tail _ hp)) (fun p hp => hy p (.tail _ hp)) e2]
theorem map_tl_inj : ∀ {a b : List Str}, a.map tl = b.map tl → a = b
  | [], [], _ => rfl
  | [], _ :: _, h => by simp at h
  | _ :: _, [], h => by simp at h
  | x :: a, y :: b, h => by
    simp only [List.map_cons, List.cons.injEq] at h
    rw [tl_inj h.1, map_tl_inj h.2]
abbrev Fr47 (cs : List Str) : Prop := ∀ p ∈ cs, 47 ∉ tl p
theorem join_inj {a b : List Str} (ha : a ≠ []) (hb : b ≠ []) (h1 : Fr47 a) (h2 : Fr47 b) (h : Str.join "/" a = Str.join "/" b) : a = b := by
  have e := congrArg tl h
  rw [tl_join, tl_join] at e
  refine map_tl_inj (jl_inj (by simpa using ha) (by simpa using hb) ?_ ?_ e)
  · intro p hp; obtain ⟨q, hq, rfl⟩ := List.mem_map.mp hp; exact h1 q hq
  · intro p hp; obtain ⟨q, hq, rfl⟩ := List.mem_map.mp hp; exact h2 q hq
theorem split_ne (x : Str) : Txt.split x "/" ≠ [] := by
  unfold Txt.split
  split
  · simp
  · split
    · simp
    · rw [StrLaws.partsBetween_eq]
      obtain ⟨p, r, e⟩ := StrLaws.partsFrom_ne x ("/" : Str).length 0 (PySem.Builtin.Str.occurrences x "/" 0 x.length (x.length + 1))
      rw [e]; simp
theorem split_free' (x : Str) : Fr47 (Txt.split x "/") := by rw [slash_eq]; exact split_free x 47
theorem splitU {cs : List Str} (h : cs ≠ []) (hf : Fr47 cs) : Txt.split (Str.join "/" cs) "/" = cs :=
  join_inj (split_ne _) h (split_free' _) hf (StrLaws.join_split _ _)

/-! rooted texts -/
def Pt (cs : List Str) : Str := "/" ++ Str.join "/" cs
theorem tl_Pt (cs : List Str) : tl (Pt cs) = 47 :: jl (cs.map tl) := by unfold Pt; rw [tl_app, tl_slash, tl_join]; rfl
theorem Pt_inj {a b : List Str} (ha : a ≠ []) (hb : b ≠ []) (h1 : Fr47 a) (h2 : Fr47 b) (h : Pt a = Pt b) : a = b := by
  have e := congrArg tl h
  unfold Pt at e
  rw [tl_app, tl_app] at e
  exact join_inj ha hb h1 h2 (tl_inj (List.append_cancel_left e))
theorem textN_eq (ns : List Str) : textN ns = Pt ns := by unfold textN Pt; rw [txt_join]
theorem Pt_nil : Pt [] = Pt [""] := rfl
theorem Nm.free {ns : List Str} (h : Nm ns) : Fr47 ns := fun p hp => by rcases h p hp with rfl | rfl <;> decide +kernel
theorem Nm.ne {ns : List Str} (h : Nm ns) : ∀ p ∈ ns, tl p ≠ [] := fun p hp => by rcases h p hp with rfl | rfl <;> decide +kernel
def comps (ns : List Str) : List Str := if ns = [] then [""] else ns
theorem comps_ne (ns : List Str) : comps ns ≠ [] := by unfold comps; split <;> simp_all
theorem textN_comps (ns : List Str) : textN ns = Pt (comps ns) := by
  rw [textN_eq]; unfold comps
  split
  · rename_i h; rw [h]; exact Pt_nil
  · rfl
theorem free1 : Fr47 [("" : Str)] := fun p hp => by rw [List.mem_singleton.mp hp]; decide +kernel
theorem comps_free {ns : List Str} (h : Nm ns) : Fr47 (comps ns) := by
  unfold comps; split
  · exact free1
  · exact h.free
theorem comps_inj {a b : List Str} (ha : Nm a) (hb : Nm b) (h : comps a = comps b) : a = b := by
  unfold comps at h
  split at h
  · rename_i ea
    split at h
    · rename_i eb; rw [ea, eb]
    · exact absurd tl_empty (hb.ne "" (h ▸ List.Mem.head _))
  · split at h
    · exact absurd tl_empty (ha.ne "" (h.symm ▸ List.Mem.head _))
    · exact h
theorem text_inj {a b : List Str} (ha : Nm a) (hb : Nm b) (h : textN a = textN b) : a = b := by
  rw [textN_comps, textN_comps] at h
  exact comps_inj ha hb (Pt_inj (comps_ne a) (comps_ne b) (comps_free ha) (comps_free hb) h)

/-! slices -/
theorem slice_eq (x : Str) (l u : Option Int) : Txt.slice x l u = StrLaws.sliceText x l u := rfl
theorem slice_to (x : Str) {k : Nat} (h : k ≤ x.length) : tl (Txt.slice x none (some (k : Int))) = (tl x).take k := by
  rw [slice_eq, StrLaws.sliceText_to ⟨by omega, by rw [tl_len]; omega⟩]
  simp
theorem slice_from (x : Str) {k : Nat} (h : k ≤ x.length) : tl (Txt.slice x (some (k : Int)) none) = (tl x).drop k := by
  rw [slice_eq, StrLaws.sliceText_from ⟨by omega, by rw [tl_len]; omega⟩]
  show ((List.drop (k : Int).toNat (tl x)).take _) = _
  rw [Int.toNat_natCast]
  exact List.take_of_length_le (by simp <;> omega)
theorem slice_12 (x : Str) (h : 2 ≤ x.length) : tl (Txt.slice x (some 1) (some 2)) = ((tl x).drop 1).take 1 := by
  rw [slice_eq, StrLaws.sliceText_plain ⟨by decide, by decide, by rw [tl_len]; omega⟩]
  rfl
theorem Pt_len (cs : List Str) : 1 ≤ (Pt cs).length := by rw [← tl_len, tl_Pt]; simp
theorem slice_Pt (cs : List Str) : Txt.slice (Pt cs) (some 1) none = Str.join "/" cs := by
  apply tl_inj
  have := slice_from (Pt cs) (k := 1) (Pt_len cs)
  rw [show ((1 : Nat) : Int) = 1 from rfl] at this
  rw [this, tl_Pt, tl_join]; rfl
/-- rooted, its first piece no empty one unless it is alone -/
structure Ab (cs : List Str) : Prop where
  ne : cs ≠ []
  free : Fr47 cs
  head : cs = [("" : Str)] ∨ ∃ p r, cs = p :: r ∧ tl p ≠ []
theorem Ab.rooted {cs : List Str} (h : Ab cs) (hl : (Pt cs).length ≤ 200) : Rooted (Pt cs) where
  h1 := by
    have e : Txt.slice (Pt cs) none (some 1) = "/" := by
      apply tl_inj
      have := slice_to (Pt cs) (k := 1) (Pt_len cs)
      rw [show ((1 : Nat) : Int) = 1 from rfl] at this
      rw [this, tl_Pt, tl_slash]; rfl
    rw [e]; exact bne_self_eq_false _
  h2 := by
    rcases h.head with rfl | ⟨p, r, rfl, hp⟩
    · decide +kernel
    · rw [bne_iff_ne]
      intro q
      have e := congrArg tl q
      obtain ⟨c, t, hc⟩ : ∃ c t, tl p = c :: t := by
        cases hq : tl p with
        | nil => exact absurd hq hp
        | cons c t => exact ⟨c, t, rfl⟩
      have hj : ∃ t', jl ((p :: r).map tl) = c :: t' := by
        cases r with
        | nil => exact ⟨t, hc⟩
        | cons y r => exact ⟨_, by rw [List.map_cons, jl_cons (by simp), hc]; rfl⟩
      obtain ⟨t', ht'⟩ := hj
      rw [slice_12 _ (by rw [← tl_len, tl_Pt, ht']; simp), tl_Pt, ht', tl_slash] at e
      simp at e
      exact h.free p (.head _) (by rw [hc, e]; exact .head _)
  len := hl
  ne := by have := Pt_len cs; omega

/-! join -/
theorem starts_slash (y : Str) : Txt.startswith y "/" = true ↔ (tl y)[0]? = some 47 := by
  rw [slash_eq, ← subAt_one]
  unfold Txt.startswith
  rw [Bool.and_eq_true, decide_eq_true_eq]
theorem ends_slash (y : Str) (h : 1 ≤ y.length) : Txt.endswith y "/" = true ↔ (tl y)[y.length - 1]? = some 47 := by
  rw [slash_eq, ← subAt_one]
  unfold Txt.endswith
  rw [Bool.and_eq_true, decide_eq_true_eq]
  show (0 + 1 ≤ y.length ∧ PySem.Builtin.Str.subAt y _ (y.length - 1) = true) ↔ (y.length - 1 + 1 ≤ y.length ∧ _)
  constructor
  · exact fun q => ⟨by omega, q.2⟩
  · exact fun q => ⟨by omega, q.2⟩
theorem Pt_app {a b : List Str} (ha : a ≠ []) (hb : b ≠ []) : Pt (a ++ b) = Pt a ++ ("/" ++ Str.join "/" b) := by
  apply tl_inj
  rw [tl_app, tl_Pt, tl_Pt, List.map_append, jl_app (by simpa using hb) (by simpa using ha), tl_app, tl_slash, tl_join]
  simp
theorem nfold_app (a b : List Str) : nfold (a ++ b) = b.foldl nstep (nfold a) := by unfold nfold; rw [List.foldl_append]
theorem nstep_empty (acc : List Str) : nstep acc "" = acc := if_pos (.inl (by decide +kernel))
def partsOf (p : Str) : List Str := if p = "../ab" then ["..", "ab"] else [p]
theorem parts_gone {p : Str} (hp : p ∈ pieceL) (h : p ≠ "/") (acc : List Str) : (partsOf p).foldl nstep acc = goneN acc p := by
  simp only [pieceL, List.mem_cons, List.not_mem_nil, or_false] at hp
  rcases hp with rfl | rfl | rfl | rfl | rfl | rfl | rfl | rfl
  · rfl
  · rfl
  · rfl
  · rfl
  · rfl
  · exact absurd rfl h
  · rfl
  · rfl
theorem parts_ne (p : Str) : partsOf p ≠ [] := by unfold partsOf; split <;> simp
theorem parts_free {p : Str} (hp : p ∈ pieceL) (h : p ≠ "/") : Fr47 (partsOf p) := by
  simp only [pieceL, List.mem_cons, List.not_mem_nil, or_false] at hp
  rcases hp with rfl | rfl | rfl | rfl | rfl | rfl | rfl | rfl
  case inr.inr.inr.inr.inr.inl => exact absurd rfl h
  case inr.inr.inr.inr.inr.inr.inr =>
    intro q hq
    have hq : q ∈ [("..": Str), "ab"] := hq
    rcases List.mem_cons.mp hq with rfl | hq
    · decide +kernel
    · rw [List.mem_singleton.mp hq]; decide +kernel
  all_goals
    intro q hq
    rw [List.mem_singleton.mp hq]
    decide +kernel
theorem parts_head {p : Str} (hp : p ∈ pieceL) : partsOf p = [("" : Str)] ∨ ∃ q r, partsOf p = q :: r ∧ tl q ≠ [] := by
  simp only [pieceL, List.mem_cons, List.not_mem_nil, or_false] at hp
  rcases hp with rfl | rfl | rfl | rfl | rfl | rfl | rfl | rfl
  · exact .inl rfl
  all_goals exact .inr ⟨_, _, rfl, by decide +kernel⟩
theorem parts_join {p : Str} (hp : p ∈ pieceL) : Str.join "/" (partsOf p) = p := by
  simp only [pieceL, List.mem_cons, List.not_mem_nil, or_false] at hp
  rcases hp with rfl | rfl | rfl | rfl | rfl | rfl | rfl | rfl <;> rfl
theorem piece_len {p : Str} (hp : p ∈ pieceL) : p.length ≤ 5 := by
  simp only [pieceL, List.mem_cons, List.not_mem_nil, or_false] at hp
  rcases hp with rfl | rfl | rfl | rfl | rfl | rfl | rfl | rfl <;> decide +kernel
theorem piece_start {p : Str} (hp : p ∈ pieceL) (h : p ≠ "/") : Txt.startswith p "/" = false := by
  simp only [pieceL, List.mem_cons, List.not_mem_nil, or_false] at hp
  rcases hp with rfl | rfl | rfl | rfl | rfl | rfl | rfl | rfl
  case inr.inr.inr.inr.inr.inl => exact absurd rfl h
  all_goals decide +kernel
theorem Ab.snoc {i : List Str} {l : Str} (h : Ab (i ++ [l])) (hi : i ≠ []) (b : List Str) (hb : b ≠ []) (hf : Fr47 b) : Ab (i ++ b) where
  ne := by simp [hi]
  free := fun p hp => (List.mem_append.mp hp).elim (fun q => h.free p (List.mem_append_left _ q)) (hf p)
  head := by
    right
    cases i with
    | nil => exact absurd rfl hi
    | cons x i =>
      refine ⟨x, i ++ b, rfl, ?_⟩
      rcases h.head with e | ⟨p, r, e, hp⟩
      · simp at e
      · simp at e; rw [e.1]; exact hp
theorem jnP {cs : List Str} {p : Str} (h : Ab cs) (hp : p ∈ pieceL) : ∃ cs2, Ab cs2 ∧ jn (Pt cs) p = Pt cs2 ∧ nfold cs2 = goneN (nfold cs) p ∧ (Pt cs2).length ≤ (Pt cs).length + 6 := by
  have hl := piece_len hp
  have hP := Pt_len cs
  by_cases hs : p = "/"
  · subst hs
    refine ⟨[""], ⟨by simp, free1, .inl rfl⟩, jn1 (by decide +kernel), rfl, ?_⟩
    have : (Pt [""]).length = 1 := by decide +kernel
    omega
  · have hst := piece_start hp hs
    have hne : ((Pt cs).length : Int) ≠ 0 := by omega
    have hpj := parts_join hp
    have lenA : ∀ x y : Str, (x ++ y).length = x.length + y.length := Str.length_append
    rcases snoc_cases cs with e | ⟨i, l, rfl⟩
    · exact absurd e h.ne
    · -- does it end with a slash?
      have key : Txt.endswith (Pt (i ++ [l])) "/" = true ↔ l = "" := by
        rw [ends_slash _ hP, ← tl_len]
        have e : ∃ Z, tl (Pt (i ++ [l])) = Z ++ 47 :: tl l := by
          rw [tl_Pt, List.map_append]
          by_cases hi : i = []
          · subst hi; exact ⟨[], rfl⟩
          · rw [jl_app (by simp) (by simpa using hi)]; exact ⟨47 :: jl (i.map tl), rfl⟩
        obtain ⟨Z, hZ⟩ := e
        rw [hZ]
        constructor
        · intro q
          rcases snoc_cases (tl l) with e0 | ⟨a, z, e0⟩
          · exact tl_inj (e0.trans tl_empty.symm)
          · exfalso
            rw [e0] at q
            have e1 : (Z ++ 47 :: (a ++ [z])).length - 1 = (Z ++ 47 :: a).length := by simp
            rw [e1, show Z ++ 47 :: (a ++ [z]) = (Z ++ 47 :: a) ++ [z] by simp, List.getElem?_append_right (Nat.le_refl _)] at q
            simp at q
            exact h.free l (by simp) (by rw [e0, q]; simp)
        · rintro rfl
          rw [tl_empty]
          simp
      by_cases hle : l = ""
      · subst hle
        have hen := key.mpr rfl
        rw [jn3 hst hne hen]
        have enf : nfold (i ++ [("" : Str)]) = nfold i := by rw [nfold_app]; exact nstep_empty _
        by_cases hi : i = []
        · subst hi
          refine ⟨partsOf p, ⟨parts_ne p, parts_free hp hs, parts_head hp⟩, ?_, ?_, ?_⟩
          · show Pt [("" : Str)] ++ p = "/" ++ Str.join "/" (partsOf p)
            rw [hpj]; rfl
          · rw [enf]; exact parts_gone hp hs []
          · rw [show Pt (partsOf p) = "/" ++ p by unfold Pt; rw [hpj], lenA]
            have e1 : ("/" : Str).length = 1 := by decide +kernel
            omega
        · refine ⟨i ++ partsOf p, h.snoc hi _ (parts_ne p) (parts_free hp hs), ?_, ?_, ?_⟩
          · rw [Pt_app hi (parts_ne p), Pt_app hi (by simp), hpj]
            apply tl_inj
            rw [tl_app, tl_app, tl_app, tl_app, tl_app]
            show _ ++ (_ ++ tl ("" : Str)) ++ _ = _
            rw [tl_empty]; simp
          · rw [nfold_app, enf]; exact parts_gone hp hs _
          · rw [Pt_app hi (parts_ne p), Pt_app hi (by simp), hpj]
            simp only [lenA]
            omega
      · have hen : Txt.endswith (Pt (i ++ [l])) "/" = false := by
          cases q : Txt.endswith (Pt (i ++ [l])) "/" with
          | false => rfl
          | true => exact absurd (key.mp q) hle
        rw [jn4 hst hne hen]
        refine ⟨i ++ [l] ++ partsOf p, ?_, ?_, ?_, ?_⟩
        · refine ⟨by simp, fun q hq => (List.mem_append.mp hq).elim (h.free q) (parts_free hp hs q), .inr ?_⟩
          rcases h.head with e | ⟨x, r, e, hx⟩
          · exfalso
            have : l = "" := by
              have := congrArg List.getLast? e
              simp at this; exact this
            exact hle this
          · rw [e]; exact ⟨x, r ++ partsOf p, rfl, hx⟩
        · rw [Pt_app h.ne (parts_ne p), hpj]
        · rw [nfold_app]; exact parts_gone hp hs _
        · rw [Pt_app h.ne (parts_ne p), hpj]
          simp only [lenA]
          have e1 : ("/" : Str).length = 1 := by decide +kernel
          omega
theorem comps_ab {ns : List Str} (h : Nm ns) : Ab (comps ns) := by
  refine ⟨comps_ne ns, comps_free h, ?_⟩
  unfold comps
  split
  · exact .inl rfl
  · rename_i hn
    cases ns with
    | nil => exact absurd rfl hn
    | cons x r => exact .inr ⟨x, r, rfl, h.ne x (.head _)⟩
theorem nfold_names {ns : List Str} (h : Nm ns) : nfold (comps ns) = ns := by
  unfold comps
  split
  · rename_i e; rw [e]; rfl
  · suffices ∀ (ns acc : List Str), Nm ns → ns.foldl nstep acc = acc ++ ns from (this ns [] h).trans (List.nil_append _)
    intro ns
    induction ns with
    | nil => intro acc _; simp
    | cons x r ih =>
      intro acc h
      have e : nstep acc x = acc ++ [x] := by
        rcases h x (.head _) with rfl | rfl <;> rfl
      rw [List.foldl_cons, e, ih _ fun y hy => h y (.tail _ hy)]
      simp
theorem text_len {ns : List Str} (h : Good ns) : (textN ns).length ≤ 121 := by
  have e1 : ("/" : Str).length = 1 := by decide +kernel
  have h1 := sum_le (B := 2) (ys := ns) fun y hy => by rcases h.nm y hy with rfl | rfl <;> decide
  have h2 := h.len
  have h3 := jlen (x := "/") (by decide) ns
  unfold textN
  rw [Str.length_append]
  omega
/-- what normpath makes of a folder gone on from -/
theorem norm_go {ns : List Str} {p q : Str} (h : Good ns) (hp : p ∈ pieceL) (hq : q ∈ pieceL) :
    Rooted (jn (jn (textN ns) p) q) ∧ (jn (textN ns) p).length ≤ 300 ∧ ("/" : Str) ++ Txt.join "/" (nfold (Txt.split (Txt.slice (jn (jn (textN ns) p) q) (some 1) none) "/")) = textN (goneN (goneN ns p) q) := by
  have hl := text_len h
  rw [textN_comps] at hl ⊢
  obtain ⟨c1, a1, e1, f1, l1⟩ := jnP (comps_ab h.nm) hp
  obtain ⟨c2, a2, e2, f2, l2⟩ := jnP a1 hq
  rw [e1, e2]
  refine ⟨a2.rooted (by omega), by omega, ?_⟩
  rw [slice_Pt, splitU a2.ne a2.free, f2, f1, nfold_names h.nm]
  rfl

end
section
open PySem PySem.W PyProof.Rows PySem.Calls PySem.StrLaws
set_option maxHeartbeats 400000
theorem Pt_last (i : List Str) (l : Str) : ∃ Z, tl (Pt (i ++ [l])) = Z ++ 47 :: tl l ∧ (i = [] → Z = []) ∧ (i ≠ [] → Z = tl (Pt i)) := by
  rw [tl_Pt, List.map_append]
  by_cases hi : i = []
  · subst hi; exact ⟨[], rfl, fun _ => rfl, fun h => absurd rfl h⟩
  · rw [jl_app (by simp) (by simpa using hi)]
    exact ⟨47 :: jl (i.map tl), rfl, fun h => absurd h hi, fun _ => (tl_Pt i).symm⟩
theorem rfind_slash {x : Str} {Z T : List Nat} (h : tl x = Z ++ 47 :: T) (hT : 47 ∉ T) : Txt.rfind x "/" = (Z.length : Int) := by
  have at_iff : ∀ i, StrLaws.At x "/" x.length i ↔ (tl x)[i]? = some 47 := fun i => by rw [slash_eq]; exact subAt_one x 47 i
  unfold Txt.rfind
  rcases last_spec x "/" with ⟨_, e2⟩ | ⟨i, e1, e2, e3⟩
  · exact absurd ((at_iff Z.length).mpr (by rw [h]; simp)) (e2 _)
  · rw [e1]
    have hi := (at_iff i).mp e2
    rcases Nat.lt_trichotomy i Z.length with hl | hl | hl
    · exact absurd ((at_iff Z.length).mpr (by rw [h]; simp)) (e3 _ hl)
    · rw [hl]
    · exfalso
      rw [h, List.getElem?_append_right (Nat.le_of_lt hl)] at hi
      obtain ⟨k, hk⟩ : ∃ k, i - Z.length = k + 1 := ⟨i - Z.length - 1, by omega⟩
      rw [hk, List.getElem?_cons_succ] at hi
      exact hT (List.mem_of_getElem? hi)
theorem tl_mul (n : Nat) : ∀ c ∈ tl (Txt.mul "/" (n : Int)), c = 47 := by
  have hf : ∀ (k : Nat) (acc : Array Nat), (∀ c ∈ acc.toList, c = 47) → ∀ c ∈ ((List.replicate k ("/" : Str).cps).foldl (· ++ ·) acc).toList, c = 47 := by
    intro k
    induction k with
    | zero => intro acc h c hc; exact h c hc
    | succ k ih =>
      intro acc h c hc
      rw [List.replicate_succ, List.foldl_cons] at hc
      refine ih _ (fun c hc => ?_) c hc
      rw [Array.toList_append] at hc
      rcases List.mem_append.mp hc with hc | hc
      · exact h c hc
      · have : tl ("/" : Str) = [47] := tl_slash
        rw [show ("/" : Str).cps.toList = [47] from this] at hc
        exact List.mem_singleton.mp hc
  unfold Txt.mul
  split
  · intro c hc; cases hc
  · split
    · intro c hc
      rw [show tl ("/" : Str) = [47] from tl_slash] at hc
      exact List.mem_singleton.mp hc
    · exact hf _ #[] (fun _ h => nomatch h)
theorem slash_contains (c : Nat) : ("/" : Str).cps.contains c = (c == 47) := by
  rw [slash_eq]; simp; cases h : c == 47 <;> simp_all
theorem rstrip_slash {x : Str} {M : List Nat} {z : Nat} (h : tl x = M ++ [z] ++ [47]) (hz : z ≠ 47) : tl (Txt.rstripChars x "/") = M ++ [z] := by
  unfold Txt.rstripChars
  rw [PyProof.Rows.stripBy_eq]
  refine (strSub_toList _ _ _).trans ?_
  have hl : x.length = M.length + 2 := by rw [← tl_len, h]; simp
  have e : stripHi ("/" : Str).cps.contains true x (stripLo ("/" : Str).cps.contains false x) = M.length + 1 := by
    show x.length - (((tl x).drop 0).reverse.takeWhile ("/" : Str).cps.contains).length = M.length + 1
    rw [List.drop_zero, h, List.reverse_append, List.reverse_append]
    simp only [List.reverse_singleton, List.singleton_append, List.cons_append, List.nil_append, List.takeWhile_cons, slash_contains]
    have : (z == 47) = false := by simpa using hz
    rw [this, hl]; simp
  rw [e]
  show ((tl x).drop 0).take (M.length + 1 - 0) = _
  rw [h, List.drop_zero, Nat.sub_zero, show M.length + 1 = (M ++ [z]).length by simp, List.take_left]
/-- one step up -/
theorem dir_up {ns : List Str} (h : Good ns) : dnm (textN ns) = textN ns.dropLast := by
  have hT : ∀ (l : Str), (l = "a" ∨ l = "ab") → 47 ∉ tl l := fun l hl => by rcases hl with rfl | rfl <;> decide +kernel
  rcases snoc_cases ns with rfl | ⟨ms, l, rfl⟩
  · decide +kernel
  · rw [List.dropLast_concat, textN_eq]
    obtain ⟨Z, hZ, z0, z1⟩ := Pt_last ms l
    have hl := h.nm l (by simp)
    have hr := rfind_slash hZ (hT l hl)
    have hlen : Z.length + 1 ≤ (Pt (ms ++ [l])).length := by rw [← tl_len, hZ]; simp
    have hd : tl (dhd (Pt (ms ++ [l]))) = Z ++ [47] := by
      show tl (Txt.slice _ none (some (Txt.rfind _ "/" + 1))) = _
      rw [hr]
      have := slice_to (Pt (ms ++ [l])) hlen
      rw [show (((Z.length + 1 : Nat)) : Int) = (Z.length : Int) + 1 from rfl] at this
      rw [this, hZ, show Z ++ 47 :: tl l = (Z ++ [47]) ++ tl l by simp, show Z.length + 1 = (Z ++ [47]).length by simp, List.take_left]
    have hne : ((dhd (Pt (ms ++ [l]))).length : Int) ≠ 0 := by rw [← tl_len, hd]; simp; omega
    by_cases hm : ms = []
    · subst hm
      rw [z0 rfl] at hd
      have e : dhd (Pt ([] ++ [l])) = "/" := tl_inj (hd.trans tl_slash.symm)
      rw [dnm2 hne (by rw [e]; decide +kernel), e]
      decide +kernel
    · have hne2 : (dhd (Pt (ms ++ [l])) != Txt.mul "/" ((dhd (Pt (ms ++ [l]))).length : Int)) = true := by
        rw [bne_iff_ne]
        intro q
        have hall := tl_mul (dhd (Pt (ms ++ [l]))).length
        rw [← q, hd, z1 hm] at hall
        obtain ⟨i, l2, rfl⟩ := (snoc_cases ms).resolve_left hm
        obtain ⟨Z2, hZ2, _, _⟩ := Pt_last i l2
        have hl2 := h.nm l2 (by simp)
        have : 97 ∈ tl l2 := by rcases hl2 with rfl | rfl <;> decide +kernel
        have := hall 97 (by rw [hZ2]; simp [this])
        omega
      rw [dnm1 hne hne2, textN_eq]
      apply tl_inj
      obtain ⟨i, l2, rfl⟩ := (snoc_cases ms).resolve_left hm
      obtain ⟨Z2, hZ2, _, _⟩ := Pt_last i l2
      rw [z1 hm, hZ2] at hd
      rw [hZ2]
      have hl2 := h.nm l2 (by simp)
      rcases hl2 with rfl | rfl
      · have e : tl ("a" : Str) = [97] := by decide +kernel
        rw [e] at hd ⊢
        rw [rstrip_slash (M := Z2 ++ [47]) (z := 97) (by rw [hd]; simp) (by decide)]; simp
      · have e : tl ("ab" : Str) = [97, 98] := by decide +kernel
        rw [e] at hd ⊢
        rw [rstrip_slash (M := Z2 ++ [47, 97]) (z := 98) (by rw [hd]; simp) (by decide)]; simp
theorem text_up_eq {ns : List Str} (h : Good ns) : textN ns.dropLast = textN ns ↔ ns = [] := by
  constructor
  · intro q
    have e := text_inj (Nm.dropLast h.nm) h.nm q
    rcases snoc_cases ns with rfl | ⟨ms, l, rfl⟩
    · rfl
    · rw [List.dropLast_concat] at e
      have := congrArg List.length e
      simp at this
  · rintro rfl; rfl

/-! the common folder -/
def cpN : List Str → List Str → List Str
  | x :: xs, y :: ys => if x = y then x :: cpN xs ys else []
  | _, _ => []
theorem cpN_comm : ∀ a b : List Str, cpN a b = cpN b a
  | [], [] => rfl
  | [], _ :: _ => rfl
  | _ :: _, [] => rfl
  | x :: xs, y :: ys => by
    unfold cpN
    by_cases h : x = y
    · rw [if_pos h, if_pos h.symm, cpN_comm xs ys, h]
    · rw [if_neg h, if_neg (Ne.symm h)]
theorem cpN_take : ∀ a b : List Str, ∃ k, cpN a b = a.take k ∧ k ≤ a.length
  | [], _ => ⟨0, by simp [cpN], Nat.le_refl _⟩
  | _ :: _, [] => ⟨0, by simp [cpN], Nat.zero_le _⟩
  | x :: xs, y :: ys => by
    unfold cpN
    by_cases h : x = y
    · obtain ⟨k, e, hk⟩ := cpN_take xs ys
      exact ⟨k + 1, by rw [if_pos h, e]; rfl, Nat.succ_le_succ hk⟩
    · exact ⟨0, by rw [if_neg h]; rfl, Nat.zero_le _⟩
theorem cpN_eq : ∀ a b : List Str, cpN a b = a ↔ b.take a.length = a
  | [], b => by simp [cpN]
  | x :: xs, [] => by simp [cpN]
  | x :: xs, y :: ys => by
    unfold cpN
    by_cases h : x = y
    · subst h; simp [cpN_eq xs ys]
    · rw [if_neg h]; simp [Ne.symm h]
/-- where two lists part first -/
theorem cpN_at : ∀ {a b : List Str} {i : Nat}, i ≤ a.length → i ≤ b.length → a.take i = b.take i → (∀ x y, a[i]? = some x → b[i]? = some y → x ≠ y) → i < a.length → i < b.length → cpN a b = a.take i
  | [], _, _, _, _, _, _, h, _ => by simp at h
  | _ :: _, [], _, _, _, _, _, _, h => by simp at h
  | x :: xs, y :: ys, 0, _, _, _, hd, _, _ => by
    unfold cpN; rw [if_neg (hd x y rfl rfl)]; rfl
  | x :: xs, y :: ys, i + 1, ha, hb, ht, hd, h1, h2 => by
    simp only [List.take_succ_cons, List.cons.injEq] at ht
    unfold cpN
    rw [if_pos ht.1, cpN_at (a := xs) (b := ys) (i := i) (Nat.le_of_succ_le_succ ha) (Nat.le_of_succ_le_succ hb) ht.2 (fun x y e1 e2 => hd x y e1 e2) (Nat.lt_of_succ_lt_succ h1) (Nat.lt_of_succ_lt_succ h2)]
    rfl
theorem cpN_whole {a b : List Str} (h : b.take a.length = a) : cpN a b = a := (cpN_eq a b).mpr h
/-- the lesser of two is at each place where they still agree no longer than the other -/
theorem lt_ends : ∀ {a b : List Str}, ltL b a = false → ∀ i, a.take i = b.take i → i < a.length → i < b.length
  | [], _, _, _, _, h => by simp at h
  | x :: xs, [], h, _, _, _ => by simp [ltL] at h
  | x :: xs, y :: ys, _, 0, _, _ => by simp
  | x :: xs, y :: ys, h, i + 1, ht, hi => by
    simp only [List.take_succ_cons, List.cons.injEq] at ht
    have h' : ltL ys xs = false := by
      have e : ltL (y :: ys) (x :: xs) = ltL ys xs := if_pos ht.1.symm
      rw [e] at h; exact h
    have := lt_ends h' i ht.2 (Nat.lt_of_succ_lt_succ hi)
    simp; omega
theorem textN_split {ns : List Str} (h : Nm ns) : (Txt.split (textN ns) "/").filter (fun c : Str => decide (c.length ≠ 0) && decide (c ≠ ".")) = ns := by
  have hk : ∀ ns : List Str, Nm ns → ns.filter (fun c : Str => decide (c.length ≠ 0) && decide (c ≠ ".")) = ns := fun ns h => by
    rw [List.filter_eq_self]
    intro x hx
    rcases h x hx with rfl | rfl <;> decide +kernel
  have e : textN ns = Str.join "/" (("" : Str) :: comps ns) := by
    rw [textN_comps]
    apply tl_inj
    rw [tl_Pt, tl_join, List.map_cons, jl_cons (by simpa using comps_ne ns), tl_empty]; rfl
  rw [e, splitU (by simp) (fun p hp => by
    rcases List.mem_cons.mp hp with rfl | hp
    · decide +kernel
    · exact comps_free h p hp)]
  rw [List.filter_cons, if_neg (by decide +kernel)]
  unfold comps
  split
  · rename_i e; rw [e]; decide +kernel
  · exact hk ns h

end
section
open PySem PySem.W PyProof.Rows PySem.Calls PySem.StrLaws
set_option maxHeartbeats 400000
theorem name_tri {x y : Str} (hx : x = "a" ∨ x = "ab") (hy : y = "a" ∨ y = "ab") (h1 : strLt x y = false) (h2 : strLt y x = false) : x = y := by
  rcases hx with rfl | rfl <;> rcases hy with rfl | rfl
  · rfl
  · exact absurd h1 (by decide +kernel)
  · exact absurd h2 (by decide +kernel)
  · rfl
theorem name_asym {x y : Str} (hx : x = "a" ∨ x = "ab") (hy : y = "a" ∨ y = "ab") (h1 : strLt x y = true) : strLt y x = false := by
  rcases hx with rfl | rfl <;> rcases hy with rfl | rfl
  · exact absurd h1 (by decide +kernel)
  · decide +kernel
  · exact absurd h1 (by decide +kernel)
  · exact absurd h1 (by decide +kernel)
theorem Nm.tail {x : Str} {xs : List Str} (h : Nm (x :: xs)) : Nm xs := fun y hy => h y (.tail _ hy)
theorem ltL_tri : ∀ {a b : List Str}, Nm a → Nm b → ltL a b = false → ltL b a = false → a = b
  | [], [], _, _, _, _ => rfl
  | [], _ :: _, _, _, h, _ => by simp [ltL] at h
  | _ :: _, [], _, _, _, h => by simp [ltL] at h
  | x :: xs, y :: ys, ha, hb, h1, h2 => by
    by_cases e : x = y
    · subst e
      rw [ltL_cons, if_pos rfl] at h1
      rw [ltL_cons, if_pos rfl] at h2
      rw [ltL_tri ha.tail hb.tail h1 h2]
    · rw [ltL_cons, if_neg e] at h1
      rw [ltL_cons, if_neg (Ne.symm e)] at h2
      exact absurd (name_tri (ha x (.head _)) (hb y (.head _)) h1 h2) e
theorem ltL_asym : ∀ {a b : List Str}, Nm a → Nm b → ltL a b = true → ltL b a = false
  | [], [], _, _, h => by simp [ltL] at h
  | [], _ :: _, _, _, _ => rfl
  | _ :: _, [], _, _, h => by simp [ltL] at h
  | x :: xs, y :: ys, ha, hb, h => by
    by_cases e : x = y
    · subst e
      rw [ltL_cons, if_pos rfl] at h ⊢
      exact ltL_asym ha.tail hb.tail h
    · rw [ltL_cons, if_neg e] at h
      rw [ltL_cons, if_neg (Ne.symm e)]
      exact name_asym (ha x (.head _)) (hb y (.head _)) h
def minN (a b : List Str) : List Str := if ltL b a = true then b else a
def maxN (a b : List Str) : List Str := if ltL a b = true then b else a
theorem minmax {a b : List Str} (ha : Nm a) (hb : Nm b) : cpN (minN a b) (maxN a b) = cpN a b ∧ ltL (maxN a b) (minN a b) = false ∧ (minN a b = a ∨ minN a b = b) ∧ (maxN a b = a ∨ maxN a b = b) := by
  unfold minN maxN
  cases h1 : ltL b a with
  | true =>
    have h2 := ltL_asym hb ha h1
    rw [h2]
    exact ⟨cpN_comm b a, h2, .inr rfl, .inl rfl⟩
  | false =>
    cases h2 : ltL a b with
    | true => exact ⟨rfl, h1, .inl rfl, .inr rfl⟩
    | false =>
      have e := ltL_tri ha hb h2 h1
      subst e
      exact ⟨rfl, h1, .inl rfl, .inl rfl⟩
section
variable {mg mb : Str → Option Value} {fa : Nat → Addr} {dT mi : Addr} {w : World} {A : Around} {g g0 : Heap} {s : Shared} {s0 : Core} {Q : Value → Shared → Prop} {E : Value → Shared → Prop} {n : Nat}
  {env : Env} {L : Addr} {m : Str → Option Value} {mu : List (Addr × Obj)}
theorem pair_get {vs : List Value} {a b : List Str} (hr : RdL g vs [dN a, dN b]) {i : Nat} {v : Value} (h : vs[i]? = some v) : ∃ x, [a, b][i]? = some x ∧ Rd g v (dN x) := by
  have hl : vs.length = 2 := hr.length
  have hi := (List.getElem?_eq_some_iff.mp h).1
  obtain ⟨x, hx⟩ : ∃ x, [a, b][i]? = some x := ⟨_, List.getElem?_eq_getElem (by simp; omega)⟩
  obtain ⟨v', e, r⟩ := hr.get (i := i) (d := dN x) (by have := congrArg (Option.map dN) hx; rw [← List.getElem?_map] at this; exact this)
  rw [h] at e; cases e
  exact ⟨x, hx, r⟩
theorem spec_min2 {l : Addr} {a b : List Str} {j : Nat} (S : St g0 s0 g L m mu (core s)) (o : Ok A (j + 1)) (r : Rd g (.ref l) (.list [dN a, dN b]))
    (h : ∀ v s', Rd g v (dN (minN a b)) → St g0 s0 g L m mu (core s') → Q v s') : wpAny (model Pg w) A (call (.builtin "min") [.ref l]) Q E s := by
  obtain ⟨l, vs, e, hl, hr⟩ := r.list_inv
  cases e
  have hn : vs.length = 2 := hr.length
  refine minl o.h (fun i j => ltL ([a, b].getD i []) ([a, b].getD j [])) hl (by omega) S (fun i j vi vj s Q E k hi hj hQ => ?_) (fun v s' hv S' => ?_)
  · obtain ⟨x, hx, rx⟩ := pair_get hr hi
    obtain ⟨y, hy, ry⟩ := pair_get hr hj
    refine lt_list k (o := o.in1) (xs := x) (ys := y) rx ry ?_
    simpa [List.getD, hx, hy] using hQ
  · refine h v s' ?_ S'
    obtain ⟨x, hx, rx⟩ := pair_get hr hv
    rw [hn] at hx
    have e : x = minN a b := by
      have e1 : argBest (fun i j => ltL ([a, b].getD i []) ([a, b].getD j [])) (2 - 1) = if ltL b a = true then 1 else 0 := rfl
      rw [e1] at hx
      unfold minN
      split at hx
      · rename_i q; rw [if_pos q]; exact (Option.some.inj hx).symm
      · rename_i q; rw [if_neg q]; exact (Option.some.inj hx).symm
    rw [← e]; exact rx
theorem spec_max2 {l : Addr} {a b : List Str} {j : Nat} (S : St g0 s0 g L m mu (core s)) (o : Ok A (j + 1)) (r : Rd g (.ref l) (.list [dN a, dN b]))
    (h : ∀ v s', Rd g v (dN (maxN a b)) → St g0 s0 g L m mu (core s') → Q v s') : wpAny (model Pg w) A (call (.builtin "max") [.ref l]) Q E s := by
  obtain ⟨l, vs, e, hl, hr⟩ := r.list_inv
  cases e
  have hn : vs.length = 2 := hr.length
  refine maxl o.h (fun i j => gtL ([a, b].getD i []) ([a, b].getD j [])) hl (by omega) S (fun i j vi vj s Q E k hi hj hQ => ?_) (fun v s' hv S' => ?_)
  · obtain ⟨x, hx, rx⟩ := pair_get hr hi
    obtain ⟨y, hy, ry⟩ := pair_get hr hj
    refine gt_list k (o := o.in1) (xs := x) (ys := y) rx ry ?_
    simpa [List.getD, hx, hy] using hQ
  · refine h v s' ?_ S'
    obtain ⟨x, hx, rx⟩ := pair_get hr hv
    rw [hn] at hx
    have e : x = maxN a b := by
      have e1 : argBest (fun i j => gtL ([a, b].getD i []) ([a, b].getD j [])) (2 - 1) = if ltL a b = true then 1 else 0 := rfl
      rw [e1] at hx
      unfold maxN
      split at hx
      · rename_i q; rw [if_pos q]; exact (Option.some.inj hx).symm
      · rename_i q; rw [if_neg q]; exact (Option.some.inj hx).symm
    rw [← e]; exact rx
end

end
section
open PySem PySem.W PyProof.Rows PySem.Calls
set_option maxHeartbeats 2000000
section
variable {mg mb : Str → Option Value} {fa : Nat → Addr} {dT mi : Addr} {w : World} {A : Around} {g g0 : Heap} {s : Shared} {s0 : Core} {Q : Value → Shared → Prop} {E : Value → Shared → Prop} {n : Nat}
  {env : Env} {L : Addr} {m : Str → Option Value} {mu : List (Addr × Obj)}
theorem spec_found {tab : WL} (hg : ∀ p ∈ tab, Good p.1) (hz : tab.length ≤ 60) : ∀ (f : Nat) {A : Around} {g : Heap} {s : Shared} {ns : List Str} {t : Tok} {tv : Value}, ns.length < f → Gnd mg mb fa dT mi g → Kp g s.heap → Ok A (f + 5) → Good ns →
    Rd g tv (.list (tab.map Mine.dT)) → Gives w A g s (.ref (fa 25)) [.str (textN ns) t, tv] (.list ((foundN tab f ns).map .int))
  | 0, _, _, _, _, _, _, h, _, _, _, _, _ => absurd h (Nat.not_lt_zero _)
  | f + 1, A, g, s, ns, t, tv, hf, G, k, o, hn, rt => by
    intro Q E h
    have rt' := rt
    obtain ⟨ta, tvs, rfl, _, _⟩ := rt'.list_inv
    refine enterC1 (x := Str.ofString "place") (binds := [(Str.ofString "place", .str (textN ns) t), (Str.ofString "table", .ref ta)]) G k o (by decide) (by decide) (fun kV doc pm an cdv ct => rfl) (fun a => rfl) (fun y hy => ?_) fun cd L c oc s1 hd S o' => ?_
    · rcases List.mem_cons.mp hy with rfl | hy
      · exact .inr ⟨rfl, rfl⟩
      · rw [List.mem_singleton.mp hy]; exact .inl rfl
    have hd : oc.data = .cell (some (.str (textN ns) t)) := hd
    refine wpAny_execs_cons ?_
    k_fold
    refine lcompA (fun j => ((tab.take j).filter fun e => decide (e.1 = ns)).map fun e => .int e.2) (by simp) rfl S ?_
    refine ldL (by exact rfl) S rfl (by exact rfl) ?_
    refine ⟨g, _, _, ?_, Ible.data o'.h rt, S, ?_, ?_⟩
    · simp; omega
    · intro C oL hoL j D2 v g11 mc ps2 vals2 cc2 s11 hj kg2 hP S11
      obtain ⟨pd, hpd, rp⟩ := hP kg2
      obtain ⟨⟨one, kk⟩, hq⟩ : ∃ p, tab[j]? = some p := ⟨_, List.getElem?_eq_getElem (by simpa using hj)⟩
      have e : pd = Mine.dT (one, kk) := by
        rw [List.getElem?_map, hq] at hpd
        simpa using hpd.symm
      subst e
      have hone : Good one := hg _ (List.mem_of_getElem? hq)
      have hst : tab.take (j + 1) = tab.take j ++ [(one, kk)] := by rw [List.take_add_one, hq]; rfl
      have heq : textN one = textN ns ↔ one = ns := ⟨fun q => text_inj hone.nm hn.nm q, fun q => by rw [q]⟩
      refine asg2 o' S11 rp rfl rfl fun v1 v2 s12 r1 r2 S12 => ?_
      obtain ⟨tk, rfl⟩ := r2.int_inv
      obtain ⟨t1, rfl⟩ := r1.str_inv
      (repeat' (first | w_left | ((with_reducible show wpAny _ _ (assign (Expr.Tuple _ _ _) _ _) _ _ _); refine asg2 (by first | with_reducible assumption | assumption) (by first | with_reducible assumption | assumption) (by tb_rel) rfl rfl ?_; intro _ _ _ _ _ _; (try dsimp only)) | ((with_reducible show wpAny _ _ (eval (Expr.Name _ _) _) _ _ _); refine ldC (by first | with_reducible assumption | assumption) (by exact rfl) (by exact rfl) (by walk_at "M.mem") (by first | with_reducible assumption | assumption) ?_) | ((with_reducible show wpAny _ _ (compareOp CmpOp.Eq (Value.ref _) (Value.ref _)) _ _ _); refine eqN (by first | with_reducible assumption | assumption) (by tb_rel) (by tb_rel) (by first | with_reducible assumption | assumption) (by first | with_reducible assumption | assumption) (by first | with_reducible assumption | assumption) ?_; (try dsimp only)) | ((with_reducible show wpAny _ _ (call (Value.builtin "len") _) _ _ _); refine lenL (by first | with_reducible assumption | assumption) (by tb_rel) (by simp; omega) ?_; intro _ _ _; (try dsimp only)) | ((with_reducible show wpAny _ _ (subscriptTail _ _ (Value.ref _) (Value.ref _)) _ _ _); refine slTakeE (by first | with_reducible assumption | assumption) (by tb_rel) (by first | rfl | (simp; rfl)) (by simp; omega) ?_; intro _ _ _ _ _ _; (try dsimp only)) | ((with_reducible show wpAny _ _ (newTuple _) _ _ _); refine' tupF (by first | with_reducible assumption | assumption) ?rds ?_; (case rds => walk_at "M.rds"); intro _ _ _ _ _ _; (try dsimp only)) | walk1 | (dsimp only; walk1)))
      show wpAny (model Pg w) _ (isTrue _ _ _) _ Nv _
      (repeat' (first | w_left | ((with_reducible show wpAny _ _ (assign (Expr.Tuple _ _ _) _ _) _ _ _); refine asg2 (by first | with_reducible assumption | assumption) (by first | with_reducible assumption | assumption) (by tb_rel) rfl rfl ?_; intro _ _ _ _ _ _; (try dsimp only)) | ((with_reducible show wpAny _ _ (eval (Expr.Name _ _) _) _ _ _); refine ldC (by first | with_reducible assumption | assumption) (by exact rfl) (by exact rfl) (by walk_at "M.mem") (by first | with_reducible assumption | assumption) ?_) | ((with_reducible show wpAny _ _ (compareOp CmpOp.Eq (Value.ref _) (Value.ref _)) _ _ _); refine eqN (by first | with_reducible assumption | assumption) (by tb_rel) (by tb_rel) (by first | with_reducible assumption | assumption) (by first | with_reducible assumption | assumption) (by first | with_reducible assumption | assumption) ?_; (try dsimp only)) | ((with_reducible show wpAny _ _ (call (Value.builtin "len") _) _ _ _); refine lenL (by first | with_reducible assumption | assumption) (by tb_rel) (by simp; omega) ?_; intro _ _ _; (try dsimp only)) | ((with_reducible show wpAny _ _ (subscriptTail _ _ (Value.ref _) (Value.ref _)) _ _ _); refine slTakeE (by first | with_reducible assumption | assumption) (by tb_rel) (by first | rfl | (simp; rfl)) (by simp; omega) ?_; intro _ _ _ _ _ _; (try dsimp only)) | ((with_reducible show wpAny _ _ (newTuple _) _ _ _); refine' tupF (by first | with_reducible assumption | assumption) ?rds ?_; (case rds => walk_at "M.rds"); intro _ _ _ _ _ _; (try dsimp only)) | walk1 | (dsimp only; walk1)))
      rename_i sY SY
      have hb : (textN one == textN ns) = decide (one = ns) := by
        by_cases hc : one = ns
        · rw [heq.mpr hc]; simp [hc]
        · simp [hc, mt heq.mp hc]
      first | rw [hb] | skip
      cases hc : decide (one = ns) with
      | true =>
        show wpAny (model Pg w) _ (eval _ _) _ Nv _
        refine ldL (by exact rfl) SY rfl (by exact rfl) ?_
        exact ⟨g11, _, .int kk, Kp.refl _, by rw [hst, List.filter_append]; simp [hc], .int _ _, SY⟩
      | false =>
        exact ⟨g11, _, Kp.refl _, by rw [hst, List.filter_append]; simp [hc], SY⟩
    · intro r g13 s13 kg3 S13 R13
      rw [List.take_of_length_le (by simp)] at R13
      have R14 : Rd g13 r (.list ((hereN ns tab).map .int)) := by unfold hereN; rw [List.map_map]; exact R13
      have R14' := R14
      obtain ⟨ba, bvs, rfl, _, _⟩ := R14'.list_inv
      have hsh := shaped_ints (hereN ns tab)
      (try k_unfold)
      (try dsimp only)
      have hdl := dir_up hn
      have hfe : foundN tab (f + 1) ns = if hereN ns tab ≠ [] ∨ ns = [] then hereN ns tab else foundN tab f ns.dropLast := rfl
      have hn' : Good ns.dropLast := ⟨Nm.dropLast hn.nm, by have := hn.len; simp; omega⟩
      (repeat' (first | w_left | ((with_reducible show wpAny _ _ (eval (Expr.Name _ _) _) _ _ _); refine ldC (by first | with_reducible assumption | assumption) (by exact rfl) (by exact rfl) (by walk_at "M.mem") (by first | with_reducible assumption | assumption) ?_) | ((with_reducible show wpAny _ _ (newList _) _ _ _); refine' lstF (by first | with_reducible assumption | assumption) ?rds ?_; (case rds => walk_at "M.rds"); intro _ _ _ _ _ _; (try dsimp only)) | ((with_reducible show wpAny _ _ (compareOp CmpOp.NotEq (Value.ref _) (Value.ref _)) _ _ _); refine neE (by first | with_reducible assumption | assumption) (by tb_rel) (by tb_rel) (by first | with_reducible assumption | assumption) (by first | with_reducible assumption | assumption) ?_; (try dsimp only)) | walk1 | (dsimp only; walk1)))
      · rename_i a20 g20 s20 S20 K20 R20 n1
        have hh : hereN ns tab = [] := by simpa using n1
        have tl200 : (textN ns).length ≤ 200 := by have := text_len hn; omega
        refine useGS S20 (fun k => spec_dir (G.up S20.base.kg) k (o'.le (by omega)) tl200) fun t21 g21 s21 S21 K21 => ?_
        rw [hdl]
        (repeat' (first | w_left | ((with_reducible show wpAny _ _ (eval (Expr.Name _ _) _) _ _ _); refine ldC (by first | with_reducible assumption | assumption) (by exact rfl) (by exact rfl) (by walk_at "M.mem") (by first | with_reducible assumption | assumption) ?_) | ((with_reducible show wpAny _ _ (newList _) _ _ _); refine' lstF (by first | with_reducible assumption | assumption) ?rds ?_; (case rds => walk_at "M.rds"); intro _ _ _ _ _ _; (try dsimp only)) | ((with_reducible show wpAny _ _ (compareOp CmpOp.NotEq (Value.ref _) (Value.ref _)) _ _ _); refine neE (by first | with_reducible assumption | assumption) (by tb_rel) (by tb_rel) (by first | with_reducible assumption | assumption) (by first | with_reducible assumption | assumption) ?_; (try dsimp only)) | walk1 | (dsimp only; walk1)))
        · rename_i n2
          have e : ns = [] := (text_up_eq hn).mp (by simpa using n2)
          rw [hfe, if_pos (.inr e)] at h
          exact h _ _ _ S21.base (R14.up (K20.trans K21))
        · rename_i n2
          have e : ns ≠ [] := fun q => by
            have := (text_up_eq hn).mpr q
            simp [this] at n2
          refine useGS S21 (fun k => spec_dir (G.up S21.base.kg) k (o'.le (by omega)) tl200) fun t22 g22 s22 S22 K22 => ?_
          rw [hdl]
          (repeat' (first | w_left | ((with_reducible show wpAny _ _ (eval (Expr.Name _ _) _) _ _ _); refine ldC (by first | with_reducible assumption | assumption) (by exact rfl) (by exact rfl) (by walk_at "M.mem") (by first | with_reducible assumption | assumption) ?_) | ((with_reducible show wpAny _ _ (newList _) _ _ _); refine' lstF (by first | with_reducible assumption | assumption) ?rds ?_; (case rds => walk_at "M.rds"); intro _ _ _ _ _ _; (try dsimp only)) | ((with_reducible show wpAny _ _ (compareOp CmpOp.NotEq (Value.ref _) (Value.ref _)) _ _ _); refine neE (by first | with_reducible assumption | assumption) (by tb_rel) (by tb_rel) (by first | with_reducible assumption | assumption) (by first | with_reducible assumption | assumption) ?_; (try dsimp only)) | walk1 | (dsimp only; walk1)))
          have rt2 := rt.up (kg3.trans (K20.trans (K21.trans K22)))
          refine useG S22 (fun k => spec_found hg hz f (by have := List.length_pos_iff.mpr e; simp; omega) (G.up S22.base.kg) k o' hn' rt2) fun r23 g23 s23 S23 K23 R23 => ?_
          rw [hfe, if_neg (by rintro (q | q); (exact q hh); (exact e q))] at h
          (repeat' (first | w_left | ((with_reducible show wpAny _ _ (eval (Expr.Name _ _) _) _ _ _); refine ldC (by first | with_reducible assumption | assumption) (by exact rfl) (by exact rfl) (by walk_at "M.mem") (by first | with_reducible assumption | assumption) ?_) | ((with_reducible show wpAny _ _ (newList _) _ _ _); refine' lstF (by first | with_reducible assumption | assumption) ?rds ?_; (case rds => walk_at "M.rds"); intro _ _ _ _ _ _; (try dsimp only)) | ((with_reducible show wpAny _ _ (compareOp CmpOp.NotEq (Value.ref _) (Value.ref _)) _ _ _); refine neE (by first | with_reducible assumption | assumption) (by tb_rel) (by tb_rel) (by first | with_reducible assumption | assumption) (by first | with_reducible assumption | assumption) ?_; (try dsimp only)) | walk1 | (dsimp only; walk1)))
          exact h _ _ _ S23.base R23
      · rename_i a20 g20 s20 S20 K20 R20 n1
        have hh : hereN ns tab ≠ [] := by simpa using n1
        rw [hfe, if_pos (.inl hh)] at h
        exact h _ _ _ S20.base (R14.up K20)
end

end
section
open PySem PySem.W PyProof.Rows PySem.Calls
set_option maxHeartbeats 2000000
theorem Good.app {ns : List Str} (h : Nm ns) (hl : ns.length ≤ 39) : Good (ns ++ [("a" : Str)]) :=
  ⟨fun y hy => (List.mem_append.mp hy).elim (h y) fun q => .inl (List.mem_singleton.mp q), by simp; omega⟩
theorem Good.drop {ns : List Str} (h : Good ns) : Good ns.dropLast := ⟨Nm.dropLast h.nm, by have := h.len; simp; omega⟩
section
variable {mg mb : Str → Option Value} {fa : Nat → Addr} {dT mi : Addr} {w : World} {A : Around} {g g0 : Heap} {s : Shared} {s0 : Core} {Q : Value → Shared → Prop} {E : Value → Shared → Prop} {n : Nat}
  {env : Env} {L : Addr} {m : Str → Option Value} {mu : List (Addr × Obj)}
theorem spec_climbs {went : WL} {tab : WL} {wv tv : Value} (G : Gnd mg mb fa dT mi g) (k : Kp g s.heap) (o : Ok A 60) (hw : went.length ≤ 60) (hg : ∀ p ∈ went, Good p.1 ∧ p.1.length ≤ 39) (hgt : ∀ p ∈ tab, Good p.1) (hz : tab.length ≤ 60)
    (hall : ∀ p ∈ went, ∀ asked ∈ [p.1, p.1 ++ [("a" : Str)], p.1.dropLast], foundN tab (asked.length + 1) asked = nearN asked (livingN went))
    (rw' : Rd g wv (.list (went.map dW))) (rt : Rd g tv (.list (tab.map Mine.dT))) : Gives w A g s (.ref (fa 32)) [wv, tv] (.bool true) := by
  intro Q E h
  have rw0 := rw'
  obtain ⟨wa, wvs, rfl, hwl, hwr⟩ := rw0.list_inv
  have rt' := rt
  obtain ⟨ta, tvs, rfl, _, _⟩ := rt'.list_inv
  have hlen := hwr.length
  refine enter (binds := [(Str.ofString "went", .ref wa), (Str.ofString "table", .ref ta)]) G k o (by decide) (by decide) (fun kV doc pm an cdv ct => BindsTo.of_eq rfl) (locs rfl) fun cd L s1 S o' => ?_
  refine wpAny_execs_cons ?_
  k_fold
  (repeat' (first | w_left | ((with_reducible show wpAny _ _ (newList _) _ _ _); refine' lstF (by first | with_reducible assumption | assumption) ?rds ?_; (case rds => walk_at "M.rds"); intro _ _ _ _ _ _; (try dsimp only)) | ((with_reducible show wpAny _ _ (binaryOp Operator.Add (Value.ref _) (Value.ref _)) _ _ _); refine addL (by first | with_reducible assumption | assumption) (by tb_rel) (by tb_rel) (by simp; omega) ?_; intro _ _ _ _ _ _; (try dsimp only)) | ((with_reducible show wpAny _ _ (subscriptTail _ _ (Value.ref _) (Value.ref _)) _ _ _); refine slBut (by first | with_reducible assumption | assumption) (by tb_rel) (by simp; omega) ?_; intro _ _ _ _ _ _; (try dsimp only)) | walk1 | (dsimp only; walk1)))
  refine useG S (fun k => spec_living (G.up S.base.kg) k (o'.le (by decide)) hw (fun p hp => ⟨(hg p hp).1.nm, by have := (hg p hp).2; omega⟩) rw') fun r2 g2 s2 S2 K2 R2 => ?_
  (repeat' (first | w_left | ((with_reducible show wpAny _ _ (newList _) _ _ _); refine' lstF (by first | with_reducible assumption | assumption) ?rds ?_; (case rds => walk_at "M.rds"); intro _ _ _ _ _ _; (try dsimp only)) | ((with_reducible show wpAny _ _ (binaryOp Operator.Add (Value.ref _) (Value.ref _)) _ _ _); refine addL (by first | with_reducible assumption | assumption) (by tb_rel) (by tb_rel) (by simp; omega) ?_; intro _ _ _ _ _ _; (try dsimp only)) | ((with_reducible show wpAny _ _ (subscriptTail _ _ (Value.ref _) (Value.ref _)) _ _ _); refine slBut (by first | with_reducible assumption | assumption) (by tb_rel) (by simp; omega) ?_; intro _ _ _ _ _ _; (try dsimp only)) | walk1 | (dsimp only; walk1)))
  rename_i s3 S3
  obtain ⟨la, lvs, rfl, _, _⟩ := (show Rd g2 r2 (.list ((livingN went).map dW)) from R2).list_inv
  refine wpAny_For ?_
  refine ldL (by exact rfl) S3 rfl (by exact rfl) ?_
  have hwl2 : g2.IsList wa wvs.toArray := let ⟨o, ho, r⟩ := hwl; ⟨o, K2 _ _ ho, r⟩
  refine pyIter_list hwl2 S3 o'.h fun I ms ps s4 W hms S4 => ?_
  refine for_itr (W _) hms S4 ["names", "deed", "asked"] (fun i g T mu => T = [] ∧ mu = []) (fun i g₁ g₂ T mu kk hJ => hJ) [] trivial ⟨rfl, rfl⟩ ?turn ?fin
  case turn =>
    intro i v g' T mu' ps' jk s' hi kg hP hJ S'
    obtain ⟨rfl, rfl⟩ := hJ
    obtain ⟨⟨ns, d⟩, hx⟩ : ∃ p, went[i]? = some p := ⟨_, List.getElem?_eq_getElem (by simp at hlen; omega)⟩
    obtain ⟨v', hv', rv⟩ := (hwr.up (K2.trans kg)).get (i := i) (d := dW (ns, d)) (by simp [hx])
    rw [hP] at hv'
    cases hv'
    have hm := List.mem_of_getElem? hx
    have hns := hg _ hm
    have hnl : ns.length ≤ 39 := hns.2
    refine asg2 o' S' rv rfl rfl fun v1 v2 s5 r1 r2 S5 => ?_
    obtain ⟨td, rfl⟩ := r2.int_inv
    obtain ⟨na, nvs, rfl, _, _⟩ := (show Rd g' v1 (.list (ns.map .str)) from r1).list_inv
    have r1c : Rd g' (.ref na) (.list (ns.map .str)) := r1
    (repeat' (first | w_left | ((with_reducible show wpAny _ _ (newList _) _ _ _); refine' lstF (by first | with_reducible assumption | assumption) ?rds ?_; (case rds => walk_at "M.rds"); intro _ _ _ _ _ _; (try dsimp only)) | ((with_reducible show wpAny _ _ (binaryOp Operator.Add (Value.ref _) (Value.ref _)) _ _ _); refine addL (by first | with_reducible assumption | assumption) (by tb_rel) (by tb_rel) (by simp; omega) ?_; intro _ _ _ _ _ _; (try dsimp only)) | ((with_reducible show wpAny _ _ (subscriptTail _ _ (Value.ref _) (Value.ref _)) _ _ _); refine slBut (by first | with_reducible assumption | assumption) (by tb_rel) (by simp; omega) ?_; intro _ _ _ _ _ _; (try dsimp only)) | walk1 | (dsimp only; walk1)))
    rename_i s6 S6 s7 S7
    refine wpAny_For ?_
    (repeat' (first | w_left | ((with_reducible show wpAny _ _ (newList _) _ _ _); refine' lstF (by first | with_reducible assumption | assumption) ?rds ?_; (case rds => walk_at "M.rds"); intro _ _ _ _ _ _; (try dsimp only)) | ((with_reducible show wpAny _ _ (binaryOp Operator.Add (Value.ref _) (Value.ref _)) _ _ _); refine addL (by first | with_reducible assumption | assumption) (by tb_rel) (by tb_rel) (by simp; omega) ?_; intro _ _ _ _ _ _; (try dsimp only)) | ((with_reducible show wpAny _ _ (subscriptTail _ _ (Value.ref _) (Value.ref _)) _ _ _); refine slBut (by first | with_reducible assumption | assumption) (by tb_rel) (by simp; omega) ?_; intro _ _ _ _ _ _; (try dsimp only)) | walk1 | (dsimp only; walk1)))
    rename_i a8 g8 s8 S8 K8 R8 a9 g9 s9 S9 K9 R9 a10 g10 s10 S10 K10 R10 a11 g11 s11 S11 K11 R11
    have K68 : Kp g' g11 := K8.trans (K9.trans (K10.trans K11))
    have R12 : Rd g11 (.ref a11) (.list ([ns, ns ++ [("a" : Str)], ns.dropLast].map dN)) := by
      have e1 : dN (ns ++ [("a" : Str)]) = .list (ns.map .str ++ [.str (Str.ofString "a")]) := by unfold dN; simp
      have e2 : dN ns.dropLast = .list (ns.map .str).dropLast := by unfold dN; simp
      rw [List.map_cons, List.map_cons, List.map_cons, e1, e2]
      exact R11
    obtain ⟨aa, avs, e, hal, har⟩ := R12.list_inv
    cases e
    have hal3 : avs.length = 3 := by simpa using har.length
    refine pyIter_list hal S11 o'.h fun I2 ms2 ps2 s12 W2 hms2 S12 => ?_
    refine for_itr (W2 _) hms2 S12 ["asked"] (fun i g T mu => T = [] ∧ mu = ps' ++ []) (fun i g₁ g₂ T mu kk hJ => hJ) [] trivial ⟨rfl, rfl⟩ ?turn2 ?fin2
    case turn2 =>
      intro j v g12 T mu' ps3 jk3 s13 hj kg3 hP hJ S13
      obtain ⟨rfl, rfl⟩ := hJ
      obtain ⟨asked, hq⟩ : ∃ p, [ns, ns ++ [("a" : Str)], ns.dropLast][j]? = some p := ⟨_, List.getElem?_eq_getElem (by simp; omega)⟩
      obtain ⟨v', hv', rv⟩ := (har.up kg3).get (i := j) (d := dN asked) (by simp only [List.getElem?_map, hq, Option.map_some])
      rw [hP] at hv'
      cases hv'
      have hmem := List.mem_of_getElem? hq
      have hga : Good asked := by
        rcases List.mem_cons.mp hmem with rfl | hmem
        · exact hns.1
        · rcases List.mem_cons.mp hmem with rfl | hmem
          · exact Good.app hns.1.nm hnl
          · rw [List.mem_singleton.mp hmem]; exact hns.1.drop
      have hfin := hall _ hm asked hmem
      have rt3 := rt.up (K2.trans (kg.trans (K68.trans kg3)))
      have rl3 := R2.up (kg.trans (K68.trans kg3))
      refine wpAny_assign_Name (stL S13 rfl fun s14 S14 => ?_)
      refine wpAny_execs_cons ?_
      (repeat' (first | w_left | ((with_reducible show wpAny _ _ (newList _) _ _ _); refine' lstF (by first | with_reducible assumption | assumption) ?rds ?_; (case rds => walk_at "M.rds"); intro _ _ _ _ _ _; (try dsimp only)) | ((with_reducible show wpAny _ _ (binaryOp Operator.Add (Value.ref _) (Value.ref _)) _ _ _); refine addL (by first | with_reducible assumption | assumption) (by tb_rel) (by tb_rel) (by simp; omega) ?_; intro _ _ _ _ _ _; (try dsimp only)) | ((with_reducible show wpAny _ _ (subscriptTail _ _ (Value.ref _) (Value.ref _)) _ _ _); refine slBut (by first | with_reducible assumption | assumption) (by tb_rel) (by simp; omega) ?_; intro _ _ _ _ _ _; (try dsimp only)) | walk1 | (dsimp only; walk1)))
      refine useGS S14 (fun k => spec_text (G.up S14.base.kg) k (o'.le (by decide)) hga rv) fun t15 g15 s15 S15 K15 => ?_
      (repeat' (first | w_left | ((with_reducible show wpAny _ _ (newList _) _ _ _); refine' lstF (by first | with_reducible assumption | assumption) ?rds ?_; (case rds => walk_at "M.rds"); intro _ _ _ _ _ _; (try dsimp only)) | ((with_reducible show wpAny _ _ (binaryOp Operator.Add (Value.ref _) (Value.ref _)) _ _ _); refine addL (by first | with_reducible assumption | assumption) (by tb_rel) (by tb_rel) (by simp; omega) ?_; intro _ _ _ _ _ _; (try dsimp only)) | ((with_reducible show wpAny _ _ (subscriptTail _ _ (Value.ref _) (Value.ref _)) _ _ _); refine slBut (by first | with_reducible assumption | assumption) (by tb_rel) (by simp; omega) ?_; intro _ _ _ _ _ _; (try dsimp only)) | walk1 | (dsimp only; walk1)))
      have rt4 := rt3.up K15
      refine useG S15 (fun k => spec_found hgt hz (asked.length + 1) (by omega) (G.up S15.base.kg) k (o'.le (by have := hga.len; omega)) hga rt4) fun r16 g16 s16 S16 K16 R16 => ?_
      (repeat' (first | w_left | ((with_reducible show wpAny _ _ (newList _) _ _ _); refine' lstF (by first | with_reducible assumption | assumption) ?rds ?_; (case rds => walk_at "M.rds"); intro _ _ _ _ _ _; (try dsimp only)) | ((with_reducible show wpAny _ _ (binaryOp Operator.Add (Value.ref _) (Value.ref _)) _ _ _); refine addL (by first | with_reducible assumption | assumption) (by tb_rel) (by tb_rel) (by simp; omega) ?_; intro _ _ _ _ _ _; (try dsimp only)) | ((with_reducible show wpAny _ _ (subscriptTail _ _ (Value.ref _) (Value.ref _)) _ _ _); refine slBut (by first | with_reducible assumption | assumption) (by tb_rel) (by simp; omega) ?_; intro _ _ _ _ _ _; (try dsimp only)) | walk1 | (dsimp only; walk1)))
      refine useG S16 (fun k => spec_near (G.up S16.base.kg) k (o'.le (by decide)) (by have := livN_len (went := went) (k := went.length); simp [livingN]; omega) hga.nm (by have := hga.len; omega) (fun p hp => ?_) (rv.up (K15.trans K16)) (rl3.up (K15.trans K16))) fun r17 g17 s17 S17 K17 R17 => ?_
      · obtain ⟨i1, d1, hm1, _, _⟩ := livN_mem hp
        have := hg _ (List.mem_of_getElem? hm1)
        have h2 : p.1.length ≤ 39 := this.2
        exact ⟨this.1.nm, by omega⟩
      refine neI S17 (R16.up K17) R17 o' hfin ?_
      (repeat' (first | w_left | ((with_reducible show wpAny _ _ (newList _) _ _ _); refine' lstF (by first | with_reducible assumption | assumption) ?rds ?_; (case rds => walk_at "M.rds"); intro _ _ _ _ _ _; (try dsimp only)) | ((with_reducible show wpAny _ _ (binaryOp Operator.Add (Value.ref _) (Value.ref _)) _ _ _); refine addL (by first | with_reducible assumption | assumption) (by tb_rel) (by tb_rel) (by simp; omega) ?_; intro _ _ _ _ _ _; (try dsimp only)) | ((with_reducible show wpAny _ _ (subscriptTail _ _ (Value.ref _) (Value.ref _)) _ _ _); refine slBut (by first | with_reducible assumption | assumption) (by tb_rel) (by simp; omega) ?_; intro _ _ _ _ _ _; (try dsimp only)) | walk1 | (dsimp only; walk1)))
      refine ⟨g17, _, [], _, K15.trans (K16.trans K17), ⟨rfl, rfl⟩, trivial, ?_, S17⟩
      repeat (first | exact Off.trk rfl Off.refl | refine Off.set rfl ?_ | refine Off.trk2 rfl rfl ?_)
    case fin2 =>
      intro g' T mu' jk2 s' kg2 hJ S'
      obtain ⟨rfl, rfl⟩ := hJ
      (try k_unfold)
      (try dsimp only)
      (repeat' (first | w_left | ((with_reducible show wpAny _ _ (newList _) _ _ _); refine' lstF (by first | with_reducible assumption | assumption) ?rds ?_; (case rds => walk_at "M.rds"); intro _ _ _ _ _ _; (try dsimp only)) | ((with_reducible show wpAny _ _ (binaryOp Operator.Add (Value.ref _) (Value.ref _)) _ _ _); refine addL (by first | with_reducible assumption | assumption) (by tb_rel) (by tb_rel) (by simp; omega) ?_; intro _ _ _ _ _ _; (try dsimp only)) | ((with_reducible show wpAny _ _ (subscriptTail _ _ (Value.ref _) (Value.ref _)) _ _ _); refine slBut (by first | with_reducible assumption | assumption) (by tb_rel) (by simp; omega) ?_; intro _ _ _ _ _ _; (try dsimp only)) | walk1 | (dsimp only; walk1)))
      refine ⟨g', _, [], _, K68.trans kg2, ⟨rfl, rfl⟩, trivial, ?_, S'⟩
      repeat (first | exact Off.trk rfl Off.refl | refine Off.set rfl ?_ | refine Off.trk2 rfl rfl ?_)
  case fin =>
    intro g' T mu' jk s' kg hJ S'
    obtain ⟨rfl, rfl⟩ := hJ
    (try k_unfold)
    (try dsimp only)
    (repeat' (first | w_left | ((with_reducible show wpAny _ _ (newList _) _ _ _); refine' lstF (by first | with_reducible assumption | assumption) ?rds ?_; (case rds => walk_at "M.rds"); intro _ _ _ _ _ _; (try dsimp only)) | ((with_reducible show wpAny _ _ (binaryOp Operator.Add (Value.ref _) (Value.ref _)) _ _ _); refine addL (by first | with_reducible assumption | assumption) (by tb_rel) (by tb_rel) (by simp; omega) ?_; intro _ _ _ _ _ _; (try dsimp only)) | ((with_reducible show wpAny _ _ (subscriptTail _ _ (Value.ref _) (Value.ref _)) _ _ _); refine slBut (by first | with_reducible assumption | assumption) (by tb_rel) (by simp; omega) ?_; intro _ _ _ _ _ _; (try dsimp only)) | walk1 | (dsimp only; walk1)))
    exact h _ _ _ (St.base (by first | with_reducible assumption | assumption)) (.bool _)
end

end
section
open PySem PySem.W PyProof.Rows PySem.Calls
set_option maxHeartbeats 400000
open PySem.AutoSeq1 (wpAny_loadPart')
theorem slot_map_init : Slot "map" "__init__" "object.__init__" :=
  .of (owner := "object") (n := "__init__") (by rw [typeLookup_type, builtinLookup_eq_fast]; kernel_rfl) (by decide +kernel) (by decide +kernel) (by decide +kernel)
    (by first | exact .inl (by decide +kernel) | exact .inr (by decide +kernel)) (by rw [isSubtype_type]; kernel_rfl)
theorem slot_map_iter : Slot "map" "__iter__" "map.__iter__" :=
  .of (owner := "map") (n := "__iter__") (by rw [typeLookup_type, builtinLookup_eq_fast]; kernel_rfl) (by decide +kernel) (by decide +kernel) (by decide +kernel)
    (by first | exact .inl (by decide +kernel) | exact .inr (by decide +kernel)) (by rw [isSubtype_type]; kernel_rfl)
theorem slot_map_next : Slot "map" "__next__" "map.__next__" :=
  .of (owner := "map") (n := "__next__") (by rw [typeLookup_type, builtinLookup_eq_fast]; kernel_rfl) (by decide +kernel) (by decide +kernel) (by decide +kernel)
    (by first | exact .inl (by decide +kernel) | exact .inr (by decide +kernel)) (by rw [isSubtype_type]; kernel_rfl)
theorem entry_map_iter : entryFor table "map.__iter__" = some Builtin.«dict_keyiterator.__iter__» :=
  entryFor_alias (id' := "dict_keyiterator.__iter__") (by kernel_rfl) (by decide +kernel) (by decide +kernel) (by kernel_rfl)
theorem entry_map_next : entryFor table "map.__next__" = some Builtin.«map.__next__» := entryFor_of_tree (by kernel_rfl)
theorem entry_map_new : entryFor table "map.__new__" = some Builtin.«map.__new__» := entryFor_of_tree (by kernel_rfl)
theorem args_map_iter_1 (a : Value) : argsOk "map.__iter__" ⟨[a], []⟩ := by unfold argsOk; kernel_rfl
theorem args_map_next_1 (a : Value) : argsOk "map.__next__" ⟨[a], []⟩ := by unfold argsOk; kernel_rfl
theorem mro_map : mroOf (.type "map") = pure [.type "map", .type "object"] := by rw [mroOf_type]; kernel_rfl
theorem lookup_map_new : typeLookup (.type "map") "__new__" = pure (some (.builtin "map.__new__")) := by rw [typeLookup_type, builtinLookup_eq_fast]; kernel_rfl
theorem called_map : TypeCalled "map" "map.__new__" "object.__init__" :=
  ⟨by decide +kernel, by decide +kernel, ⟨_, _, mro_map⟩, madeBy_type mro_map lookup_map_new (by decide +kernel), by decide +kernel, by rw [isSubtype_type]; kernel_rfl, slot_map_init⟩
theorem typeCall_map_2 (a b : Value) : checkTypeCall "map" ⟨[a, b], []⟩ = pure () := by kernel_rfl
theorem newCall_map_2 (a b : Value) : checkBuiltinCall "map.__new__" ⟨[.type "map", a, b], []⟩ = pure () := by kernel_rfl
theorem sub_map : isSubtype (.type "map") (.type "map") = pure true := by rw [isSubtype_type]; kernel_rfl
theorem map_no_len : typeLookup (.type "map") "__len__" = pure none := by rw [typeLookup_type, builtinLookup_eq_fast]; kernel_rfl
theorem map_no_hint : typeLookup (.type "map") "__length_hint__" = pure none := by rw [typeLookup_type, builtinLookup_eq_fast]; kernel_rfl
abbrev litO (l : Addr) (i : Nat) : Obj := { cls := .type "list_iterator", data := .fields #[.ref l, .int i 0] }
abbrev mapO (T : Addr) (f : Value) : Obj := { cls := .type "map", data := .fields #[.ref T, f] }
theorem meets_map_new (f : Value) (l : Addr) (items : Array Value) (n : Nat) (dct : Option Addr) (sl : Array (Option Value)) :
    Meets (Builtin.«map.__new__» ⟨[.type "map", f, .ref l], []⟩) (fun _ R s => s.heap.get? l = some { cls := .type "list", dict := dct, data := .seq items n, slots := sl } ∧
      R (.ok (.ret (.ref ((s.heap.push (litO l 0)).push (tob [.ref s.heap.objs.size])).objs.size)))
        { s with heap := ((s.heap.push (litO l 0)).push (tob [.ref s.heap.objs.size])).push (mapO (s.heap.push (litO l 0)).objs.size f) }) :=
  .of_wp fun prog w A R s h => by
    obtain ⟨hp, g, d, tk, os⟩ := s; obtain ⟨hl, h⟩ := h
    have hsub := sub_map
    have hL : Heap.IsList (Shared.heap ⟨hp, g, d, tk, os⟩) l items := ⟨_, hl, rfl, n, rfl⟩
    wp_walk using wpAny_loadPart' hl, wpAny_pyIter_list hL
    exact ⟨_, rfl, h⟩
section
variable {mg mb : Str → Option Value} {fa : Nat → Addr} {dT mi : Addr} {w : World} {A : Around} {g g0 : Heap} {s : Shared} {s0 : Core} {Q : Value → Shared → Prop} {E : Value → Shared → Prop} {n : Nat}
  {env : Env} {L C : Addr} {m mc : Str → Option Value} {mu mu' : List (Addr × Obj)}
theorem callMap {f : Value} {l : Addr} {vs : List Value} (S : St g0 s0 g L m mu (core s)) (hl : g.IsList l vs.toArray)
    (h : ∀ M T J ob g' s', LIt l 0 ob → St g0 s0 g' L m ((J, ob) :: mu) (core s') → Kp g g' → g'.get? T = some (tob [.ref J]) → g'.get? M = some (mapO T f) → Q (.ref M) s') :
    wpAny (model Pg w) A (call (.type "map") [f, .ref l]) Q E s := by
  obtain ⟨⟨c, dct, dt, sl⟩, ho, hc, n, hd⟩ := hl
  simp only at hc hd
  subst hc hd
  have ho' := S.kp _ _ ho
  refine callType_new called_map (by decide) (typeCall_map_2 _ _) (newCall_map_2 _ _) (fun obj => by unfold argsOk; kernel_rfl) entry_map_new
    (meets_map_new f l vs.toArray n dct sl) ⟨ho', ?_⟩
  have S1 : St g0 s0 g L m ((s.heap.objs.size, litO l 0) :: mu) ⟨s.heap.push (litO l 0), s.gens, s.os⟩ :=
    S.own (s := core s) (s' := ⟨s.heap.push (litO l 0), s.gens, s.os⟩) (push_kp _ _) (fresh_size _) (Heap.get?_push_size _ rfl) rfl rfl
  have X := Stp.alloc (g := g) (s := ⟨s.heap.push (litO l 0), s.gens, s.os⟩) (s' := ⟨(s.heap.push (litO l 0)).push (tob [.ref s.heap.objs.size]), s.gens, s.os⟩) S1.kp (push_kp _ (tob [.ref s.heap.objs.size])) (fresh_size _) (Heap.get?_push_size _ rfl) rfl rfl
  have S2 := S1.step X
  have Y := Stp.alloc (s := ⟨(s.heap.push (litO l 0)).push (tob [.ref s.heap.objs.size]), s.gens, s.os⟩) (s' := ⟨((s.heap.push (litO l 0)).push (tob [.ref s.heap.objs.size])).push (mapO (s.heap.push (litO l 0)).objs.size f), s.gens, s.os⟩) S2.kp (push_kp _ (mapO (s.heap.push (litO l 0)).objs.size f)) (fresh_size _) (Heap.get?_push_size _ rfl) rfl rfl
  have S3 := S2.step Y
  refine ⟨⟨_, Heap.get?_push_size _ rfl, rfl⟩, h _ _ _ _ _ _ ⟨rfl, rfl⟩ S3 (X.kg.trans Y.kg) (Y.kg _ _ (put_self rfl)) (put_self rfl)⟩
end

end
section
open PySem PySem.W PyProof.Rows PySem.Calls
set_option maxHeartbeats 400000
section
variable {mg mb : Str → Option Value} {fa : Nat → Addr} {dT mi : Addr} {w : World} {A : Around} {g g0 : Heap} {s : Shared} {s0 : Core} {Q : Value → Shared → Prop} {E : Value → Shared → Prop} {n : Nat}
  {env : Env} {L C : Addr} {m mc : Str → Option Value} {mu mu' : List (Addr × Obj)}
theorem map_item {M T J : Addr} {f : Value} {l : Addr} {vs : List Value} {i : Nat} {ob : Obj} {v y : Value} {Q : Option Value → Shared → Prop} (S : St g0 s0 g L m ((J, ob) :: mu) (core s)) (hl : g.IsList l vs.toArray)
    (hit : LIt l i ob) (hv : vs[i]? = some v) (hT : g.get? T = some (tob [.ref J])) (hM : g.get? M = some (mapO T f))
    (hf : ∀ ob' s1 (Q' E' : Value → Shared → Prop), St g0 s0 g L m ((J, ob') :: mu) (core s1) → (∀ s2, St g0 s0 g L m ((J, ob') :: mu) (core s2) → Q' y s2) → wpAny (model Pg w) A.in1 (call f [v]) Q' E' s1)
    (h : ∀ ob' s', LIt l (i + 1) ob' → St g0 s0 g L m ((J, ob') :: mu) (core s') → Q (some y) s') : wpAny (model Pg w) A (pyNext (.ref M)) Q E s := by
  have hM' := S.kp _ _ hM
  have hT' := S.kp _ _ hT
  have hTy : s.TypeIs (.ref M) "map" := ⟨_, hM', rfl⟩
  have hiter : s.heap.IsListIter J l i := ⟨ob, (S.has (J, ob) (.head _)).1, hit.1, hit.2⟩
  have hls : s.heap.IsList l vs.toArray := by obtain ⟨ol, hol, r⟩ := hl; exact ⟨ol, S.kp _ _ hol, r⟩
  unfold pyNext
  refine wpAny_bind (wpAny_attempt (wpAny_callSpecial?_slot (name := Str.ofString "__next__") hTy slot_map_next (wpAny_call_entry slot_map_next hTy entry_map_next ?_ (args_map_next_1 _))))
  show wpAny _ _ (field (.ref M) 0 >>= _) _ _ s
  refine wpAny_bind (wpAny_field hM' rfl (x := .ref T) rfl ?_)
  show wpAny _ _ (seqItems? (.ref T) >>= _) _ _ s
  refine wpAny_bind (wpAny_seqItems hT' rfl ?_)
  show wpAny _ _ (forIn #[Value.ref J] _ _ >>= _) _ _ s
  rw [List.forIn_toArray, List.forIn_cons]
  refine wpAny_bind (wpAny_bind (wpAny_bind (wpAny_holding (wpAny_nextOf_list_item hiter hls (x := v) (by simpa using hv) fun h' hit' hs' => ?_))))
  obtain ⟨ob', hob', hc', hd'⟩ := hit'
  have S' : St g0 s0 g L m ((J, ob') :: mu) ⟨h', s.gens, s.os⟩ := St.upd (pre := []) S (h' := h') (o' := ob') (fun b x hb e => (hs'.2 b hb).trans e) hob'
  refine wpAny_pure ?_
  show wpAny _ _ (pure (#[].push v)) _ _ _
  refine wpAny_pure ?_
  show wpAny _ _ (field (.ref M) 1 >>= _) _ _ _
  refine wpAny_bind (wpAny_field (S'.kp _ _ hM) rfl (x := f) rfl ?_)
  show wpAny _ _ (holding _ (call f [v]) >>= _) _ _ _
  refine wpAny_bind (wpAny_holding (hf ob' { s with heap := h' } _ _ S' fun s2 S2 => ?_))
  refine wpAny_bind (wpAny_letGo (wpAny_pure ⟨y, rfl, wpAny_pure (h ob' s2 ⟨hc', hd'⟩ S2)⟩))
theorem map_end {M T J : Addr} {f : Value} {l : Addr} {vs : List Value} {i : Nat} {ob : Obj} {Q : Option Value → Shared → Prop} (hh : A.handled = none) (S : St g0 s0 g L m ((J, ob) :: mu) (core s)) (hl : g.IsList l vs.toArray)
    (hit : LIt l i ob) (hv : vs[i]? = none) (hT : g.get? T = some (tob [.ref J])) (hM : g.get? M = some (mapO T f))
    (h : ∀ s', St g0 s0 g L m mu (core s') → Q none s') : wpAny (model Pg w) A (pyNext (.ref M)) Q E s := by
  have hM' := S.kp _ _ hM
  have hT' := S.kp _ _ hT
  have hTy : s.TypeIs (.ref M) "map" := ⟨_, hM', rfl⟩
  have hiter : s.heap.IsListIter J l i := ⟨ob, (S.has (J, ob) (.head _)).1, hit.1, hit.2⟩
  have hls : s.heap.IsList l vs.toArray := by obtain ⟨ol, hol, r⟩ := hl; exact ⟨ol, S.kp _ _ hol, r⟩
  unfold pyNext
  refine wpAny_bind (wpAny_attempt (wpAny_callSpecial?_slot (name := Str.ofString "__next__") hTy slot_map_next (wpAny_call_entry slot_map_next hTy entry_map_next ?_ (args_map_next_1 _))))
  show wpAny _ _ (field (.ref M) 0 >>= _) _ _ s
  refine wpAny_bind (wpAny_field hM' rfl (x := .ref T) rfl ?_)
  show wpAny _ _ (seqItems? (.ref T) >>= _) _ _ s
  refine wpAny_bind (wpAny_seqItems hT' rfl ?_)
  show wpAny _ _ (forIn #[Value.ref J] _ _ >>= _) _ _ s
  rw [List.forIn_toArray, List.forIn_cons]
  refine wpAny_bind (wpAny_bind (wpAny_bind (wpAny_holding (wpAny_nextOf_list_end (A := A.in1) hh hiter hls (by simpa using hv) fun h' e hs' he => ?_))))
  obtain ⟨oe, hoe, hce⟩ := he
  show wpAny _ _ (isInstance (.ref e) (.type "StopIteration") >>= _) _ _ _
  refine wpAny_bind (wpAny_isInstance (T := "StopIteration") (b := true) ⟨oe, hoe, hce⟩ isSubtype_stop ?_)
  exact wpAny_pure (h _ (St.lose (pre := []) S fun b x hb q => hs' b x hb q))
theorem map_self {M T : Addr} {f : Value} {Q : Value → Shared → Prop} (S : St g0 s0 g L m mu (core s)) (hM : g.get? M = some (mapO T f)) (h : Q (.ref M) s) : wpAny (model Pg w) A (pyIter (.ref M)) Q E s := by
  have hTy : s.TypeIs (.ref M) "map" := ⟨_, S.kp _ _ hM, rfl⟩
  refine wpAny_pyIter_slot hTy slot_map_iter (wpAny_call_entry slot_map_iter hTy entry_map_iter ?_ (args_map_iter_1 _))
  show wpAny _ _ (ret (.ref M)) _ _ s
  exact wpAny_pure ⟨_, rfl, "map", _, hTy, slot_map_next.lookup, h⟩
/-- the items of the map, filled into a list -/
theorem map_extend {R : Result → Shared → Prop} {M T J D : Addr} {f : Value} {l : Addr} {vs : List Value} {ys : List Value} (hh : A.handled = none) (hl : g.IsList l vs.toArray) (hlen : ys.length = vs.length) (hz : vs.length ≤ 1000)
    (hT : g.get? T = some (tob [.ref J])) (hM : g.get? M = some (mapO T f)) (res : Value)
    (hf : ∀ (i : Nat) v y mu' s1 (Q' E' : Value → Shared → Prop), vs[i]? = some v → ys[i]? = some y → St g0 s0 g L m mu' (core s1) → (∀ s2, St g0 s0 g L m mu' (core s2) → Q' y s2) → wpAny (model Pg w) A.in1.in1 (call f [v]) Q' E' s1)
    (hR : ∀ c s', St g0 s0 g L m ((D, lob ys c) :: mu) (core s') → R (.ok (.ret res)) s') :
    ∀ (k i : Nat) (s : Shared) (c : Nat) (ob : Obj), vs.length - i = k → i ≤ vs.length → LIt l i ob → St g0 s0 g L m ((J, ob) :: (D, lob (ys.take i) c) :: mu) (core s) →
      codeAny (model Pg w) A (.builtin "list.extend.loop" ⟨[.ref D, .ref M, res], []⟩) R s := by
  intro k
  induction k with
  | zero =>
    intro i s c ob hk hi hit S
    have hin : i = vs.length := by omega
    subst hin
    refine codeAny_builtin PySem.F.entry_extend_loop ?_
    rw [Around.under_plainId PySem.F.plain_extend_loop _]
    show wpAny _ A.in1 (pyNext (.ref M) >>= _) _ _ s
    refine wpAny_bind (map_end hh S hl hit (by simp) hT hM fun s' S' => wpAny_pure ?_)
    rw [List.take_of_length_le (by omega)] at S'
    exact hR _ _ S'
  | succ k ih =>
    intro i s c ob hk hi hit S
    have hlt : i < vs.length := by omega
    obtain ⟨v, hv⟩ : ∃ v, vs[i]? = some v := ⟨_, List.getElem?_eq_getElem hlt⟩
    obtain ⟨y, hy⟩ : ∃ y, ys[i]? = some y := ⟨_, List.getElem?_eq_getElem (by omega)⟩
    refine codeAny_builtin PySem.F.entry_extend_loop ?_
    rw [Around.under_plainId PySem.F.plain_extend_loop _]
    show wpAny _ A.in1 (pyNext (.ref M) >>= _) _ _ s
    refine wpAny_bind (map_item (y := y) S hl hit hv hT hM (fun ob' s1 Q' E' S1 hq => hf i v y _ s1 Q' E' hv hy S1 hq) fun ob' s' hit' S' => ?_)
    have hS' := (S'.has (D, lob (ys.take i) c) (by simp)).1
    show wpAny _ A.in1 (updateSeq D (·.push y) >>= _) _ _ _
    refine wpAny_bind ?_
    have hsz : (ys.take i).length ≤ 1000 := by simp; omega
    refine wpAny_updateSeq hS' rfl (wpAny_pure ⟨plainId_quiet PySem.F.plain_extend_loop _, ?_⟩) (by simp [sizeLine_eq]; omega) (by simp [sizeLine_eq]; omega)
    obtain ⟨c', ec⟩ : ∃ c', Obj.mapSeq (·.push y) (lob (ys.take i) c) = lob (ys.take (i + 1)) c' := by
      obtain ⟨c', e1⟩ : ∃ c', Obj.mapSeq (·.push y) (lob (ys.take i) c) = { cls := .type "list", data := .seq ((ys.take i).toArray.push y) c' } := ⟨_, rfl⟩
      exact ⟨c', by rw [e1, show (ys.take i).toArray.push y = (ys.take (i + 1)).toArray by rw [List.take_add_one, hy]; simp]⟩
    refine ih (i + 1) _ c' ob' (by omega) hlt hit' ?_
    exact St.upd (pre := [(J, ob')]) (o' := lob (ys.take (i + 1)) c') S' (h' := s'.heap.update D (·.mapSeq (·.push y))) (fun b x hb e => (Heap.get?_update_other _ _ (Ne.symm hb)).trans e) ((Heap.get?_update_self (h := s'.heap) (a := D) (fun x => Obj.mapSeq (·.push y) x) hS' rfl).trans (congrArg some ec))
/-- the map's items collected -/
theorem map_collect {M T J : Addr} {ob : Obj} {f : Value} {l : Addr} {vs ys : List Value} {Q : List Value → Shared → Prop} (hh : A.handled = none) (hl : g.IsList l vs.toArray) (hlen : ys.length = vs.length) (hz : vs.length ≤ 1000)
    (S : St g0 s0 g L m ((J, ob) :: mu) (core s)) (hit : LIt l 0 ob) (hT : g.get? T = some (tob [.ref J])) (hM : g.get? M = some (mapO T f))
    (hf : ∀ (i : Nat) v y mu' s1 (Q' E' : Value → Shared → Prop), vs[i]? = some v → ys[i]? = some y → St g0 s0 g L m mu' (core s1) → (∀ s2, St g0 s0 g L m mu' (core s2) → Q' y s2) → wpAny (model Pg w) A.in1.in1 (call f [v]) Q' E' s1)
    (hQ : ∀ s', St g0 s0 g L m mu (core s') → Q ys s') : wpAny (model Pg w) A (collect (.ref M)) Q E s := by
  have hM' := S.kp _ _ hM
  unfold collect
  refine wpAny_bind (wpAny_runValue (codeAny_builtin PySem.F.entry_proto_collect ?_))
  rw [Around.under_plainId PySem.F.plain_proto_collect _]
  show wpAny _ A.in1 (newList [] >>= fun l => again (.builtin "list.__iadd__" ⟨[l, .ref M], []⟩)) _ _ s
  refine wpAny_bind (lstO S fun D s1 S1 => ?_)
  refine wpAny_pure ⟨plainId_quiet PySem.F.plain_list_iadd _, codeAny_builtin PySem.F.entry_list_iadd ?_⟩
  rw [Around.under_plainId PySem.F.plain_list_iadd _]
  have hM1 := S1.kp _ _ hM
  have hTy : s1.TypeIs (.ref M) "map" := ⟨_, hM1, rfl⟩
  have hDM : D ≠ M := fun e => by have := (S1.has (D, lob [] 0) (.head _)).2.2.1; rw [e, hM] at this; cases this
  have h1 : Builtin.List.listSameRef (.ref D) (.ref M) = false := by simp [Builtin.List.listSameRef, hDM]
  show wpAny _ A.in1 (Builtin.List.listExtendWith (.ref D) (.ref M) (.ref D)) _ _ _
  unfold Builtin.List.listExtendWith
  refine wpAny_bind (wpAny_typeOf hTy ?_)
  rw [if_neg (by rw [h1]; decide)]
  refine wpAny_bind (map_self S1 hM ?_)
  refine wpAny_bind (wpAny_holding ?_)
  unfold Builtin.List.listLengthHint
  refine wpAny_bind (wpAny_specialOf hTy map_no_len ?_)
  show wpAny _ A.in1 (specialOf (Value.ref M) (Str.ofString "__length_hint__") >>= _) _ _ _
  refine wpAny_bind (wpAny_specialOf hTy map_no_hint ?_)
  refine wpAny_pure ?_
  show wpAny _ A.in1 (rule "list.extend.makes-room" >>= fun _ => Builtin.List.listTouch (.ref D) >>= fun _ => again (.builtin "list.extend.loop" ⟨[.ref D, .ref M, .ref D], []⟩)) _ _ _
  refine wpAny_bind (wpAny_rule ?_)
  refine wpAny_bind ?_
  show wpAny _ A.in1 (updateSeq D (·.push .none) >>= fun _ => updateSeq D (·.pop)) _ _ _
  have hS1 := (S1.has (D, lob [] 0) (.head _)).1
  refine wpAny_bind (wpAny_updateSeq hS1 rfl ?_)
  have hS2 := Heap.get?_update_self (Obj.mapSeq (·.push Value.none)) hS1 rfl
  refine wpAny_updateSeq hS2 rfl ?_
  have hS3 := Heap.get?_update_self (Obj.mapSeq (·.pop)) hS2 rfl
  have oth : ∀ b x, b ≠ D → s1.heap.get? b = some x → ((s1.heap.update D (Obj.mapSeq (·.push Value.none))).update D (Obj.mapSeq (·.pop))).get? b = some x :=
    fun b x hb e => (Heap.get?_update_other _ _ (Ne.symm hb)).trans ((Heap.get?_update_other _ _ (Ne.symm hb)).trans e)
  obtain ⟨c', ec⟩ : ∃ c', Obj.mapSeq (·.pop) (Obj.mapSeq (·.push Value.none) (lob [] 0)) = lob [] c' := ⟨_, rfl⟩
  have S3 := St.upd (pre := []) (o' := lob [] c') S1 (h' := (s1.heap.update D (Obj.mapSeq (·.push Value.none))).update D (Obj.mapSeq (·.pop))) oth (hS3.trans (congrArg some ec))
  refine wpAny_pure ⟨plainId_quiet PySem.F.plain_extend_loop _, map_extend (A := A) (J := J) hh hl hlen hz hT hM _ hf (fun c s' S' => ?_) _ 0 _ c' ob rfl (Nat.zero_le _) hit (S3.perm (.swap _ _ _))⟩
  show wpAny _ A (load D >>= _) _ _ s'
  refine wpAny_bind (wpAny_load (S'.has (D, lob ys c) (.head _)).1 ?_)
  refine wpAny_pure ?_
  exact hQ s' (S'.drop (List.sublist_cons_self _ _))
end

end
section
open PySem PySem.W PyProof.Rows PySem.Calls
set_option maxHeartbeats 400000
open PySem.AutoSeq1 (wpAny_loadPart')
section
variable {mg mb : Str → Option Value} {fa : Nat → Addr} {dT mi : Addr} {w : World} {A : Around} {g g0 : Heap} {s : Shared} {s0 : Core} {Q : Value → Shared → Prop} {E : Value → Shared → Prop} {n : Nat}
  {env : Env} {L C : Addr} {m mc : Str → Option Value} {mu mu' : List (Addr × Obj)}
theorem tup_map {M T J : Addr} {ob : Obj} {f : Value} {l : Addr} {vs ys : List Value} {ds : List PyData} (hh : A.handled = none) (hl : g.IsList l vs.toArray) (hlen : ys.length = vs.length) (hz : vs.length ≤ 1000) (hr : RdL g ys ds)
    (S : St g0 s0 g L m ((J, ob) :: mu) (core s)) (hit : LIt l 0 ob) (hT : g.get? T = some (tob [.ref J])) (hM : g.get? M = some (mapO T f))
    (hf : ∀ (i : Nat) v y mu' s1 (Q' E' : Value → Shared → Prop), vs[i]? = some v → ys[i]? = some y → St g0 s0 g L m mu' (core s1) → (∀ s2, St g0 s0 g L m mu' (core s2) → Q' y s2) → wpAny (model Pg w) A.in1.in1.in1.in1 (call f [v]) Q' E' s1)
    (h : ∀ a g' s', St g0 s0 g' L m mu (core s') → Kp g g' → Rd g' (.ref a) (.tuple ds) → Q (.ref a) s') : wpAny (model Pg w) A (call (.type "tuple") [.ref M]) Q E s := by
  refine callType_codes (Q₁ := fun obj s₁ => s₁.TypeIs obj "tuple" ∧ Q obj s₁) PySem.F.called_tuple (PySem.F.typeCall_tuple_1 _) PySem.F.entry_object_init ?_ fun obj s₁ h₁ =>
    ⟨h₁.1, PySem.F.args_object_init_2 obj _, object_init_meets PySem.F.called_tuple.init.lookup PySem.F.called_tuple.made (by decide) Pg w A.in1 _ s₁ ⟨h₁.1, rfl, h₁.2⟩⟩
  refine codeAny_of_tree ?_
  show wpAny _ A.in1.in1 (do checkBuiltinCall "tuple.__new__" ⟨[.type "tuple", .ref M], []⟩; again (.builtin "tuple.__new__" ⟨[.type "tuple", .ref M], []⟩)) _ _ s
  refine wpAny_bind (wpAny_of_eq (PySem.F.newCall_tuple_1 _) (wpAny_pure ⟨plainId_quiet PySem.F.plain_tuple_new _, codeAny_builtin PySem.F.entry_tuple_new ?_⟩))
  rw [Around.under_plainId PySem.F.plain_tuple_new _]
  have hsub := sub_tuple_self
  have hinit := init_tuple_lookup
  have hmh := madeHere_tuple
  have hTI : s.TypeIs (.ref M) "map" := ⟨_, S.kp _ _ hM, rfl⟩
  wp_walk using wpAny_typeOf hTI, map_collect (A := A.in1.in1) (J := J) hh hl hlen hz S hit hT hM hf
  intro s' S'
  refine wpAny_bind (wpAny_pure ?_)
  show wpAny _ _ (Builtin.Tuple.tupleExact ys.toArray >>= fun v => ret v) _ _ _
  unfold Builtin.Tuple.tupleExact
  have X := Stp.alloc (s := core s') (s' := ⟨s'.heap.push (tob ys), s'.gens, s'.os⟩) S'.kp (push_kp _ (tob ys)) (fresh_size _) (Heap.get?_push_size _ rfl) rfl rfl
  refine wpAny_bind (wpAny_newObj_type ?_ (by show ys.toArray.size ≤ sizeLine; rw [List.size_toArray, sizeLine_eq]; omega))
  refine wpAny_pure ?_
  exact ⟨⟨_, Heap.get?_push_size _ rfl, rfl⟩, h _ _ _ (S'.step X) X.kg (Rd.tuple (put_self rfl) rfl rfl (by simpa using hr.up X.kg))⟩
end

end
section
open PySem PySem.W PyProof.Rows PySem.Calls
set_option maxHeartbeats 400000
abbrev seT (led : Bool) : SetTable := { mask := 7, place := #[1], dummies := #[], finger := 0, led := led, moves := 0, plain := true }
abbrev se0 (led : Bool) : Obj := { cls := .type "set", data := .set #[] 0 (.fresh 0 0 led) }
abbrev se1 (led : Bool) : Obj := { cls := .type "set", data := .set #[(1, .bool true)] 1 (seT led) }
def sb (w : World) : Bool := w.params.followText "set-order"
section
variable {mg mb : Str → Option Value} {fa : Nat → Addr} {dT mi : Addr} {w : World} {A : Around} {g g0 : Heap} {s : Shared} {s0 : Core} {Q : Value → Shared → Prop} {E : Value → Shared → Prop} {n : Nat}
  {env : Env} {L C D : Addr} {m mc : Str → Option Value} {mu mu' : List (Addr × Obj)}
theorem wp_sbt {Q : Bool → Shared → Prop} (h : Q (sb w) s) : wpAny (model Pg w) A setsByText Q E s := by
  unfold setsByText
  exact wpAny_bind (wpAny_askSetting (wpAny_pure h))
theorem newSetO (S : St g0 s0 g L m mu (core s)) (h : ∀ a s', St g0 s0 g L m ((a, se0 (!sb w)) :: mu) (core s') → Q (.ref a) s') : wpAny (model Pg w) A (newSet (.type "set")) Q E s := by
  unfold newSet
  refine wpAny_bind (wp_sbt ?_)
  dsimp only
  refine wpAny_newObj_type (h _ _ (S.own (push_kp _ _) (fresh_size _) (Heap.get?_push_size _ rfl) rfl rfl)) (by size_fits)
theorem args_hash_bool (b : Bool) : argsOk "int.__hash__" ⟨[.bool b], []⟩ := by unfold argsOk; kernel_rfl
theorem pyHash_true {Q : Int → Shared → Prop} (h : Q 1 { s with toks := s.toks + 1 }) : wpAny (model Pg w) A (pyHash (.bool true)) Q E s := by
  have hT : s.TypeIs (.bool true) "bool" := rfl
  unfold pyHash
  have hv : [Value.bool true].any Value.onHeap = false := rfl
  refine wpAny_bind ?_
  rw [cRoomFor, if_neg (by rw [hv]; exact Bool.false_ne_true)]; refine wpAny_pure ?_
  refine wpAny_bind (wpAny_specialOf hT PySem.F.slot_bool_hash.lookup ?_)
  show wpAny _ _ (if (some (Value.builtin "int.__hash__") == some Value.none) = true then _ else _) Q E s
  rw [if_neg (by rw [beq_builtin_none]; exact Bool.false_ne_true)]
  refine wpAny_bind (wpAny_specialOf hT PySem.F.slot_bool_hash.lookup ?_)
  show wpAny _ _ (callSpecialIfBoundUnlessNone? (.bool true) "__hash__" _ >>= _) Q E s
  refine wpAny_bind (wpAny_callSpecialIfBoundUnlessNone?_slot hT PySem.F.slot_bool_hash
    (wpAny_call_entry PySem.F.slot_bool_hash hT entry_int_hash
      (show wpAny _ _ (do ret (← mkInt (rawHash 1))) _ _ s from wpAny_ret_mkInt ?_) (args_hash_bool _)))
  show wpAny _ _ (if (decide (-(2 : Int) ^ 63 ≤ rawHash 1) && decide (rawHash 1 < 2 ^ 63)) = true then _ else _) Q E _
  rw [if_pos (by decide +kernel)]
  exact wpAny_pure h
theorem eqB_true {Q : Bool → Shared → Prop} (h : Q true s) : wpAny (model Pg w) A (eqBool (.bool true) (.bool true)) Q E s := by
  unfold eqBool
  refine wpAny_holding ?_
  refine wpAny_ite_split (fun _ => ?_) (fun hn => absurd (by rfl) hn)
  exact wpAny_bind (wpAny_rule (wpAny_pure h))
theorem setState0 {led : Bool} {Q : (Array (Int × Value) × Nat × SetTable) → Shared → Prop} (ho : s.heap.get? D = some (se0 led)) (h : Q (#[], 0, .fresh 0 0 led) s) : wpAny (model Pg w) A (setState D) Q E s := by
  refine wpAny_setState_of ho rfl ?_ h
  cases led <;> decide
theorem setState1 {led : Bool} {Q : (Array (Int × Value) × Nat × SetTable) → Shared → Prop} (ho : s.heap.get? D = some (se1 led)) (h : Q (#[(1, .bool true)], 1, seT led) s) : wpAny (model Pg w) A (setState D) Q E s := by
  refine wpAny_setState_of ho rfl ?_ h
  cases led <;> decide
theorem storeSetO {o : Obj} {es es0 : Array (Int × Value)} {ep : Nat} {t t0 : SetTable} {Q : Unit → Shared → Prop} (ho : s.heap.get? D = some o) (hd : o.data = .set es0 ep t0) (hz : es.size ≤ sizeLine)
    (h : Q () { s with heap := s.heap.update D (Obj.putSet es t) }) : wpAny (model Pg w) A (storeSet D es t) Q E s := by
  unfold storeSet
  refine wpAny_bind (wpAny_load ho ?_)
  rw [hd]
  dsimp only
  rw [if_neg (by omega)]
  exact wpAny_update ho h
theorem layNew0 (led : Bool) : layNew (SetTable.fresh 0 0 led) #[] 1 (.bool true) = (#[(1, .bool true)], seT led, false, false) := by cases led <;> rfl
theorem add0 {led : Bool} {Q : Bool → Shared → Prop} (ho : s.heap.get? D = some (se0 led)) (h : Q true { s with heap := s.heap.update D (Obj.putSet #[(1, .bool true)] (seT led)) }) :
    wpAny (model Pg w) A (setAddHashed D (.bool true) 1) Q E s := by
  unfold setAddHashed setAddHashedIn
  refine wpAny_holding (wpAny_bind (setState0 ho ?_))
  dsimp only
  rw [if_pos (show byScan (.bool true) #[] = true by simp [byScan, Value.scannable, scanBound])]
  unfold setAddByScan
  refine wpAny_bind (wpAny_bind (wpAny_rule (wpAny_bind ?_)))
  show wpAny _ _ (setScanFrom D (.bool true) 1 true [] 0) _ _ _
  unfold setScanFrom
  refine wpAny_pure ?_
  dsimp only
  rw [layNew0]
  dsimp only
  refine wpAny_bind (m := pure ()) (wpAny_pure ?_)
  rw [if_pos rfl]
  refine wpAny_bind (wpAny_pure ?_)
  show wpAny _ _ (storeSet D #[(1, .bool true)] (seT led) >>= _) _ _ _
  refine wpAny_bind (storeSetO ho rfl (by decide +kernel) ?_)
  show wpAny _ _ (if (!false && (seT led).tooFull) = true then _ else _) _ _ _
  rw [if_neg (by cases led <;> decide)]
  exact wpAny_pure (wpAny_pure h)
theorem add1 {led : Bool} {Q : Bool → Shared → Prop} (ho : s.heap.get? D = some (se1 led)) (h : Q false s) :
    wpAny (model Pg w) A (setAddHashed D (.bool true) 1) Q E s := by
  unfold setAddHashed setAddHashedIn
  refine wpAny_holding (wpAny_bind (setState1 ho ?_))
  dsimp only
  rw [if_pos (show byScan (.bool true) #[(1, .bool true)] = true by simp [byScan, Value.scannable, scanBound])]
  unfold setAddByScan
  refine wpAny_bind (wpAny_bind (wpAny_rule (wpAny_bind ?_)))
  show wpAny _ _ (setScanFrom D (.bool true) 1 true [(1, .bool true)] 0) _ _ _
  unfold setScanFrom
  rw [if_pos (by decide)]
  refine wpAny_bind ?_
  unfold setEpoch
  refine wpAny_bind (setState1 ho (wpAny_pure ?_))
  refine wpAny_bind (eqB_true ?_)
  rw [if_pos (by decide)]
  exact wpAny_pure (wpAny_pure (wpAny_pure h))
theorem call_add0 {led : Bool} (ho : s.heap.get? D = some (se0 led)) (h : ∀ k, Q .none { s with heap := s.heap.update D (Obj.putSet #[(1, .bool true)] (seT led)), toks := k }) :
    wpAny (model Pg w) A (call (.builtin "set.add") [.ref D, .bool true]) Q E s := by
  have hT : s.TypeIs (.ref D) "set" := ⟨_, ho, rfl⟩
  refine wpAny_call_entry PySem.F.slot_set_add hT PySem.F.entry_set_add ?_ (PySem.F.args_set_add_2 _ _)
  unfold Builtin.«set.add» Builtin.Frozenset.oneOther
  simp only [List.isEmpty_nil, bind_assoc]
  unfold Builtin.Frozenset.addrOf setAdd
  refine wpAny_bind (wpAny_pure ?_)
  try dsimp only
  refine wpAny_bind (wpAny_pure ?_)
  try dsimp only
  refine wpAny_bind ?_
  refine wpAny_holding ?_
  refine wpAny_bind (pyHash_true ?_)
  refine add0 (s := { s with toks := s.toks + 1 }) ho ?_
  show wpAny _ _ (ret Value.none) _ _ _
  exact wpAny_pure ⟨_, rfl, h _⟩
theorem call_add1 {led : Bool} (ho : s.heap.get? D = some (se1 led)) (h : ∀ k, Q .none { s with toks := k }) :
    wpAny (model Pg w) A (call (.builtin "set.add") [.ref D, .bool true]) Q E s := by
  have hT : s.TypeIs (.ref D) "set" := ⟨_, ho, rfl⟩
  refine wpAny_call_entry PySem.F.slot_set_add hT PySem.F.entry_set_add ?_ (PySem.F.args_set_add_2 _ _)
  unfold Builtin.«set.add» Builtin.Frozenset.oneOther
  simp only [List.isEmpty_nil, bind_assoc]
  unfold Builtin.Frozenset.addrOf setAdd
  refine wpAny_bind (wpAny_pure ?_)
  try dsimp only
  refine wpAny_bind (wpAny_pure ?_)
  try dsimp only
  refine wpAny_bind ?_
  refine wpAny_holding ?_
  refine wpAny_bind (pyHash_true ?_)
  refine add1 (s := { s with toks := s.toks + 1 }) ho ?_
  show wpAny _ _ (ret Value.none) _ _ _
  exact wpAny_pure ⟨_, rfl, h _⟩
/-- the set's own iterator, and the one thing in it -/
theorem slot_seti_iter : Slot "set" "__iter__" "set.__iter__" :=
  .of (owner := "set") (n := "__iter__") (by rw [typeLookup_type, builtinLookup_eq_fast]; kernel_rfl) (by decide +kernel) (by decide +kernel) (by decide +kernel)
    (by first | exact .inl (by decide +kernel) | exact .inr (by decide +kernel)) (by rw [isSubtype_type]; kernel_rfl)
theorem entry_set_iter : entryFor table "set.__iter__" = some Builtin.«frozenset.__iter__» :=
  entryFor_alias (id' := "frozenset.__iter__") (by kernel_rfl) (by decide +kernel) (by decide +kernel) (by kernel_rfl)
theorem args_set_iter (a : Value) : argsOk "set.__iter__" ⟨[a], []⟩ := by unfold argsOk; kernel_rfl
theorem slot_seti_next : Slot "set_iterator" "__next__" "set_iterator.__next__" :=
  .of (owner := "set_iterator") (n := "__next__") (by rw [typeLookup_type, builtinLookup_eq_fast]; kernel_rfl) (by decide +kernel) (by decide +kernel) (by decide +kernel)
    (by first | exact .inl (by decide +kernel) | exact .inr (by decide +kernel)) (by rw [isSubtype_type]; kernel_rfl)
theorem entry_seti_next : entryFor table "set_iterator.__next__" = some Builtin.«set_iterator.__next__» := entryFor_of_tree (by kernel_rfl)
theorem args_seti_next (a : Value) : argsOk "set_iterator.__next__" ⟨[a], []⟩ := by unfold argsOk; kernel_rfl
abbrev siO (D : Addr) (first i : Int) : Obj := { cls := .type "set_iterator", data := .fields #[rawInt first, rawInt i, .ref D, rawInt 1, rawInt 1] }
end

end
section
open PySem PySem.W PyProof.Rows PySem.Calls
set_option maxHeartbeats 400000
section
variable {mg mb : Str → Option Value} {fa : Nat → Addr} {dT mi : Addr} {w : World} {A : Around} {g g0 : Heap} {s : Shared} {s0 : Core} {Q : Value → Shared → Prop} {E : Value → Shared → Prop} {n : Nat}
  {env : Env} {L C D : Addr} {m mc : Str → Option Value} {mu mu' : List (Addr × Obj)}
open PySem.AutoSeq1 (wpAny_loadPart')
theorem iterS {led : Bool} (ho : s.heap.get? D = some (se1 led)) (h : ∀ k, Q (.ref s.heap.objs.size) { s with heap := s.heap.push (siO D 0 0), toks := k }) :
    wpAny (model Pg w) A (pyIter (.ref D)) Q E s := by
  have hT : s.TypeIs (.ref D) "set" := ⟨_, ho, rfl⟩
  refine wpAny_pyIter_slot hT slot_seti_iter (wpAny_call_entry slot_seti_iter hT entry_set_iter ?_ (args_set_iter _))
  unfold Builtin.«frozenset.__iter__»
  refine wpAny_bind (wpAny_of_eq (a := D) (by rfl) ?_)
  refine wpAny_bind ?_
  unfold Builtin.Frozenset.sizeOf setEntries
  refine wpAny_bind (wpAny_bind (setState1 ho (wpAny_pure (wpAny_pure ?_))))
  unfold setDrawn
  refine wpAny_bind (wpAny_bind (setState1 ho (wpAny_bind (wp_sbt (wpAny_pure ?_)))))
  dsimp only
  rw [if_neg (by cases sb w <;> cases led <;> decide)]
  refine wpAny_bind (wpAny_pure ?_)
  unfold setEpoch
  refine wpAny_bind (wpAny_bind (setState1 ho (wpAny_pure ?_)))
  refine wpAny_bind ?_
  unfold newFields
  refine wpAny_newObj_type ?_ (by size_fits)
  exact wpAny_pure ⟨_, rfl, "set_iterator", _, ⟨_, Heap.get?_push_size _ rfl, rfl⟩, slot_seti_next.lookup, h _⟩
theorem pick1 (f : Nat → Nat) : pickOrder f #[((1 : Int), Value.bool true)] = #[(1, .bool true)] := by
  simp [pickOrder, pickOrder.go, Nat.mod_one]
theorem setWalk1 {led : Bool} {Q : Array (Int × Value) → Shared → Prop} (hb : sb w = true) (ho : s.heap.get? D = some (se1 led)) (h : Q #[(1, .bool true)] s) : wpAny (model Pg w) A (setWalk D) Q E s := by
  unfold setWalk
  refine wpAny_bind (setState1 ho (wpAny_bind (wp_sbt ?_)))
  rw [hb]
  dsimp only
  refine wpAny_bind (wpAny_askSetting (wpAny_pure ?_))
  rw [pick1]; exact h
def stepF (w : World) : Nat := if sb w = true then 0 else 2
theorem setNext0 {led : Bool} {Q : Option (Value × Nat) → Shared → Prop} (hl : led = !sb w) (ho : s.heap.get? D = some (se1 led)) (h : Q (some (.bool true, stepF w)) s) : wpAny (model Pg w) A (setNext D 0 0 1) Q E s := by
  unfold setNext
  refine wpAny_bind (setState1 ho (wpAny_bind (wp_sbt ?_)))
  unfold stepF at h
  cases hb : sb w with
  | true =>
    rw [hb] at h
    dsimp only
    rw [if_pos rfl, if_neg (by decide)]
    exact wpAny_bind (setWalk1 hb ho (wpAny_pure h))
  | false =>
    rw [hb] at hl h
    subst hl
    dsimp only
    rw [if_neg (by decide), if_neg (by decide)]
    refine wpAny_bind (m := pure ()) (wpAny_pure ?_)
    exact wpAny_pure h
theorem setNext1 {led : Bool} {Q : Option (Value × Nat) → Shared → Prop} (hl : led = !sb w) (ho : s.heap.get? D = some (se1 led)) (h : Q none s) : wpAny (model Pg w) A (setNext D (stepF w) 1 1) Q E s := by
  unfold setNext
  refine wpAny_bind (setState1 ho (wpAny_bind (wp_sbt ?_)))
  unfold stepF
  cases hb : sb w with
  | true =>
    dsimp only
    rw [if_pos rfl, if_neg (by decide)]
    exact wpAny_bind (setWalk1 hb ho (wpAny_pure h))
  | false =>
    rw [hb] at hl
    subst hl
    dsimp only
    rw [if_neg (by decide), if_neg (by decide)]
    refine wpAny_bind (m := pure ()) (wpAny_pure ?_)
    exact wpAny_pure h
theorem nextS0 {I : Addr} {led : Bool} {Q : Option Value → Shared → Prop} (hl : led = !sb w) (S : St g0 s0 g L m ((I, siO D 0 0) :: (D, se1 led) :: mu) (core s))
    (h : ∀ s', St g0 s0 g L m ((I, siO D (stepF w) 1) :: (D, se1 led) :: mu) (core s') → Q (some (.bool true)) s') : wpAny (model Pg w) A (pyNext (.ref I)) Q E s := by
  have hI := (S.has (I, siO D 0 0) (.head _)).1
  have ho := (S.has (D, se1 led) (.tail _ (.head _))).1
  have hT : s.TypeIs (.ref I) "set_iterator" := ⟨_, hI, rfl⟩
  unfold pyNext
  refine wpAny_bind (wpAny_attempt (wpAny_callSpecial?_slot (name := Str.ofString "__next__") hT slot_seti_next (wpAny_call_entry slot_seti_next hT entry_seti_next ?_ (args_seti_next _))))
  unfold Builtin.«set_iterator.__next__»
  refine wpAny_bind (wpAny_of_eq (a := (Value.ref I, [])) (by rfl) ?_)
  refine wpAny_bind (wpAny_fieldsOf hI rfl ?_)
  show wpAny _ _ (setEntries D >>= _) _ _ _
  unfold setEntries
  refine wpAny_bind (wpAny_bind (setState1 ho (wpAny_pure ?_)))
  show wpAny _ _ (if (((#[((1 : Int), Value.bool true)].size : Nat) : Int) != 1) = true then _ else _) _ _ _
  rw [if_neg (by decide)]
  show wpAny _ _ (setNext D 0 0 1 >>= _) _ _ _
  refine wpAny_bind (setNext0 hl ho ?_)
  show wpAny _ _ (setField (.ref I) 0 (rawInt (stepF w)) >>= _) _ _ _
  refine wpAny_bind (wpAny_setField hI rfl (by simp) ?_)
  show wpAny _ _ (setField (.ref I) 1 (rawInt 1) >>= _) _ _ _
  have hI2 := Heap.get?_update_self (h := s.heap) (a := I) (Obj.mapFields (·.setIfInBounds 0 (rawInt (stepF w)))) hI rfl
  refine wpAny_bind (wpAny_setField hI2 rfl (by simp) ?_)
  refine wpAny_pure ⟨_, rfl, wpAny_pure (h _ ?_)⟩
  have hI3 := Heap.get?_update_self (h := s.heap.update I (Obj.mapFields (·.setIfInBounds 0 (rawInt (stepF w))))) (a := I) (Obj.mapFields (·.setIfInBounds 1 (rawInt 1))) hI2 rfl
  exact St.upd (pre := []) (o' := siO D (stepF w) 1) S (h' := (s.heap.update I (Obj.mapFields (·.setIfInBounds 0 (rawInt (stepF w))))).update I (Obj.mapFields (·.setIfInBounds 1 (rawInt 1))))
    (fun b x hb e => (Heap.get?_update_other _ _ (Ne.symm hb)).trans ((Heap.get?_update_other _ _ (Ne.symm hb)).trans e)) hI3
theorem nextS1 {I : Addr} {led : Bool} {Q : Option Value → Shared → Prop} (hh : A.handled = none) (hl : led = !sb w) (S : St g0 s0 g L m ((I, siO D (stepF w) 1) :: (D, se1 led) :: mu) (core s))
    (h : ∀ s', St g0 s0 g L m ((D, se1 led) :: mu) (core s') → Q none s') : wpAny (model Pg w) A (pyNext (.ref I)) Q E s := by
  have hI := (S.has (I, siO D (stepF w) 1) (.head _)).1
  have ho := (S.has (D, se1 led) (.tail _ (.head _))).1
  have hT : s.TypeIs (.ref I) "set_iterator" := ⟨_, hI, rfl⟩
  unfold pyNext
  refine wpAny_bind (wpAny_attempt (wpAny_callSpecial?_slot (name := Str.ofString "__next__") hT slot_seti_next (wpAny_call_entry slot_seti_next hT entry_seti_next ?_ (args_seti_next _))))
  unfold Builtin.«set_iterator.__next__»
  refine wpAny_bind (wpAny_of_eq (a := (Value.ref I, [])) (by rfl) ?_)
  refine wpAny_bind (wpAny_fieldsOf hI rfl ?_)
  show wpAny _ _ (setEntries D >>= _) _ _ _
  unfold setEntries
  refine wpAny_bind (wpAny_bind (setState1 ho (wpAny_pure ?_)))
  show wpAny _ _ (if (((#[((1 : Int), Value.bool true)].size : Nat) : Int) != 1) = true then _ else _) _ _ _
  rw [if_neg (by decide)]
  show wpAny _ _ (setNext D (stepF w) 1 1 >>= _) _ _ _
  refine wpAny_bind (setNext1 hl ho ?_)
  show wpAny _ _ (setField (.ref I) 2 .none >>= _) _ _ _
  refine wpAny_bind (wpAny_setField hI rfl (by simp) ?_)
  show wpAny _ _ (newExc (.type "StopIteration") [] >>= _) _ _ _
  refine wpAny_bind ?_
  simp only [newExc, newTuple]
  refine wpAny_bind (wpAny_newObj_type ?_ (by size_fits))
  refine wpAny_bind (m := firstArgMember _ _) (wpAny_of_eq (a := Value.none) (by first | rfl | (simp only [firstArgMember]; rfl)) ?_)
  refine wpAny_newObj_type ?_ (by size_fits)
  simp only [raiseNew]
  refine wpAny_bind (wpAny_handled ?_)
  rw [show A.in1.handled = none from hh]
  refine wpAny_bind (wpAny_pure (wpAny_throw ?_))
  refine wpAny_bind (wpAny_isInstance (T := "StopIteration") (b := true) ⟨_, Heap.get?_push_size _ rfl, rfl⟩ isSubtype_stop ?_)
  refine wpAny_pure (h _ ?_)
  exact St.lose (pre := []) S fun b x hb e => Heap.get?_push_of_some _ (Heap.get?_push_of_some _ ((Heap.get?_update_other _ _ (Ne.symm hb)).trans e))
end

end
section
open PySem PySem.W PyProof.Rows PySem.Calls
set_option maxHeartbeats 400000
theorem eval_SetComp' {env : Env} (elt gens scope pos) : eval (.SetComp elt gens scope pos) env =
    comprehension (.SetComp elt gens scope pos) scope env (firstIterPos gens pos) (newSet (.type "set")) (firstAsync gens) (firstIter gens env) := rfl
theorem compTurn_set (elt target iter : Expr) (scope : Scope) (pos : Pos) (it acc : Value) (env : Env) :
    compTurn (.SetComp elt [⟨target, iter, [], 0⟩] scope pos) 0 it acc env = (do
      standAt iter.pos
      match ← pyNext it with
      | none => pure (.done .next)
      | some v =>
        letOwnedTupleGo target it v
        assign target env v
        (do let v ← eval elt env; standAt elt.pos; let _ ← call (.builtin "set.add") [acc, v])
        again (.compLoop (.SetComp elt [⟨target, iter, [], 0⟩] scope pos) 0 it acc env)) := by rfl
section
variable {mg mb : Str → Option Value} {fa : Nat → Addr} {dT mi : Addr} {w : World} {A : Around} {g g0 : Heap} {s : Shared} {s0 : Core} {Q : Value → Shared → Prop} {E : Value → Shared → Prop} {n : Nat}
  {env : Env} {L C D : Addr} {m mc : Str → Option Value} {mu mu' : List (Addr × Obj)}
theorem asgSet {elts : List Expr} {x1 : Nat} {pos : Pos} {led : Bool} {Q : Unit → Shared → Prop} {j : Nat} (o : Ok A j) (hl : led = !sb w) (S : St g0 s0 g L m ((D, se1 led) :: mu) (core s))
    (hn : (assignEach elts env).length = 1) (hstar : (assignEach elts env).findIdx? (·.1) = none)
    (h : ∀ s', St g0 s0 g L m ((D, se1 led) :: mu) (core s') → wpAny (model Pg w) A (assignInOrder ((assignEach elts env).map (·.2)) [.bool true]) Q E s') :
    wpAny (model Pg w) A (assign (.Tuple elts x1 pos) env (.ref D)) Q E s := by
  have ho := (S.has (D, se1 led) (.head _)).1
  have hT : s.TypeIs (.ref D) "set" := ⟨_, ho, rfl⟩
  rw [assign_Tuple]
  refine wpAny_bind (wpAny_standAt ?_)
  unfold unpack
  rw [hn, hstar]
  refine wpAny_bind (wpAny_holding ?_)
  unfold unpackItems
  refine wpAny_bind ?_
  unfold notIterableAtAll
  refine wpAny_bind (wpAny_specialOf hT slot_seti_iter.lookup ?_)
  refine wpAny_pure ?_
  simp only [Bool.false_eq_true, if_false]
  refine wpAny_bind (wpAny_holding (iterS ho fun k => ?_))
  have S1 : St g0 s0 g L m ((s.heap.objs.size, siO D 0 0) :: (D, se1 led) :: mu) ⟨s.heap.push (siO D 0 0), s.gens, s.os⟩ :=
    S.own (s := core s) (s' := ⟨s.heap.push (siO D 0 0), s.gens, s.os⟩) (push_kp _ _) (fresh_size _) (Heap.get?_push_size _ rfl) rfl rfl
  refine wpAny_bind (wpAny_holding ?_)
  unfold draw
  refine wpAny_bind (nextS0 (s := { s with heap := s.heap.push (siO D 0 0), toks := k }) hl S1 fun s2 S2 => ?_)
  refine wpAny_bind (wpAny_holding (wpAny_pure (wpAny_pure ?_)))
  rw [if_neg (by simp)]
  refine wpAny_bind (wpAny_holding (nextS1 o.h hl S2 fun s3 S3 => ?_))
  simp only [Option.isSome_none, Bool.false_eq_true, if_false]
  exact wpAny_pure (h s3 S3)
theorem codeAny_compStart_set {R : Result → Shared → Prop} {elt target iter ifs rest scope pos it acc env}
    (h0 : codeAny (model Pg w) A (.compLoop (.SetComp elt (⟨target, iter, ifs, 0⟩ :: rest) scope pos) 0 it acc env) R s)
    (h : wpAny (model Pg w) A (pyIter it) (fun it' s' => codeAny (model Pg w) A (.compLoop (.SetComp elt (⟨target, iter, ifs, 0⟩ :: rest) scope pos) 0 it' acc env) R s')
      (notedBy (model Pg w) A env fun x s' => R (.error x) s') s) :
    codeAny (model Pg w) A (.compStart (.SetComp elt (⟨target, iter, ifs, 0⟩ :: rest) scope pos) 0 it acc env) R s := by
  refine codeAny_of_tree ?_
  show wpAny _ _ ((compStart (.SetComp elt (⟨target, iter, ifs, 0⟩ :: rest) scope pos) 0 it acc env).onRaise (fun x => do noteFrame x env; standAt theWindowsPlace)) _ _ s
  refine wpAny_notedAt ?_
  unfold compStart
  show wpAny _ _ (ask >>= _) _ _ s
  refine wpAny_bind (wpAny_askSetting (wpAny_ite ?_))
  split
  · exact wpAny_bind (wpAny_pure (wpAny_pure (And.intro rfl h0)))
  · refine wpAny_bind (wpAny_rule ?_)
    first
      | exact (wpAny_bind (wpAny_standAt (wpAny_bind (wpAny_mono h (fun it' s' h' => wpAny_pure (And.intro rfl h')) fun _ _ x => x))))
      | (show wpAny _ _ (standAt iter.pos >>= _) _ _ s; exact wpAny_bind (wpAny_standAt (wpAny_bind (wpAny_mono h (fun it' s' h' => wpAny_pure (And.intro rfl h')) fun _ _ x => x))))
end

end
section
open PySem PySem.W PyProof.Rows PySem.Calls
set_option maxHeartbeats 400000
section
variable {mg mb : Str → Option Value} {fa : Nat → Addr} {dT mi : Addr} {w : World} {A : Around} {g g0 : Heap} {s : Shared} {s0 : Core} {Q : Value → Shared → Prop} {E : Value → Shared → Prop} {n : Nat}
  {env : Env} {L C D : Addr} {m mc : Str → Option Value} {mu mu' : List (Addr × Obj)}
abbrev seI (led : Bool) (i : Nat) : Obj := if i = 0 then se0 led else se1 led
def SFin (g0 : Heap) (s0 : Core) (g' : Heap) (C : Addr) (rest : List (Addr × Obj)) (x : Value) (s3 : Shared) : Prop := x = .bool true ∧ ∃ g'' mc', Kp g' g'' ∧ St g0 s0 g'' C mc' rest (core s3)
theorem add_any {led : Bool} {i : Nat} {pre : List (Addr × Obj)} (S : St g0 s0 g L m (pre ++ (D, seI led i) :: mu) (core s)) (h : ∀ s', St g0 s0 g L m (pre ++ (D, se1 led) :: mu) (core s') → Q .none s') :
    wpAny (model Pg w) A (call (.builtin "set.add") [.ref D, .bool true]) Q E s := by
  have ho := (S.has (D, seI led i) (by simp)).1
  by_cases hi : i = 0
  · subst hi
    have ho : s.heap.get? D = some (se0 led) := ho
    refine call_add0 ho fun k => h _ ?_
    exact St.upd (pre := pre) (o' := se1 led) S (h' := s.heap.update D (Obj.putSet #[(1, .bool true)] (seT led))) (fun b x hb e => (Heap.get?_update_other _ _ (Ne.symm hb)).trans e) (Heap.get?_update_self _ ho rfl)
  · have e : seI led i = se1 led := if_neg hi
    rw [e] at S
    have ho : s.heap.get? D = some (se1 led) := by have := ho; rw [e] at this; exact this
    exact call_add1 ho fun k => h _ S
theorem sc_loop {elt tg iter : Expr} {scope : Scope} {pos : Pos} {I : Value} {led : Bool} {ms : Nat → List (Addr × Obj) → Prop} {P : Nat → Heap → Value → Prop} {ps : List (Addr × Obj)} {R : Result → Shared → Prop}
    (hn : 0 < n) (W : Itr w A tg I g n ms P) (hms : ms 0 ps) (S : St g0 s0 g C mc (ps ++ (D, se0 led) :: mu) (core s))
    (turn : ∀ i v g' mc' ps' ob s', i < n → Kp g g' → P i g' v → St g0 s0 g' C mc' (ps' ++ (D, ob) :: mu) (core s') →
      wpAny (model Pg w) A (assign tg env v) (fun _ s1 => wpAny (model Pg w) A (eval elt env) (SFin g0 s0 g' C (ps' ++ (D, ob) :: mu)) Nv s1) Nv s')
    (fin : ∀ g' mc' s', Kp g g' → St g0 s0 g' C mc' ((D, se1 led) :: mu) (core s') → R (.ok .next) s') :
    codeAny (model Pg w) A (.compLoop (.SetComp elt [⟨tg, iter, [], 0⟩] scope pos) 0 I (.ref D) env) R s := by
  refine codeAny_loop rfl (fun k s' => ∃ i g' mc' ps', i ≤ n ∧ k = n - i ∧ Kp g g' ∧ ms i ps' ∧ St g0 s0 g' C mc' (ps' ++ (D, seI led i) :: mu) (core s')) ?_ n
    ⟨0, g, mc, ps, Nat.zero_le _, rfl, Kp.refl _, hms, S⟩
  rintro k s' ⟨i, g', mc', ps', hi, rfl, kg, hm, S'⟩
  show wpAny _ A ((compTurn (.SetComp elt [⟨tg, iter, [], 0⟩] scope pos) 0 I (.ref D) env).onRaise (fun x => do noteFrame x env; theTreesLotGoes x)) _ _ s'
  refine wpAny_noted ?_
  rw [compTurn_set]
  refine wpAny_bind (wpAny_standAt (wpAny_bind ?_))
  rcases Nat.lt_or_ge i n with hlt | hge
  · refine wpAny_mono (W.item i hlt _ _ _ _ _ _ _ _ (fun v s'' => ∃ g'' ps'', Kp g' g'' ∧ P i g'' v ∧ ms (i + 1) ps'' ∧ St g0 s0 g'' C mc' (ps'' ++ (D, seI led i) :: mu) (core s'')) kg hm S'
      fun v g'' ps'' s'' k2 hP hm' S'' => ⟨g'', ps'', k2, hP, hm', S''⟩) (fun r s₁ h => ?_) fun _ _ f => f.elim
    cases r with
    | none => exact h.elim
    | some v =>
      refine wpAny_bind (wpAny_mono h (fun _ s₂ h₂ => ?_) fun _ _ f => f.elim)
      obtain ⟨g'', ps'', k2, hP, hm', S''⟩ := h₂
      refine wpAny_bind (wpAny_mono (turn i v g'' mc' ps'' _ s₂ hlt (kg.trans k2) hP S'') (fun _ s₃ h₃ => ?_) fun _ _ f => f.elim)
      refine wpAny_bind (wpAny_bind (wpAny_mono h₃ (fun x s₄ h₄ => ?_) fun _ _ f => f.elim))
      obtain ⟨rfl, g3, m3, k3, S3⟩ := h₄
      refine wpAny_bind (wpAny_standAt (wpAny_bind (add_any (pre := ps'') S3 fun s6 S6 => wpAny_pure (wpAny_pure ?_))))
      refine ⟨rfl, n - (i + 1), by omega, i + 1, g3, m3, ps'', hlt, rfl, (kg.trans k2).trans k3, hm', ?_⟩
      have e : seI led (i + 1) = se1 led := if_neg (by omega)
      rw [e]; exact S6
  · obtain rfl : i = n := Nat.le_antisymm hi hge
    have e : seI led i = se1 led := if_neg (by omega)
    rw [e] at S'
    refine wpAny_mono (W.done _ _ _ _ _ _ _ _ _ kg hm S' fun s'' S'' => fin g' mc' s'' kg S'') (fun r s₁ h => ?_) fun _ _ f => f.elim
    cases r with
    | none => exact wpAny_pure h
    | some v => exact h.elim
/-- a set of truths -/
theorem scomp {elt tg iter : Expr} {scope : Scope} {pos : Pos} {cl : List (Str × Addr)} (SS : St g0 s0 g L m mu (core s))
    (h : wpAny (model Pg w) A (eval iter env) (fun xv s1 => ∃ g1, ∃ (n : Nat), ∃ P, 0 < n ∧ Ible w A tg g1 xv n P ∧ St g0 s0 g1 L m mu (core s1) ∧
      (∀ C oL D, NsO oL m → ∀ i v g' mc' ps' ob s', i < n → Kp g1 g' → P i g' v → St g0 s0 g' C mc' (ps' ++ (D, ob) :: (L, oL) :: mu) (core s') →
        wpAny (model Pg w) A (assign tg (compEnvC scope cl C env) v) (fun _ s1 => wpAny (model Pg w) A (eval elt (compEnvC scope cl C env)) (SFin g0 s0 g' C (ps' ++ (D, ob) :: (L, oL) :: mu)) Nv s1) Nv s') ∧
      (∀ D g' s', Kp g1 g' → St g0 s0 g' L m ((D, se1 (!sb w)) :: mu) (core s') → Q (.ref D) s')) Nv s)
    (hclos : closureFor scope env = pure cl := by with_unfolding_all rfl) (hcell : ∀ y ∈ scope.names, y.2 ≠ .cell := by decide +kernel) (hkind : scope.kind = .function := by rfl)
    (hnames : ∀ y ∈ scope.names, y.2 = .local → scope.names.lookup y.1 = some .local := by decide +kernel)
    (hs : ∀ x, foldedSetIterable iter env x = pure x := by intro _; rfl) :
    wpAny (model Pg w) A (eval (.SetComp elt [⟨tg, iter, [], 0⟩] scope pos) env) Q Nv s := by
  rw [eval_SetComp']
  refine wpAny_comprehension_free (use := none) rfl hs hclos hkind hnames (wpAny_mono h (fun xv s₁ h₁ => ?_) fun _ _ e => e)
  obtain ⟨g1, n, P, hn, hI, S1, turn, fin⟩ := h₁
  refine hI _ _ _ _ _ _ _ S1 fun I ms ps s2 W hms S2 => ?_
  refine newSetO S2 fun D s3 S3 => ?_
  refine wpAny_newFunctionEnv hcell (by intro y hy; simp at hy) (fun h₁ hns hsb => ?_) hkind
  obtain ⟨oC, hoC, hN⟩ := NsO.of hns
  have kh : Kp s3.heap h₁ := fun b o e => hsb.extBut b o (Nat.ne_of_lt (Heap.lt_size e)) (Heap.get?_push_of_some _ e)
  have S4 : St g0 s0 g1 L m ((s3.heap.objs.size, oC) :: (D, se0 (!sb w)) :: (ps ++ mu)) ⟨h₁, s3.gens, s3.os⟩ := S3.own (s := core s3) (s' := ⟨h₁, s3.gens, s3.os⟩) kh (fresh_size _) hoC rfl rfl
  obtain ⟨oL, hL, S5⟩ := S4.swap hN
  have S6 := S5.perm (mu' := ps ++ (D, se0 (!sb w)) :: (L, oL) :: mu) (by
    have e1 : List.Perm ((L, oL) :: (D, se0 (!sb w)) :: (ps ++ mu)) ((D, se0 (!sb w)) :: (L, oL) :: (ps ++ mu)) := .swap _ _ _
    refine e1.trans ?_
    have e2 : ((D, se0 (!sb w)) :: (L, oL) :: (ps ++ mu)) = ([(D, se0 (!sb w)), (L, oL)] ++ ps) ++ mu := by simp
    have e3 : (ps ++ (D, se0 (!sb w)) :: (L, oL) :: mu) = (ps ++ [(D, se0 (!sb w)), (L, oL)]) ++ mu := by simp
    rw [e2, e3]
    exact (List.perm_append_comm).append_right _)
  have loop : ∀ s₃ : Shared, core s₃ = ⟨h₁, s3.gens, s3.os⟩ →
      codeAny (model Pg w) A (.compLoop (.SetComp elt [⟨tg, iter, [], 0⟩] scope pos) 0 I (.ref D) (compEnvC scope cl s3.heap.objs.size env))
        (compPost (model Pg w) A Nv none Q (.ref D) s3.heap.objs.size) s₃ := by
    intro s₃ e
    rw [← e] at S6
    refine sc_loop hn W hms S6 (fun i v g' mc' ps' ob s' hi kg hP S' => turn _ oL D hL i v g' mc' ps' ob s' hi kg hP S') fun g' mc' s' kg S' => ?_
    obtain ⟨oC', hC', S7⟩ := (S'.perm (.swap _ _ _)).swap hL
    refine ⟨_, hC'.ns (S7.has _ (.head _)).1, fun h' hs' => ?_⟩
    exact fin D g' _ kg (St.lose (pre := []) S7 (h' := h') fun b x hb e => (hs'.2 b hb).trans e)
  refine codeAny_compStart_set (loop _ rfl) (wpAny_mono (W.self 0 _ _ _ _ _ _ _ _ _ (Kp.refl _) hms S6 (loop _ rfl)) (fun _ _ x => x) fun _ _ f => f.elim)
end

end
section
open PySem PySem.W PyProof.Rows PySem.Calls
set_option maxHeartbeats 400000
section
variable {mg mb : Str → Option Value} {fa : Nat → Addr} {dT mi : Addr} {w : World} {A : Around} {g g0 : Heap} {s : Shared} {s0 : Core} {Q : Value → Shared → Prop} {E : Value → Shared → Prop} {n : Nat}
  {env : Env} {L C D : Addr} {m mc : Str → Option Value} {mu mu' : List (Addr × Obj)}
abbrev enO (it : Addr) (i : Int) (old : Value) : Obj := { cls := .type "enumerate", data := .fields #[.none, .bool false, .ref it, rawInt i, .none, old] }
theorem St.upd2new {a c T : Addr} {o p o' p' oT : Obj} {s : Core} (S : St g0 s0 g L m ((a, o) :: (c, p) :: mu) s) {h' : Heap} (hs : ∀ b x, b ≠ a → b ≠ c → s.heap.get? b = some x → h'.get? b = some x) (ha : h'.get? a = some o') (hc : h'.get? c = some p')
    (hT0 : s.heap.get? T = none) (hT : h'.get? T = some oT) : St g0 s0 (put g T oT) L m ((a, o') :: (c, p') :: mu) ⟨h', s.gens, s.os⟩ ∧ Kp g (put g T oT) ∧ (put g T oT).get? T = some oT := by
  have Da := S.has (a, o) (.head _)
  have Dc := S.has (c, p) (.tail _ (.head _))
  have gT : g.get? T = none := none_of_kp S.kp hT0
  have sT : s0.heap.get? T = none := none_of_kp S.base.kh hT0
  have n1 := List.nodup_cons.mp S.nodup
  have n2 := List.nodup_cons.mp n1.2
  have hLT : L ≠ T := fun e => by obtain ⟨x, hx⟩ := S.liveL; rw [e, hT0] at hx; cases hx
  refine ⟨⟨⟨fun b x e => hs b x (fun q => by rw [q, Da.2.2.2] at e; cases e) (fun q => by rw [q, Dc.2.2.2] at e; cases e) (S.base.kh b x e), S.base.kg.trans (put_kp gT), put_sub (fun b x e => hs b x (fun q => by rw [q, Da.2.2.1] at e; cases e) (fun q => by rw [q, Dc.2.2.1] at e; cases e) (S.base.sub b x e)) hT, fun b x e => ?_, S.base.gens, S.base.os⟩, ?_, ?_, S.newL, fun q hq => ?_, ?_⟩, put_kp gT, put_self (Heap.get?_some_iff.mp hT).2⟩
  · by_cases hb : b = T
    · subst hb; exact .inr sT
    · rw [put_ne hb] at e; exact S.base.new b x e
  · obtain ⟨oL, es, ep, hL, r⟩ := S.ns
    exact ⟨oL, es, ep, hs L oL (Ne.symm Da.2.1) (Ne.symm Dc.2.1) hL, r⟩
  · show (put g T oT).get? L = none
    rw [put_ne hLT]; exact S.hidL
  · have tne : ∀ q : Addr × Obj, (∃ x, s.heap.get? q.1 = some x) → g.get? q.1 = none → (put g T oT).get? q.1 = none := fun q ⟨x, hx⟩ hg => by
      rw [put_ne (fun e => by rw [e, hT0] at hx; cases hx)]; exact hg
    rcases List.mem_cons.mp hq with rfl | hq
    · exact ⟨ha, Da.2.1, tne (a, o') ⟨_, Da.1⟩ Da.2.2.1, Da.2.2.2⟩
    · rcases List.mem_cons.mp hq with rfl | hq
      · exact ⟨hc, Dc.2.1, tne (c, p') ⟨_, Dc.1⟩ Dc.2.2.1, Dc.2.2.2⟩
      · have P := S.has q (.tail _ (.tail _ hq))
        exact ⟨hs _ _ (fun e => n1.1 (List.mem_map.mpr ⟨q, .tail _ hq, e⟩)) (fun e => n2.1 (List.mem_map.mpr ⟨q, hq, e⟩)) P.1, P.2.1, tne q ⟨_, P.1⟩ P.2.2.1, P.2.2.2⟩
  · simpa using S.nodup
theorem callEnum {l : Addr} {vs : List Value} (S : St g0 s0 g L m mu (core s)) (hl : g.IsList l vs.toArray)
    (h : ∀ e it ob s', LIt l 0 ob → St g0 s0 g L m ((e, enO it 0 .none) :: (it, ob) :: mu) (core s') → Q (.ref e) s') : wpAny (model Pg w) A (call (.type "enumerate") [.ref l]) Q E s := by
  have hl' : s.heap.IsList l vs.toArray := let ⟨o, ho, r⟩ := hl; ⟨o, S.kp _ _ ho, r⟩
  refine call_enumerate_list hl' fun h' he hit hz hk => ?_
  obtain ⟨ob, hob, hc, hd⟩ := hit
  -- the list's iterator first, then the counter
  have S1 : St g0 s0 g L m ((s.heap.objs.size, ob) :: mu) ⟨h', s.gens, s.os⟩ := S.own (s := core s) (s' := ⟨h', s.gens, s.os⟩) hk (fresh_size _) hob rfl rfl
  have hf : s.heap.get? (s.heap.objs.size + 1) = none := by
    cases q : s.heap.get? (s.heap.objs.size + 1) with
    | none => rfl
    | some o => exact absurd (Heap.lt_size q) (Nat.not_lt.mpr (Nat.le_succ _))
  refine h _ s.heap.objs.size ob { s with heap := h' } ⟨hc, hd⟩ ?_
  refine { S1 with has := fun p hp => ?_, nodup := ?_ }
  · rcases List.mem_cons.mp hp with rfl | hp
    · refine ⟨he, fun q => ?_, none_of_kp S.kp hf, none_of_kp S.base.kh hf⟩
      obtain ⟨x, hx⟩ := S.liveL
      have q : s.heap.objs.size + 1 = L := q
      rw [← q] at hx
      exact absurd (Heap.lt_size hx) (Nat.not_lt.mpr (Nat.le_succ _))
    · exact S1.has p hp
  · rw [List.map_cons, List.nodup_cons]
    refine ⟨fun q => ?_, S1.nodup⟩
    obtain ⟨p, hp, e⟩ := List.mem_map.mp q
    rcases List.mem_cons.mp hp with rfl | hp
    · exact absurd e (Nat.ne_of_lt (Nat.lt_succ_self _))
    · have := (S.has p hp).1
      rw [e, hf] at this; cases this
theorem itr_enum {e it l : Addr} {vs : List Value} {ds : List PyData} {elts : List Expr} {k : Nat} {tp : Pos} (hh : A.handled = none) (hei : e ≠ it) (hl : g.IsList l vs.toArray) (hr : RdL g vs ds) :
    Itr w A (.Tuple elts k tp) (.ref e) g ds.length (fun i ps => ∃ old ob, LIt l i ob ∧ ps = [(e, enO it i old), (it, ob)]) (fun i g' v => ∃ d, ds[i]? = some d ∧ Rd g' v (.tuple [.int i, d])) where
  item := fun i hi g0 s0 g' L m mu ps s K kg ⟨old, ob, hit, e1⟩ S hK => by
    subst e1
    have S : St g0 s0 g' L m ((e, enO it i old) :: (it, ob) :: mu) (core s) := S
    have he : IsEnum s.heap e it i old := (S.has (e, enO it i old) (.head _)).1
    have hob := (S.has (it, ob) (.tail _ (.head _))).1
    have hls : s.heap.IsList l vs.toArray := let ⟨o, ho, r⟩ := hl; ⟨o, S.kp _ _ (kg _ _ ho), r⟩
    have hlen := hr.length
    obtain ⟨d, hd⟩ : ∃ d, ds[i]? = some d := ⟨_, List.getElem?_eq_getElem hi⟩
    obtain ⟨x, hx, rx⟩ := hr.get hd
    refine wpAny_pyNext_enum_item he ⟨ob, hob, hit.1, hit.2⟩ hls (x := x) (by simpa using hx) hei fun h' ho hit' hT hsz hk => ?_
    obtain ⟨ob', hob', hc', hd'⟩ := hit'
    obtain ⟨S1, K1, hT1⟩ := St.upd2new S (h' := h') (fun b y h1 h2 e => hk b y h1 h2 e) ho hob' (fresh_size _) hT
    refine wpAny_letOwnedTupleGo_enum ho fun h'' he' hs' => ?_
    have S2 := St.upd (pre := []) (o' := enO it ((i : Int) + 1) x) S1 (h' := h'') (fun b y hb q => (hs'.2 b hb).trans q) (by simpa using he')
    refine hK _ _ [(e, enO it ((i + 1 : Nat) : Int) x), (it, ob')] _ K1 ⟨d, hd, ?_⟩ ⟨x, ob', ⟨hc', hd'⟩, rfl⟩ S2
    exact Rd.tuple hT1 rfl rfl (.cons (.int _ _) (.cons ((rx.up kg).up K1) .nil))
  done := fun g0 s0 g' L m mu ps s K kg ⟨old, ob, hit, e1⟩ S hK => by
    subst e1
    have S : St g0 s0 g' L m ((e, enO it ds.length old) :: (it, ob) :: mu) (core s) := S
    have he : IsEnum s.heap e it ds.length old := (S.has (e, enO it ds.length old) (.head _)).1
    have hob := (S.has (it, ob) (.tail _ (.head _))).1
    have hls : s.heap.IsList l vs.toArray := let ⟨o, ho, r⟩ := hl; ⟨o, S.kp _ _ (kg _ _ ho), r⟩
    have hlen := hr.length
    refine wpAny_pyNext_enum_end hh he ⟨ob, hob, hit.1, hit.2⟩ hls (by simp; omega) fun h' hx => hK _ ?_
    have S1 := St.lose (pre := [(e, enO it ds.length old)]) S (h' := h') fun b y hb q => hx b y hb q
    exact S1.drop (List.sublist_cons_self _ _)
  self := fun i g0 s0 g' L m mu ps s Q kg ⟨old, ob, hit, e1⟩ S hQ => by
    subst e1
    exact wpAny_pyIter_enum (old := old) (it := it) (i := i) (S.has (e, enO it i old) (.head _)).1 hQ
end

end
section
open PySem PySem.W PyProof.Rows PySem.Calls
set_option maxHeartbeats 2000000
section
variable {mg mb : Str → Option Value} {fa : Nat → Addr} {dT mi : Addr} {w : World} {A : Around} {g g0 : Heap} {s : Shared} {s0 : Core} {Q : Value → Shared → Prop} {E : Value → Shared → Prop} {n : Nat}
  {env : Env} {L : Addr} {m : Str → Option Value} {mu : List (Addr × Obj)}
theorem trT {l : Addr} {d : PyData} {ds : List PyData} {Q : Bool → Shared → Prop} (S : St g0 s0 g L m mu (core s)) (r : Rd g (.ref l) (.tuple (d :: ds))) (hz : ds.length ≤ 1000)
    (h : ∀ s', St g0 s0 g L m mu (core s') → Q true s') : wpAny (model Pg w) A (truthy (.ref l)) Q E s := by
  obtain ⟨a, vs, e, hl, hr⟩ := r.tuple_inv
  cases e
  have n1 := hr.length
  have hl' : IsTup s.heap l vs.toArray := hl.keeps S.kp
  refine truthy_tuple hl' (by rw [List.size_toArray]; simp at n1; omega) ?_
  rw [show (!vs.toArray.isEmpty) = true by cases vs <;> simp_all]
  exact h _ S
theorem itT0 {value slice : Expr} {l : Addr} {u : Tok} {x : Str} {ds : List PyData} (S : St g0 s0 g L m mu (core s)) (r : Rd g (.ref l) (.tuple (.str x :: ds))) (hz : ds.length ≤ 900)
    (h : ∀ t, Q (.str x t) s)
    (hs : subscripted slice false (.ref l) (.int 0 u) = operate [.ref l, .int 0 u] (getItem (.ref l) (.int 0 u)) := by with_unfolding_all rfl) :
    wpAny (model Pg w) A (subscriptTail value slice (.ref l) (.int 0 u)) Q E s :=
  itT S r (by decide) (by simp <;> omega) (by simp <;> omega) rfl (fun v rv => by obtain ⟨t, rfl⟩ := rv.str_inv; exact h t) hs
theorem Ible.dataT {l : Value} {ds : List PyData} {x : Str} {px : Pos} (hh : A.handled = none) (r : Rd g l (.tuple ds)) : Ible w A (.Name x px) g l ds.length (fun i g' v => Kp g g' → ∃ d, ds[i]? = some d ∧ Rd g' v d) := by
  obtain ⟨a, vs, rfl, hl, hr⟩ := r.tuple_inv
  intro g0 s0 L m mu s Q S h
  refine pyIter_tuple hl S hh fun I ms ps s' W hm S' => h I ms ps s' ?_ hm S'
  rw [← hr.length]
  have W := W x px
  refine ⟨fun i hi g0 s0 g' L m mu ps s K kg hms S hK => W.item i hi g0 s0 g' L m mu ps s K kg hms S fun v g'' ps' s' k2 hP hm' S' => hK v g'' ps' s' k2 (fun k3 => ?_) hm' S', W.done, W.self⟩
  obtain ⟨d, hd⟩ : ∃ d, ds[i]? = some d := ⟨_, List.getElem?_eq_getElem (by rw [← hr.length]; exact hi)⟩
  obtain ⟨v', hv', rv⟩ := hr.get hd
  rw [hP] at hv'
  cases hv'
  exact ⟨d, hd, rv.up k3⟩
theorem spec_common {lv : Value} {a b : List Str} (G : Gnd mg mb fa dT mi g) (k : Kp g s.heap) (o : Ok A 12) (ha : Good a) (hb : Good b) (rl : Rd g lv (.list [.str (textN a), .str (textN b)])) :
    Gives w A g s (.ref (fa 21)) [lv] (.str (textN (cpN a b))) := by
  intro Q E h
  have rl' := rl
  obtain ⟨la, lvs, rfl, hl, hr⟩ := rl'.list_inv
  refine enterC2 (x := Str.ofString "sep") (y := Str.ofString "curdir") (binds := [(Str.ofString "paths", .ref la)]) G k o (by decide) (by decide) (fun kV doc pm an cdv ct => rfl) (fun a => rfl) (by decide +kernel) (locs rfl) fun cd L c c' oc oc' s1 hd hd' S o' => ?_
  have hd : oc.data = .cell none := hd
  have hd' : oc'.data = .cell none := hd'
  refine wpAny_execs_cons ?_
  k_fold
  have tlA : (textN a).length ≤ 121 := text_len ha
  have tlB : (textN b).length ≤ 121 := text_len hb
  obtain ⟨v1, r1s, rfl, r1, hr1⟩ := hr.cons_inv
  obtain ⟨v2, r2s, rfl, r2, hr2⟩ := hr1.cons_inv
  obtain rfl := hr2.nil_inv
  obtain ⟨t1, rfl⟩ := r1.str_inv
  obtain ⟨t2, rfl⟩ := r2.str_inv
  (repeat' (first | w_left | ((with_reducible show wpAny _ _ (eval (Expr.Name _ _) _) _ _ _); refine ldC (by first | with_reducible assumption | assumption) (by exact rfl) (by exact rfl) (by walk_at "M.mem") (by first | with_reducible assumption | assumption) ?_) | ((with_reducible show wpAny _ _ (exec (Stmt.Try _ _ _ _ _) _) _ _ _); refine tryN ?_) | ((with_reducible show wpAny _ _ (storeName _ _ _) _ _ _); first | refine stC (by first | with_reducible assumption | assumption) rfl rfl (by first | with_reducible assumption | assumption) ?_ | refine stC0 (by first | with_reducible assumption | assumption) rfl rfl (by first | with_reducible assumption | assumption) ?_; intro _ _ _ _; (try dsimp only)) | ((with_reducible show wpAny _ _ (truthy (Value.ref _)) _ _ _); refine trT (by first | with_reducible assumption | assumption) (by first | with_reducible assumption | assumption) (by simp) ?_; intro _ _; (try dsimp only)) | ((with_reducible show wpAny _ _ (subscriptTail _ _ (Value.ref _) (Value.int _ _)) _ _ _); refine itT0 (by first | with_reducible assumption | assumption) (by first | with_reducible assumption | assumption) (by simp) ?_; intro _; (try dsimp only)) | walk1 | (dsimp only; walk1)))
  refine callMap S hl fun M T J ob g2 s2 hit S2 K2 hT hM => ?_
  (repeat' (first | w_left | ((with_reducible show wpAny _ _ (eval (Expr.Name _ _) _) _ _ _); refine ldC (by first | with_reducible assumption | assumption) (by exact rfl) (by exact rfl) (by walk_at "M.mem") (by first | with_reducible assumption | assumption) ?_) | ((with_reducible show wpAny _ _ (exec (Stmt.Try _ _ _ _ _) _) _ _ _); refine tryN ?_) | ((with_reducible show wpAny _ _ (storeName _ _ _) _ _ _); first | refine stC (by first | with_reducible assumption | assumption) rfl rfl (by first | with_reducible assumption | assumption) ?_ | refine stC0 (by first | with_reducible assumption | assumption) rfl rfl (by first | with_reducible assumption | assumption) ?_; intro _ _ _ _; (try dsimp only)) | ((with_reducible show wpAny _ _ (truthy (Value.ref _)) _ _ _); refine trT (by first | with_reducible assumption | assumption) (by first | with_reducible assumption | assumption) (by simp) ?_; intro _ _; (try dsimp only)) | ((with_reducible show wpAny _ _ (subscriptTail _ _ (Value.ref _) (Value.int _ _)) _ _ _); refine itT0 (by first | with_reducible assumption | assumption) (by first | with_reducible assumption | assumption) (by simp) ?_; intro _; (try dsimp only)) | walk1 | (dsimp only; walk1)))
  have hl2 : g2.IsList la [Value.str (textN a) t1, .str (textN b) t2].toArray := let ⟨o, ho, r⟩ := hl; ⟨o, K2 _ _ ho, r⟩
  refine tup_map (ds := [.str (textN a), .str (textN b)]) (ys := [Value.str (textN a) t1, .str (textN b) t2]) o'.h hl2 rfl (by simp) (hr.up K2) S2 hit hT hM (fun i v y mu' s3 Q' E' hv hy S3 hq => ?_) fun pa g4 s4 S4 K4 R4 => ?_
  · have e : v = y := by rw [hv] at hy; cases hy; rfl
    subst e
    obtain ⟨x, t, rfl⟩ : ∃ x t, v = .str x t := by
      rcases i with _ | _ | i
      · cases hv; exact ⟨_, _, rfl⟩
      · cases hv; exact ⟨_, _, rfl⟩
      · simp at hv
    exact use_fspath S3 G ((o'.le (show 5 ≤ 11 by decide)).in1.in1.in1.in1) hq
  (repeat' (first | w_left | ((with_reducible show wpAny _ _ (eval (Expr.Name _ _) _) _ _ _); refine ldC (by first | with_reducible assumption | assumption) (by exact rfl) (by exact rfl) (by walk_at "M.mem") (by first | with_reducible assumption | assumption) ?_) | ((with_reducible show wpAny _ _ (exec (Stmt.Try _ _ _ _ _) _) _ _ _); refine tryN ?_) | ((with_reducible show wpAny _ _ (storeName _ _ _) _ _ _); first | refine stC (by first | with_reducible assumption | assumption) rfl rfl (by first | with_reducible assumption | assumption) ?_ | refine stC0 (by first | with_reducible assumption | assumption) rfl rfl (by first | with_reducible assumption | assumption) ?_; intro _ _ _ _; (try dsimp only)) | ((with_reducible show wpAny _ _ (truthy (Value.ref _)) _ _ _); refine trT (by first | with_reducible assumption | assumption) (by first | with_reducible assumption | assumption) (by simp) ?_; intro _ _; (try dsimp only)) | ((with_reducible show wpAny _ _ (subscriptTail _ _ (Value.ref _) (Value.int _ _)) _ _ _); refine itT0 (by first | with_reducible assumption | assumption) (by first | with_reducible assumption | assumption) (by simp) ?_; intro _; (try dsimp only)) | walk1 | (dsimp only; walk1)))
  rename_i s5 S5 t5 o6 s6 hd6 S6
  refine stC (pre := [(c, o6)]) S6 rfl rfl hd' fun o7 s7 hd7 S7 => ?_
  (try dsimp only)
  (repeat' (first | w_left | ((with_reducible show wpAny _ _ (eval (Expr.Name _ _) _) _ _ _); refine ldC (by first | with_reducible assumption | assumption) (by exact rfl) (by exact rfl) (by walk_at "M.mem") (by first | with_reducible assumption | assumption) ?_) | ((with_reducible show wpAny _ _ (exec (Stmt.Try _ _ _ _ _) _) _ _ _); refine tryN ?_) | ((with_reducible show wpAny _ _ (storeName _ _ _) _ _ _); first | refine stC (by first | with_reducible assumption | assumption) rfl rfl (by first | with_reducible assumption | assumption) ?_ | refine stC0 (by first | with_reducible assumption | assumption) rfl rfl (by first | with_reducible assumption | assumption) ?_; intro _ _ _ _; (try dsimp only)) | ((with_reducible show wpAny _ _ (truthy (Value.ref _)) _ _ _); refine trT (by first | with_reducible assumption | assumption) (by first | with_reducible assumption | assumption) (by simp) ?_; intro _ _; (try dsimp only)) | ((with_reducible show wpAny _ _ (subscriptTail _ _ (Value.ref _) (Value.int _ _)) _ _ _); refine itT0 (by first | with_reducible assumption | assumption) (by first | with_reducible assumption | assumption) (by simp) ?_; intro _; (try dsimp only)) | walk1 | (dsimp only; walk1)))
  -- the texts cut
  refine lcompA (fun j => (([textN a, textN b].map fun x => PyData.list ((Txt.split x "/").map .str))).take j) (by simp) rfl S7 ?_
  refine ldL (by exact rfl) S7 rfl (by exact rfl) ?_
  refine ⟨g4, _, _, ?_, Ible.dataT o'.h R4, S7, ?_, ?_⟩
  · simp
  · intro C oL hoL j D2 v g11 mc ps2 vals2 cc2 s11 hj kg2 hP S11
    obtain ⟨pd, hpd, rp⟩ := hP kg2
    obtain ⟨x, hx, hxl⟩ : ∃ x, [textN a, textN b][j]? = some x ∧ x.length ≤ 2000 := by
      rcases j with _ | _ | j
      · exact ⟨_, rfl, by omega⟩
      · exact ⟨_, rfl, by omega⟩
      · simp at hj; omega
    have e : pd = .str x := by
      have : ([textN a, textN b].map PyData.str)[j]? = some pd := hpd
      rw [List.getElem?_map, hx] at this
      simpa using this.symm
    subst e
    obtain ⟨tx, rfl⟩ := rp.str_inv
    refine wpAny_assign_Name (stL S11 rfl fun s12 S12 => ?_)
    show wpAny (model Pg w) _ (eval _ _) _ Nv _
    (repeat' (first | w_left | ((with_reducible show wpAny _ _ (eval (Expr.Name _ _) _) _ _ _); refine ldC (by first | with_reducible assumption | assumption) (by exact rfl) (by exact rfl) (by walk_at "M.mem") (by first | with_reducible assumption | assumption) ?_) | ((with_reducible show wpAny _ _ (call (Value.builtin "str.split") _) _ _ _); refine splF (by first | with_reducible assumption | assumption) (by decide) (by first | with_reducible assumption | assumption) ?_; intro _ _ _ _ _ _; (try dsimp only)) | walk1 | (dsimp only; walk1)))
    rename_i a13 g13 s13 S13 K13 R13
    refine ⟨g13, _, .list ((Txt.split x "/").map .str), K13, ?_, R13, S13⟩
    rw [List.take_add_one, List.getElem?_map, hx]; rfl
  · intro r8 g8 s8 K8 S8 R8
    rw [List.take_of_length_le (by simp)] at R8
    (try k_unfold)
    (try dsimp only)
    (repeat' (first | w_left | ((with_reducible show wpAny _ _ (eval (Expr.Name _ _) _) _ _ _); refine ldC (by first | with_reducible assumption | assumption) (by exact rfl) (by exact rfl) (by walk_at "M.mem") (by first | with_reducible assumption | assumption) ?_) | ((with_reducible show wpAny _ _ (exec (Stmt.Try _ _ _ _ _) _) _ _ _); refine tryN ?_) | ((with_reducible show wpAny _ _ (storeName _ _ _) _ _ _); first | refine stC (by first | with_reducible assumption | assumption) rfl rfl (by first | with_reducible assumption | assumption) ?_ | refine stC0 (by first | with_reducible assumption | assumption) rfl rfl (by first | with_reducible assumption | assumption) ?_; intro _ _ _ _; (try dsimp only)) | ((with_reducible show wpAny _ _ (truthy (Value.ref _)) _ _ _); refine trT (by first | with_reducible assumption | assumption) (by first | with_reducible assumption | assumption) (by simp) ?_; intro _ _; (try dsimp only)) | ((with_reducible show wpAny _ _ (subscriptTail _ _ (Value.ref _) (Value.int _ _)) _ _ _); refine itT0 (by first | with_reducible assumption | assumption) (by first | with_reducible assumption | assumption) (by simp) ?_; intro _; (try dsimp only)) | walk1 | (dsimp only; walk1)))
    -- the truths
    have R4b := R4.up K8
    refine scomp S8 ?_
    refine ldL (by exact rfl) S8 rfl (by exact rfl) ?_
    refine ⟨g8, 2, _, by decide, Ible.dataT o'.h R4b, S8, ?_, ?_⟩
    · intro C oL D hoL j v g11 mc ps2 ob2 s11 hj kg2 hP S11
      obtain ⟨pd, hpd, rp⟩ := hP kg2
      obtain ⟨x, hx, hxs⟩ : ∃ x, [textN a, textN b][j]? = some x ∧ Txt.startswith x "/" = true := by
        have hst : ∀ ns : List Str, Txt.startswith (textN ns) "/" = true := fun ns => by
          rw [starts_slash, textN_eq, tl_Pt]; rfl
        rcases j with _ | _ | j
        · exact ⟨_, rfl, hst a⟩
        · exact ⟨_, rfl, hst b⟩
        · omega
      have e : pd = .str x := by
        have : ([textN a, textN b].map PyData.str)[j]? = some pd := hpd
        rw [List.getElem?_map, hx] at this
        simpa using this.symm
      subst e
      obtain ⟨tx, rfl⟩ := rp.str_inv
      refine wpAny_assign_Name (stL S11 rfl fun s12 S12 => ?_)
      (repeat' (first | w_left | ((with_reducible show wpAny _ _ (eval (Expr.Name _ _) _) _ _ _); refine ldC (by first | with_reducible assumption | assumption) (by exact rfl) (by exact rfl) (by walk_at "M.mem") (by first | with_reducible assumption | assumption) ?_) | ((with_reducible show wpAny _ _ (call (Value.builtin "str.split") _) _ _ _); refine splF (by first | with_reducible assumption | assumption) (by decide) (by first | with_reducible assumption | assumption) ?_; intro _ _ _ _ _ _; (try dsimp only)) | walk1 | (dsimp only; walk1)))
      exact ⟨by rw [show Txt.startswith x (Str.ofString "/") = true from hxs], g11, _, Kp.refl _, S12⟩
    · intro D g12 s12 K12 S12
      (try dsimp only)
      refine asgSet o' rfl S12 rfl rfl fun s13 S13 => ?_
      (try dsimp only)
      (repeat' (first | w_left | ((with_reducible show wpAny _ _ (eval (Expr.Name _ _) _) _ _ _); refine ldC (by first | with_reducible assumption | assumption) (by exact rfl) (by exact rfl) (by walk_at "M.mem") (by first | with_reducible assumption | assumption) ?_) | ((with_reducible show wpAny _ _ (call (Value.builtin "str.split") _) _ _ _); refine splF (by first | with_reducible assumption | assumption) (by decide) (by first | with_reducible assumption | assumption) ?_; intro _ _ _ _ _ _; (try dsimp only)) | walk1 | (dsimp only; walk1)))
      rename_i s14 S14
      have S15 := S14.drop (List.sublist_cons_self _ _)
      have R15 := R8.up K12
      refine lcompA (fun j => ([dN a, dN b]).take j) (by simp) rfl S15 ?_
      refine ldL (by exact rfl) S15 rfl (by exact rfl) ?_
      refine ⟨g12, _, _, ?_, Ible.data o'.h R15, S15, ?_, ?_⟩
      · simp
      · intro C oL hoL j D2 v g16 mc ps2 vals2 cc2 s16 hj kg3 hP S16
        obtain ⟨pd, hpd, rp⟩ := hP kg3
        obtain ⟨ns, hns, hgn⟩ : ∃ ns, [a, b][j]? = some ns ∧ Good ns := by
          rcases j with _ | _ | j
          · exact ⟨_, rfl, ha⟩
          · exact ⟨_, rfl, hb⟩
          · simp at hj; omega
        have e : pd = .list ((Txt.split (textN ns) "/").map .str) := by
          have : ([a, b].map fun x => PyData.list ((Txt.split (textN x) "/").map .str))[j]? = some pd := hpd
          rw [List.getElem?_map, hns] at this
          simpa using this.symm
        subst e
        generalize hcs : Txt.split (textN ns) "/" = cs at rp
        have tlN := text_len hgn
        have hcl : cs.length ≤ 1000 := by rw [← hcs]; exact Nat.le_trans (split_le _ _) (by omega)
        refine wpAny_assign_Name (stL S16 rfl fun s17 S17 => ?_)
        show wpAny (model Pg w) _ (eval _ _) _ Nv _
        refine lcomp (fun j => ((cs.take j).filter fun c : Str => decide (c.length ≠ 0) && decide (c ≠ ".")).map .str) (by simp) S17 ?_
        refine ldL (by exact rfl) S17 rfl (by exact rfl) ?_
        refine ⟨g16, _, _, ?_, Ible.data o'.h rp, S17, ?_, ?_⟩
        · simp; omega
        · intro C3 oL3 hoL3 j3 D3 v3 g18 mc3 ps3 vals3 cc3 s18 hj3 kg4 hP3 S18
          obtain ⟨pd3, hpd3, rp3⟩ := hP3 kg4
          obtain ⟨cv, hcv⟩ : ∃ p, cs[j3]? = some p := ⟨_, List.getElem?_eq_getElem (by simpa using hj3)⟩
          have e : pd3 = .str cv := by
            rw [List.getElem?_map, hcv] at hpd3
            simpa using hpd3.symm
          subst e
          obtain ⟨tv, rfl⟩ := rp3.str_inv
          have hcvl : cv.length ≤ 200 := by
            have := PySem.join_mem_le "/" cs cv (List.mem_of_getElem? hcv)
            rw [← hcs, StrLaws.join_split] at this
            omega
          have hst : cs.take (j3 + 1) = cs.take j3 ++ [cv] := by rw [List.take_add_one, hcv]; rfl
          refine wpAny_assign_Name (stL S18 rfl fun s19 S19 => ?_)
          show wpAny (model Pg w) _ (isTrue _ _ _) _ Nv _
          (repeat' (first | w_left | ((with_reducible show wpAny _ _ (eval (Expr.Name _ _) _) _ _ _); refine ldC (by first | with_reducible assumption | assumption) (by exact rfl) (by exact rfl) (by walk_at "M.mem") (by first | with_reducible assumption | assumption) ?_) | ((with_reducible show wpAny _ _ (call (Value.builtin "str.split") _) _ _ _); refine splF (by first | with_reducible assumption | assumption) (by decide) (by first | with_reducible assumption | assumption) ?_; intro _ _ _ _ _ _; (try dsimp only)) | walk1 | (dsimp only; walk1)))
          · rename_i n1 n2
            have hk : (decide (cv.length ≠ 0) && decide (cv ≠ (".": Str))) = true := by
              have e1 : cv.length ≠ 0 := by omega
              have e2 : cv ≠ (".": Str) := bne_iff_ne.mp n2
              simp [e1, e2]
            refine ldL (by exact rfl) S19 rfl (by exact rfl) ?_
            exact ⟨g18, _, .str cv, Kp.refl _, by rw [hst, List.filter_append, List.filter_cons, if_pos hk]; simp, .str _ _, S19⟩
          · rename_i n1 n2
            have hk : ¬ (decide (cv.length ≠ 0) && decide (cv ≠ (".": Str))) = true := by
              have e2 : cv = (".": Str) := by simpa using n2
              rw [e2]; decide +kernel
            exact ⟨g18, _, Kp.refl _, by rw [hst, List.filter_append, List.filter_cons, if_neg hk]; simp, S19⟩
          · rename_i n1
            have hk : ¬ (decide (cv.length ≠ 0) && decide (cv ≠ (".": Str))) = true := by
              have e1 : cv.length = 0 := by omega
              simp [e1]
            exact ⟨g18, _, Kp.refl _, by rw [hst, List.filter_append, List.filter_cons, if_neg hk]; simp, S19⟩
        · intro r20 g20 s20 K20 S20 R20
          rw [List.take_of_length_le (by simp)] at R20
          refine ⟨g20, _, dN ns, K20, by rw [List.take_add_one]; (have : ([dN a, dN b])[j]? = some (dN ns) := by (have := congrArg (Option.map dN) hns; rw [← List.getElem?_map] at this; exact this)); rw [this]; rfl, ?_, S20⟩
          have e := textN_split hgn.nm
          rw [hcs] at e
          rw [e] at R20
          exact R20
      · intro r21 g21 s21 K21 S21 R21
        have R22 : Rd g21 r21 (.list [dN a, dN b]) := by simpa using R21
        (try k_unfold)
        (try dsimp only)
        have R22' := R22
        obtain ⟨ra, rvs, rfl, _, _⟩ := R22'.list_inv
        (repeat' (first | w_left | ((with_reducible show wpAny _ _ (eval (Expr.Name _ _) _) _ _ _); refine ldC (by first | with_reducible assumption | assumption) (by exact rfl) (by exact rfl) (by walk_at "M.mem") (by first | with_reducible assumption | assumption) ?_) | ((with_reducible show wpAny _ _ (call (Value.builtin "str.split") _) _ _ _); refine splF (by first | with_reducible assumption | assumption) (by decide) (by first | with_reducible assumption | assumption) ?_; intro _ _ _ _ _ _; (try dsimp only)) | walk1 | (dsimp only; walk1)))
        refine spec_min2 S21 (o'.le (show 1 + 1 ≤ 11 by decide)) R22 fun v23 s23 R23 S23 => ?_
        (repeat' (first | w_left | ((with_reducible show wpAny _ _ (eval (Expr.Name _ _) _) _ _ _); refine ldC (by first | with_reducible assumption | assumption) (by exact rfl) (by exact rfl) (by walk_at "M.mem") (by first | with_reducible assumption | assumption) ?_) | ((with_reducible show wpAny _ _ (call (Value.builtin "str.split") _) _ _ _); refine splF (by first | with_reducible assumption | assumption) (by decide) (by first | with_reducible assumption | assumption) ?_; intro _ _ _ _ _ _; (try dsimp only)) | walk1 | (dsimp only; walk1)))
        rename_i s24 S24
        refine spec_max2 S24 (o'.le (show 1 + 1 ≤ 11 by decide)) R22 fun v25 s25 R25 S25 => ?_
        (repeat' (first | w_left | ((with_reducible show wpAny _ _ (eval (Expr.Name _ _) _) _ _ _); refine ldC (by first | with_reducible assumption | assumption) (by exact rfl) (by exact rfl) (by walk_at "M.mem") (by first | with_reducible assumption | assumption) ?_) | ((with_reducible show wpAny _ _ (call (Value.builtin "str.split") _) _ _ _); refine splF (by first | with_reducible assumption | assumption) (by decide) (by first | with_reducible assumption | assumption) ?_; intro _ _ _ _ _ _; (try dsimp only)) | walk1 | (dsimp only; walk1)))
        obtain ⟨hmm, hlt, hma, hmb⟩ := minmax ha.nm hb.nm
        have gm : Good (minN a b) := by rcases hma with e | e <;> rw [e] <;> assumption
        have gM : Good (maxN a b) := by rcases hmb with e | e <;> rw [e] <;> assumption
        generalize minN a b = p1 at R23 hmm hlt gm
        generalize maxN a b = p2 at R25 hmm hlt gM
        rename_i s26 S26 s27 S27
        have R23' : Rd g21 v23 (.list (p1.map .str)) := R23
        have R25' : Rd g21 v25 (.list (p2.map .str)) := R25
        obtain ⟨m1, m1s, rfl, hl1, hr1⟩ := R23'.list_inv
        obtain ⟨m2, m2s, rfl, hl2, hr2⟩ := R25'.list_inv
        have hz1 := gm.len
        have hz2 := gM.len
        refine wpAny_For ?_
        (repeat' (first | w_left | ((with_reducible show wpAny _ _ (eval (Expr.Name _ _) _) _ _ _); refine ldC (by first | with_reducible assumption | assumption) (by exact rfl) (by exact rfl) (by walk_at "M.mem") (by first | with_reducible assumption | assumption) ?_) | ((with_reducible show wpAny _ _ (call (Value.builtin "str.split") _) _ _ _); refine splF (by first | with_reducible assumption | assumption) (by decide) (by first | with_reducible assumption | assumption) ?_; intro _ _ _ _ _ _; (try dsimp only)) | walk1 | (dsimp only; walk1)))
        refine callEnum S27 hl1 fun e it ob s28 hit8 S28 => ?_
        have hei : e ≠ it := fun q => by have := (List.nodup_cons.mp S28.nodup).1; exact this (by rw [q]; exact List.Mem.head _)
        refine wpAny_pyIter_enum (old := .none) (it := it) (i := 0) (S28.has (e, enO it 0 .none) (.head _)).1 ?_
        refine codeAny_mono (for_itr (ps := [(e, enO it 0 .none), (it, ob)]) (mu := [(c, o6)] ++ [(c', o7)])
          (Q := fun f s' => f = .next ∧ ∃ g' m' cv, m' (Str.ofString "isabs") = some (.bool true) ∧ m' (Str.ofString "common") = some cv ∧ Rd g' cv (dN (cpN a b)) ∧ St g (core s) g' L m' ([(c, o6)] ++ [(c', o7)]) (core s'))
          (itr_enum o'.h hei hl1 hr1) ⟨.none, ob, hit8, rfl⟩ S28 ["i", "c", "common"] (fun i g T mu => T = [(Str.ofString "common", .ref m1)] ∧ mu = [(c, o6)] ++ [(c', o7)] ∧ p1.take i = p2.take i)
          (fun i g₁ g₂ T mu kk hJ => hJ) [(Str.ofString "common", .ref m1)] ⟨rfl, trivial⟩ ⟨rfl, rfl, rfl⟩ ?turn ?fin) (fun r s30 hr30 => ?_)
        case turn =>
          intro i v g' T mu' ps' jk s' hi kg hP hJ S'
          obtain ⟨rfl, rfl, ht⟩ := hJ
          obtain ⟨d, hd3, rp⟩ := hP
          have hi1 : i < p1.length := by simpa using hi
          have hi2 : i < p2.length := lt_ends hlt i ht hi1
          obtain ⟨x, hx⟩ : ∃ x, p1[i]? = some x := ⟨_, List.getElem?_eq_getElem hi1⟩
          obtain ⟨y, hy⟩ : ∃ y, p2[i]? = some y := ⟨_, List.getElem?_eq_getElem hi2⟩
          have e : d = .str x := by rw [List.getElem?_map, hx] at hd3; simpa using hd3.symm
          subst e
          refine asg2 o' S' rp rfl rfl fun w1 w2 s31 q1 q2 S31 => ?_
          obtain ⟨ti, rfl⟩ := q1.int_inv
          obtain ⟨tx, rfl⟩ := q2.str_inv
          have R25c := R25'.up kg
          have R23c := R23'.up kg
          (try dsimp only)
          (repeat' (first | w_left | ((with_reducible show wpAny _ _ (eval (Expr.Name _ _) _) _ _ _); refine ldC (by first | with_reducible assumption | assumption) (by exact rfl) (by exact rfl) (by walk_at "M.mem") (by first | with_reducible assumption | assumption) ?_) | ((with_reducible show wpAny _ _ (call (Value.builtin "str.split") _) _ _ _); refine splF (by first | with_reducible assumption | assumption) (by decide) (by first | with_reducible assumption | assumption) ?_; intro _ _ _ _ _ _; (try dsimp only)) | walk1 | (dsimp only; walk1)))
          rename_i s32 S32 s33 S33
          refine itF S33 R25c (by omega) (by omega) (d := .str y) (by simp [hy]) fun vy Ry => ?_
          obtain ⟨ty, rfl⟩ := Ry.str_inv
          (repeat' (first | w_left | ((with_reducible show wpAny _ _ (eval (Expr.Name _ _) _) _ _ _); refine ldC (by first | with_reducible assumption | assumption) (by exact rfl) (by exact rfl) (by walk_at "M.mem") (by first | with_reducible assumption | assumption) ?_) | ((with_reducible show wpAny _ _ (subscriptTail _ _ (Value.ref _) (Value.ref _)) _ _ _); refine slTakeE (by first | with_reducible assumption | assumption) (by tb_rel) (by first | rfl | (simp; rfl)) (by simp; omega) ?_; intro _ _ _ _ _ _; (try dsimp only)) | walk1 | (dsimp only; walk1)))
          · rename_i n1 a34 g34 s34 S34 K34 R34 s35 S35
            refine ⟨rfl, g34, _, .ref a34, by exact rfl, by exact rfl, ?_, S35.drop (List.sublist_append_right _ _)⟩
            rw [← hmm, cpN_at (by omega) (by omega) ht (fun x' y' h1 h2 => by rw [hx] at h1; rw [hy] at h2; cases h1; cases h2; exact bne_iff_ne.mp n1) hi1 hi2]
            unfold dN
            rw [List.map_take]
            exact R34
          · rename_i n1
            have exy : x = y := by simpa using n1
            refine ⟨g', _, [(Str.ofString "common", .ref m1)], _, Kp.refl _, ⟨rfl, rfl, ?_⟩, ⟨rfl, trivial⟩, ?_, S33⟩
            · rw [List.take_add_one, List.take_add_one, ht, hx, hy, exy]
            · repeat (first | exact Off.trk rfl Off.refl | refine Off.set rfl ?_ | refine Off.trk2 rfl rfl ?_)
        case fin =>
          intro g' T mu' jk s' kg hJ S'
          obtain ⟨rfl, rfl, ht⟩ := hJ
          rw [List.length_map, List.take_length] at ht
          refine ⟨rfl, g', _, .ref m1, by exact rfl, by exact rfl, ?_, S'⟩
          rw [← hmm, cpN_whole ht.symm]
          exact R23.up kg
        · cases r with
          | error e => exact hr30
          | ok f =>
            obtain ⟨rfl, g32, m32, cv, e1, e2, R32, S32⟩ := hr30
            have gc : Good (cpN a b) := by
              obtain ⟨kk, e, _⟩ := cpN_take a b
              rw [e]; exact ⟨Nm.take ha.nm kk, by have := ha.len; simp; omega⟩
            have R32' : Rd g32 cv (.list ((cpN a b).map .str)) := R32
            have hal : (Str.ofString "/").length + (Txt.join (Str.ofString "/") (cpN a b)).length ≤ 1000000 := Nat.le_trans (Nat.add_le_add (show _ ≤ 1 by decide) gc.jlen) (by decide)
            obtain ⟨ca, cvs, rfl, _, _⟩ := R32'.list_inv
            (try k_unfold)
            (try dsimp only)
            (repeat' (first | w_left | ((with_reducible show wpAny _ _ (eval (Expr.Name _ _) _) _ _ _); refine ldC (by first | with_reducible assumption | assumption) (by exact rfl) (by exact rfl) (by walk_at "M.mem") (by first | with_reducible assumption | assumption) ?_) | ((with_reducible show wpAny _ _ (eval (Expr.Name _ _) _) _ _ _); refine ldL (by exact rfl) (by first | with_reducible assumption | assumption) rfl (by first | with_reducible assumption | assumption) ?_) | ((with_reducible show wpAny _ _ (binaryOp Operator.Add (Value.str _ _) (Value.str _ _)) _ _ _); refine addS (by first | with_reducible assumption | assumption) (by first | omega | assumption) ?_; intro _ _ _; (try dsimp only)) | ((with_reducible show wpAny _ _ (call (Value.builtin "str.join") _) _ _ _); refine joinL (by first | with_reducible assumption | assumption) (by first | with_reducible assumption | assumption) (by decide) (Nat.le_trans (Good.sum (by first | with_reducible assumption | assumption)) (by decide)) ?_; intro _ _ _; (try dsimp only)) | walk1 | (dsimp only; walk1)))
            exact h _ _ _ (St.base (by first | with_reducible assumption | assumption)) (.str _ _)
end

end
section
open PySem PySem.W PyProof.Rows PySem.Calls
set_option maxHeartbeats 2000000
theorem goN_Good {ns : List Str} {x : Int} (h : Good ns) (hl : ns.length ≤ 38) : Good (goN ns x) := ⟨goN_good h.nm, by have := goN_len ns x; omega⟩
def keptN (ns : List Str) (x : Int) (e : List Str × Int) : Bool := decide (e.1 ≠ ns) && (decide (x.fmod 2 = 0) || decide (¬ e.1.take ns.length = ns))
def accJ (ns : List Str) (x : Int) : Nat → PyData
  | 0 => .str (textN ns)
  | 1 => .str (jn (textN ns) (pieceAt (x.fdiv 4)))
  | _ => .str (jn (jn (textN ns) (pieceAt (x.fdiv 4))) (pieceAt (x.fdiv 32)))
theorem pieceAt_len (k : Int) : (pieceAt k).length ≤ 300 := by
  have : ∀ y ∈ pieceL, y.length ≤ 300 := by decide +kernel
  exact this _ (piece_mem k)
section
variable {mg mb : Str → Option Value} {fa : Nat → Addr} {dT mi : Addr} {w : World} {A : Around} {g g0 : Heap} {s : Shared} {s0 : Core} {Q : Value → Shared → Prop} {E : Value → Shared → Prop} {n : Nat}
  {env : Env} {L : Addr} {m : Str → Option Value} {mu : List (Addr × Obj)}
theorem fin_step {D : Addr} {vals : List Value} {cc : Nat} {ds : List PyData} {y : Str} {u v : Tok} {d : Int} (S : St g0 s0 g L m ((D, lob vals cc) :: []) (core s)) (r : RdL g vals ds)
    (h : ∀ r g' s', St g0 s0 g' L m [] (core s') → Rd g' r (.tuple [.str y, .int d, .list ds]) → Q r s') :
    wpAny (model Pg w) A (newTuple [.str y u, .int d v, .ref D]) Q Nv s :=
  have F := S.frozen
  tupF S.freeze (.cons (.str _ _) (.cons (.int _ _) (.cons (Rd.list F.2 rfl rfl (r.up F.1)) .nil))) fun a g' s' S' K R => h _ _ _ S' R
theorem spec_step {pv : Value} {p : Sta} {x : Int} {t : Tok} (G : Gnd mg mb fa dT mi g) (k : Kp g s.heap) (o : Ok A 14) (hp : Good p.ns) (hl : p.ns.length ≤ 38) (hgt : ∀ e ∈ p.tab, Good e.1) (hz : p.tab.length ≤ 60)
    (rp : Rd g pv (dS p)) : Gives w A g s (.ref (fa 24)) [pv, .int x t] (dS (stepN p x)) := by
  intro Q E h
  have rp' := rp
  obtain ⟨pa, pvs, rfl, _, _⟩ := rp'.tuple_inv
  unfold dS at rp
  refine enter (binds := [(Str.ofString "state", .ref pa), (Str.ofString "x", .int x t)]) G k o (by decide) (by decide) (fun kV doc pm an cdv ct => BindsTo.of_eq rfl) (locs rfl) fun cd L s1 S o' => ?_
  refine wpAny_execs_cons ?_
  k_fold
  (repeat' (first | w_left | ((with_reducible show wpAny _ _ (assign (Expr.Tuple _ _ _) _ _) _ _ _); refine asg3 (by first | with_reducible assumption | assumption) (by first | with_reducible assumption | assumption) (by tb_rel) rfl rfl ?_; intro _ _ _ _ _ _ _ _; (try dsimp only)) | ((with_reducible show wpAny _ _ (newList _) _ _ _); refine lstO (by first | with_reducible assumption | assumption) ?_; intro _ _ _; (try dsimp only)) | ((with_reducible show wpAny _ _ (newTuple _) _ _ _); refine' tupF (by first | with_reducible assumption | assumption) ?rds ?_; (case rds => walk_at "M.rds"); intro _ _ _ _ _ _; (try dsimp only)) | ((with_reducible show wpAny _ _ (getMethod (Value.ref _) _ _) _ _ _); refine gmO (by first | with_reducible assumption | assumption) F.slot_list_append F.type_list_append ?_) | ((with_reducible show wpAny _ _ (call (Value.builtin "list.append") _) _ _ _); refine appO (by first | with_reducible assumption | assumption) (by first | with_reducible assumption | assumption) ?_; intro _ _ _; (try dsimp only)) | walk1 | (dsimp only; walk1)))
  rename_i v1 v2 v3 s2 r1 r2 r3 S2 s3 S3 s4 S4 s5 S5
  obtain ⟨t1, rfl⟩ := r1.str_inv
  obtain ⟨t2, rfl⟩ := r2.int_inv
  obtain ⟨ta, tvs, rfl, htl, htr⟩ := r3.list_inv
  have hgo : Good (goN p.ns x) := goN_Good hp hl
  refine useG S5 (fun k => spec_pieces (G.up S5.base.kg) k (o'.le (by decide))) fun ppv g6 s6 S6 K6 R6 => ?_
  (repeat' (first | w_left | ((with_reducible show wpAny _ _ (assign (Expr.Tuple _ _ _) _ _) _ _ _); refine asg3 (by first | with_reducible assumption | assumption) (by first | with_reducible assumption | assumption) (by tb_rel) rfl rfl ?_; intro _ _ _ _ _ _ _ _; (try dsimp only)) | ((with_reducible show wpAny _ _ (newList _) _ _ _); refine lstO (by first | with_reducible assumption | assumption) ?_; intro _ _ _; (try dsimp only)) | ((with_reducible show wpAny _ _ (newTuple _) _ _ _); refine' tupF (by first | with_reducible assumption | assumption) ?rds ?_; (case rds => walk_at "M.rds"); intro _ _ _ _ _ _; (try dsimp only)) | ((with_reducible show wpAny _ _ (getMethod (Value.ref _) _ _) _ _ _); refine gmO (by first | with_reducible assumption | assumption) F.slot_list_append F.type_list_append ?_) | ((with_reducible show wpAny _ _ (call (Value.builtin "list.append") _) _ _ _); refine appO (by first | with_reducible assumption | assumption) (by first | with_reducible assumption | assumption) ?_; intro _ _ _; (try dsimp only)) | walk1 | (dsimp only; walk1)))
  obtain ⟨hroot, hj1, hnorm⟩ := norm_go hp (piece_mem (x.fdiv 4)) (piece_mem (x.fdiv 32))
  refine useGS S6 (x := jn (jn (textN p.ns) (pieceAt (x.fdiv 4))) (pieceAt (x.fdiv 32))) (fun k => spec_reduce (n := 17) (es := (piecesOf x).map .str) (acc := accJ p.ns x) (j := 3) (G.up S6.base.kg) k (o'.le (by decide)) (by decide) R6 (r1.up K6) fun i e he A' g' s' v ev oA G' k' rv re => ?_) fun tj g7 s7 S7 K7 => ?_
  · have hT := text_len hp
    rcases i with _ | _ | i
    · cases he
      obtain ⟨ta', rfl⟩ := (show Rd g' v (.str (textN p.ns)) from rv).str_inv
      obtain ⟨tb', rfl⟩ := re.str_inv
      exact spec_join G' k' oA (by omega) (pieceAt_len _)
    · cases he
      obtain ⟨ta', rfl⟩ := (show Rd g' v (.str (jn (textN p.ns) (pieceAt (x.fdiv 4)))) from rv).str_inv
      obtain ⟨tb', rfl⟩ := re.str_inv
      exact spec_join G' k' oA hj1 (pieceAt_len _)
    · cases he
  (repeat' (first | w_left | ((with_reducible show wpAny _ _ (assign (Expr.Tuple _ _ _) _ _) _ _ _); refine asg3 (by first | with_reducible assumption | assumption) (by first | with_reducible assumption | assumption) (by tb_rel) rfl rfl ?_; intro _ _ _ _ _ _ _ _; (try dsimp only)) | ((with_reducible show wpAny _ _ (newList _) _ _ _); refine lstO (by first | with_reducible assumption | assumption) ?_; intro _ _ _; (try dsimp only)) | ((with_reducible show wpAny _ _ (newTuple _) _ _ _); refine' tupF (by first | with_reducible assumption | assumption) ?rds ?_; (case rds => walk_at "M.rds"); intro _ _ _ _ _ _; (try dsimp only)) | ((with_reducible show wpAny _ _ (getMethod (Value.ref _) _ _) _ _ _); refine gmO (by first | with_reducible assumption | assumption) F.slot_list_append F.type_list_append ?_) | ((with_reducible show wpAny _ _ (call (Value.builtin "list.append") _) _ _ _); refine appO (by first | with_reducible assumption | assumption) (by first | with_reducible assumption | assumption) ?_; intro _ _ _; (try dsimp only)) | walk1 | (dsimp only; walk1)))
  refine useGS S7 (x := textN (goN p.ns x)) (fun k => by have := spec_norm (w := w) (t := tj) (G.up S7.base.kg) k (o'.le (by decide)) hroot; rw [hnorm] at this; exact this) fun tp g8 s8 S8 K8 => ?_
  (repeat' (first | w_left | ((with_reducible show wpAny _ _ (assign (Expr.Tuple _ _ _) _ _) _ _ _); refine asg3 (by first | with_reducible assumption | assumption) (by first | with_reducible assumption | assumption) (by tb_rel) rfl rfl ?_; intro _ _ _ _ _ _ _ _; (try dsimp only)) | ((with_reducible show wpAny _ _ (newList _) _ _ _); refine lstO (by first | with_reducible assumption | assumption) ?_; intro _ _ _; (try dsimp only)) | ((with_reducible show wpAny _ _ (newTuple _) _ _ _); refine' tupF (by first | with_reducible assumption | assumption) ?rds ?_; (case rds => walk_at "M.rds"); intro _ _ _ _ _ _; (try dsimp only)) | ((with_reducible show wpAny _ _ (getMethod (Value.ref _) _ _) _ _ _); refine gmO (by first | with_reducible assumption | assumption) F.slot_list_append F.type_list_append ?_) | ((with_reducible show wpAny _ _ (call (Value.builtin "list.append") _) _ _ _); refine appO (by first | with_reducible assumption | assumption) (by first | with_reducible assumption | assumption) ?_; intro _ _ _; (try dsimp only)) | walk1 | (dsimp only; walk1)))
  refine wpAny_For ?_
  (repeat' (first | w_left | ((with_reducible show wpAny _ _ (assign (Expr.Tuple _ _ _) _ _) _ _ _); refine asg3 (by first | with_reducible assumption | assumption) (by first | with_reducible assumption | assumption) (by tb_rel) rfl rfl ?_; intro _ _ _ _ _ _ _ _; (try dsimp only)) | ((with_reducible show wpAny _ _ (newList _) _ _ _); refine lstO (by first | with_reducible assumption | assumption) ?_; intro _ _ _; (try dsimp only)) | ((with_reducible show wpAny _ _ (newTuple _) _ _ _); refine' tupF (by first | with_reducible assumption | assumption) ?rds ?_; (case rds => walk_at "M.rds"); intro _ _ _ _ _ _; (try dsimp only)) | ((with_reducible show wpAny _ _ (getMethod (Value.ref _) _ _) _ _ _); refine gmO (by first | with_reducible assumption | assumption) F.slot_list_append F.type_list_append ?_) | ((with_reducible show wpAny _ _ (call (Value.builtin "list.append") _) _ _ _); refine appO (by first | with_reducible assumption | assumption) (by first | with_reducible assumption | assumption) ?_; intro _ _ _; (try dsimp only)) | walk1 | (dsimp only; walk1)))
  rename_i s9 S9 D s10 S10 s11 S11
  have K58 : Kp g g8 := K6.trans (K7.trans K8)
  have htl8 : g8.IsList ta tvs.toArray := let ⟨o, ho, r⟩ := htl; ⟨o, K58 _ _ ho, r⟩
  have hlen := htr.length
  refine pyIter_list htl8 S11 o'.h fun I ms ps s12 W hms S12 => ?_
  refine for_itr (W _) hms S12 ["name", "value"] (fun i g T mu => T = [] ∧ ∃ vals cc, mu = [(D, lob vals cc)] ∧ RdL g vals (((p.tab.take i).filter (keptN (goN p.ns x) x)).map Mine.dT) ∧ vals.length ≤ i)
    (fun i g₁ g₂ T mu kk hJ => ?mono) [] trivial ⟨rfl, [], 0, rfl, .nil, Nat.le_refl _⟩ ?turn ?fin
  case mono => exact ⟨hJ.1, let ⟨vals, cc, e, r, hh⟩ := hJ.2; ⟨vals, cc, e, r.up kk, hh⟩⟩
  case turn =>
    intro i v g' T mu' ps' jk s' hi kg hP hJ S'
    obtain ⟨rfl, vals, cc, rfl, hr', hlen'⟩ := hJ
    obtain ⟨⟨ns, ct⟩, hx⟩ : ∃ q, p.tab[i]? = some q := ⟨_, List.getElem?_eq_getElem (by simp at hlen; omega)⟩
    obtain ⟨v', hv', rv⟩ := (htr.up (K58.trans kg)).get (i := i) (d := Mine.dT (ns, ct)) (by simp [hx])
    rw [hP] at hv'
    cases hv'
    have hns : Good ns := hgt _ (List.mem_of_getElem? hx)
    have hv100 : vals.length ≤ 100000 := by simp at hlen; omega
    have hst : p.tab.take (i + 1) = p.tab.take i ++ [(ns, ct)] := by rw [List.take_add_one, hx]; rfl
    refine asg2 o' S' rv rfl rfl fun w1 w2 s13 q1 q2 S13 => ?_
    obtain ⟨tn, rfl⟩ := q1.str_inv
    obtain ⟨tc, rfl⟩ := q2.int_inv
    (repeat' (first | w_left | ((with_reducible show wpAny _ _ (newList _) _ _ _); refine' lstF (by first | with_reducible assumption | assumption) ?rds ?_; (case rds => walk_at "M.rds"); intro _ _ _ _ _ _; (try dsimp only)) | ((with_reducible show wpAny _ _ (newTuple _) _ _ _); refine' tupF (by first | with_reducible assumption | assumption) ?rds ?_; (case rds => walk_at "M.rds"); intro _ _ _ _ _ _; (try dsimp only)) | ((with_reducible show wpAny _ _ (getMethod (Value.ref _) _ _) _ _ _); refine gmO (by first | with_reducible assumption | assumption) F.slot_list_append F.type_list_append ?_) | ((with_reducible show wpAny _ _ (call (Value.builtin "list.append") _) _ _ _); refine appO (by first | with_reducible assumption | assumption) (by first | with_reducible assumption | assumption) ?_; intro _ _ _; (try dsimp only)) | walk1 | (dsimp only; walk1)))
    · rename_i s14 S14 s15 S15 n1 n2 a16 g16 s16 S16 K16 R16 c17 s17 S17
      have hk : keptN (goN p.ns x) x (ns, ct) = true := by
        have e : ns ≠ goN p.ns x := fun q => bne_iff_ne.mp n1 (by rw [q])
        simp [keptN, e, n2]
      refine ⟨g16, _, [], [(D, lob (vals ++ [.ref a16]) c17)], K16, ⟨rfl, _, _, rfl, ?_, by simp; omega⟩, trivial, ?_, S17⟩
      · rw [hst, List.filter_append, List.filter_cons, if_pos hk, List.map_append]
        exact (hr'.up K16).append (.cons R16 .nil)
      · repeat (first | exact Off.trk rfl Off.refl | refine Off.set rfl ?_ | refine Off.trk2 rfl rfl ?_)
    · rename_i s14 S14 s15 S15 n1 n2 a16 g16 s16 S16 K16 R16
      have e1 : ns ≠ goN p.ns x := fun q => bne_iff_ne.mp n1 (by rw [q])
      refine useGS S16 (fun k => spec_common (G.up S16.base.kg) k (o'.le (by decide)) hgo hns R16) fun t17 g17 s17 S17 K17 => ?_
      (repeat' (first | w_left | ((with_reducible show wpAny _ _ (newList _) _ _ _); refine' lstF (by first | with_reducible assumption | assumption) ?rds ?_; (case rds => walk_at "M.rds"); intro _ _ _ _ _ _; (try dsimp only)) | ((with_reducible show wpAny _ _ (newTuple _) _ _ _); refine' tupF (by first | with_reducible assumption | assumption) ?rds ?_; (case rds => walk_at "M.rds"); intro _ _ _ _ _ _; (try dsimp only)) | ((with_reducible show wpAny _ _ (getMethod (Value.ref _) _ _) _ _ _); refine gmO (by first | with_reducible assumption | assumption) F.slot_list_append F.type_list_append ?_) | ((with_reducible show wpAny _ _ (call (Value.builtin "list.append") _) _ _ _); refine appO (by first | with_reducible assumption | assumption) (by first | with_reducible assumption | assumption) ?_; intro _ _ _; (try dsimp only)) | walk1 | (dsimp only; walk1)))
      · rename_i n3 a20 g20 s20 S20 K20 R20 c21 s21 S21
        have e3 : ¬ ns.take (goN p.ns x).length = goN p.ns x := fun q => bne_iff_ne.mp n3 (by rw [(cpN_eq _ _).mpr q])
        have hk : keptN (goN p.ns x) x (ns, ct) = true := by simp [keptN, e1, e3]
        have K1 := K16.trans (K17.trans K20)
        refine ⟨g20, _, [], [(D, lob (vals ++ [.ref a20]) c21)], K1, ⟨rfl, _, _, rfl, ?_, by simp; omega⟩, trivial, ?_, S21⟩
        · rw [hst, List.filter_append, List.filter_cons, if_pos hk, List.map_append]
          exact (hr'.up K1).append (.cons R20 .nil)
        · repeat (first | exact Off.trk rfl Off.refl | refine Off.set rfl ?_ | refine Off.trk2 rfl rfl ?_)
      · rename_i n3
        have gcp : Nm (cpN (goN p.ns x) ns) := by
          obtain ⟨kk, e, _⟩ := cpN_take (goN p.ns x) ns
          rw [e]; exact Nm.take hgo.nm kk
        have e3 : ns.take (goN p.ns x).length = goN p.ns x := (cpN_eq _ _).mp (text_inj gcp hgo.nm (by simpa using n3))
        have hk : ¬ keptN (goN p.ns x) x (ns, ct) = true := by simp [keptN, e3, n2]
        refine ⟨g17, _, [], [(D, lob vals cc)], K16.trans K17, ⟨rfl, _, _, rfl, ?_, by omega⟩, trivial, ?_, by assumption⟩
        · rw [hst, List.filter_append, List.filter_cons, if_neg hk, List.filter_nil, List.append_nil]
          exact hr'.up (K16.trans K17)
        · repeat (first | exact Off.trk rfl Off.refl | refine Off.set rfl ?_ | refine Off.trk2 rfl rfl ?_)
    · rename_i s14 S14 s15 S15 n1
      have e : ns = goN p.ns x := text_inj hns.nm hgo.nm (by simpa using n1)
      have hk : ¬ keptN (goN p.ns x) x (ns, ct) = true := by simp [keptN, e]
      refine ⟨g', _, [], [(D, lob vals cc)], Kp.refl _, ⟨rfl, _, _, rfl, ?_, by omega⟩, trivial, ?_, S15⟩
      · rw [hst, List.filter_append, List.filter_cons, if_neg hk, List.filter_nil, List.append_nil]
        exact hr'
      · repeat (first | exact Off.trk rfl Off.refl | refine Off.set rfl ?_ | refine Off.trk2 rfl rfl ?_)
  case fin =>
    intro g' T mu' jk s' kg hJ S'
    obtain ⟨rfl, vals, cc, rfl, hr', hlen'⟩ := hJ
    have hall : p.tab.take tvs.length = p.tab := List.take_of_length_le (by simp at hlen; omega)
    rw [hall] at hr'
    have hv100 : vals.length ≤ 100000 := by simp at hlen; omega
    have SX : St g (core s) g' _ _ ([] ++ (D, lob vals cc) :: []) (core s') := S'
    clear S'
    (try k_unfold)
    (try dsimp only)
    (repeat' (first | w_left | ((with_reducible show wpAny _ _ (assign (Expr.Tuple _ _ _) _ _) _ _ _); refine asg3 (by first | with_reducible assumption | assumption) (by first | with_reducible assumption | assumption) (by tb_rel) rfl rfl ?_; intro _ _ _ _ _ _ _ _; (try dsimp only)) | ((with_reducible show wpAny _ _ (newList _) _ _ _); refine lstO (by first | with_reducible assumption | assumption) ?_; intro _ _ _; (try dsimp only)) | ((with_reducible show wpAny _ _ (newTuple _) _ _ _); refine' tupF (by first | with_reducible assumption | assumption) ?rds ?_; (case rds => walk_at "M.rds"); intro _ _ _ _ _ _; (try dsimp only)) | ((with_reducible show wpAny _ _ (getMethod (Value.ref _) _ _) _ _ _); refine gmO (by first | with_reducible assumption | assumption) F.slot_list_append F.type_list_append ?_) | ((with_reducible show wpAny _ _ (call (Value.builtin "list.append") _) _ _ _); refine appO (by first | with_reducible assumption | assumption) (by first | with_reducible assumption | assumption) ?_; intro _ _ _; (try dsimp only)) | walk1 | (dsimp only; walk1)))
    · rename_i n1 a14 g14 s14 S14 K14 R14 c15 s15 S15
      have e : (stepN p x).tab = p.tab.filter (keptN (goN p.ns x) x) ++ [(goN p.ns x, p.ct)] := by
        show _ ++ (if x.fmod 4 < 2 then _ else _) = _
        rw [if_pos n1]; rfl
      exact fin_step (d := p.ct + 1) (ds := (stepN p x).tab.map Mine.dT) (S := (show St g (core s) g14 _ _ ((D, lob (vals ++ [.ref a14]) c15) :: []) (core s15) from S15)) (by rw [e, List.map_append]; exact (hr'.up K14).append (.cons R14 .nil)) fun r g' s' S R => h r g' s' S.base R
    · rename_i n1
      have e : (stepN p x).tab = p.tab.filter (keptN (goN p.ns x) x) := by
        show _ ++ (if x.fmod 4 < 2 then _ else _) = _
        rw [if_neg n1, List.append_nil]; rfl
      exact fin_step (d := p.ct + 1) (ds := (stepN p x).tab.map Mine.dT) (S := (show St g (core s) g' _ _ ((D, lob vals cc) :: []) (core s') from SX)) (by rw [e]; exact hr') fun r g' s' S R => h r g' s' S.base R
end

end
section
open PySem PySem.W PyProof.Rows PySem.Calls
set_option maxHeartbeats 400000
/-! the plain law -/
theorem lateN_snoc {went : WL} {l : List Str × Int} {k : Nat} {ns : List Str} (hk : k < went.length) : lateN (went ++ [l]) k ns = lateN went k ns ++ if ends ns l then [l.1] else [] := by
  unfold lateN
  rw [List.drop_append_of_le_length (by omega), List.filter_append, List.map_append]
  congr 1
  rw [List.filter_cons]
  split <;> simp
theorem livN_snoc {went : WL} {l : List Str × Int} : ∀ {k : Nat}, k ≤ went.length → livN (went ++ [l]) k = (livN went k).filter fun e => !ends e.1 l
  | 0, _ => rfl
  | k + 1, hk => by
    have ih := livN_snoc (went := went) (l := l) (k := k) (by omega)
    obtain ⟨⟨ns, d⟩, hx⟩ : ∃ p, went[k]? = some p := ⟨_, List.getElem?_eq_getElem (by omega)⟩
    have hx' : (went ++ [l])[k]? = some (ns, d) := by rw [List.getElem?_append_left (by omega), hx]
    have hl := lateN_snoc (went := went) (l := l) (k := k) (ns := ns) (by omega)
    by_cases h1 : d < 2
    · by_cases h2 : lateN went k ns = []
      · rw [livN_yes hx h1 h2, List.filter_append, ← ih, List.filter_cons]
        cases h3 : ends ns l with
        | true =>
          rw [livN_no hx' (.inr (by rw [hl, h3]; simp))]
          simp
        | false =>
          rw [livN_yes hx' h1 (by rw [hl, h3, h2]; simp)]
          simp
      · rw [livN_no hx (.inr h2), livN_no hx' (.inr (by rw [hl]; simp [h2])), ih]
    · rw [livN_no hx (.inl h1), livN_no hx' (.inl h1), ih]
theorem living_snoc {went : WL} {l : List Str × Int} : livingN (went ++ [l]) = ((livingN went).filter fun e => !ends e.1 l) ++ if l.2 < 2 then [(l.1, (went.length : Int))] else [] := by
  have e : livingN (went ++ [l]) = livN (went ++ [l]) (went.length + 1) := by unfold livingN; rw [List.length_append]; rfl
  rw [e]
  have hx : (went ++ [l])[went.length]? = some (l.1, l.2) := by simp
  have hl : lateN (went ++ [l]) went.length l.1 = [] := by unfold lateN; rw [List.drop_eq_nil_of_le (by simp)]; rfl
  have h0 := livN_snoc (went := went) (l := l) (Nat.le_refl _)
  by_cases h : l.2 < 2
  · rw [livN_yes hx h hl, h0, if_pos h]; rfl
  · rw [livN_no hx (.inl h), h0, if_neg h, List.append_nil]; rfl
theorem fmod42 (x : Int) : (x.fmod 4).fmod 2 = x.fmod 2 ∧ (x.fmod 2 = 0 ∨ x.fmod 2 = 1) := by
  rw [Int.fmod_eq_emod_of_nonneg _ (by decide), Int.fmod_eq_emod_of_nonneg _ (by decide), Int.fmod_eq_emod_of_nonneg _ (by decide)]
  omega
theorem ends_eq (ns : List Str) (x : Int) (e : List Str × Int) : (!ends e.1 (ns, x.fmod 4)) = (decide (e.1 ≠ ns) && (decide (x.fmod 2 = 0) || decide (¬ e.1.take ns.length = ns))) := by
  obtain ⟨h1, h2⟩ := fmod42 x
  unfold ends
  simp only [h1]
  have c : (ns = e.1) = (e.1 = ns) := propext ⟨Eq.symm, Eq.symm⟩
  simp only [c]
  rcases h2 with h2 | h2 <;> simp [h2]
def foldS (cs : List Int) : Sta := cs.foldl stepN ⟨[], 0, []⟩
theorem foldS_eq (cs : List Int) : foldS cs = ⟨(wentN cs).1, (cs.length : Int), livingN (wentN cs).2⟩ := by
  refine snoc_ind (P := fun cs => foldS cs = ⟨(wentN cs).1, (cs.length : Int), livingN (wentN cs).2⟩) rfl ?_ cs
  intro cs x ih
  have e : foldS (cs ++ [x]) = stepN (foldS cs) x := by simp [foldS]
  rw [e, ih, wentN_snoc, living_snoc]
  have hl := (wentN_len cs).2.2.1
  unfold stepN
  simp only [ends_eq, hl, List.length_append, List.length_singleton]
  rfl
theorem living_nodup (went : WL) : ((livingN went).map (·.1)).Nodup := by
  refine snoc_ind (P := fun went => ((livingN went).map (·.1)).Nodup) List.nodup_nil ?_ went
  intro w l ih
  rw [living_snoc, List.map_append]
  refine List.nodup_append.mpr ⟨?_, ?_, ?_⟩
  · exact (List.filter_sublist.map _).nodup ih
  · split <;> simp
  · intro a ha b hb e
    subst e
    obtain ⟨p, hp, rfl⟩ := List.mem_map.mp ha
    have hp := (List.mem_filter.mp hp).2
    split at hb
    · simp at hb
      simp [ends, hb] at hp
    · cases hb
theorem gtP_iff {p q : Int × Int} : gtP p q = true ↔ q.1 < p.1 ∨ (p.1 = q.1 ∧ q.2 < p.2) := by
  unfold gtP
  split
  · rename_i h; simp [h]
  · rename_i h; simp [h]
theorem best_le (bt : Nat → Nat → Bool) : ∀ k, argBest bt k ≤ k
  | 0 => Nat.le_refl _
  | k + 1 => by
    have := best_le bt k
    unfold argBest
    split <;> omega
theorem best_max {ab : List (Int × Int)} : ∀ (k j : Nat), j ≤ k → gtP (ab.getD j (0, 0)) (ab.getD (argBest (abv ab) k) (0, 0)) = false
  | 0, j, h => by
    have : j = 0 := by omega
    subst this
    cases q : gtP (ab.getD 0 (0, 0)) (ab.getD (argBest (abv ab) 0) (0, 0)) with
    | false => rfl
    | true => have := gtP_iff.mp q; simp only [argBest] at this; omega
  | k + 1, j, h => by
    have ih := best_max (ab := ab) k
    cases q : gtP (ab.getD j (0, 0)) (ab.getD (argBest (abv ab) (k + 1)) (0, 0)) with
    | false => rfl
    | true =>
      exfalso
      have q := gtP_iff.mp q
      rw [show argBest (abv ab) (k + 1) = if abv ab (k + 1) (argBest (abv ab) k) then k + 1 else argBest (abv ab) k from rfl] at q
      split at q
      · rename_i hb
        have hb := gtP_iff.mp hb
        rcases Nat.lt_or_ge j (k + 1) with hj | hj
        · have n := ih j (by omega)
          have n : ¬ _ := fun z => Bool.false_ne_true (n.symm.trans (gtP_iff.mpr z))
          omega
        · have : j = k + 1 := by omega
          subst this
          omega
      · rename_i hb
        have hb : ¬ _ := fun z => hb (gtP_iff.mpr z)
        rcases Nat.lt_or_ge j (k + 1) with hj | hj
        · have n := ih j (by omega)
          have n : ¬ _ := fun z => Bool.false_ne_true (n.symm.trans (gtP_iff.mpr z))
          omega
        · have : j = k + 1 := by omega
          subst this
          omega
theorem best_eq {ab : List (Int × Int)} {m : Int × Int} (hm : m ∈ ab) (h : ∀ e ∈ ab, e.1 ≤ m.1 ∧ (e.1 = m.1 → e.2 = m.2)) : ab.getD (bestN ab) (0, 0) = m := by
  have hp : 0 < ab.length := List.length_pos_iff.mpr (List.ne_nil_of_mem hm)
  have hb := best_le (abv ab) (ab.length - 1)
  have hlt : bestN ab < ab.length := by show argBest _ _ < _; omega
  have hmem : ab.getD (bestN ab) (0, 0) ∈ ab := by
    rw [List.getD_eq_getElem?_getD, List.getElem?_eq_getElem hlt]
    exact List.getElem_mem hlt
  obtain ⟨j, hj, e⟩ := List.getElem_of_mem hm
  have n := best_max (ab := ab) (ab.length - 1) j (by omega)
  have n : ¬ _ := fun z => Bool.false_ne_true (n.symm.trans (gtP_iff.mpr z))
  have e2 : ab.getD j (0, 0) = m := by rw [List.getD_eq_getElem?_getD, List.getElem?_eq_getElem hj]; exact e
  rw [e2] at n
  have hh := h _ hmem
  change ¬ ((ab.getD (bestN ab) (0, 0)).1 < m.1 ∨ _) at n
  have e1 : (ab.getD (bestN ab) (0, 0)).1 = m.1 := by omega
  exact Prod.ext e1 (hh.2 e1)
theorem here_one {liv : WL} (hd : (liv.map (·.1)).Nodup) {ns : List Str} {k : Int} (h : (ns, k) ∈ liv) : hereN ns liv = [k] := by
  induction liv with
  | nil => cases h
  | cons p l ih =>
    rw [List.map_cons, List.nodup_cons] at hd
    unfold hereN
    rw [List.filter_cons]
    rcases List.mem_cons.mp h with rfl | h
    · rw [if_pos (by simp)]
      have : l.filter (fun e => decide (e.1 = ns)) = [] := List.filter_eq_nil_iff.mpr fun e he q => hd.1 (List.mem_map.mpr ⟨e, he, of_decide_eq_true q⟩)
      rw [this]; rfl
    · rw [if_neg (by
        intro q
        exact hd.1 (List.mem_map.mpr ⟨_, h, (of_decide_eq_true q).symm⟩))]
      exact ih hd.2 h
theorem above_mem {asked : List Str} {liv : WL} {q : Int × Int} : q ∈ aboveN asked liv ↔ ∃ e ∈ liv, asked.take e.1.length = e.1 ∧ q = ((e.1.length : Int), e.2) := by
  unfold aboveN
  rw [List.mem_map]
  constructor
  · rintro ⟨e, he, rfl⟩
    exact ⟨e, (List.mem_filter.mp he).1, of_decide_eq_true (List.mem_filter.mp he).2, rfl⟩
  · rintro ⟨e, he, h, rfl⟩
    exact ⟨e, List.mem_filter.mpr ⟨he, decide_eq_true h⟩, rfl⟩
theorem near_here {liv : WL} (hd : (liv.map (·.1)).Nodup) {asked : List Str} (h : hereN asked liv ≠ []) : nearN asked liv = hereN asked liv := by
  obtain ⟨k, hk⟩ : ∃ k, (asked, k) ∈ liv := by
    obtain ⟨k, hk⟩ := List.exists_mem_of_ne_nil _ h
    obtain ⟨e, he, rfl⟩ := List.mem_map.mp hk
    obtain ⟨h1, h2⟩ := List.mem_filter.mp he
    exact ⟨e.2, by rw [← of_decide_eq_true h2]; exact h1⟩
  have hm : ((asked.length : Int), k) ∈ aboveN asked liv := above_mem.mpr ⟨_, hk, List.take_length, rfl⟩
  unfold nearN
  rw [if_neg (List.ne_nil_of_mem hm), here_one hd hk, best_eq hm]
  intro q hq
  obtain ⟨e, he, h1, rfl⟩ := above_mem.mp hq
  have hl : e.1.length ≤ asked.length := by
    have := congrArg List.length h1
    rw [List.length_take] at this
    omega
  refine ⟨by simpa using hl, fun q => ?_⟩
  have q : e.1.length = asked.length := Int.ofNat.inj q
  have e1 : asked = e.1 := by rw [q, List.take_length] at h1; exact h1
  have a1 := here_one hd hk
  have a2 := here_one hd (ns := e.1) (k := e.2) he
  rw [← e1, a1] at a2
  simpa using a2.symm
theorem here_none {liv : WL} {asked : List Str} (h : hereN asked liv = []) {e : List Str × Int} (he : e ∈ liv) : e.1 ≠ asked := fun q => by
  have : e.2 ∈ hereN asked liv := List.mem_map.mpr ⟨e, List.mem_filter.mpr ⟨he, decide_eq_true q⟩, rfl⟩
  rw [h] at this; cases this
theorem above_up {liv : WL} {as : List Str} {a : Str} (h : hereN (as ++ [a]) liv = []) : aboveN (as ++ [a]) liv = aboveN as liv := by
  unfold aboveN
  congr 1
  refine List.filter_congr fun e he => ?_
  have hn := here_none h he
  refine decide_eq_decide.mpr ⟨fun q => ?_, fun q => ?_⟩
  · have hl : e.1.length ≤ as.length := by
      rcases Nat.lt_or_ge as.length e.1.length with hh | hh
      · exfalso
        rw [List.take_of_length_le (by simp; omega)] at q
        exact hn q.symm
      · exact hh
    rwa [List.take_append_of_le_length hl] at q
  · have hl : e.1.length ≤ as.length := by
      have := congrArg List.length q
      rw [List.length_take] at this
      omega
    rwa [List.take_append_of_le_length hl]
theorem found_near {liv : WL} (hd : (liv.map (·.1)).Nodup) (asked : List Str) : foundN liv (asked.length + 1) asked = nearN asked liv := by
  refine snoc_ind (P := fun asked => foundN liv (asked.length + 1) asked = nearN asked liv) ?_ ?_ asked
  · show (if hereN [] liv ≠ [] ∨ ([] : List Str) = [] then hereN [] liv else _) = _
    rw [if_pos (.inr rfl)]
    by_cases h : hereN [] liv = []
    · have : aboveN [] liv = [] := by
        unfold aboveN
        rw [List.map_eq_nil_iff, List.filter_eq_nil_iff]
        intro e he q
        have q := of_decide_eq_true q
        rw [List.take_nil] at q
        exact here_none h he q.symm
      unfold nearN
      rw [if_pos this, h]
    · exact (near_here hd h).symm
  · intro as a ih
    have e : foundN liv ((as ++ [a]).length + 1) (as ++ [a]) = if hereN (as ++ [a]) liv ≠ [] ∨ as ++ [a] = [] then hereN (as ++ [a]) liv else foundN liv (as ++ [a]).length (as ++ [a]).dropLast := rfl
    rw [e]
    by_cases h : hereN (as ++ [a]) liv = []
    · rw [if_neg (by simp [h]), List.dropLast_concat, List.length_append, List.length_singleton, ih]
      unfold nearN
      rw [above_up h]
    · rw [if_pos (.inl h)]
      exact (near_here hd h).symm

end
section
open PySem PySem.W PyProof.Rows PySem.Calls
set_option maxHeartbeats 400000
theorem intsAre_of {g : Heap} : ∀ {xs : List Int} {vs : List Value}, RdL g vs (xs.map .int) → IntsAre vs xs
  | [], vs, r => by rw [r.nil_inv]; exact .nil
  | y :: ys, vs, r => by
    obtain ⟨v, us, rfl, h, t⟩ := r.cons_inv
    obtain ⟨t', rfl⟩ := h.int_inv
    exact .cons _ _ (intsAre_of t)
theorem of_intsAre {g : Heap} : ∀ {xs : List Int} {vs : List Value}, IntsAre vs xs → RdL g vs (xs.map .int)
  | _, _, .nil => .nil
  | _, _, .cons n t h => .cons (.int n t) (of_intsAre h)
theorem intsArr : ∀ {xs : List Int} {vs : List Value}, IntsAre vs xs → ∃ arr : List (Int × Tok), vs = (arr.map fun p => .int p.1 p.2) ∧ xs = arr.map (·.1)
  | _, _, .nil => ⟨[], rfl, rfl⟩
  | _, _, .cons n t h => by
    obtain ⟨arr, rfl, rfl⟩ := intsArr h
    exact ⟨(n, t) :: arr, rfl, rfl⟩
def sumN (xs : List Int) : Int := preSum (fun i => xs.getD i 0) xs.length
section
variable {mg mb : Str → Option Value} {fa : Nat → Addr} {dT mi : Addr} {w : World} {A : Around} {g g0 : Heap} {s : Shared} {s0 : Core} {Q : Value → Shared → Prop} {E : Value → Shared → Prop} {n : Nat}
  {env : Env} {L : Addr} {m : Str → Option Value} {mu : List (Addr × Obj)}
theorem sumL {l : Addr} {xs : List Int} {j : Nat} (o : Ok A j) (S : St g0 s0 g L m mu (core s)) (r : Rd g (.ref l) (.list (xs.map .int)))
    (h : ∀ t s', St g0 s0 g L m mu (core s') → Q (.int (sumN xs) t) s') : wpAny (model Pg w) A (call (.builtin "sum") [.ref l]) Q E s := by
  obtain ⟨l, vs, e, hl, hr⟩ := r.list_inv
  cases e
  obtain ⟨arr, rfl, rfl⟩ := intsArr (intsAre_of hr)
  have hl' : s.heap.IsList l (intItems arr.toArray) := let ⟨o, ho, r⟩ := hl; ⟨o, S.kp _ _ ho, by simpa [intItems] using r⟩
  refine call_sum_walkG (iter_intList hl' fun s₂ e st hfp hlI => ?_)
  subst e
  refine ⟨_, _, _, _, _, _, numAt arr.toArray, rfl, Walks.list (A := A.in1) o.h _ l hlI (intItems arr.toArray), st, hfp, (fun _ _ => intItems_at), fun h' tk t' hk => ?_⟩
  have e1 : (numAt arr.toArray) = fun i => (arr.map (·.1)).getD i 0 := by
    funext i
    simp [numAt, List.getD_eq_getElem?_getD]
  have e : preSum (numAt arr.toArray) (intItems arr.toArray).size = sumN (arr.map (·.1)) := by
    rw [e1]; simp [sumN, intItems]
  rw [e]
  exact h _ _ (S.step (Stp.grow S.kp (old_kept hk) rfl rfl))
theorem minI {a b : Int} {t u : Tok} {j : Nat} (o : Ok A j) (S : St g0 s0 g L m mu (core s))
    (h : ∀ t s', St g0 s0 g L m mu (core s') → Q (.int (if b < a then b else a) t) s') : wpAny (model Pg w) A (call (.builtin "min") [.int a t, .int b u]) Q E s := by
  refine min_two_ints o.h fun h' tk hk => ?_
  have S' : St g0 s0 g L m mu (core { s with heap := h', toks := tk }) := S.step (Stp.grow S.kp hk rfl rfl)
  split
  · rename_i q
    have := h u _ S'
    rwa [if_pos q] at this
  · rename_i q
    have := h t _ S'
    rwa [if_neg q] at this
/-- every fourth number -/
theorem slFour {value slice : Expr} {l : Addr} {k : Int} {u u4 : Tok} {xs : List Int} {ops : List Value} (S : St g0 s0 g L m mu (core s)) (r : Rd g (.ref l) (.list (xs.map .int))) (hz : xs.length ≤ 1000)
    (h : ∀ a g' s', St g0 s0 g' L m mu (core s') → Kp g g' → Rd g' (.ref a) (.list ((pickNums xs (some k) none (some 4)).map .int)) → Q (.ref a) s')
    (hs : subscripted slice false (.ref l) (.ref s.heap.objs.size) = operate ops (getItem (.ref l) (.ref s.heap.objs.size)) := by with_unfolding_all rfl)
    (ht : ∀ r, letTemporaryGo value (.ref l) r = pure () := by intro _; with_unfolding_all rfl) :
    wpAny (model Pg w) A (subscriptTail value slice (.ref l) (.ref s.heap.objs.size)) Q E { s with heap := s.heap.push { cls := .type "slice", data := .fields #[.int k u, .none, .int 4 u4] } } :=
  slG S r (.int _ _) .none (.int _ _) (by decide) (fun vs hr => of_intsAre ((intsAre_of hr).pick _ _ _)) (by simp; omega) h hs ht
theorem eqvAll_refl : ∀ {tab : WL}, PyData.eqvAll (tab.map Mine.dT) (tab.map Mine.dT) = true
  | [] => rfl
  | e :: tab => by
    simp only [List.map_cons, PyData.eqvAll, eqvAll_refl (tab := tab), Bool.and_true]
    simp [Mine.dT, PyData.eqv, PyData.eqvAll]
theorem eqv_dS (p : Sta) : PyData.eqv (dS p) (dS p) = true := by
  simp [dS, PyData.eqv, PyData.eqvAll, eqvAll_refl]
theorem jl_all : ∀ {ls : List (List Nat)}, (∀ l ∈ ls, ∀ c ∈ l, c < 0x110000) → ∀ c ∈ jl ls, c < 0x110000
  | [], _, c, hc => nomatch hc
  | [x], h, c, hc => h x (.head _) c hc
  | x :: y :: r, h, c, hc => by
    rcases List.mem_append.mp (show c ∈ x ++ 47 :: jl (y :: r) from hc) with hc | hc
    · exact h x (.head _) c hc
    · rcases List.mem_cons.mp hc with rfl | hc
      · decide
      · exact jl_all (fun l hl => h l (.tail _ hl)) c hc
theorem textN_ok {ns : List Str} (h : Good ns) : PyData.strOk (textN ns) = true := by
  have e : ∀ c ∈ tl (textN ns), c < 0x110000 := by
    intro c hc
    rw [textN_eq, tl_Pt] at hc
    rcases List.mem_cons.mp hc with rfl | hc
    · decide
    · refine jl_all (fun l hl => ?_) c hc
      obtain ⟨y, hy, rfl⟩ := List.mem_map.mp hl
      rcases h.nm y hy with rfl | rfl <;> decide +kernel
  unfold PyData.strOk
  rw [Array.all_eq_true']
  intro c hc
  exact decide_eq_true (e c (Array.mem_toList_iff.mpr hc))
theorem canTab : ∀ {tab : WL}, (∀ e ∈ tab, Good e.1) → PyData.canLayAll0 (tab.map Mine.dT) = true
  | [], _ => rfl
  | e :: tab, h => by
    have h1 := textN_ok (h e (.head _))
    simp only [List.map_cons, PyData.canLayAll0, canTab (tab := tab) fun x hx => h x (.tail _ hx), Bool.and_true]
    simp [Mine.dT, PyData.canLay0, PyData.canLayAll0, h1]
theorem depTab : ∀ {tab : WL}, PyData.depthAll (tab.map Mine.dT) ≤ 1
  | [] => Nat.zero_le _
  | e :: tab => by
    have := depTab (tab := tab)
    simp only [List.map_cons, PyData.depthAll]
    simp [Mine.dT, PyData.depth, PyData.depthAll]
    omega
theorem shaped_dS {p : Sta} (h : Good p.ns) (ht : ∀ e ∈ p.tab, Good e.1) : SeqAt.shaped (dS p) = true := by
  have h1 := textN_ok h
  have h2 := canTab ht
  have h3 := depTab (tab := p.tab)
  unfold SeqAt.shaped dS
  simp only [PyData.canLay0, PyData.canLayAll0, h1, h2, PyData.depth, PyData.depthAll]
  simp
  omega
theorem neS {a b : Value} {p : Sta} {j : Nat} (S : St g0 s0 g L m mu (core s)) (ra : Rd g a (dS p)) (rb : Rd g b (dS p)) (o : Ok A j) (hp : Good p.ns) (ht : ∀ e ∈ p.tab, Good e.1)
    (h : Q (.bool false) s) : wpAny (model Pg w) A (compareOp .NotEq a b) Q E s :=
  neD ra rb o S (shaped_dS hp ht) (shaped_dS hp ht) (by rw [eqv_dS]; exact h)
theorem enterK {vs : List Value} {binds : List (Str × Value)} {x : Str} {R : Result → Shared → Prop} (G : Gnd mg mb fa dT mi g) {j : Nat} (k : Kp g s.heap) (ok : Ok A (j + 1))
    (hn : n ∈ defsN) (h3 : n ≠ 3)
    (hbind : ∀ kV doc pm an cdv ct, bindArgs (fnOf (nameOf (nth n)) (nameOf (nth n)) (parsOf (nth n)) (bodyOf (nth n)) (scopeOf (nth n)) .none kV doc pm an cdv ct) ⟨vs, []⟩ = pure binds)
    (hcs : ∀ a, cellsFrom a (scopeOf (nth n)).names [] = [(x, a)])
    (hkind : ∀ y ∈ binds, (scopeOf (nth n)).names.lookup y.1 = some .local ∨ ((scopeOf (nth n)).names.lookup y.1 = some .cell ∧ y.1 = x))
    (h : ∀ cd L c o s1, o.data = .cell (bindC (fun y => (scopeOf (nth n)).names.lookup y) binds (fun _ => none) x) →
      St g (core s) g L (bindL (fun y => (scopeOf (nth n)).names.lookup y) binds fun _ => none) [(c, o)] (core s1) → Ok (A.deeper (envC (nameOf (nth n)) (scopeOf (nth n)) L (fa n) cd [(x, c)])) j →
      wpAny (model Pg w) (A.deeper (envC (nameOf (nth n)) (scopeOf (nth n)) L (fa n) cd [(x, c)])) (execs (bodyOf (nth n)) (envC (nameOf (nth n)) (scopeOf (nth n)) L (fa n) cd [(x, c)])) (fun fl s' => R (.ok (.ret (retv fl))) s') Nv s1)
    (hco : (scopeOf (nth n)).isCoroutine = false := by rfl) (hgen : (scopeOf (nth n)).isGenerator = false := by rfl) (hk : (scopeOf (nth n)).kind = .function := by rfl) :
    codeAny (model Pg w) A (.call (.ref (fa n)) ⟨vs, []⟩) R s := by
  obtain ⟨_, o, kV, doc, pm, an, cdv, ct, h1, h2, h4⟩ := G.fn n hn
  rw [if_neg h3] at h2
  refine codeAny_call_cells ok.room (k _ _ h1) h2 (G.lim.keeps k) (h4.keeps k) rfl (hbind kV doc pm an cdv ct) rfl ?_ (fun s1 X => ?_) hco hgen hk
  · intro y hy
    rcases hkind y hy with h | ⟨h, e⟩
    · exact .inl h
    · refine .inr ⟨h, ?_⟩
      show ((cellsFrom (s.heap.objs.size + 1) (scopeOf (nth n)).names []).lookup y.1).isSome = true
      rw [hcs, e]; simp
  · have hcs' := hcs (s.heap.objs.size + 1)
    have hlk : (cellsFrom (s.heap.objs.size + 1) (scopeOf (nth n)).names []).lookup x = some (s.heap.objs.size + 1) := by rw [hcs']; simp
    obtain ⟨oc, hd, p1, p2, p3, p4⟩ := inC_cell k X hlk
    have B := inC_base k X
    have S : St g (core s) g s.heap.objs.size (bindL (fun y => (scopeOf (nth n)).names.lookup y) binds fun _ => none) [(s.heap.objs.size + 1, oc)] (core s1) :=
      { B with has := fun p hp => by rw [List.mem_singleton.mp hp]; exact ⟨p1, p2, p3, p4⟩, nodup := by simp }
    have := h cdv s.heap.objs.size (s.heap.objs.size + 1) oc s1 hd S ok.deeper
    simp only [callEnvC, newEnv]
    show wpAny (model Pg w) (A.deeper { scope := scopeOf (nth n), locals := s.heap.objs.size, globals := mainGlobals, cells := cellsFrom (s.heap.objs.size + 1) (scopeOf (nth n)).names [], qual := nameOf (nth n) ++ ".<locals>.", func := some (fa n), code := cdv, frame := some s.heap.objs.size, builtins := builtinsNs }) _ _ _ _
    rw [hcs']
    refine wpAny_mono this (fun fl s' hq => ?_) fun _ _ f => f.elim
    cases fl <;> exact hq
end

end
section
open PySem PySem.W PyProof.Rows PySem.Calls
set_option maxHeartbeats 400000
structure GoodS (p : Sta) : Prop where
  nm : Good p.ns
  le : p.ns.length ≤ 16
  tab : ∀ e ∈ p.tab, Good e.1
  tle : p.tab.length ≤ 8
theorem went_good {cs : List Int} (h : cs.length ≤ 8) : ∀ p ∈ (wentN cs).2, Good p.1 ∧ p.1.length ≤ 16 := fun p hp => by
  have := (wentN_len cs).2.2.2 p hp
  exact ⟨⟨this.2, by omega⟩, by omega⟩
theorem living_good {cs : List Int} (h : cs.length ≤ 8) : ∀ p ∈ livingN (wentN cs).2, Good p.1 ∧ p.1.length ≤ 16 := fun p hp => by
  obtain ⟨i, d, h1, _, _⟩ := livN_mem hp
  exact went_good h (p.1, d) (List.mem_of_getElem? h1)
theorem living_le {cs : List Int} (h : cs.length ≤ 8) : (livingN (wentN cs).2).length ≤ 8 := by
  have h1 := livN_len (went := (wentN cs).2) (k := (wentN cs).2.length)
  have h2 := (wentN_len cs).2.2.1
  show (livN (wentN cs).2 (wentN cs).2.length).length ≤ 8
  omega
theorem foldS_good {cs : List Int} (h : cs.length ≤ 8) : GoodS (foldS cs) := by
  rw [foldS_eq]
  have h1 := wentN_len cs
  exact ⟨⟨h1.2.1, by show (wentN cs).1.length ≤ 40; omega⟩, by show (wentN cs).1.length ≤ 16; omega, fun e he => (living_good h e he).1, living_le h⟩
theorem foldS_snoc (cs : List Int) (x : Int) : foldS (cs ++ [x]) = stepN (foldS cs) x := by simp [foldS]
def accF (pre rest : List Int) (i : Nat) : PyData := dS (foldS (pre ++ rest.take i))
theorem wentN_pre (a b : List Int) : (wentN (a ++ b)).2.take a.length = (wentN a).2 := by
  refine snoc_ind (P := fun b => (wentN (a ++ b)).2.take a.length = (wentN a).2) ?_ ?_ b
  · rw [List.append_nil, List.take_of_length_le (Nat.le_of_eq (wentN_len a).2.2.1)]
  · intro b x ih
    rw [← List.append_assoc, wentN_snoc]
    show ((wentN (a ++ b)).2 ++ _).take a.length = _
    rw [List.take_append_of_le_length (by rw [(wentN_len (a ++ b)).2.2.1]; simp), ih]
theorem wentN_take (cs : List Int) {k : Nat} (h : k ≤ cs.length) : (wentN cs).2.take k = (wentN (cs.take k)).2 := by
  have := wentN_pre (cs.take k) (cs.drop k)
  rw [List.take_append_drop, List.length_take, Nat.min_eq_left h] at this
  exact this
theorem cutN {n : Nat} (h : 0 < n) (x : Int) : ∃ k : Nat, 1 + x.fmod (n : Int) = (k : Int) ∧ 1 ≤ k ∧ k ≤ n := by
  have h1 : (0 : Int) < n := by omega
  have h2 : 0 ≤ x.fmod n := by rw [Int.fmod_eq_emod_of_nonneg _ (by omega)]; exact Int.emod_nonneg _ (by omega)
  have h3 : x.fmod n < n := by rw [Int.fmod_eq_emod_of_nonneg _ (by omega)]; exact Int.emod_lt_of_pos _ h1
  exact ⟨(1 + x.fmod n).toNat, by omega, by omega, by omega⟩
section
variable {mg mb : Str → Option Value} {fa : Nat → Addr} {dT mi : Addr} {w : World} {A : Around} {g g0 : Heap} {s : Shared} {s0 : Core} {Q : Value → Shared → Prop} {E : Value → Shared → Prop} {n : Nat}
  {env : Env} {L : Addr} {m : Str → Option Value} {mu : List (Addr × Obj)}
theorem step_acc {pre rest : List Int} (h : (pre ++ rest).length ≤ 8) {i : Nat} {e : PyData} (he : (rest.map PyData.int)[i]? = some e) {v ev : Value} (o : Ok A 14) (G : Gnd mg mb fa dT mi g) (k : Kp g s.heap)
    (rv : Rd g v (accF pre rest i)) (re : Rd g ev e) : Gives w A g s (.ref (fa 24)) [v, ev] (accF pre rest (i + 1)) := by
  rw [List.getElem?_map] at he
  obtain ⟨x, hx, rfl⟩ := Option.map_eq_some_iff.mp he
  obtain ⟨t, rfl⟩ := re.int_inv
  have hst : rest.take (i + 1) = rest.take i ++ [x] := by rw [List.take_add_one, hx]; rfl
  have hl : (pre ++ rest.take i).length ≤ 8 := by simp at h ⊢; omega
  have gs := foldS_good hl
  unfold accF at rv ⊢
  rw [hst, ← List.append_assoc, foldS_snoc]
  exact spec_step G k o gs.nm (by have := gs.le; omega) gs.tab (by have := gs.tle; omega) rv
theorem red_acc {pre rest : List Int} (h : (pre ++ rest).length ≤ 8) {sv v0 : Value} (G : Gnd mg mb fa dT mi g) (k : Kp g s.heap) (o : Ok A 15) (hs : Rd g sv (.list (rest.map .int))) (hv : Rd g v0 (dS (foldS pre))) :
    Gives w A g s (.ref (fa 3)) [.ref (fa 24), sv, v0] (dS (foldS (pre ++ rest))) := by
  have := spec_reduce (w := w) (n := 24) (sv := sv) (v0 := v0) (es := rest.map .int) (acc := accF pre rest) (j := 14) G k o (by decide) hs (by unfold accF; rw [List.take_zero, List.append_nil]; exact hv)
    fun i e he A' g' s' v ev oA G' k' rv re => step_acc h he oA G' k' rv re
  rw [List.length_map] at this
  unfold accF at this
  rwa [List.take_length] at this
theorem red2_acc {pre rest : List Int} (h : (pre ++ rest).length ≤ 8) {sv : Value} (G : Gnd mg mb fa dT mi g) (k : Kp g s.heap) (o : Ok A 15) (hs : Rd g sv (.list (dS (foldS pre) :: rest.map .int))) :
    Gives w A g s (.ref (fa 3)) [.ref (fa 24), sv] (dS (foldS (pre ++ rest))) := by
  have := spec_reduce2 (w := w) (n := 24) (sv := sv) (es := rest.map .int) (acc := fun i => accF pre rest (i - 1)) (j := 14) G k o (by decide) (by
      show Rd g sv (.list (accF pre rest 0 :: _))
      unfold accF; rw [List.take_zero, List.append_nil]; exact hs)
    fun i e hi he A' g' s' v ev oA G' k' rv re => by
      obtain ⟨i, rfl⟩ : ∃ i', i = i' + 1 := ⟨i - 1, by omega⟩
      exact step_acc h he oA G' k' rv re
  rw [List.length_map] at this
  simp only [Nat.add_sub_cancel] at this
  unfold accF at this
  rwa [List.take_length] at this
theorem due_acc {cs : List Int} (h1 : 1 ≤ cs.length) (h : cs.length ≤ 8) {wv : Value} (G : Gnd mg mb fa dT mi g) (k : Kp g s.heap) (o : Ok A 3) (r : Rd g wv (.list ((wentN cs).2.map dW))) :
    Gives w A g s (.ref (fa 30)) [wv] (dS (foldS cs)) := by
  rcases snoc_cases cs with rfl | ⟨l, x, rfl⟩
  · simp at h1
  have hg := went_good h
  have hlen := (wentN_len (l ++ [x])).2.2.1
  have e := foldS_eq (l ++ [x])
  rw [e]
  rw [wentN_snoc] at r hg hlen ⊢
  have hlen' : ((wentN l).2 ++ [(goN (wentN l).1 x, x.fmod 4)]).length = (l ++ [x]).length := hlen
  have := spec_due (w := w) (s := s) (A := A) G k o (w0 := (wentN l).2) (last := (goN (wentN l).1 x, x.fmod 4)) (by simp at h hlen'; omega) (fun p hp => (hg p hp).1) r
  rw [hlen'] at this
  exact this
end

end
section
open PySem PySem.W PyProof.Rows PySem.Calls
set_option maxHeartbeats 2000000
section
variable {mg mb : Str → Option Value} {fa : Nat → Addr} {dT mi : Addr} {w : World} {A : Around} {g g0 : Heap} {s : Shared} {s0 : Core} {Q : Value → Shared → Prop} {E : Value → Shared → Prop} {n : Nat}
  {env : Env} {L : Addr} {m : Str → Option Value} {mu : List (Addr × Obj)}
def sumsN (xs : List Int) (j : Nat) : List Int := (List.range j).map fun (k : Nat) => sumN (pickNums xs (some (k : Int)) none (some 4))
def comsN (xs : List Int) : List Int := [84, 45] ++ sumsN xs (min 4 xs.length) ++ [9, 52]
theorem law_code {R : Result → Shared → Prop} {sv : Value} {xs : List Int} (G : Gnd mg mb fa dT mi g) (k : Kp g s.heap) (o : Ok A 75) (hl : xs.length ≤ 63) (rs : Rd g sv (.list (xs.map .int)))
    (h : ∀ g' s', Stp g (core s) g' (core s') → R (.ok (.ret (.bool true))) s') : codeAny (model Pg w) A (.call (.ref (fa 33)) ⟨[sv], []⟩) R s := by
  have rs' := rs
  obtain ⟨sa, svs, rfl, _, _⟩ := rs'.list_inv
  refine enterK (x := Str.ofString "script") (binds := [(Str.ofString "script", .ref sa)]) G k o (by decide) (by decide) (fun kV doc pm an cdv ct => rfl) (fun a => rfl) (fun y hy => ?_) fun cd L c oc s1 hd S o' => ?_
  · rw [List.mem_singleton.mp hy]; exact .inr ⟨rfl, rfl⟩
  have hd : oc.data = .cell (some (.ref sa)) := hd
  refine wpAny_execs_cons ?_
  k_fold
  (repeat' (first | w_left | ((with_reducible show wpAny _ _ (newList _) _ _ _); refine' lstF (by first | with_reducible assumption | assumption) ?rds ?_; (case rds => walk_at "M.rds"); intro _ _ _ _ _ _; (try dsimp only)) | ((with_reducible show wpAny _ _ (binaryOp Operator.Add (Value.ref _) (Value.ref _)) _ _ _); refine addL (by first | with_reducible assumption | assumption) (by tb_rel) (by tb_rel) (by simp; omega) ?_; intro _ _ _ _ _ _; (try dsimp only)) | walk1 | (dsimp only; walk1)))
  rename_i a1 g1 s1 S1 K1 R1
  refine lcomp (fun j => (sumsN xs j).map .int) rfl S1 ?_
  have rs1 := rs.up K1
  (repeat' (first | w_left | ((with_reducible show wpAny _ _ (eval (Expr.Name _ _) _) _ _ _); refine ldC (by first | with_reducible assumption | assumption) (by exact rfl) (by exact rfl) (by walk_at "M.mem") (by first | with_reducible assumption | assumption) ?_) | ((with_reducible show wpAny _ _ (call (Value.builtin "len") _) _ _ _); refine lenL (by first | with_reducible assumption | assumption) (by tb_rel) (by simp; omega) ?_; intro _ _ _; (try dsimp only)) | ((with_reducible show wpAny _ _ (call (Value.builtin "min") _) _ _ _); refine minI (by first | with_reducible assumption | assumption) (by first | with_reducible assumption | assumption) ?_; intro _ _ _; (try dsimp only)) | walk1 | (dsimp only; walk1)))
  rename_i t2 s2 S2 t3 s3 S3
  have hmin : (if ((xs.map PyData.int).length : Int) < 4 then ((xs.map PyData.int).length : Int) else 4) = ((min 4 xs.length : Nat) : Int) := by
    rw [List.length_map]; split <;> omega
  rw [hmin]
  refine rangeF S3 (by omega) fun a4 g4 s4 S4 K4 I4 => ?_
  refine ⟨g4, min 4 xs.length, _, by omega, I4 _ _ _ o'.h, S4, ?_, ?_⟩
  · intro C oL hoL j D2 v g5 mc ps2 vals2 cc2 s5 hj kg2 hP S5
    obtain ⟨tj, rfl⟩ := hP
    have rs5 := rs.up (K1.trans (K4.trans kg2))
    refine wpAny_assign_Name (stL S5 rfl fun s6 S6 => ?_)
    show wpAny (model Pg w) _ (eval _ _) _ Nv _
    (repeat' (first | w_left | ((with_reducible show wpAny _ _ (eval (Expr.Name _ _) _) _ _ _); refine ldC (by first | with_reducible assumption | assumption) (by exact rfl) (by exact rfl) (by walk_at "M.mem") (by first | with_reducible assumption | assumption) ?_) | ((with_reducible show wpAny _ _ (call (Value.builtin "sum") _) _ _ _); refine sumL (by first | with_reducible assumption | assumption) (by first | with_reducible assumption | assumption) (by first | with_reducible assumption | assumption) ?_; intro _ _ _; (try dsimp only)) | walk1 | (dsimp only; walk1)))
    refine slFour (by first | with_reducible assumption | assumption) rs5 (by omega) fun a8 g8 s8 S8 K8 R8 => ?_
    (repeat' (first | w_left | ((with_reducible show wpAny _ _ (eval (Expr.Name _ _) _) _ _ _); refine ldC (by first | with_reducible assumption | assumption) (by exact rfl) (by exact rfl) (by walk_at "M.mem") (by first | with_reducible assumption | assumption) ?_) | ((with_reducible show wpAny _ _ (call (Value.builtin "sum") _) _ _ _); refine sumL (by first | with_reducible assumption | assumption) (by first | with_reducible assumption | assumption) (by first | with_reducible assumption | assumption) ?_; intro _ _ _; (try dsimp only)) | walk1 | (dsimp only; walk1)))
    rename_i t9 s9 S9
    refine ⟨g8, _, .int (sumN (pickNums xs (some (j : Int)) none (some 4))), K8, ?_, .int _ _, S9⟩
    simp [sumsN, List.range_succ]
  · intro r7 g7 s7 K7 S7 R7
    have hsl : (sumsN xs (min 4 xs.length)).length ≤ 4 := by simp [sumsN]; omega
    have R1b := R1.up (K4.trans K7)
    obtain ⟨r7, svs7, rfl, _, _⟩ := R7.list_inv
    (repeat' (first | w_left | ((with_reducible show wpAny _ _ (newList _) _ _ _); refine' lstF (by first | with_reducible assumption | assumption) ?rds ?_; (case rds => walk_at "M.rds"); intro _ _ _ _ _ _; (try dsimp only)) | ((with_reducible show wpAny _ _ (newTuple _) _ _ _); refine' tupF (by first | with_reducible assumption | assumption) ?rds ?_; (case rds => walk_at "M.rds"); intro _ _ _ _ _ _; (try dsimp only)) | ((with_reducible show wpAny _ _ (binaryOp Operator.Add (Value.ref _) (Value.ref _)) _ _ _); refine addL (by first | with_reducible assumption | assumption) (by tb_rel) (by tb_rel) (by simp; omega) ?_; intro _ _ _ _ _ _; (try dsimp only)) | ((with_reducible show wpAny _ _ (call (Value.builtin "len") _) _ _ _); refine lenL (by first | with_reducible assumption | assumption) (by tb_rel) (by simp; omega) ?_; intro _ _ _; (try dsimp only)) | walk1 | (dsimp only; walk1)))
    rename_i a10 g10 s10 S10 K10 R10 a11 g11 s11 S11 K11 R11 a12 g12 s12 S12 K12 R12 s13 S13 a14 g14 s14 S14 K14 R14 a15 g15 s15 S15 K15 R15 s16 S16
    obtain ⟨cs, hcs⟩ : ∃ cs, cs = comsN xs := ⟨_, rfl⟩
    have hc4 : 4 ≤ cs.length := by rw [hcs]; simp [comsN]
    have hc8 : cs.length ≤ 8 := by rw [hcs]; simp [comsN]; omega
    have Rc : Rd g15 (.ref a12) (.list (cs.map .int)) := by
      have := R12.up (K14.trans K15)
      rw [hcs]; unfold comsN; rw [List.map_append, List.map_append]; exact this
    have Rst : Rd g15 (.ref a15) (dS (foldS [])) := by
      have e : textN [] = Str.ofString "/" := by decide +kernel
      show Rd g15 (.ref a15) (.tuple [.str (textN []), .int 0, .list []])
      rw [e]; exact R15
    have rs15 : Rd g15 (.ref sa) (.list (xs.map .int)) := rs1.up (K4.trans (K7.trans (K10.trans (K11.trans (K12.trans (K14.trans K15))))))
    clear R1 R1b R10 R11 R12 R14 R15
    refine useG S16 (fun k => spec_went (G.up S16.base.kg) k (o'.le (by decide)) (by omega) Rc) fun rw17 g17 s17 S17 K17 R17 => ?_
    have Rc17 := Rc.up K17
    have Rst17 := Rst.up K17
    have rs17 := rs15.up K17
    (repeat' (first | w_left | ((with_reducible show wpAny _ _ (newList _) _ _ _); refine' lstF (by first | with_reducible assumption | assumption) ?rds ?_; (case rds => walk_at "M.rds"); intro _ _ _ _ _ _; (try dsimp only)) | ((with_reducible show wpAny _ _ (newTuple _) _ _ _); refine' tupF (by first | with_reducible assumption | assumption) ?rds ?_; (case rds => walk_at "M.rds"); intro _ _ _ _ _ _; (try dsimp only)) | ((with_reducible show wpAny _ _ (binaryOp Operator.Add (Value.ref _) (Value.ref _)) _ _ _); refine addL (by first | with_reducible assumption | assumption) (by tb_rel) (by tb_rel) (by simp; omega) ?_; intro _ _ _ _ _ _; (try dsimp only)) | ((with_reducible show wpAny _ _ (call (Value.builtin "len") _) _ _ _); refine lenL (by first | with_reducible assumption | assumption) (by tb_rel) (by simp; omega) ?_; intro _ _ _; (try dsimp only)) | walk1 | (dsimp only; walk1)))
    rename_i s17' S17'
    refine useG S17' (fun k => red_acc (pre := []) (rest := cs) (by simpa using hc8) (G.up S17'.base.kg) k (o'.le (by decide)) Rc17 Rst17) fun rw18 g18 s18 S18 K18 R18 => ?_
    rw [List.nil_append] at R18
    have Rc18 := Rc17.up K18
    have Rst18 := Rst17.up K18
    have rs18 := rs17.up K18
    have Rw18 := R17.up K18
    (repeat' (first | w_left | ((with_reducible show wpAny _ _ (eval (Expr.Name _ _) _) _ _ _); refine ldC (by first | with_reducible assumption | assumption) (by exact rfl) (by exact rfl) (by walk_at "M.mem") (by first | with_reducible assumption | assumption) ?_) | ((with_reducible show wpAny _ _ (call (Value.builtin "sum") _) _ _ _); refine sumL (by first | with_reducible assumption | assumption) (by first | with_reducible assumption | assumption) (by first | with_reducible assumption | assumption) ?_; intro _ _ _; (try dsimp only)) | walk1 | (dsimp only; walk1)))
    refine lenL (by first | with_reducible assumption | assumption) Rc18 (by simp; omega) ?_
    intro t19 s19 S19
    rw [List.length_map]
    obtain ⟨kc, hkc, hk1, hk2⟩ := cutN (show 0 < cs.length by omega) (sumN xs)
    have hne : ((cs.length : Nat) : Int) ≠ 0 := by omega
    (repeat' (first | w_left | ((with_reducible show wpAny _ _ (eval (Expr.Name _ _) _) _ _ _); refine ldC (by first | with_reducible assumption | assumption) (by exact rfl) (by exact rfl) (by walk_at "M.mem") (by first | with_reducible assumption | assumption) ?_) | ((with_reducible show wpAny _ _ (call (Value.builtin "sum") _) _ _ _); refine sumL (by first | with_reducible assumption | assumption) (by first | with_reducible assumption | assumption) (by first | with_reducible assumption | assumption) ?_; intro _ _ _; (try dsimp only)) | walk1 | (dsimp only; walk1)))
    have hlk : (cs.take kc).length = kc := by simp; omega
    have gs := foldS_good hc8
    have gk := foldS_good (cs := cs.take kc) (by omega)
    refine slTakeE (k := kc) (by first | with_reducible assumption | assumption) Rc18 hkc (by simp; omega) fun a20 g20 s20 S20 K20 R20 => ?_
    rw [← List.map_take] at R20
    have Rst20 := Rst18.up K20
    have Rc20 := Rc18.up K20
    have Rw20 := Rw18.up K20
    have R18' := R18.up K20
    (repeat' (first | w_left | ((with_reducible show wpAny _ _ (eval (Expr.Name _ _) _) _ _ _); refine ldC (by first | with_reducible assumption | assumption) (by exact rfl) (by exact rfl) (by walk_at "M.mem") (by first | with_reducible assumption | assumption) ?_) | ((with_reducible show wpAny _ _ (call (Value.builtin "sum") _) _ _ _); refine sumL (by first | with_reducible assumption | assumption) (by first | with_reducible assumption | assumption) (by first | with_reducible assumption | assumption) ?_; intro _ _ _; (try dsimp only)) | walk1 | (dsimp only; walk1)))
    refine useG S20 (fun k => red_acc (pre := []) (rest := cs.take kc) (by simp; omega) (G.up S20.base.kg) k (o'.le (by decide)) R20 Rst20) fun rw21 g21 s21 S21 K21 R21 => ?_
    rw [List.nil_append] at R21
    have Rc21 := Rc20.up K21
    have Rw21 := Rw20.up K21
    have R18a := R18'.up K21
    (repeat' (first | w_left | ((with_reducible show wpAny _ _ (eval (Expr.Name _ _) _) _ _ _); refine ldC (by first | with_reducible assumption | assumption) (by exact rfl) (by exact rfl) (by walk_at "M.mem") (by first | with_reducible assumption | assumption) ?_) | ((with_reducible show wpAny _ _ (call (Value.builtin "sum") _) _ _ _); refine sumL (by first | with_reducible assumption | assumption) (by first | with_reducible assumption | assumption) (by first | with_reducible assumption | assumption) ?_; intro _ _ _; (try dsimp only)) | walk1 | (dsimp only; walk1)))
    rename_i s21' S21'
    refine useG S21' (fun k => due_acc (by omega) hc8 (G.up S21'.base.kg) k (o'.le (by decide)) Rw21) fun rw22 g22 s22 S22 K22 R22 => ?_
    have Rc22 := Rc21.up K22
    have Rw22 := Rw21.up K22
    have R18b := R18a.up K22
    have R21b := R21.up K22
    (repeat' (first | w_left | ((with_reducible show wpAny _ _ (eval (Expr.Name _ _) _) _ _ _); refine ldC (by first | with_reducible assumption | assumption) (by exact rfl) (by exact rfl) (by walk_at "M.mem") (by first | with_reducible assumption | assumption) ?_) | ((with_reducible show wpAny _ _ (call (Value.builtin "sum") _) _ _ _); refine sumL (by first | with_reducible assumption | assumption) (by first | with_reducible assumption | assumption) (by first | with_reducible assumption | assumption) ?_; intro _ _ _; (try dsimp only)) | walk1 | (dsimp only; walk1)))
    refine neS S22 R18b R22 o' gs.nm gs.tab ?_
    obtain ⟨wa22, wvs22, rfl, _, _⟩ := id Rw22.list_inv
    (repeat' (first | w_left | ((with_reducible show wpAny _ _ (eval (Expr.Name _ _) _) _ _ _); refine ldC (by first | with_reducible assumption | assumption) (by exact rfl) (by exact rfl) (by walk_at "M.mem") (by first | with_reducible assumption | assumption) ?_) | ((with_reducible show wpAny _ _ (call (Value.builtin "sum") _) _ _ _); refine sumL (by first | with_reducible assumption | assumption) (by first | with_reducible assumption | assumption) (by first | with_reducible assumption | assumption) ?_; intro _ _ _; (try dsimp only)) | walk1 | (dsimp only; walk1)))
    refine slTakeE (k := kc) (by first | with_reducible assumption | assumption) Rw22 hkc (by simp; have := (wentN_len cs).2.2.1; omega) fun a23 g23 s23 S23 K23 R23 => ?_
    rw [← List.map_take, wentN_take cs hk2] at R23
    (repeat' (first | w_left | ((with_reducible show wpAny _ _ (eval (Expr.Name _ _) _) _ _ _); refine ldC (by first | with_reducible assumption | assumption) (by exact rfl) (by exact rfl) (by walk_at "M.mem") (by first | with_reducible assumption | assumption) ?_) | ((with_reducible show wpAny _ _ (call (Value.builtin "sum") _) _ _ _); refine sumL (by first | with_reducible assumption | assumption) (by first | with_reducible assumption | assumption) (by first | with_reducible assumption | assumption) ?_; intro _ _ _; (try dsimp only)) | walk1 | (dsimp only; walk1)))
    refine useG S23 (fun k => due_acc (cs := cs.take kc) (by omega) (by omega) (G.up S23.base.kg) k (o'.le (by decide)) R23) fun rw24 g24 s24 S24 K24 R24 => ?_
    have Rc24 := Rc22.up (K23.trans K24)
    have Rw24 := Rw22.up (K23.trans K24)
    have R18c := R18b.up (K23.trans K24)
    have R21c := R21b.up (K23.trans K24)
    (repeat' (first | w_left | ((with_reducible show wpAny _ _ (eval (Expr.Name _ _) _) _ _ _); refine ldC (by first | with_reducible assumption | assumption) (by exact rfl) (by exact rfl) (by walk_at "M.mem") (by first | with_reducible assumption | assumption) ?_) | ((with_reducible show wpAny _ _ (call (Value.builtin "sum") _) _ _ _); refine sumL (by first | with_reducible assumption | assumption) (by first | with_reducible assumption | assumption) (by first | with_reducible assumption | assumption) ?_; intro _ _ _; (try dsimp only)) | walk1 | (dsimp only; walk1)))
    refine neS S24 R21c R24 o' gk.nm gk.tab ?_
    (repeat' (first | w_left | ((with_reducible show wpAny _ _ (eval (Expr.Name _ _) _) _ _ _); refine ldC (by first | with_reducible assumption | assumption) (by exact rfl) (by exact rfl) (by walk_at "M.mem") (by first | with_reducible assumption | assumption) ?_) | ((with_reducible show wpAny _ _ (call (Value.builtin "sum") _) _ _ _); refine sumL (by first | with_reducible assumption | assumption) (by first | with_reducible assumption | assumption) (by first | with_reducible assumption | assumption) ?_; intro _ _ _; (try dsimp only)) | walk1 | (dsimp only; walk1)))
    refine slFromE (k := kc) (by first | with_reducible assumption | assumption) Rc24 hkc (by simp; omega) fun a25 g25 s25 S25 K25 R25 => ?_
    rw [← List.map_drop] at R25
    have hap : (cs.take kc ++ cs.drop kc).length ≤ 8 := by rw [List.take_append_drop]; exact hc8
    have Rc25 := Rc24.up K25
    have Rw25 := Rw24.up K25
    have R18d := R18c.up K25
    have R21d := R21c.up K25
    (repeat' (first | w_left | ((with_reducible show wpAny _ _ (eval (Expr.Name _ _) _) _ _ _); refine ldC (by first | with_reducible assumption | assumption) (by exact rfl) (by exact rfl) (by walk_at "M.mem") (by first | with_reducible assumption | assumption) ?_) | ((with_reducible show wpAny _ _ (call (Value.builtin "sum") _) _ _ _); refine sumL (by first | with_reducible assumption | assumption) (by first | with_reducible assumption | assumption) (by first | with_reducible assumption | assumption) ?_; intro _ _ _; (try dsimp only)) | walk1 | (dsimp only; walk1)))
    refine useG S25 (fun k => red_acc (pre := cs.take kc) (rest := cs.drop kc) hap (G.up S25.base.kg) k (o'.le (by decide)) R25 R21d) fun rw26 g26 s26 S26 K26 R26 => ?_
    rw [List.take_append_drop] at R26
    have Rc26 := Rc25.up K26
    have Rw26 := Rw25.up K26
    have R18e := R18d.up K26
    have R21e := R21d.up K26
    (repeat' (first | w_left | ((with_reducible show wpAny _ _ (eval (Expr.Name _ _) _) _ _ _); refine ldC (by first | with_reducible assumption | assumption) (by exact rfl) (by exact rfl) (by walk_at "M.mem") (by first | with_reducible assumption | assumption) ?_) | ((with_reducible show wpAny _ _ (call (Value.builtin "sum") _) _ _ _); refine sumL (by first | with_reducible assumption | assumption) (by first | with_reducible assumption | assumption) (by first | with_reducible assumption | assumption) ?_; intro _ _ _; (try dsimp only)) | walk1 | (dsimp only; walk1)))
    refine neS S26 R26 R18e o' gs.nm gs.tab ?_
    (repeat' (first | w_left | ((with_reducible show wpAny _ _ (eval (Expr.Name _ _) _) _ _ _); refine ldC (by first | with_reducible assumption | assumption) (by exact rfl) (by exact rfl) (by walk_at "M.mem") (by first | with_reducible assumption | assumption) ?_) | ((with_reducible show wpAny _ _ (call (Value.builtin "sum") _) _ _ _); refine sumL (by first | with_reducible assumption | assumption) (by first | with_reducible assumption | assumption) (by first | with_reducible assumption | assumption) ?_; intro _ _ _; (try dsimp only)) | walk1 | (dsimp only; walk1)))
    refine lstF (by first | with_reducible assumption | assumption) (.cons R21e .nil) fun a27 g27 s27 S27 K27 R27 => ?_
    have Rc27 := Rc26.up K27
    have Rw27 := Rw26.up K27
    have R18f := R18e.up K27
    (repeat' (first | w_left | ((with_reducible show wpAny _ _ (eval (Expr.Name _ _) _) _ _ _); refine ldC (by first | with_reducible assumption | assumption) (by exact rfl) (by exact rfl) (by walk_at "M.mem") (by first | with_reducible assumption | assumption) ?_) | ((with_reducible show wpAny _ _ (call (Value.builtin "sum") _) _ _ _); refine sumL (by first | with_reducible assumption | assumption) (by first | with_reducible assumption | assumption) (by first | with_reducible assumption | assumption) ?_; intro _ _ _; (try dsimp only)) | walk1 | (dsimp only; walk1)))
    refine slFromE (k := kc) (by first | with_reducible assumption | assumption) Rc27 hkc (by simp; omega) fun a28 g28 s28 S28 K28 R28 => ?_
    rw [← List.map_drop] at R28
    (repeat' (first | w_left | ((with_reducible show wpAny _ _ (eval (Expr.Name _ _) _) _ _ _); refine ldC (by first | with_reducible assumption | assumption) (by exact rfl) (by exact rfl) (by walk_at "M.mem") (by first | with_reducible assumption | assumption) ?_) | ((with_reducible show wpAny _ _ (call (Value.builtin "sum") _) _ _ _); refine sumL (by first | with_reducible assumption | assumption) (by first | with_reducible assumption | assumption) (by first | with_reducible assumption | assumption) ?_; intro _ _ _; (try dsimp only)) | walk1 | (dsimp only; walk1)))
    refine addL S28 (R27.up K28) R28 (by simp; omega) fun a29 g29 s29 S29 K29 R29 => ?_
    (repeat' (first | w_left | ((with_reducible show wpAny _ _ (eval (Expr.Name _ _) _) _ _ _); refine ldC (by first | with_reducible assumption | assumption) (by exact rfl) (by exact rfl) (by walk_at "M.mem") (by first | with_reducible assumption | assumption) ?_) | ((with_reducible show wpAny _ _ (call (Value.builtin "sum") _) _ _ _); refine sumL (by first | with_reducible assumption | assumption) (by first | with_reducible assumption | assumption) (by first | with_reducible assumption | assumption) ?_; intro _ _ _; (try dsimp only)) | walk1 | (dsimp only; walk1)))
    refine useG S29 (fun k => red2_acc (pre := cs.take kc) (rest := cs.drop kc) hap (G.up S29.base.kg) k (o'.le (by decide)) R29) fun rw30 g30 s30 S30 K30 R30 => ?_
    rw [List.take_append_drop] at R30
    have R18g := R18f.up (K28.trans (K29.trans K30))
    have Rw30 := Rw27.up (K28.trans (K29.trans K30))
    (repeat' (first | w_left | ((with_reducible show wpAny _ _ (eval (Expr.Name _ _) _) _ _ _); refine ldC (by first | with_reducible assumption | assumption) (by exact rfl) (by exact rfl) (by walk_at "M.mem") (by first | with_reducible assumption | assumption) ?_) | ((with_reducible show wpAny _ _ (call (Value.builtin "sum") _) _ _ _); refine sumL (by first | with_reducible assumption | assumption) (by first | with_reducible assumption | assumption) (by first | with_reducible assumption | assumption) ?_; intro _ _ _; (try dsimp only)) | walk1 | (dsimp only; walk1)))
    refine neS S30 R30 R18g o' gs.nm gs.tab ?_
    (repeat' (first | w_left | ((with_reducible show wpAny _ _ (eval (Expr.Name _ _) _) _ _ _); refine ldC (by first | with_reducible assumption | assumption) (by exact rfl) (by exact rfl) (by walk_at "M.mem") (by first | with_reducible assumption | assumption) ?_) | ((with_reducible show wpAny _ _ (call (Value.builtin "sum") _) _ _ _); refine sumL (by first | with_reducible assumption | assumption) (by first | with_reducible assumption | assumption) (by first | with_reducible assumption | assumption) ?_; intro _ _ _; (try dsimp only)) | walk1 | (dsimp only; walk1)))
    have R18h : Rd g30 rw18 (.tuple [.str (textN (foldS cs).ns), .int (foldS cs).ct, .list ((foldS cs).tab.map Mine.dT)]) := R18g
    obtain ⟨wh, whs, rfl, _, _⟩ := id R18h.tuple_inv
    refine itT S30 R18h (by decide) (by simp) (by simp) rfl fun v31 R31 => ?_
    (repeat' (first | w_left | ((with_reducible show wpAny _ _ (eval (Expr.Name _ _) _) _ _ _); refine ldC (by first | with_reducible assumption | assumption) (by exact rfl) (by exact rfl) (by walk_at "M.mem") (by first | with_reducible assumption | assumption) ?_) | ((with_reducible show wpAny _ _ (call (Value.builtin "sum") _) _ _ _); refine sumL (by first | with_reducible assumption | assumption) (by first | with_reducible assumption | assumption) (by first | with_reducible assumption | assumption) ?_; intro _ _ _; (try dsimp only)) | walk1 | (dsimp only; walk1)))
    have et : (foldS cs).tab = livingN (wentN cs).2 := by rw [foldS_eq]
    rw [et] at R31
    have wl := (wentN_len cs).2.2.1
    refine useG S30 (fun k => spec_climbs (G.up S30.base.kg) k (o'.le (by decide)) (by omega) (fun p hp => ⟨(went_good hc8 p hp).1, by have := (went_good hc8 p hp).2; omega⟩) (fun p hp => (living_good hc8 p hp).1) (by have := living_le hc8; omega)
      (fun p _ asked _ => found_near (living_nodup _) asked) Rw30 R31) fun r32 g32 s32 S32 K32 R32 => ?_
    obtain rfl := R32.bool_inv
    (repeat' (first | w_left | ((with_reducible show wpAny _ _ (eval (Expr.Name _ _) _) _ _ _); refine ldC (by first | with_reducible assumption | assumption) (by exact rfl) (by exact rfl) (by walk_at "M.mem") (by first | with_reducible assumption | assumption) ?_) | ((with_reducible show wpAny _ _ (call (Value.builtin "sum") _) _ _ _); refine sumL (by first | with_reducible assumption | assumption) (by first | with_reducible assumption | assumption) (by first | with_reducible assumption | assumption) ?_; intro _ _ _; (try dsimp only)) | walk1 | (dsimp only; walk1)))
    exact h _ _ S32.base
end

end
section
open PySem PySem.W PyProof.Rows PySem.Calls
set_option maxHeartbeats 8000000
/-! the top: the objects that the law's ground reads (KsP), the look at the law (lawHd), the run of the text (left: one step of the kernel, on the quick twins) -/
def nthP (p : Program) (n : Nat) : Stmt := (p.main.body[n]?).getD (.Pass ⟨0, 0, 0, 0⟩)
def ent (P : Params) (x : Str) (t : Nat) (v : Value) : DictEntry := ⟨PyData.keyHash P x, .str x t, v⟩
def co (p : Program) (n t1 t2 t3 line argc fl r1 r2 : Nat) (v1 v2 : Value) (r3 t4 t5 : Nat) : Obj := ⟨.type "code", none, .fields #[.str (nameOf (nthP p n)) t1, .str (nameOf (nthP p n)) t2, .str (Str.ofString "/claim/cut.py") t3, .int (Int.ofNat line) 0, .int (Int.ofNat argc) 0, .int 0 0, .int 0 0, .int (Int.ofNat fl) 0, .ref r1, .bool true, .int 181 0, .ref r2, .none, v1, v2, .ref r3, .int (Int.ofNat t4) 0, .int (Int.ofNat line) 0, .str (Str.ofString "/claim/cut.py") t5], #[]⟩
def fo (p : Program) (n : Nat) (df pm : Value) (c : Nat) : Obj := ⟨.type "function", none, .func (fnOf (nameOf (nthP p n)) (nameOf (nthP p n)) (parsOf (nthP p n)) (bodyOf (nthP p n)) (scopeOf (nthP p n)) df .none .none pm none (.ref c) .none), #[]⟩
def dct (p : Program) (P : Params) : Obj := ⟨.type "dict", none, .dict #[ent P (Str.ofString "__name__") 165 (.str (Str.ofString "law_pd0011_01") 381), ent P (Str.ofString "__doc__") 166 (.none), ent P (Str.ofString "__package__") 167 (.none), ent P (Str.ofString "__loader__") 168 (.builtin "__main__.__loader__#opaque"), ent P (Str.ofString "__spec__") 169 (.none), ent P (Str.ofString "__annotations__") 170 (.ref 6), ent P (Str.ofString "__builtins__") 171 (.ref 4), ent P (Str.ofString "__file__") 173 (.str (Str.ofString "/claim/cut.py") 172), ent P (Str.ofString "__cached__") 174 (.none), ent P (Str.ofString "_wall") 193 (.ref 21), ent P (Str.ofString "_initial_missing") 196 (.ref 22), ent P (nameOf (nthP p 3)) 208 (.ref 30), ent P (Str.ofString "_plain_name") 219 (.ref 37), ent P (Str.ofString "ABCMeta") 245 (.ref 54), ent P (Str.ofString "_ABCLike") 288 (.ref 87), ent P (Str.ofString "_abc_plain_meta") 295 (.ref 96), ent P (nameOf (nthP p 12)) 307 (.ref 103), ent P (Str.ofString "_check_arg_types") 320 (.ref 110), ent P (nameOf (nthP p 16)) 329 (.ref 117), ent P (nameOf (nthP p 17)) 340 (.ref 124), ent P (nameOf (nthP p 18)) 349 (.ref 131), ent P (nameOf (nthP p 19)) 359 (.ref 138), ent P (nameOf (nthP p 20)) 374 (.ref 145), ent P (nameOf (nthP p 21)) 380 (.ref 150), ent P (nameOf (nthP p 23)) 390 (.ref 157), ent P (nameOf (nthP p 24)) 405 (.ref 164), ent P (nameOf (nthP p 25)) 411 (.ref 169), ent P (nameOf (nthP p 26)) 419 (.ref 176), ent P (nameOf (nthP p 27)) 430 (.ref 183), ent P (nameOf (nthP p 28)) 436 (.ref 188), ent P (nameOf (nthP p 29)) 443 (.ref 195), ent P (nameOf (nthP p 30)) 449 (.ref 200), ent P (nameOf (nthP p 31)) 455 (.ref 205), ent P (nameOf (nthP p 32)) 467 (.ref 212), ent P (nameOf (nthP p 33)) 473 (.ref 217)] 35, #[]⟩
def KsP (p : Program) (P : Params) : Frag := [(3, dct p P), (22, ⟨.type "object", none, .plain, #[]⟩), (23, ⟨.type "tuple", none, .seq #[.ref 22] 0, #[]⟩), (29, co p 3 197 198 199 6 3 3 24 25 (.ref 26) (.ref 27) 28 206 207), (30, fo p 3 (.ref 23) (.str (Str.ofString "cpy313.functools") 194) 29), (102, co p 12 298 299 300 49 1 3 97 98 (.ref 99) (.ref 100) 101 305 306), (103, fo p 12 (.none) (.str (Str.ofString "os") 296) 102), (116, co p 16 323 324 325 78 1 3 111 112 (.ref 113) (.ref 114) 115 327 328), (117, fo p 16 (.none) (.str (Str.ofString "cpy313.posixpath") 321) 116), (123, co p 17 330 331 332 83 1 7 118 119 (.ref 120) (.ref 121) 122 338 339), (124, fo p 17 (.none) (.str (Str.ofString "cpy313.posixpath") 321) 123), (130, co p 18 341 342 343 100 1 3 125 126 (.ref 127) (.ref 128) 129 347 348), (131, fo p 18 (.none) (.str (Str.ofString "cpy313.posixpath") 321) 130), (137, co p 19 350 351 352 114 1 3 132 133 (.ref 134) (.ref 135) 136 357 358), (138, fo p 19 (.none) (.str (Str.ofString "cpy313.posixpath") 321) 137), (144, co p 20 360 361 362 122 1 3 139 140 (.ref 141) (.ref 142) 143 372 373), (145, fo p 20 (.none) (.str (Str.ofString "cpy313.posixpath") 321) 144), (149, co p 21 375 376 377 147 1 3 146 147 (.none) (.none) 148 378 379), (150, fo p 21 (.none) (.str (Str.ofString "cpy313.posixpath") 321) 149), (156, co p 23 383 384 385 177 1 3 151 152 (.ref 153) (.ref 154) 155 388 389), (157, fo p 23 (.none) (.str (Str.ofString "law_pd0011_01") 381) 156), (163, co p 24 391 392 393 180 2 3 158 159 (.ref 160) (.ref 161) 162 403 404), (164, fo p 24 (.none) (.str (Str.ofString "law_pd0011_01") 381) 163), (168, co p 25 406 407 408 190 2 3 165 166 (.none) (.none) 167 409 410), (169, fo p 25 (.none) (.str (Str.ofString "law_pd0011_01") 381) 168), (175, co p 26 412 413 414 195 2 3 170 171 (.ref 172) (.ref 173) 174 417 418), (176, fo p 26 (.none) (.str (Str.ofString "law_pd0011_01") 381) 175), (182, co p 27 420 421 422 205 1 3 177 178 (.ref 179) (.ref 180) 181 428 429), (183, fo p 27 (.none) (.str (Str.ofString "law_pd0011_01") 381) 182), (187, co p 28 431 432 433 213 1 3 184 185 (.none) (.none) 186 434 435), (188, fo p 28 (.none) (.str (Str.ofString "law_pd0011_01") 381) 187), (194, co p 29 437 438 439 221 1 3 189 190 (.ref 191) (.ref 192) 193 441 442), (195, fo p 29 (.none) (.str (Str.ofString "law_pd0011_01") 381) 194), (199, co p 30 444 445 446 223 1 3 196 197 (.none) (.none) 198 447 448), (200, fo p 30 (.none) (.str (Str.ofString "law_pd0011_01") 381) 199), (204, co p 31 450 451 452 225 2 3 201 202 (.none) (.none) 203 453 454), (205, fo p 31 (.none) (.str (Str.ofString "law_pd0011_01") 381) 204), (211, co p 32 456 457 458 228 2 3 206 207 (.ref 208) (.ref 209) 210 465 466), (212, fo p 32 (.none) (.str (Str.ofString "law_pd0011_01") 381) 211), (216, co p 33 468 469 470 235 1 3 213 214 (.none) (.none) 215 471 472), (217, fo p 33 (.none) (.str (Str.ofString "law_pd0011_01") 381) 216)]
def Kas : List Addr := [3, 22, 23, 29, 30, 102, 103, 116, 117, 123, 124, 130, 131, 137, 138, 144, 145, 149, 150, 156, 157, 163, 164, 168, 169, 175, 176, 182, 183, 187, 188, 194, 195, 199, 200, 204, 205, 211, 212, 216, 217]

def qP (p : Program) : Program := { p with main := { p.main with body := [nthP p 33] } }
def q : Program := qP Pg
def loose : List Str := [Str.ofString "_wall", Str.ofString "_initial_missing", Str.ofString "reduce", Str.ofString "_plain_name", Str.ofString "ABCMeta", Str.ofString "_ABCLike", Str.ofString "_abc_plain_meta", Str.ofString "fspath", Str.ofString "_check_arg_types", Str.ofString "_get_sep", Str.ofString "join", Str.ofString "splitroot", Str.ofString "dirname", Str.ofString "normpath", Str.ofString "commonpath", Str.ofString "_law_pieces", Str.ofString "_law_step", Str.ofString "_law_found", Str.ofString "_law_gone", Str.ofString "_law_went", Str.ofString "_law_living", Str.ofString "_law_text", Str.ofString "_law_due", Str.ofString "_law_nearest", Str.ofString "_law_climbs"]
def Ks (P : Params) : Frag := KsP Pg P
abbrev H : Hook := kHook Ks Kas (fun _ => rfl)
abbrev rr : RowW := PySem.Challenge.rw_pd0011_01.row.toRowW

theorem lawHd (h : PySem.Challenge.rw_pd0011_01.row.wellSaid = true → PySem.Challenge.rw_pd0011_01.row.Holds) : PySem.Challenge.rw_pd0011_01.Holds := by
  o_law
  exact h (by first | with_reducible assumption | assumption)
theorem left : LeftO Pg q loose (fun s => xlAt q [] s && recOk (RowW.records rr) s) H.obs H.val 2762 := by
  intro w
  unfold openEnds fencedOpening topFrom
  show Option.map (fun s => (openSeen (qP Pg) loose (importedModules Pg.main.body) (fun s => xlAt (qP Pg) [] s && recOk (RowW.records rr) s) true s, Kas.map s.heap.get?)) _ = some (openGood (qP Pg) loose, (KsP Pg w.params).map fun p => some p.2)
  simp only [PySem.W.Fast.te10274390034422433532, PySem.W.Fast.te1435165496053646825, PySem.W.Fast.te14289696077712309145, PySem.W.Fast.te14082659384304107361, PySem.W.Fast.te5923862056798008813, PySem.W.Fast.te14364793385576792824, PySem.W.Fast.te8920871248978507458, PySem.W.Fast.te4187177175401517315, PySem.W.Fast.te18094573984592444892]
  kernel_rfl

end
section


open PySem PySem.W PyProof.Rows PySem.Calls
set_option maxHeartbeats 400000
/-! the ground, from the part that the top has laid -/
def faT (n : Nat) : Addr := (([(3, 30), (12, 103), (16, 117), (17, 124), (18, 131), (19, 138), (20, 145), (21, 150), (23, 157), (24, 164), (25, 169), (26, 176), (27, 183), (28, 188), (29, 195), (30, 200), (31, 205), (32, 212), (33, 217)] : List (Nat × Nat)).lookup n).getD 0
def obOf (K : Frag) (a : Addr) : Obj := (K.lookup a).getD gone
def fdOf (K : Frag) (a : Addr) : FuncData := match (obOf K a).data with
  | .func f => f
  | _ => fnOf Str.empty Str.empty ⟨[], [], none, [], [], none, []⟩ [] ⟨.function, [], false, false, []⟩ .none .none .none .none none .none .none
def FnAt (K : Frag) (n : Nat) : Prop :=
  nsIn K mainGlobals (nameOf (nth n)) = some (some (.ref (faT n))) ∧ K.lookup (faT n) = some (obOf K (faT n)) ∧
  (obOf K (faT n)).data = .func (fnOf (nameOf (nth n)) (nameOf (nth n)) (parsOf (nth n)) (bodyOf (nth n)) (scopeOf (nth n)) (if n = 3 then .ref 23 else .none) (fdOf K (faT n)).kwdefaults (fdOf K (faT n)).doc (fdOf K (faT n)).pyModule (fdOf K (faT n)).annotations (fdOf K (faT n)).code (fdOf K (faT n)).closureTuple) ∧
  codeIn K (fdOf K (faT n)).code (nameOf (nth n)) = true
theorem fnAts (P : Params) : ∀ n ∈ defsN, FnAt (Ks P) n := by
  simp only [defsN, List.forall_mem_cons]
  refine ⟨?_, ?_, ?_, ?_, ?_, ?_, ?_, ?_, ?_, ?_, ?_, ?_, ?_, ?_, ?_, ?_, ?_, ?_, ?_, fun _ h => nomatch h⟩
  all_goals exact ⟨by kernel_rfl, by kernel_rfl, by kernel_rfl, by kernel_rfl⟩
def freeAll (K : Frag) : Bool := bnames.all fun x => match nsIn K mainGlobals x with | some none => true | _ => false
theorem frees (P : Params) : freeAll (Ks P) = true := by kernel_rfl
theorem gnd_of {P : Params} {h : Heap} {mg mb : Str → Option Value} (X : (Ks P).In h) (tg : h.Ns mainGlobals mg) (tb : h.Ns builtinsNs mb) (tl : h.NoLimit) (tbi : ∀ x : Str, x ≠ "__name__" → mb x = bootBuiltins x) :
    Gnd mg mb faT 23 22 h where
  ng := tg
  nb := tb
  bi := tbi
  lim := tl
  fn := fun n hn => by
    obtain ⟨h1, h2, h3, h4⟩ := fnAts P n hn
    exact ⟨mg_of X tg h1, _, _, _, _, _, _, _, X _ _ h2, h3, codeRec_of X h4⟩
  free := fun x hx => by
    have := List.all_eq_true.mp (frees P) x hx
    refine mg_none_of X tg ?_
    revert this
    cases nsIn (Ks P) mainGlobals x with
    | none => intro e; cases e
    | some v => cases v with
      | none => intro _; rfl
      | some v => intro e; cases e
  miss := mg_of X tg (show nsIn (Ks P) mainGlobals "_initial_missing" = some (some (.ref 22)) from by kernel_rfl)
  dflt := ⟨obOf (Ks P) 23, (match (obOf (Ks P) 23).data with | .seq _ n => n | _ => 0), X _ _ (show (Ks P).lookup 23 = some (obOf (Ks P) 23) from by kernel_rfl), by kernel_rfl⟩
  missO := ⟨obOf (Ks P) 22, X _ _ (show (Ks P).lookup 22 = some (obOf (Ks P) 22) from by kernel_rfl), by kernel_rfl⟩
theorem law_name : nameOf (nth 33) = Str.ofString "law" := by kernel_rfl
theorem fa_of {mg mb : Str → Option Value} {dT mi : Addr} {g : Heap} {a : Addr} (GG : Gnd mg mb faT dT mi g) (h : mg (Str.ofString "law") = some (.ref a)) : a = faT 33 := by
  have h1 := (GG.fn 33 (by decide)).1
  rw [law_name] at h1
  have e := h.symm.trans h1
  injection e with e
  injection e

end
end Mine
open PySem PySem.W PyProof.Rows
set_option maxRecDepth 100000 in
set_option maxHeartbeats 8000000 in
theorem PySem.Challenge.cw_pd0011_01_holds : PySem.Challenge.rw_pd0011_01.Holds := by
  w_on
  refine Mine.lawHd fun said => ?_
  refine holds_open (q := Mine.q) (loose := Mine.loose) (Xt := fun s => xlAt Mine.q [] s && recOk (RowW.records Mine.rr) s) (XP := XL Mine.q []) (Yf := Mine.H.obs) (Ya := Mine.H.val) (YP := Mine.H.says) (N := 2762) Mine.left Mine.H.of Mine.H.keeps (fun s e => xl_of s (Bool.and_eq_true_iff.mp e).1) XL.keeps (by rfl) (by rfl) (by rfl) (fun s e => recFacts_of (Bool.and_eq_true_iff.mp e).2) (by rfl) (by first | assumption | decide +kernel) (by decide +kernel) ⟨rfl, rfl, rfl, rfl, rfl, by decide +kernel⟩ ?hw ?hc
  case hw => w_witness2
  intro w s₀ s₁ mg mb G Y fa o pm cd doc dV kV ho hd hcd hD hmg hg args vals as hpre hlay hrd hwl hlo
  have KX := kIn_of Y
  refine Ground.open G ?_
  intro T B D TE TW
  clear D
  have GG := Mine.gnd_of KX T.g T.b T.nolimit T.builtins
  have hfa : fa = Mine.faT 33 := Mine.fa_of GG hmg
  subst hfa
  clear hmg ho hd hcd hD
  wrow_args hpre hlay hrd hwl hlo
  all_goals (first | refine callC_kw (enter_call ?_) | refine enter_call ?_ | refine callC_kw (enter_callW ?_) | refine enter_callW ?_ | w_how)
  w_top on
  refine codeAny_mono ?_ (fun _ _ g => GoodW.toG g)
  refine Mine.law_code GG (fun _ _ e => e) (by constructor <;> decide) ?hl ⟨_, by assumption⟩ fun g' s' X => ?_
  case hl => omega
  refine ⟨.inl ⟨.bool true, .bool true, [], rfl, ?_, .bool true, ?_, unshared_nil⟩, X.kh, X.os, X.gens.trans hg⟩
  · intro cls; rfl
  · wrow_post

