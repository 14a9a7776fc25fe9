import PyProof.Rows.All
import Wide.All
import OpenK.AllK
import Wide.FinOn
import PySem.Challenge.RW_pg0215_01
open PySem PySem.W PyProof.Rows
set_option Elab.async false
set_option linter.unusedVariables false
set_option linter.unusedSimpArgs false
namespace Mine

-- L0
/-- time goes on -/
theorem runs_toks {M : Model} {Γ : Ctx} {p : Pos} {t : Sem Fin} {fs : List Frame} {s : Shared} {e : End} {s' : Shared} (h : Runs M Γ p t fs s e s') : s.toks ≤ s'.toks := by
  induction h <;> first
    | exact Nat.le_refl _
    | assumption
    | (exact Nat.le_trans (by assumption) (by assumption))
    | (exact Nat.le_of_succ_le (by assumption))
    | ((try simp only [Shared.setGen] at *); (try dsimp only at *); lia)

theorem wp_toks {α : Type} {M : Model} {Γ : Ctx} {Q : α → Pos → Shared → Prop} {E : Value → Pos → Shared → Prop} {N : Nat} : ∀ (t : Sem α) (p : Pos) (s : Shared), N ≤ s.toks →
    Sem.wp M Γ t (fun a p' s' => N ≤ s'.toks → Q a p' s') (fun e p' s' => N ≤ s'.toks → E e p' s') p s → Sem.wp M Γ t Q E p s := by
  intro t
  induction t with
  | pure a => intro p s hs h; exact h hs
  | raise e => intro p s hs h; exact h hs
  | unsupported w => intro p s hs h; exact h
  | finish e => intro p s hs h; exact h
  | rule t k ih => intro p s hs h; exact ih _ p s hs h
  | «at» p' k ih => intro p s hs h; exact ih _ p' s hs h
  | load a part k ih => intro p s hs ⟨o, ho, h⟩; exact ⟨o, ho, ih _ p s hs h⟩
  | update a part f k ih => intro p s hs ⟨ho, h⟩; exact ⟨ho, ih _ p _ hs h⟩
  | alloc o k ih => intro p s hs h; exact ih _ p _ hs h
  | loadIfAlive a k ih => intro p s hs h; exact ih _ p s hs h
  | point l k ih => intro p s hs h; exact ih _ p s hs h
  | register a k ih => intro p s hs h; exact h
  | fresh k ih => intro p s hs h; exact ih _ p _ (Nat.le_succ_of_le hs) h
  | ask k ih => intro p s hs h; exact ih _ p s hs h
  | choose src n k ih => intro p s hs ⟨h0, h⟩; exact ⟨h0, ih _ p _ hs h⟩
  | os q l k ih => intro p s hs h; exact ih _ p _ hs h
  | call c hd g l k ih => intro p s hs ⟨r, s', hr, h⟩; exact ⟨r, s', hr, ih _ p s' (Nat.le_trans hs (runs_toks hr)) h⟩
  | handled o k ih => intro p s hs h; exact ih _ p s hs h
  | newGen c k ih => intro p s hs h; exact ih _ p _ hs h
  | genState g k ih => intro p s hs ⟨st, ho, h⟩; exact ⟨st, ho, ih _ p s hs h⟩
  | resume g r l k ih =>
    intro p s hs ⟨res, s', hw, h⟩
    refine ⟨res, s', hw, ih _ p s' (Nat.le_trans hs ?_) h⟩
    unfold Wakes at hw
    split at hw
    · exact hw.elim
    · split at hw
      · obtain ⟨e1, s1, hr, _, _, e⟩ := hw; subst e; have q := runs_toks hr; exact q
      · obtain ⟨_, e⟩ := hw; subst e; exact Nat.le_refl _
      · obtain ⟨_, e⟩ := hw; subst e; exact Nat.le_refl _
    · obtain ⟨e1, s1, hr, _, _, e⟩ := hw; subst e; have q := runs_toks hr; exact q
    · obtain ⟨_, e⟩ := hw; subst e; exact Nat.le_refl _
    · obtain ⟨_, e⟩ := hw; subst e; exact Nat.le_refl _
  | yield v g l k ih => intro p s hs h; exact h
  | stack k ih => intro p s hs h; exact ih _ p s hs h
  | fork c k ih => intro p s hs h; exact h
  | thread k ih => intro p s hs h; exact ih _ p s hs h
  | await a t d l k ih => intro p s hs h; exact h

theorem wpAny_toks_mono {α : Type} {M : Model} {A : Around} {t : Sem α} {Q : α → Shared → Prop} {E : Value → Shared → Prop} {s : Shared}
    (h : wpAny M A t (fun a s' => s.toks ≤ s'.toks → Q a s') (fun e s' => s.toks ≤ s'.toks → E e s') s) : wpAny M A t Q E s := fun Γ p hΓ =>
  wp_toks t p s (Nat.le_refl _) (h Γ p hΓ)

-- L1
/-- the values that the law's run meets -/
inductive V where
  | none
  | bool (b : Bool)
  | int (i : Int)
  | flt (x : UInt64) (lo : Nat)
  | ref (a : Addr)
  | bi (s : String)
  | ty (s : String)
  | pair (x y : V)
  | trip (x y z : V)

abbrev tupO (xs : Array Value) : Obj := { cls := .type "tuple", data := .seq xs }

noncomputable def Rep (s : Shared) : V → Value → Prop
  | .none, v => v = .none
  | .bool b, v => v = .bool b
  | .int i, v => ∃ t, v = .int i t
  | .flt x lo, v => ∃ t, v = .float x t ∧ lo ≤ t ∧ t < s.toks
  | .ref a, v => v = .ref a
  | .bi i, v => v = .builtin i
  | .ty i, v => v = .type i
  | .pair x y, v => ∃ a p q, v = .ref a ∧ s.heap.get? a = some (tupO #[p, q]) ∧ Rep s x p ∧ Rep s y q
  | .trip x y z, v => ∃ a p q r, v = .ref a ∧ s.heap.get? a = some (tupO #[p, q, r]) ∧ Rep s x p ∧ Rep s y q ∧ Rep s z r

/-- tuples stay, time goes on -/
structure TKeep (s s' : Shared) : Prop where
  tup : ∀ a xs, s.heap.get? a = some (tupO xs) → s'.heap.get? a = some (tupO xs)
  tok : s.toks ≤ s'.toks

theorem Rep.mono {s s' : Shared} (k : TKeep s s') : ∀ {x : V} {v : Value}, Rep s x v → Rep s' x v
  | .none, _, r => r
  | .bool _, _, r => r
  | .int _, _, r => r
  | .flt _ _, _, ⟨t, e, a, b⟩ => ⟨t, e, a, Nat.lt_of_lt_of_le b k.tok⟩
  | .ref _, _, r => r
  | .bi _, _, r => r
  | .ty _, _, r => r
  | .pair _ _, _, ⟨a, p, q, e, g, r1, r2⟩ => ⟨a, p, q, e, k.tup _ _ g, Rep.mono k r1, Rep.mono k r2⟩
  | .trip _ _ _, _, ⟨a, p, q, r, e, g, r1, r2, r3⟩ => ⟨a, p, q, r, e, k.tup _ _ g, Rep.mono k r1, Rep.mono k r2, Rep.mono k r3⟩

noncomputable def RepL (s : Shared) : List V → List Value → Prop
  | [], [] => True
  | x :: xs, v :: vs => Rep s x v ∧ RepL s xs vs
  | _, _ => False

theorem RepL.mono {s s' : Shared} (k : TKeep s s') : ∀ {xs : List V} {vs : List Value}, RepL s xs vs → RepL s' xs vs
  | [], [], _ => trivial
  | _ :: _, _ :: _, ⟨a, b⟩ => ⟨a.mono k, b.mono k⟩
theorem RepL.nilInv {s : Shared} {vs : List Value} (r : RepL s [] vs) : vs = [] := by
  cases vs with
  | nil => rfl
  | cons v vs => exact False.elim r
theorem RepL.consInv {s : Shared} {x : V} {xs : List V} {vs : List Value} (r : RepL s (x :: xs) vs) : ∃ v vs', vs = v :: vs' ∧ Rep s x v ∧ RepL s xs vs' := by
  cases vs with
  | nil => exact False.elim r
  | cons v vs => exact ⟨v, vs, rfl, r⟩
theorem RepL.one {s : Shared} {x : V} {vs : List Value} (r : RepL s [x] vs) : ∃ p, vs = [p] ∧ Rep s x p := by
  obtain ⟨p, vs, rfl, r1, r⟩ := r.consInv
  obtain rfl := r.nilInv
  exact ⟨p, rfl, r1⟩
theorem RepL.two {s : Shared} {x y : V} {vs : List Value} (r : RepL s [x, y] vs) : ∃ p q, vs = [p, q] ∧ Rep s x p ∧ Rep s y q := by
  obtain ⟨p, vs, rfl, r1, r⟩ := r.consInv
  obtain ⟨q, rfl, r2⟩ := r.one
  exact ⟨p, q, rfl, r1, r2⟩
theorem RepL.three {s : Shared} {x y z : V} {vs : List Value} (r : RepL s [x, y, z] vs) : ∃ p q t, vs = [p, q, t] ∧ Rep s x p ∧ Rep s y q ∧ Rep s z t := by
  obtain ⟨p, vs, rfl, r1, r⟩ := r.consInv
  obtain ⟨q, t, rfl, r2⟩ := r.two
  exact ⟨p, q, t, rfl, r1, r2⟩
theorem RepL.four {s : Shared} {x y z u : V} {vs : List Value} (r : RepL s [x, y, z, u] vs) : ∃ p q t v, vs = [p, q, t, v] ∧ Rep s x p ∧ Rep s y q ∧ Rep s z t ∧ Rep s u v := by
  obtain ⟨p, vs, rfl, r1, r⟩ := r.consInv
  obtain ⟨q, t, v, rfl, r2⟩ := r.three
  exact ⟨p, q, t, v, rfl, r1, r2⟩
theorem RepL.length {s : Shared} : ∀ {xs : List V} {vs : List Value}, RepL s xs vs → vs.length = xs.length
  | [], [], _ => rfl
  | _ :: _, _ :: _, ⟨_, b⟩ => congrArg (· + 1) b.length
theorem RepL.get {s : Shared} : ∀ {xs : List V} {vs : List Value} {i : Nat} {x : V}, RepL s xs vs → xs[i]? = some x → ∃ v, vs[i]? = some v ∧ Rep s x v
  | x :: _, v :: _, 0, _, ⟨a, _⟩, e => by cases e; exact ⟨v, rfl, a⟩
  | _ :: _, _ :: _, i + 1, _, ⟨_, b⟩, e => RepL.get (i := i) b e
theorem RepL.append {s : Shared} : ∀ {xs ys : List V} {vs ws : List Value}, RepL s xs vs → RepL s ys ws → RepL s (xs ++ ys) (vs ++ ws)
  | [], _, [], _, _, b => b
  | _ :: _, _, _ :: _, _, ⟨a, r⟩, b => ⟨a, r.append b⟩
theorem RepL.take {s : Shared} : ∀ {xs : List V} {vs : List Value} (n : Nat), RepL s xs vs → RepL s (xs.take n) (vs.take n)
  | [], [], n, _ => by simp [RepL]
  | _ :: _, _ :: _, 0, _ => trivial
  | _ :: _, _ :: _, n + 1, ⟨a, b⟩ => ⟨a, b.take n⟩
theorem RepL.drop {s : Shared} : ∀ {xs : List V} {vs : List Value} (n : Nat), RepL s xs vs → RepL s (xs.drop n) (vs.drop n)
  | [], [], n, _ => by simp [RepL]
  | _ :: _, _ :: _, 0, r => r
  | _ :: _, _ :: _, n + 1, ⟨_, b⟩ => b.drop n
theorem RepL.set {s : Shared} {x : V} {v : Value} (r : Rep s x v) : ∀ {xs : List V} {vs : List Value} (n : Nat), RepL s xs vs → RepL s (xs.set n x) (vs.set n v)
  | [], [], n, _ => by simp [RepL]
  | _ :: _, _ :: _, 0, ⟨_, b⟩ => ⟨r, b⟩
  | _ :: _, _ :: _, n + 1, ⟨a, b⟩ => ⟨a, b.set r n⟩

inductive Ent where
  | lst (l : List V)
  | cel (v : Option V)
  | lit (a : Addr) (i : Nat)
  /-- a list of floats, each made ahead of the time N -/
  | hue (l : List UInt64) (N : Nat)
  | obj (o : Obj)
  /-- a table of names -/
  | ns

noncomputable def Hues (N : Nat) : List UInt64 → List Value → Prop
  | [], [] => True
  | x :: xs, v :: vs => (∃ t, v = .float x t ∧ 0 < t ∧ t < N) ∧ Hues N xs vs
  | _, _ => False

noncomputable def EntAt (s : Shared) (o : Obj) : Ent → Prop
  | .lst l => ∃ xs n, o = listOf xs n ∧ RepL s l xs.toList
  | .cel .none => o.data = .cell .none
  | .cel (some v) => ∃ cv, o.data = .cell (some cv) ∧ Rep s v cv
  | .lit a i => o.cls = .type "list_iterator" ∧ o.data = .fields #[.ref a, .int i 0]
  | .hue l N => ∃ xs n, o = listOf xs n ∧ Hues N l xs.toList ∧ N ≤ s.toks
  | .obj o' => o = o' ∧ o'.cls ≠ .type "tuple" ∧ o'.isFreed = false
  | .ns => ∃ es ep, o.data = .dict es ep ∧ StrKeys es

theorem EntAt.mono {s s' : Shared} {o : Obj} (k : TKeep s s') : ∀ {e : Ent}, EntAt s o e → EntAt s' o e
  | .lst _, ⟨xs, n, e, r⟩ => ⟨xs, n, e, r.mono k⟩
  | .cel .none, e => e
  | .cel (some _), ⟨cv, e, r⟩ => ⟨cv, e, r.mono k⟩
  | .lit _ _, e => e
  | .hue _ _, ⟨xs, n, e, r, t⟩ => ⟨xs, n, e, r, Nat.le_trans t k.tok⟩
  | .obj _, e => e
  | .ns, e => e
theorem EntAt.noTup {s : Shared} {o : Obj} (xs : Array Value) : ∀ {e : Ent}, EntAt s o e → o ≠ tupO xs
  | .lst _, ⟨xs, n, e, _⟩ => by subst e; simp
  | .cel .none, e => by intro h; rw [h] at e; cases e
  | .cel (some _), ⟨_, e, _⟩ => by intro h; rw [h] at e; cases e
  | .lit _ _, e => by intro h; rw [h] at e; cases e.2
  | .hue _ _, ⟨xs, n, e, _⟩ => by subst e; simp
  | .obj _, e => by intro h; exact e.2.1 (by rw [← e.1, h])
  | .ns, ⟨es, ep, e, _⟩ => by intro h; rw [h] at e; cases e
theorem EntAt.free {s : Shared} {o : Obj} : ∀ {e : Ent}, EntAt s o e → o.isFreed = false
  | .lst _, ⟨xs, n, e, _⟩ => by subst e; rfl
  | .cel .none, e => by obtain ⟨c, d, dt, sl⟩ := o; have e : dt = _ := e; subst e; rfl
  | .cel (some _), ⟨_, e, _⟩ => by obtain ⟨c, d, dt, sl⟩ := o; have e : dt = _ := e; subst e; rfl
  | .lit _ _, e => by obtain ⟨c, d, dt, sl⟩ := o; obtain ⟨_, e⟩ := e; simp only at e; subst e; rfl
  | .hue _ _, ⟨xs, n, e, _⟩ => by subst e; rfl
  | .obj _, e => by rw [e.1]; exact e.2.2
  | .ns, ⟨es, ep, e, _⟩ => Obj.isFreed_of_dict e

abbrev Loc := List (Str × V)
abbrev Sto := List (Addr × Ent)

structure Base where
  w : World
  g0 : Heap
  mg : Str → Option Value
  mb : Str → Option Value
  sb : Shared

structure Ctx extends Base where
  hb : Heap
  own : List Addr
  L : Addr
  n : Nat
  clk : Nat

noncomputable def look (m : Loc) (x : Str) : Option V := m.lookup x

structure In (c : Ctx) (m : Loc) (st : Sto) (tm : List (V × Value)) (s : Shared) : Prop where
  ns : ∃ mc, s.heap.Ns c.L mc ∧ ∀ x v, m.lookup x = some v → ∃ cv, mc x = some cv ∧ Rep s v cv
  ents : ∀ p ∈ st, ∃ o, s.heap.get? p.1 = some o ∧ EntAt s o p.2
  apart : ∀ p ∈ st, p.1 ≠ c.L ∧ c.g0.get? p.1 = none ∧ (c.hb.objs.size ≤ p.1 ∨ p.1 ∈ c.own)
  nodup : (st.map (·.1)).Nodup
  tms : ∀ p ∈ tm, Rep s p.1 p.2
  stat : ∀ b o, c.g0.get? b = some o → s.heap.get? b = some o
  keep : ∀ b o, c.hb.get? b = some o → b ∉ c.own → s.heap.get? b = some o
  sizes : c.hb.objs.size ≤ c.L ∧ c.g0.objs.size ≤ c.hb.objs.size
  rest : ∃ h t, s = { c.sb with heap := h, toks := t }
  clk : c.clk ≤ s.toks

section
variable {c : Ctx} {m : Loc} {st : Sto} {tm : List (V × Value)} {s : Shared}

theorem In.Llt (S : In c m st tm s) : c.L < s.heap.objs.size := by
  obtain ⟨mc, hn, _⟩ := S.ns; exact hn.lt
theorem In.size (S : In c m st tm s) : c.hb.objs.size ≤ s.heap.objs.size := Nat.le_of_lt (Nat.lt_of_le_of_lt S.sizes.1 S.Llt)
theorem In.lt (S : In c m st tm s) {p : Addr × Ent} (hp : p ∈ st) : p.1 < s.heap.objs.size := by
  obtain ⟨o, ho, _⟩ := S.ents p hp; exact Heap.lt_size ho
theorem In.noTup (S : In c m st tm s) {p : Addr × Ent} (hp : p ∈ st) (xs : Array Value) : s.heap.get? p.1 ≠ some (tupO xs) := by
  obtain ⟨o, ho, he⟩ := S.ents p hp
  intro q
  rw [ho] at q
  exact he.noTup xs (by cases q; rfl)

/-- everything of the heap is kept, new things may be there -/
theorem tkeep_of {s : Shared} {h' : Heap} {t : Nat} (k : ∀ b o, s.heap.get? b = some o → h'.get? b = some o) (ht : s.toks ≤ t) : TKeep s { s with heap := h', toks := t } := ⟨fun a _ => k a _, ht⟩
theorem In.ext (S : In c m st tm s) {h' : Heap} {t : Nat} (k : ∀ b o, s.heap.get? b = some o → h'.get? b = some o) (ht : s.toks ≤ t) : In c m st tm { s with heap := h', toks := t } where
  ns := by
    obtain ⟨mc, hn, r⟩ := S.ns
    exact ⟨mc, hn.keeps k, fun x v e => let ⟨cv, a, b⟩ := r x v e; ⟨cv, a, b.mono (tkeep_of k ht)⟩⟩
  ents := fun p hp => let ⟨o, a, b⟩ := S.ents p hp; ⟨o, k _ _ a, b.mono (tkeep_of k ht)⟩
  apart := S.apart
  nodup := S.nodup
  tms := fun p hp => (S.tms p hp).mono (tkeep_of k ht)
  stat := fun b o e => k _ _ (S.stat b o e)
  keep := fun b o e n => k _ _ (S.keep b o e n)
  sizes := S.sizes
  rest := by obtain ⟨h, t', e⟩ := S.rest; exact ⟨h', t, by rw [e]⟩
  clk := Nat.le_trans S.clk ht

theorem In.tok (S : In c m st tm s) {t : Nat} (ht : s.toks ≤ t) : In c m st tm { s with toks := t } := by
  have := S.ext (h' := s.heap) (t := t) (fun _ _ e => e) ht
  exact this
theorem In.tok1 (S : In c m st tm s) : In c m st tm { s with toks := s.toks + 1 } := S.tok (Nat.le_succ _)

theorem In.push (S : In c m st tm s) (o : Obj) : In c m st tm { s with heap := s.heap.push o } :=
  S.ext (fun _ _ e => Heap.get?_push_of_some _ e) (Nat.le_refl _)

theorem In.tmp (S : In c m st tm s) {x : V} {v : Value} (r : Rep s x v) : In c m st ((x, v) :: tm) s :=
  { S with tms := fun p hp => by rcases List.mem_cons.mp hp with rfl | hp; exact r; exact S.tms p hp }
theorem In.drop {x : V × Value} (S : In c m st (x :: tm) s) : In c m st tm s := { S with tms := fun p hp => S.tms p (.tail _ hp) }
theorem In.hd {x : V × Value} (S : In c m st (x :: tm) s) : Rep s x.1 x.2 := S.tms x (.head _)

/-- fewer entries -/
theorem In.sub {st' : Sto} (S : In c m st tm s) (h : st'.Sublist st) : In c m st' tm s :=
  { S with
    ents := fun p hp => S.ents p (h.subset hp)
    apart := fun p hp => S.apart p (h.subset hp)
    nodup := (h.map _).nodup S.nodup }
/-- a part of the entries, in another order -/
noncomputable def SubP (st' st : Sto) : Prop := ∃ st2 : Sto, st'.Perm st2 ∧ st2.Sublist st
theorem SubP.refl (st : Sto) : SubP st st := ⟨st, .refl _, .refl _⟩
theorem SubP.of_sub {st' st : Sto} (h : st'.Sublist st) : SubP st' st := ⟨st', .refl _, h⟩
theorem In.perm {st' : Sto} (S : In c m st tm s) (h : st'.Perm st) : In c m st' tm s :=
  { S with
    ents := fun p hp => S.ents p (h.mem_iff.mp hp)
    apart := fun p hp => S.apart p (h.mem_iff.mp hp)
    nodup := ((h.map _).nodup_iff).mpr S.nodup }

theorem In.subP {st' : Sto} (S : In c m st tm s) (h : SubP st' st) : In c m st' tm s := by
  obtain ⟨st2, h1, h2⟩ := h
  exact (S.sub h2).perm h1

/-- a new entry: the newest object -/
theorem In.new (S : In c m st tm s) {o : Obj} {e : Ent} (he : EntAt s o e) : In c m ((s.heap.objs.size, e) :: st) tm { s with heap := s.heap.push o } := by
  have S' := S.push o
  have k : TKeep s { s with heap := s.heap.push o } := ⟨fun a xs => Heap.get?_push_of_some _, Nat.le_refl _⟩
  refine { S' with ents := fun p hp => ?_, apart := fun p hp => ?_, nodup := ?_ }
  · rcases List.mem_cons.mp hp with rfl | hp
    · exact ⟨o, Heap.get?_push_size _ he.free, he.mono k⟩
    · exact S'.ents p hp
  · rcases List.mem_cons.mp hp with rfl | hp
    · refine ⟨Nat.ne_of_gt S.Llt, ?_, .inl S.size⟩
      exact Heap.get?_none_of_le (Nat.le_trans S.sizes.2 S.size)
    · exact S.apart p hp
  · refine List.nodup_cons.mpr ⟨fun h => ?_, S.nodup⟩
    obtain ⟨p, hp, e⟩ := List.mem_map.mp h
    exact absurd (S.lt hp) (by rw [e]; exact Nat.lt_irrefl _)

theorem In.tkeep (S : In c m st tm s) {a : Addr} {e : Ent} (ha : (a, e) ∈ st) {h' : Heap} {t : Nat} (k : Heap.ExtBut a s.heap h') (ht : s.toks ≤ t) : TKeep s { s with heap := h', toks := t } := ⟨fun b xs g =>
  k b _ (fun q => S.noTup ha xs (by rw [q] at g; exact g)) g, ht⟩

theorem nodup_set {a : Addr} {e e' : Ent} : ∀ {st : Sto} {i : Nat}, st[i]? = some (a, e) → (st.set i (a, e')).map (·.1) = st.map (·.1)
  | _ :: _, 0, h => by cases h; rfl
  | p :: r, i + 1, h => by
    have : r[i]? = some (a, e) := h
    show p.1 :: (r.set i (a, e')).map (·.1) = p.1 :: r.map (·.1)
    rw [nodup_set (i := i) this]
theorem mem_set_of {a : Addr} {e e' : Ent} : ∀ {st : Sto} {i : Nat}, st[i]? = some (a, e) → (st.map (·.1)).Nodup → ∀ p ∈ st.set i (a, e'), p = (a, e') ∨ (p ∈ st ∧ p.1 ≠ a)
  | q :: r, 0, h, hn, p, hp => by
    cases h
    rcases List.mem_cons.mp hp with rfl | hp
    · exact .inl rfl
    · refine .inr ⟨.tail _ hp, fun z => ?_⟩
      exact (List.nodup_cons.mp hn).1 (by have := List.mem_map_of_mem (f := fun x : Addr × Ent => x.1) hp; rw [← z]; exact this)
  | q :: r, i + 1, h, hn, p, hp => by
    have h' : r[i]? = some (a, e) := h
    rcases List.mem_cons.mp hp with rfl | hp
    · refine .inr ⟨.head _, fun z => ?_⟩
      exact (List.nodup_cons.mp hn).1 (by have := List.mem_map_of_mem (f := fun x : Addr × Ent => x.1) (List.mem_of_getElem? h'); show p.1 ∈ _; rw [z]; exact this)
    · rcases mem_set_of h' (List.nodup_cons.mp hn).2 p hp with r | ⟨r1, r2⟩
      · exact .inl r
      · exact .inr ⟨.tail _ r1, r2⟩

/-- an entry changes -/
theorem In.upd (S : In c m st tm s) {i : Nat} {a : Addr} {e e' : Ent} (hi : st[i]? = some (a, e)) {h' : Heap} {o' : Obj} {t : Nat} (k : Heap.ExtBut a s.heap h') (ho : h'.get? a = some o') (he : EntAt s o' e') (ht : s.toks ≤ t) :
    In c m (st.set i (a, e')) tm { s with heap := h', toks := t } := by
  have ha : (a, e) ∈ st := List.mem_of_getElem? hi
  have tk := S.tkeep ha k ht
  have hap := S.apart _ ha
  refine ⟨?_, fun p hp => ?_, fun p hp => ?_, ?_, fun p hp => (S.tms p hp).mono tk, fun b o g => ?_, fun b o g n => ?_, S.sizes, ?_, Nat.le_trans S.clk ht⟩
  · obtain ⟨mc, hn, r⟩ := S.ns
    exact ⟨mc, hn.extBut k (Ne.symm hap.1), fun x v e => let ⟨cv, a, b⟩ := r x v e; ⟨cv, a, b.mono tk⟩⟩
  · rcases mem_set_of hi S.nodup p hp with rfl | ⟨hp, hne⟩
    · exact ⟨o', ho, he.mono tk⟩
    · obtain ⟨o, g, x⟩ := S.ents p hp
      exact ⟨o, k _ _ hne g, x.mono tk⟩
  · rcases mem_set_of hi S.nodup p hp with rfl | ⟨hp, hne⟩
    · exact hap
    · exact S.apart p hp
  · rw [nodup_set (i := i) hi]; exact S.nodup
  · exact k _ _ (fun q => by rw [q, hap.2.1] at g; cases g) (S.stat b o g)
  · refine k _ _ (fun q => ?_) (S.keep b o g n)
    subst q
    rcases hap.2.2 with q | q
    · exact absurd (Heap.lt_size g) (Nat.not_lt.mpr q)
    · exact n q
  · obtain ⟨h, t', e⟩ := S.rest; exact ⟨h', t, by rw [e]⟩

/-- an entry is lost -/
theorem In.lose {a : Addr} {e : Ent} (S : In c m ((a, e) :: st) tm s) {h' : Heap} {t : Nat} (k : Heap.ExtBut a s.heap h') (ht : s.toks ≤ t) : In c m st tm { s with heap := h', toks := t } := by
  have ha : (a, e) ∈ (a, e) :: st := .head _
  have tk := S.tkeep ha k ht
  have hap := S.apart _ ha
  have hnd := List.nodup_cons.mp S.nodup
  refine ⟨?_, fun p hp => ?_, fun p hp => S.apart p (.tail _ hp), hnd.2, fun p hp => (S.tms p hp).mono tk, fun b o g => ?_, fun b o g n => ?_, S.sizes, ?_, Nat.le_trans S.clk ht⟩
  · obtain ⟨mc, hn, r⟩ := S.ns
    exact ⟨mc, hn.extBut k (Ne.symm hap.1), fun x v e => let ⟨cv, a, b⟩ := r x v e; ⟨cv, a, b.mono tk⟩⟩
  · obtain ⟨o, g, x⟩ := S.ents p (.tail _ hp)
    exact ⟨o, k _ _ (fun q => hnd.1 (by have := List.mem_map_of_mem (f := fun x : Addr × Ent => x.1) hp; rw [← q]; exact this)) g, x.mono tk⟩
  · exact k _ _ (fun q => by rw [q, hap.2.1] at g; cases g) (S.stat b o g)
  · refine k _ _ (fun q => ?_) (S.keep b o g n)
    subst q
    rcases hap.2.2 with q | q
    · exact absurd (Heap.lt_size g) (Nat.not_lt.mpr q)
    · exact n q
  · obtain ⟨h, t', e⟩ := S.rest; exact ⟨h', t, by rw [e]⟩

/-- a name is stored -/
noncomputable def setL (m : Loc) (x : Str) (v : V) : Loc := match m with
  | [] => [(x, v)]
  | (y, u) :: r => if x == y then (x, v) :: r else (y, u) :: setL r x v
theorem lookup_setL {x : Str} {v : V} : ∀ (m : Loc) (y : Str), (setL m x v).lookup y = if y = x then some v else m.lookup y
  | [], y => by
    by_cases h : y = x
    · subst h; simp [setL]
    · have : (y == x) = false := by simpa using h
      simp [setL, List.lookup, h, this]
  | (z, u) :: r, y => by
    unfold setL
    by_cases hz : x = z
    · subst hz
      simp only [beq_self_eq_true, if_true]
      by_cases h : y = x
      · subst h; simp [List.lookup]
      · have : (y == x) = false := by simpa using h
        simp [List.lookup, h, this]
    · have hz' : (x == z) = false := by simpa using hz
      rw [hz']
      simp only [Bool.false_eq_true, if_false, List.lookup]
      by_cases hy : y = z
      · subst hy
        simp [Ne.symm hz]
      · have hy' : (y == z) = false := by simpa using hy
        rw [hy']
        exact lookup_setL r y

theorem In.store (S : In c m st tm s) {x : Str} {v : V} {cv : Value} (r : Rep s v cv) {h' : Heap} {t : Nat} {mc : Str → Option Value}
    (hm : ∀ x v, m.lookup x = some v → ∃ cv, mc x = some cv ∧ Rep s v cv)
    (hn : h'.Ns c.L (fun y => if y = x then some cv else mc y)) (hs : Heap.SameBut c.L s.heap h') (hd : ∀ xs, s.heap.get? c.L ≠ some (tupO xs)) (hg : c.g0.get? c.L = none) (ht : s.toks ≤ t) : In c (setL m x v) st tm { s with heap := h', toks := t } := by
  have k := hs.extBut
  have tk : TKeep s { s with heap := h', toks := t } := ⟨fun b xs g => k b _ (fun q => hd xs (by rw [q] at g; exact g)) g, ht⟩
  refine ⟨⟨_, hn, fun y u e => ?_⟩, fun p hp => ?_, S.apart, S.nodup, fun p hp => (S.tms p hp).mono tk, fun b o g => ?_, fun b o g n => ?_, S.sizes, ?_, Nat.le_trans S.clk ht⟩
  · rw [lookup_setL] at e
    by_cases hy : y = x
    · rw [if_pos hy] at e ⊢
      cases e
      exact ⟨cv, rfl, r.mono tk⟩
    · rw [if_neg hy] at e ⊢
      obtain ⟨w, a, b⟩ := hm y u e
      exact ⟨w, a, b.mono tk⟩
  · obtain ⟨o, g, x⟩ := S.ents p hp
    exact ⟨o, k _ _ (S.apart p hp).1 g, x.mono tk⟩
  · exact k _ _ (fun q => by rw [q, hg] at g; cases g) (S.stat b o g)
  · exact k _ _ (fun q => by rw [q] at g; exact absurd (Heap.lt_size g) (Nat.not_lt.mpr S.sizes.1)) (S.keep b o g n)
  · obtain ⟨h, t', e⟩ := S.rest; exact ⟨h', t, by rw [e]⟩
end

-- L2
abbrev prg : Program := Challenge.rw_pg0215_01.row.prog

/-- what stands of the top -/
structure Stat (B : Base) : Prop where
  g : B.g0.Ns mainGlobals B.mg
  b : B.g0.Ns builtinsNs B.mb
  builtins : ∀ x : Str, x ≠ "__name__" → B.mb x = bootBuiltins x
  nolimit : B.g0.NoLimit
  booked : ∃ mc, B.g0.Ns cStatics mc ∧ mc sharingNotToldKey = none

noncomputable def Room (c : Ctx) (A : Around) : Prop := A.handled = none ∧ A.depth + c.n < 900 ∧ A.units + 8 * c.n + 100 < 9900
theorem Room.in1 {c : Ctx} {A : Around} (r : Room c A) : A.in1.units + 90 < cLine := by
  have := r.2.2
  show A.units + 1 + 90 < 9900
  lia
theorem Room.units {c : Ctx} {A : Around} (r : Room c A) : A.units + 90 < cLine := by
  have := r.2.2
  show A.units + 90 < 9900
  lia

noncomputable def EV (c : Ctx) (m : Loc) (t : Sem Value) (st : Sto) (Q : V → Sto → Prop) : Prop :=
  ∀ (A : Around) (s : Shared) (tm : List (V × Value)) (P : Value → Shared → Prop) (E : Value → Shared → Prop), Room c A → In c m st tm s →
    (∀ v x st' s', In c m st' ((x, v) :: tm) s' → Q x st' → P v s') → wpAny (model prg c.w) A t P E s

noncomputable def EVs (c : Ctx) (m : Loc) (t : Sem (List Value)) (st : Sto) (Q : List V → Sto → Prop) : Prop :=
  ∀ (A : Around) (s : Shared) (tm : List (V × Value)) (P : List Value → Shared → Prop) (E : Value → Shared → Prop), Room c A → In c m st tm s →
    (∀ vs xs st' s', In c m st' tm s' → RepL s' xs vs → Q xs st' → P vs s') → wpAny (model prg c.w) A t P E s

noncomputable def TR (c : Ctx) (m : Loc) (t : Sem Bool) (st : Sto) (Q : Bool → Sto → Prop) : Prop :=
  ∀ (A : Around) (s : Shared) (tm : List (V × Value)) (P : Bool → Shared → Prop) (E : Value → Shared → Prop), Room c A → In c m st tm s →
    (∀ b st' s', In c m st' tm s' → Q b st' → P b s') → wpAny (model prg c.w) A t P E s

noncomputable def OP (c : Ctx) (m : Loc) (f : List Value → Sem Value) (xs : List V) (st : Sto) (Q : V → Sto → Prop) : Prop :=
  ∀ (A : Around) (s : Shared) (tm : List (V × Value)) (vs : List Value) (P : Value → Shared → Prop) (E : Value → Shared → Prop), Room c A → In c m st tm s → RepL s xs vs →
    (∀ v x st' s', In c m st' ((x, v) :: tm) s' → Q x st' → P v s') → wpAny (model prg c.w) A (f vs) P E s

noncomputable def OP2 (c : Ctx) (m : Loc) (f : Value → Value → Sem Value) (a b : V) (st : Sto) (Q : V → Sto → Prop) : Prop :=
  ∀ (A : Around) (s : Shared) (tm : List (V × Value)) (v1 v2 : Value) (P : Value → Shared → Prop) (E : Value → Shared → Prop), Room c A → In c m st tm s → Rep s a v1 → Rep s b v2 →
    (∀ v x st' s', In c m st' ((x, v) :: tm) s' → Q x st' → P v s') → wpAny (model prg c.w) A (f v1 v2) P E s

inductive Fl where
  | next | brk | cont
  | ret (v : V)

noncomputable def RepF (s : Shared) : Fl → Flow → Prop
  | .next, f => f = .next
  | .brk, f => f = .brk
  | .cont, f => f = .cont
  | .ret x, f => ∃ v, f = .ret v ∧ Rep s x v

noncomputable def EX (c : Ctx) (t : Sem Flow) (m : Loc) (st : Sto) (Q : Fl → Loc → Sto → Prop) : Prop :=
  ∀ (A : Around) (s : Shared) (tm : List (V × Value)) (P : Flow → Shared → Prop) (E : Value → Shared → Prop), Room c A → In c m st tm s →
    (∀ f fl m' st' s', In c m' st' tm s' → RepF s' fl f → Q fl m' st' → P f s') → wpAny (model prg c.w) A t P E s

noncomputable def AS (c : Ctx) (t : Value → Sem Unit) (x : V) (m : Loc) (st : Sto) (Q : Loc → Sto → Prop) : Prop :=
  ∀ (A : Around) (s : Shared) (tm : List (V × Value)) (v : Value) (P : Unit → Shared → Prop) (E : Value → Shared → Prop), Room c A → In c m st tm s → Rep s x v →
    (∀ m' st' s', In c m' st' tm s' → Q m' st' → P () s') → wpAny (model prg c.w) A (t v) P E s

section
variable {c : Ctx} {m : Loc} {st : Sto} {env : Env}

/-- the environment is this frame's -/
structure EnvOk (c : Ctx) (env : Env) : Prop where
  L : env.locals = c.L
  globals : env.globals = mainGlobals
  builtins : env.builtins = builtinsNs
  kind : env.scope.kind = .function

/-! names -/
theorem EV_local {x : Str} {pos : Pos} {v : V} {Q : V → Sto → Prop} (K : EnvOk c env) (hx : env.kindOf x = some .local) (hv : m.lookup x = some v) (h : Q v st) (hd : (x == ("__debug__" : Str)) = false := by decide) :
    EV c m (eval (.Name x pos) env) st Q := fun A s tm P E _ S k => by
  obtain ⟨mc, hn, r⟩ := S.ns
  obtain ⟨cv, e, rep⟩ := r x v hv
  exact wpAny_Name (wpAny_loadName_local K.kind hx (by rw [K.L]; exact hn) e (k cv v st s (S.tmp rep) h)) hd
theorem EV_global {x : Str} {pos : Pos} {a : Addr} {Q : V → Sto → Prop} (G : Stat c.toBase) (K : EnvOk c env) (hx : env.kindOf x = some .globalImplicit) (hv : c.mg x = some (.ref a)) (h : Q (.ref a) st) (hd : (x == ("__debug__" : Str)) = false := by decide) :
    EV c m (eval (.Name x pos) env) st Q := fun A s tm P E _ S k =>
  Calls.Name_function_global K.kind hx (Calls.loadGlobal_global (env := env) (by rw [K.globals]; exact G.g.keeps S.stat) hv (k _ _ st s (S.tmp (x := .ref a) rfl) h)) hd
theorem EV_builtin {x : Str} {pos : Pos} {cv : Value} {v : V} {Q : V → Sto → Prop} (G : Stat c.toBase) (K : EnvOk c env) (hx : env.kindOf x = some .globalImplicit) (hm : c.mg x = none) (hb : bootBuiltins x = some cv) (hn : x ≠ "__name__") (r : ∀ s, Rep s v cv)
    (h : Q v st) (hd : (x == ("__debug__" : Str)) = false := by decide) :
    EV c m (eval (.Name x pos) env) st Q := fun A s tm P E _ S k =>
  Calls.Name_function_global K.kind hx (Calls.loadGlobal_builtin (env := env) (by rw [K.globals]; exact G.g.keeps S.stat) hm (by rw [K.builtins]; exact G.b.keeps S.stat) ((G.builtins x hn).trans hb) (k _ _ st s (S.tmp (x := v) (r _)) h)) hd

/-! constants -/
theorem EV_int {i : Int} {k : Nat} {pos : Pos} {Q : V → Sto → Prop} (h : Q (.int i) st) : EV c m (eval (.Constant (.int i) k pos) env) st Q := fun A s tm P E _ S kk =>
  wpAny_Constant_int (kk _ (.int i) st _ (S.tok1.tmp ⟨_, rfl⟩) h)
theorem EV_flt {x : UInt64} {k : Nat} {pos : Pos} {Q : V → Sto → Prop} (h : Q (.flt x c.clk) st) : EV c m (eval (.Constant (.float x) k pos) env) st Q := fun A s tm P E _ S kk =>
  show wpAny _ _ (mkFloat x) _ _ _ from wpAny_mkFloat (kk _ (.flt x c.clk) st _ (S.tok1.tmp ⟨_, rfl, S.clk, Nat.lt_succ_self _⟩) h)
theorem EV_none {k : Nat} {pos : Pos} {Q : V → Sto → Prop} (h : Q .none st) : EV c m (eval (.Constant .none k pos) env) st Q := fun A s tm P E _ S kk =>
  show wpAny _ _ (pure Value.none) _ _ _ from wpAny_pure (kk _ .none st _ (S.tmp (x := .none) rfl) h)
theorem EV_bool {b : Bool} {k : Nat} {pos : Pos} {Q : V → Sto → Prop} (h : Q (.bool b) st) : EV c m (eval (.Constant (.bool b) k pos) env) st Q := fun A s tm P E _ S kk =>
  show wpAny _ _ (pure (Value.bool b)) _ _ _ from wpAny_pure (kk _ (.bool b) st _ (S.tmp (x := .bool b) rfl) h)

/-! compositions -/
theorem EV_binop {l r : Expr} {op : Operator} {pos : Pos} {Q : V → Sto → Prop} (h : EV c m (eval l env) st fun a st1 => EV c m (eval r env) st1 fun b st2 => OP2 c m (binaryOp op) a b st2 Q) :
    EV c m (eval (.BinOp l op r pos) env) st Q := fun A s tm P E R S k =>
  wpAny_BinOp (h A s tm _ E R S fun v1 a st1 s1 S1 h1 => h1 A s1 _ _ E R S1 fun v2 b st2 s2 S2 h2 =>
    h2 A s2 tm v1 v2 P E R S2.drop.drop S2.drop.hd S2.hd k)
theorem EV_compare {l r : Expr} {op : CmpOp} {pos : Pos} {Q : V → Sto → Prop} (h : EV c m (eval l env) st fun a st1 => EV c m (eval r env) st1 fun b st2 => OP2 c m (compareOp op) a b st2 Q)
    (hm : behindInMarks op r = false := by with_unfolding_all rfl) :
    EV c m (eval (.Compare l [op] [r] pos) env) st Q := fun A s tm P E R S k =>
  wpAny_Compare1 (h A s tm _ E R S fun v1 a st1 s1 S1 h1 => h1 A s1 _ _ E R S1 fun v2 b st2 s2 S2 h2 =>
    h2 A s2 tm v1 v2 P E R S2.drop.drop S2.drop.hd S2.hd k) hm
theorem EV_unop {x : Expr} {op : UnaryOp} {pos : Pos} {Q : V → Sto → Prop} (h : EV c m (eval x env) st fun a st1 => OP c m (fun vs => unaryOp op (vs.getD 0 .none)) [a] st1 Q) :
    EV c m (eval (.UnaryOp op x pos) env) st Q := fun A s tm P E R S k =>
  wpAny_UnaryOp (h A s tm _ E R S fun v1 a st1 s1 S1 h1 => h1 A s1 tm [v1] P E R S1.drop ⟨S1.hd, trivial⟩ k)
theorem EV_sub {value slice : Expr} {pos : Pos} {Q : V → Sto → Prop} (h : EV c m (eval value env) st fun a st1 => EV c m (eval slice env) st1 fun b st2 => OP2 c m (subscriptTail value slice) a b st2 Q) :
    EV c m (eval (.Subscript value slice pos) env) st Q := fun A s tm P E R S k =>
  Subscript_ (h A s tm _ E R S fun v1 a st1 s1 S1 h1 => h1 A s1 _ _ E R S1 fun v2 b st2 s2 S2 h2 =>
    h2 A s2 tm v1 v2 P E R S2.drop.drop S2.drop.hd S2.hd k)

theorem EV_mono {t : Sem Value} {Q Q' : V → Sto → Prop} (h : EV c m t st Q) (hq : ∀ v st', Q v st' → Q' v st') : EV c m t st Q' := fun A s tm P E R S k =>
  h A s tm P E R S fun v x st' s' S' q => k v x st' s' S' (hq _ _ q)

/-! tests -/
theorem TR_value {e : Expr} {whole : Sem Value} {Q : Bool → Sto → Prop} (h : EV c m whole st fun a st1 => ∃ b, a = .bool b ∧ Q b st1)
    (he : isTrue e env whole = (do let v ← whole; standAt e.pos; holding [v] (truthy v)) := by rfl) : TR c m (isTrue e env whole) st Q := fun A s tm P E R S k =>
  wpAny_isTrue_value (h A s tm _ E R S fun v x st1 s1 S1 ⟨b, e, q⟩ => by
    subst e
    have : v = .bool b := S1.hd
    subst this
    exact wpAny_truthy_bool (k b st1 s1 S1.drop q)) he
theorem TR_compare {l r : Expr} {op : CmpOp} {pos : Pos} {whole : Sem Value} {Q : Bool → Sto → Prop} (h : EV c m (eval l env) st fun a st1 => EV c m (eval r env) st1 fun b st2 => OP2 c m (compareOp op) a b st2 fun x st3 => ∃ b, x = .bool b ∧ Q b st3)
    (hm : behindInMarks op r = false := by with_unfolding_all rfl) :
    TR c m (isTrue (.Compare l [op] [r] pos) env whole) st Q := fun A s tm P E R S k =>
  wpAny_isTrue_Compare1 (h A s tm _ E R S fun v1 a st1 s1 S1 h1 => h1 A s1 _ _ E R S1 fun v2 b st2 s2 S2 h2 =>
    h2 A s2 tm v1 v2 _ E R S2.drop.drop S2.drop.hd S2.hd fun v x st3 s3 S3 ⟨b, e, q⟩ => by
      subst e
      have : v = .bool b := S3.hd
      subst this
      exact wpAny_truthy_bool (k b st3 s3 S3.drop q)) hm
theorem TR_not {x : Expr} {pos : Pos} {whole : Sem Value} {Q : Bool → Sto → Prop} (h : TR c m (isTrue x env (eval x env)) st fun b st1 => Q (!b) st1) : TR c m (isTrue (.UnaryOp .Not x pos) env whole) st Q := fun A s tm P E R S k =>
  wpAny_isTrue_Not (h A s tm _ E R S fun b st1 s1 S1 q => k _ st1 s1 S1 q)
theorem TR_and {values : List Expr} {pos : Pos} {whole : Sem Value} {Q : Bool → Sto → Prop} {op : BoolOp} (h : TR c m (allTrue op values env) st Q) : TR c m (isTrue (.BoolOp op values pos) env whole) st Q := fun A s tm P E R S k =>
  wpAny_isTrue_BoolOp (h A s tm P E R S k)
theorem TR_and_nil {Q : Bool → Sto → Prop} (h : Q true st) : TR c m (allTrue .And [] env) st Q := fun A s tm P E R S k => wpAny_allTrue_And_nil (k _ _ _ S h)
theorem TR_or_nil {Q : Bool → Sto → Prop} (h : Q false st) : TR c m (allTrue .Or [] env) st Q := fun A s tm P E R S k => wpAny_allTrue_Or_nil (k _ _ _ S h)
theorem TR_and_cons {x : Expr} {rest : List Expr} {Q : Bool → Sto → Prop} (h : TR c m (isTrue x env (eval x env)) st fun b st1 => if b then TR c m (allTrue .And rest env) st1 Q else Q false st1) :
    TR c m (allTrue .And (x :: rest) env) st Q := fun A s tm P E R S k => wpAny_allTrue_And_cons (h A s tm _ E R S fun b st1 s1 S1 q => by
  cases b with
  | true => exact q A s1 tm P E R S1 k
  | false => exact k _ _ _ S1 q)
theorem TR_or_cons {x : Expr} {rest : List Expr} {Q : Bool → Sto → Prop} (h : TR c m (isTrue x env (eval x env)) st fun b st1 => if b then Q true st1 else TR c m (allTrue .Or rest env) st1 Q) :
    TR c m (allTrue .Or (x :: rest) env) st Q := fun A s tm P E R S k => wpAny_allTrue_Or_cons (h A s tm _ E R S fun b st1 s1 S1 q => by
  cases b with
  | true => exact k _ _ _ S1 q
  | false => exact q A s1 tm P E R S1 k)

/-! statements -/
theorem EX_nil {Q : Fl → Loc → Sto → Prop} (h : Q .next m st) : EX c (execs [] env) m st Q := fun A s tm P E R S k => wpAny_execs_nil (k .next .next m st s S rfl h)
theorem EX_cons {x : Stmt} {rest : List Stmt} {Q : Fl → Loc → Sto → Prop} (h : EX c (exec x env) m st fun f m1 st1 => match f with | .next => EX c (execs rest env) m1 st1 Q | f => Q f m1 st1) :
    EX c (execs (x :: rest) env) m st Q := fun A s tm P E R S k => wpAny_execs_cons (h A s tm _ E R S fun f fl m1 st1 s1 S1 rf q => by
  cases fl with
  | next => cases rf; exact q A s1 tm P E R S1 k
  | brk => cases rf; exact k .brk .brk m1 st1 s1 S1 rfl q
  | cont => cases rf; exact k .cont .cont m1 st1 s1 S1 rfl q
  | ret v => obtain ⟨cv, e, r⟩ := rf; subst e; exact k (.ret cv) (.ret v) m1 st1 s1 S1 ⟨cv, rfl, r⟩ q)
theorem EX_return {e : Expr} {pos : Pos} {Q : Fl → Loc → Sto → Prop} (h : EV c m (eval e env) st fun v st1 => Q (.ret v) m st1) : EX c (exec (.Return (some e) pos) env) m st Q := fun A s tm P E R S k =>
  wpAny_Return_some (h A s tm _ E R S fun v x st1 s1 S1 q => k (.ret v) (.ret x) m st1 s1 S1.drop ⟨v, rfl, S1.hd⟩ q)
theorem EX_if {test : Expr} {body orelse : List Stmt} {pos : Pos} {Q : Fl → Loc → Sto → Prop} (h : TR c m (isTrue test env (eval test env)) st fun b st1 => if b then EX c (execs body env) m st1 Q else EX c (execs orelse env) m st1 Q) :
    EX c (exec (.If test body orelse pos) env) m st Q := fun A s tm P E R S k => wpAny_If (h A s tm _ E R S fun b st1 s1 S1 q => by
  cases b with
  | true => exact q A s1 tm P E R S1 k
  | false => exact q A s1 tm P E R S1 k)
theorem EX_break {pos : Pos} {Q : Fl → Loc → Sto → Prop} (h : Q .brk m st) : EX c (exec (.Break pos) env) m st Q := fun A s tm P E R S k => wpAny_Break (k .brk .brk m st s S rfl h)
theorem EX_continue {pos : Pos} {Q : Fl → Loc → Sto → Prop} (h : Q .cont m st) : EX c (exec (.Continue pos) env) m st Q := fun A s tm P E R S k => wpAny_Continue (k .cont .cont m st s S rfl h)
theorem EX_expr {e : Expr} {pos : Pos} {Q : Fl → Loc → Sto → Prop} (h : EV c m (eval e env) st fun _ st1 => Q .next m st1) (hi : interactive env = false) (hs : swapsWith e none pos.line env = pure false := by rfl) :
    EX c (exec (.Expr e pos) env) m st Q := fun A s tm P E R S k => wpAny_Expr_any (h A s tm _ E R S fun v x st1 s1 S1 q => k .next .next m st1 s1 S1.drop rfl q) hi hs

theorem ST_local {x : Str} {v : V} {Q : Loc → Sto → Prop} (K : EnvOk c env) (hx : env.kindOf x = some .local) (h : Q (setL m x v) st) : AS c (fun cv => storeName env x cv) v m st Q := fun A s tm cv P E R S r k => by
  obtain ⟨mc, hn, hm⟩ := S.ns
  refine wpAny_storeName_local (m := mc) hx (by rw [K.L]; exact hn) (fun h' hn' hs => ?_) (by rw [K.kind]; rfl)
  rw [K.L] at hn' hs
  refine k _ _ _ (S.store r hm hn' hs (fun xs q => ?_) ?_ ?_) h
  · obtain ⟨o, es, ep, ho, hd, _⟩ := hn
    rw [q] at ho; cases ho; cases hd
  · exact Heap.get?_none_of_le (Nat.le_trans S.sizes.2 S.sizes.1)
  · exact Nat.le_succ _
theorem AS_name {x : Str} {pos : Pos} {v : V} {Q : Loc → Sto → Prop} (h : AS c (fun cv => storeName env x cv) v m st Q) : AS c (assign (.Name x pos) env) v m st Q := fun A s tm cv P E R S r k =>
  wpAny_assign_Name (h A s tm cv P E R S r k)
theorem EX_assign {x : Str} {value : Expr} {pos' pos : Pos} {Q : Fl → Loc → Sto → Prop} (h : EV c m (eval value env) st fun v st1 => AS c (fun cv => storeName env x cv) v m st1 fun m2 st2 => Q .next m2 st2)
    (hs : swapsWith value (some (.Name x pos')) pos.line env = pure false := by rfl) :
    EX c (exec (.Assign [.Name x pos'] value pos) env) m st Q := fun A s tm P E R S k =>
  wpAny_Assign_Name (h A s tm _ E R S fun v y st1 s1 S1 q => q A s1 tm v _ E R S1.drop S1.hd fun m2 st2 s2 S2 q2 => k .next .next m2 st2 s2 S2 rfl q2) hs

theorem EX_mono {t : Sem Flow} {Q Q' : Fl → Loc → Sto → Prop} (h : EX c t m st Q) (hq : ∀ f m' st', Q f m' st' → Q' f m' st') : EX c t m st Q' := fun A s tm P E R S k =>
  h A s tm P E R S fun f fl m' st' s' S' r q => k f fl m' st' s' S' r (hq _ _ _ q)
/-- fewer entries -/
theorem EX_sub {t : Sem Flow} {st' : Sto} {Q : Fl → Loc → Sto → Prop} (hs : st'.Sublist st) (h : EX c t m st' Q) : EX c t m st Q := fun A s tm P E R S k => h A s tm P E R (S.sub hs) k
end

-- L3
section
variable {c : Ctx} {m : Loc} {st : Sto} {Q : V → Sto → Prop}

theorem OP2.ii {f : Value → Value → Sem Value} {a b : Int} {r : V}
    (h : Q r st)
    (w : ∀ (A : Around) (s : Shared) (E : Value → Shared → Prop) (Q : Value → Shared → Prop) (t u : Tok), Room c A → In c m st [] s → (∀ v k, s.toks ≤ k → Rep { s with toks := k } r v → Q v { s with toks := k }) → wpAny (model prg c.w) A (f (.int a t) (.int b u)) Q E s) : OP2 c m f (.int a) (.int b) st Q := fun A s tm v1 v2 P E R S r1 r2 k => by
  obtain ⟨t, e1⟩ := r1
  obtain ⟨u, e2⟩ := r2
  subst e1 e2
  exact w A s E P t u R { S with tms := fun _ h => nomatch h } fun v kk hk rep => k v r st _ ((S.tok hk).tmp rep) h
theorem OP2.ff {f : Value → Value → Sem Value} {a b : UInt64} {l1 l2 : Nat} {r : V}
    (h : Q r st)
    (w : ∀ (A : Around) (s : Shared) (E : Value → Shared → Prop) (Q : Value → Shared → Prop) (t u : Tok), Room c A → In c m st [] s → (∀ v k, s.toks ≤ k → Rep { s with toks := k } r v → Q v { s with toks := k }) → wpAny (model prg c.w) A (f (.float a t) (.float b u)) Q E s) : OP2 c m f (.flt a l1) (.flt b l2) st Q := fun A s tm v1 v2 P E R S r1 r2 k => by
  obtain ⟨t, e1, _⟩ := r1
  obtain ⟨u, e2, _⟩ := r2
  subst e1 e2
  exact w A s E P t u R { S with tms := fun _ h => nomatch h } fun v kk hk rep => k v r st _ ((S.tok hk).tmp rep) h
theorem OP2.fi {f : Value → Value → Sem Value} {a : UInt64} {l1 : Nat} {b : Int} {r : V}
    (h : Q r st)
    (w : ∀ (A : Around) (s : Shared) (E : Value → Shared → Prop) (Q : Value → Shared → Prop) (t u : Tok), Room c A → In c m st [] s → (∀ v k, s.toks ≤ k → Rep { s with toks := k } r v → Q v { s with toks := k }) → wpAny (model prg c.w) A (f (.float a t) (.int b u)) Q E s) : OP2 c m f (.flt a l1) (.int b) st Q := fun A s tm v1 v2 P E R S r1 r2 k => by
  obtain ⟨t, e1, _⟩ := r1
  obtain ⟨u, e2⟩ := r2
  subst e1 e2
  exact w A s E P t u R { S with tms := fun _ h => nomatch h } fun v kk hk rep => k v r st _ ((S.tok hk).tmp rep) h
theorem OP2.if {f : Value → Value → Sem Value} {a : Int} {b : UInt64} {l2 : Nat} {r : V}
    (h : Q r st)
    (w : ∀ (A : Around) (s : Shared) (E : Value → Shared → Prop) (Q : Value → Shared → Prop) (t u : Tok), Room c A → In c m st [] s → (∀ v k, s.toks ≤ k → Rep { s with toks := k } r v → Q v { s with toks := k }) → wpAny (model prg c.w) A (f (.int a t) (.float b u)) Q E s) : OP2 c m f (.int a) (.flt b l2) st Q := fun A s tm v1 v2 P E R S r1 r2 k => by
  obtain ⟨t, e1⟩ := r1
  obtain ⟨u, e2, _⟩ := r2
  subst e1 e2
  exact w A s E P t u R { S with tms := fun _ h => nomatch h } fun v kk hk rep => k v r st _ ((S.tok hk).tmp rep) h

theorem add_ii {a b : Int} (h : Q (.int (a + b)) st) : OP2 c m (binaryOp .Add) (.int a) (.int b) st Q :=
  OP2.ii h (fun A s E Q t u R S k => PyProof.Rows.add_int (k _ (s.toks + 1) (Nat.le_succ _) ⟨s.toks, rfl⟩))
theorem sub_ii {a b : Int} (h : Q (.int (a - b)) st) : OP2 c m (binaryOp .Sub) (.int a) (.int b) st Q :=
  OP2.ii h (fun A s E Q t u R S k => PyProof.Rows.sub_int (k _ (s.toks + 1) (Nat.le_succ _) ⟨s.toks, rfl⟩))
theorem mul_ii {a b : Int} (h : Q (.int (a * b)) st) (hm : IntMulOk a b := by mul_fits) : OP2 c m (binaryOp .Mult) (.int a) (.int b) st Q :=
  OP2.ii h (fun A s E Q t u R S k => PyProof.Rows.mul_int (k _ (s.toks + 1) (Nat.le_succ _) ⟨s.toks, rfl⟩) hm)
theorem mod_ii {a b : Int} (hb : b ≠ 0) (h : Q (.int (a.fmod b)) st) : OP2 c m (binaryOp .Mod) (.int a) (.int b) st Q :=
  OP2.ii h (fun A s E Q t u R S k => PyProof.Rows.mod_int hb (k _ (s.toks + 1) (Nat.le_succ _) ⟨s.toks, rfl⟩))
theorem fdiv_ii {a b : Int} (hb : b ≠ 0) (h : Q (.int (a.fdiv b)) st) (hp : b.natAbs < 1073741824) : OP2 c m (binaryOp .FloorDiv) (.int a) (.int b) st Q :=
  OP2.ii h (fun A s E Q t u R S k => PyProof.Rows.floordiv_int hb (k _ (s.toks + 1) (Nat.le_succ _) ⟨s.toks, rfl⟩) (.inl (PyProof.noPylong_small hp)))
theorem shr_ii {a n : Int} (hn : 0 ≤ n) (h : Q (.int (a.fdiv (2 ^ n.toNat))) st) : OP2 c m (binaryOp .RShift) (.int a) (.int n) st Q :=
  OP2.ii h (fun A s E Q t u R S k => PyProof.Rows.rshift_int hn (k _ (s.toks + 1) (Nat.le_succ _) ⟨s.toks, rfl⟩))
theorem lt_ii {a b : Int} (h : Q (.bool (decide (a < b))) st) : OP2 c m (compareOp .Lt) (.int a) (.int b) st Q :=
  OP2.ii h (fun A s E Q t u R S k => PyProof.Rows.lt_int (k _ s.toks (Nat.le_refl _) rfl))
theorem gt_ii {a b : Int} (h : Q (.bool (decide (b < a))) st) : OP2 c m (compareOp .Gt) (.int a) (.int b) st Q :=
  OP2.ii h (fun A s E Q t u R S k => PyProof.Rows.gt_int (k _ s.toks (Nat.le_refl _) rfl))
theorem le_ii {a b : Int} (h : Q (.bool (decide (a ≤ b))) st) : OP2 c m (compareOp .LtE) (.int a) (.int b) st Q :=
  OP2.ii h (fun A s E Q t u R S k => PyProof.Rows.le_int (k _ s.toks (Nat.le_refl _) rfl))
theorem eq_ii {a b : Int} (h : Q (.bool (a == b)) st) : OP2 c m (compareOp .Eq) (.int a) (.int b) st Q :=
  OP2.ii h (fun A s E Q t u R S k => PyProof.Rows.eq_int (k _ s.toks (Nat.le_refl _) rfl))
theorem ne_ii {a b : Int} (h : Q (.bool (a != b)) st) : OP2 c m (compareOp .NotEq) (.int a) (.int b) st Q :=
  OP2.ii h (fun A s E Q t u R S k => PyProof.Rows.ne_int (k _ s.toks (Nat.le_refl _) rfl))
theorem add_ff {a b : UInt64} {l1 l2 : Nat} (h : Q (.flt (Float64.add a b) c.clk) st) : OP2 c m (binaryOp .Add) (.flt a l1) (.flt b l2) st Q :=
  OP2.ff h (fun A s E Q t u R S k => PyProof.Rows.add_float (k _ (s.toks + 1) (Nat.le_succ _) ⟨s.toks, rfl, S.clk, Nat.lt_succ_self _⟩))
theorem sub_ff {a b : UInt64} {l1 l2 : Nat} (h : Q (.flt (Float64.sub a b) c.clk) st) : OP2 c m (binaryOp .Sub) (.flt a l1) (.flt b l2) st Q :=
  OP2.ff h (fun A s E Q t u R S k => PyProof.Rows.sub_float (k _ (s.toks + 1) (Nat.le_succ _) ⟨s.toks, rfl, S.clk, Nat.lt_succ_self _⟩))
theorem mul_ff {a b : UInt64} {l1 l2 : Nat} (h : Q (.flt (Float64.mul a b) c.clk) st) : OP2 c m (binaryOp .Mult) (.flt a l1) (.flt b l2) st Q :=
  OP2.ff h (fun A s E Q t u R S k => PyProof.Rows.mul_float (k _ (s.toks + 1) (Nat.le_succ _) ⟨s.toks, rfl, S.clk, Nat.lt_succ_self _⟩))
theorem div_ff {a b : UInt64} {l1 l2 : Nat} (hz : Float64.isZero b = false) (h : Q (.flt (Float64.div a b) c.clk) st) : OP2 c m (binaryOp .Div) (.flt a l1) (.flt b l2) st Q :=
  OP2.ff h (fun A s E Q t u R S k => PyProof.Rows.truediv_float_or R.1 (fun q => by rw [hz] at q; cases q) fun _ => k _ (s.toks + 1) (Nat.le_succ _) ⟨s.toks, rfl, S.clk, Nat.lt_succ_self _⟩)
theorem mod_ff {a b : UInt64} {l1 l2 : Nat} (hz : Float64.isZero b = false) (h : Q (.flt (Float64.divmod a b).2 c.clk) st) : OP2 c m (binaryOp .Mod) (.flt a l1) (.flt b l2) st Q :=
  OP2.ff h (fun A s E Q t u R S k => AutoFloatOps.mod_1 (by rw [hz]; exact Bool.false_ne_true) (k _ (s.toks + 1) (Nat.le_succ _) ⟨s.toks, rfl, S.clk, Nat.lt_succ_self _⟩))
theorem eq_ff {a b : UInt64} {l1 l2 : Nat} (h : Q (.bool (Float64.cmp a b == some .eq)) st) : OP2 c m (compareOp .Eq) (.flt a l1) (.flt b l2) st Q :=
  OP2.ff h (fun A s E Q t u R S k => AutoFloatOps.eq_0 (k _ s.toks (Nat.le_refl _) rfl))
theorem le_ff {a b : UInt64} {l1 l2 : Nat} (h : Q (.bool (Float64.cmp a b == some .lt || Float64.cmp a b == some .eq)) st) : OP2 c m (compareOp .LtE) (.flt a l1) (.flt b l2) st Q :=
  OP2.ff h (fun A s E Q t u R S k => AutoFloatOps.le_0 (k _ s.toks (Nat.le_refl _) rfl))
theorem sub_fi {a : UInt64} {l1 l2 : Nat} {n : Int} (hf : n.natAbs < 2 ^ 1023) (h : Q (.flt (Float64.sub a (Float64.ofInt n)) c.clk) st) : OP2 c m (binaryOp .Sub) (.flt a l1) (.int n) st Q :=
  OP2.fi h (fun A s E Q t u R S k => PyProof.Rows.sub_fi_fits hf (k _ (s.toks + 1) (Nat.le_succ _) ⟨s.toks, rfl, S.clk, Nat.lt_succ_self _⟩))
theorem mul_if {a : UInt64} {l1 l2 : Nat} {n : Int} (hf : n.natAbs < 2 ^ 1023) (h : Q (.flt (Float64.mul (Float64.ofInt n) a) c.clk) st) : OP2 c m (binaryOp .Mult) (.int n) (.flt a l2) st Q :=
  OP2.if h (fun A s E Q t u R S k => PyProof.Rows.mul_if_fits hf (k _ (s.toks + 1) (Nat.le_succ _) ⟨s.toks, rfl, S.clk, Nat.lt_succ_self _⟩))
theorem ne_fi {a : UInt64} {l1 l2 : Nat} {n : Int} (h : Q (.bool (Float64.cmpInt a n != some .eq)) st) : OP2 c m (compareOp .NotEq) (.flt a l1) (.int n) st Q :=
  OP2.fi h (fun A s E Q t u R S k => PyProof.Rows.ne_fi (k _ s.toks (Nat.le_refl _) rfl))
theorem div_ii {a b : Int} (hb : b ≠ 0) (hi : Float64.isInf (Float64.ofFrac (decide (a < 0) != decide (b < 0)) a.natAbs b.natAbs) = false) (h : Q (.flt (Float64.ofFrac (decide (a < 0) != decide (b < 0)) a.natAbs b.natAbs) c.clk) st) :
    OP2 c m (binaryOp .Div) (.int a) (.int b) st Q :=
  OP2.ii h (fun A s E Q t u R S k => AutoIntOps.truediv_2 (by simpa using hb) (by rw [hi]; exact Bool.false_ne_true) (k _ (s.toks + 1) (Nat.le_succ _) ⟨s.toks, rfl, S.clk, Nat.lt_succ_self _⟩))
theorem neg_i {a : Int} (h : Q (.int (-a)) st) : OP c m (fun vs => unaryOp .USub (vs.getD 0 .none)) [.int a] st Q := fun A s tm vs P E R S r k => by
  obtain ⟨v, rfl, ⟨t, e⟩⟩ := RepL.one r
  subst e
  exact PyProof.Rows.neg_int (k _ (.int (-a)) st _ (S.tok1.tmp ⟨_, rfl⟩) h)
noncomputable def V.isNone : V → Bool | .none => true | _ => false
theorem is_none {a : V} (h : Q (.bool a.isNone) st) : OP2 c m (compareOp .Is) a .none st Q := fun A s tm v1 v2 P E R S r1 r2 k => by
  have e2 : v2 = .none := r2
  subst e2
  refine PySem.is_none (k _ _ st s (S.tmp (x := .bool a.isNone) ?_) h)
  cases a with
  | none => have e : v1 = .none := r1; subst e; rfl
  | bool b => have e : v1 = .bool b := r1; subst e; rfl
  | int i => obtain ⟨t, e⟩ := r1; subst e; rfl
  | flt i lo => obtain ⟨t, e, _⟩ := r1; subst e; rfl
  | ref i => have e : v1 = .ref i := r1; subst e; rfl
  | bi i => have e : v1 = .builtin i := r1; subst e; rfl
  | ty i => have e : v1 = .type i := r1; subst e; rfl
  | pair x y => obtain ⟨a, p, q, e, _⟩ := r1; subst e; rfl
  | trip x y z => obtain ⟨a, p, q, r, e, _⟩ := r1; subst e; rfl
end

-- L4
section
variable {c : Ctx} {m : Loc} {st : Sto} {env : Env}

/-! displays -/
theorem EVs_nil {pos : Pos} {Q : List V → Sto → Prop} (h : Q [] st) : EVs c m (spliced (backTo pos (starEach [] env))) st Q := fun A s tm P E R S k =>
  spliced_none (k [] [] st s S trivial h)
theorem EVs_cons {e : Expr} {rest : List Expr} {pos : Pos} {Q : List V → Sto → Prop} (h : EV c m (eval e env) st fun x st1 => EVs c m (spliced (backTo pos (starEach rest env))) st1 fun xs st2 => Q (x :: xs) st2)
    (he : starEach (e :: rest) env = (false, eval e env) :: starEach rest env := by rfl) : EVs c m (spliced (backTo pos (starEach (e :: rest) env))) st Q := fun A s tm P E R S k =>
  spliced_more (h A s tm _ E R S fun v x st1 s1 S1 h1 => h1 A s1 _ _ E R S1 fun vs xs st2 s2 S2 r q => k (v :: vs) (x :: xs) st2 s2 S2.drop ⟨S2.hd, r⟩ q) he

theorem EV_pair {elts : List Expr} {k : Nat} {pos : Pos} {Q : V → Sto → Prop} (h : EVs c m (spliced (backTo pos (starEach elts env))) st fun xs st1 => ∃ x y, xs = [x, y] ∧ Q (.pair x y) st1) :
    EV c m (eval (.Tuple elts k pos) env) st Q := fun A s tm P E R S kk =>
  wpAny_Tuple_spliced (h A s tm _ E R S fun vs xs st1 s1 S1 r ⟨x, y, e, q⟩ => by
    subst e
    obtain ⟨p, q', rfl, r1, r2⟩ := RepL.two r
    refine ⟨show 2 ≤ sizeLine by decide, kk _ (.pair x y) st1 _ ?_ q⟩
    have S2 := S1.push (tupO #[p, q'])
    exact S2.tmp ⟨s1.heap.objs.size, p, q', rfl, Heap.get?_push_size _ rfl, r1.mono (tkeep_of (fun _ _ => Heap.get?_push_of_some _) (Nat.le_refl _)), r2.mono (tkeep_of (fun _ _ => Heap.get?_push_of_some _) (Nat.le_refl _))⟩)
theorem EV_trip {elts : List Expr} {k : Nat} {pos : Pos} {Q : V → Sto → Prop} (h : EVs c m (spliced (backTo pos (starEach elts env))) st fun xs st1 => ∃ x y z, xs = [x, y, z] ∧ Q (.trip x y z) st1) :
    EV c m (eval (.Tuple elts k pos) env) st Q := fun A s tm P E R S kk =>
  wpAny_Tuple_spliced (h A s tm _ E R S fun vs xs st1 s1 S1 r ⟨x, y, z, e, q⟩ => by
    subst e
    obtain ⟨p, q', r', rfl, r1, r2, r3⟩ := RepL.three r
    refine ⟨show 3 ≤ sizeLine by decide, kk _ (.trip x y z) st1 _ ?_ q⟩
    have S2 := S1.push (tupO #[p, q', r'])
    exact S2.tmp ⟨s1.heap.objs.size, p, q', r', rfl, Heap.get?_push_size _ rfl, r1.mono (tkeep_of (fun _ _ => Heap.get?_push_of_some _) (Nat.le_refl _)), r2.mono (tkeep_of (fun _ _ => Heap.get?_push_of_some _) (Nat.le_refl _)), r3.mono (tkeep_of (fun _ _ => Heap.get?_push_of_some _) (Nat.le_refl _))⟩)

theorem In.newList {tm : List (V × Value)} {s : Shared} (S : In c m st tm s) {xs : List V} {vs : List Value} (r : RepL s xs vs) :
    In c m ((s.heap.objs.size, .lst xs) :: st) tm { s with heap := s.heap.push { cls := .type "list", data := .seq vs.toArray } } :=
  S.new (e := .lst xs) ⟨vs.toArray, 0, rfl, by simpa using r⟩

theorem EV_list {elts : List Expr} {pos : Pos} {Q : V → Sto → Prop} (h : EVs c m (spliced (backTo pos (starEach elts env))) st fun xs st1 => xs.length ≤ 100 ∧ ∀ a, Q (.ref a) ((a, .lst xs) :: st1)) :
    EV c m (eval (.List elts pos) env) st Q := fun A s tm P E R S kk =>
  wpAny_List_spliced (h A s tm _ E R S fun vs xs st1 s1 S1 r ⟨hl, q⟩ => by
    refine ⟨?_, kk _ (.ref _) _ _ ((S1.newList r).tmp rfl) (q _)⟩
    rw [r.length]; exact Nat.le_trans hl (by decide))

/-! items -/
theorem In.list {tm : List (V × Value)} {s : Shared} (S : In c m st tm s) {i : Nat} {a : Addr} {l : List V} (hi : st[i]? = some (a, .lst l)) : ∃ xs n, s.heap.get? a = some (listOf xs n) ∧ RepL s l xs.toList := by
  obtain ⟨o, ho, xs, n, e, r⟩ := S.ents _ (List.mem_of_getElem? hi)
  subst e
  exact ⟨xs, n, ho, r⟩
theorem isList_of {h : Heap} {a : Addr} {xs : Array Value} {n : Nat} (e : h.get? a = some (listOf xs n)) : h.IsList a xs := ⟨_, e, rfl, n, rfl⟩

theorem sub_list {value slice : Expr} {i : Nat} {a : Addr} {l : List V} {k : Int} {x : V} {Q : V → Sto → Prop} (hi : st[i]? = some (a, .lst l)) (h0 : 0 ≤ k) (hk : k < 1000000) (hx : l[k.toNat]? = some x) (h : Q x st)
    (hs : ∀ u, subscripted slice false (.ref a) (.int k u) = operate [.ref a, .int k u] (getItem (.ref a) (.int k u)) := by intro _; with_unfolding_all rfl) :
    OP2 c m (subscriptTail value slice) (.ref a) (.int k) st Q := fun A s tm v1 v2 P E R S r1 r2 kk => by
  have e1 : v1 = .ref a := r1
  obtain ⟨u, e2⟩ := r2
  subst e1 e2
  obtain ⟨xs, n, ho, r⟩ := S.list hi
  obtain ⟨v, ev, rv⟩ := r.get hx
  have hl := isList_of ho
  exact tail_any hl.typeIs slot_list_getitem.lookup (wpAny_getItem_list hl h0 (by lia) (by simpa using ev) (kk v x st s (S.tmp rv) h)) (hs u)

theorem sub_pair0 {value slice : Expr} {x y : V} {Q : V → Sto → Prop} (h : Q x st)
    (hs : ∀ a u, subscripted slice false (.ref a) (.int 0 u) = operate [.ref a, .int 0 u] (getItem (.ref a) (.int 0 u)) := by intro _ _; with_unfolding_all rfl) :
    OP2 c m (subscriptTail value slice) (.pair x y) (.int 0) st Q := fun A s tm v1 v2 P E R S r1 r2 kk => by
  obtain ⟨a, p, q, e1, ho, rx, ry⟩ := r1
  obtain ⟨u, e2⟩ := r2
  subst e1 e2
  exact item_tupleT ⟨_, ho, rfl, 0, rfl⟩ (by decide) (by decide) (j := 0) rfl rfl (kk p x st s (S.tmp rx) h) (hs a u)
theorem sub_trip {value slice : Expr} {x y z : V} {k : Nat} {w : V} {Q : V → Sto → Prop} (hk : [x, y, z][k]? = some w) (h : Q w st)
    (hs : ∀ a u, subscripted slice false (.ref a) (.int k u) = operate [.ref a, .int k u] (getItem (.ref a) (.int k u)) := by intro _ _; with_unfolding_all rfl) :
    OP2 c m (subscriptTail value slice) (.trip x y z) (.int k) st Q := fun A s tm v1 v2 P E R S r1 r2 kk => by
  obtain ⟨a, p, q, r, e1, ho, rx, ry, rz⟩ := r1
  obtain ⟨u, e2⟩ := r2
  subst e1 e2
  match k, hk, h, hs with
  | 0, hk, h, hs => cases hk; exact item_tupleT ⟨_, ho, rfl, 0, rfl⟩ (by decide) (by decide) (j := 0) rfl rfl (kk p x st s (S.tmp rx) h) (hs a u)
  | 1, hk, h, hs => cases hk; exact item_tupleT ⟨_, ho, rfl, 0, rfl⟩ (by decide) (by decide) (j := 1) rfl rfl (kk q y st s (S.tmp ry) h) (hs a u)
  | 2, hk, h, hs => cases hk; exact item_tupleT ⟨_, ho, rfl, 0, rfl⟩ (by decide) (by decide) (j := 2) rfl rfl (kk r z st s (S.tmp rz) h) (hs a u)
  | n + 3, hk, _, _ => cases hk

theorem update_list {s : Shared} {a : Addr} {xs : Array Value} {n : Nat} (ho : s.heap.get? a = some (listOf xs n)) (f : Array Value → Array Value) :
    ∃ n', (s.heap.update a (Obj.mapSeq f)).get? a = some (listOf (f xs) n') :=
  ⟨_, Heap.get?_update_self _ ho rfl⟩

theorem setItem_raw {prog : Program} {w : World} {A : Around} {E : Value → Shared → Prop} {s : Shared} {l : Addr} {xs : Array Value} {n : Nat} {k : Int} {t : Tok} {v : Value} {Q : Unit → Shared → Prop} (ho : s.heap.get? l = some (listOf xs n))
    (h0 : 0 ≤ k) (hk : k < xs.size) (hfit : k < 2 ^ 63) (hQ : Q () { s with heap := s.heap.update l (Obj.mapSeq (·.setIfInBounds k.toNat v)) }) :
    wpAny (model prog w) A (setItem (.ref l) (.int k t) v) Q E s := by
  have hl := isList_of ho
  unfold setItem
  try with_reducible refine wpAny_holding ?_
  first | refine wpAny_bind (wpAny_pure ?_) | skip
  refine wpAny_bind (wpAny_sequenceKey hl.typeIs (by decide) ?_)
  refine wpAny_bind (wpAny_callSpecial?_slot (name := Str.ofString "__setitem__") hl.typeIs slot_list_setitem
    (wpAny_call_entry slot_list_setitem hl.typeIs entry_list_setitem ?_ (args_list_setitem _ _ _)))
  show wpAny _ _ (Builtin.List.listSubscript? (.int k t) >>= _) _ _ s
  refine wpAny_bind (wpAny_listSubscript_int (fitsIndex_of h0 hfit) ?_)
  clear hfit
  obtain ⟨j, rfl⟩ := Int.eq_ofNat_of_zero_le h0
  have hj : j < xs.size := by lia
  have hx' : xs[j]? = some xs[j] := Array.getElem?_eq_getElem hj
  show wpAny _ _ ((seqItemAt l j >>= fun r => pure (r.map (j, ·))) >>= _) _ _ s
  refine wpAny_bind (wpAny_bind (wpAny_seqItemAt ho rfl (wpAny_pure ?_)))
  rw [hx']
  show wpAny _ _ (setSeqItemAt l j v >>= _) _ _ s
  refine wpAny_bind (wpAny_setSeqItemAt ho rfl ?_)
  exact wpAny_pure ⟨.none, rfl, wpAny_pure hQ⟩

theorem EX_setitem {value o i : Expr} {pos' pos : Pos} {Q : Fl → Loc → Sto → Prop} (h : EV c m (eval value env) st fun v st1 => EV c m (eval o env) st1 fun ov st2 => EV c m (eval i env) st2 fun iv st3 =>
      ∃ a j l k, ov = .ref a ∧ iv = .int k ∧ st3[j]? = some (a, .lst l) ∧ 0 ≤ k ∧ k < 1000000 ∧ k.toNat < l.length ∧ Q .next m (st3.set j (a, .lst (l.set k.toNat v))))
    (hs : swapsWith value (some (.Subscript o i pos')) pos.line env = pure false := by rfl) :
    EX c (exec (.Assign [.Subscript o i pos'] value pos) env) m st Q := fun A s tm P E R S k =>
  wpAny_Assign_Subscript (h A s tm _ E R S fun v x st1 s1 S1 h1 => h1 A s1 _ _ E R S1 fun v2 x2 st2 s2 S2 h2 => h2 A s2 _ _ E R S2 fun v3 x3 st3 s3 S3 h3 => by
    obtain ⟨a, j, l, kk, e2, e3, hj, h0, hb, hlt, q⟩ := h3
    subst e2 e3
    obtain ⟨t, e3⟩ : ∃ t, v3 = .int kk t := S3.hd
    have e2 : v2 = .ref a := S3.drop.hd
    subst e2 e3
    have rx : Rep s3 x v := S3.drop.drop.hd
    obtain ⟨xs, ep, ho, r⟩ := S3.list hj
    have hlen : kk < xs.size := by have := r.length; simp at this; lia
    refine setItem_raw ho h0 hlen (by lia) ?_
    obtain ⟨n', hn'⟩ := update_list (s := s3) ho (·.setIfInBounds kk.toNat v)
    refine k .next .next m _ _ (S3.drop.drop.drop.upd hj (h' := s3.heap.update a (Obj.mapSeq (·.setIfInBounds kk.toNat v))) (t := s3.toks) (fun b o hb g => ?_) hn' ?_ (Nat.le_refl _)) rfl q
    · rw [Heap.get?_update_other _ _ (Ne.symm hb)]; exact g
    · exact ⟨_, n', rfl, by simpa using r.set rx kk.toNat⟩) hs
end

-- L5
/-! equality of values -/
noncomputable def veq : V → V → Bool
  | .int a, .int b => a == b
  | .flt a _, .int b => Float64.cmpInt a b == some .eq
  | _, _ => false
noncomputable def vok : V → V → Bool
  | .int _, .int _ => true
  | .flt _ _, .int _ => true
  | _, _ => false

theorem eqAt_fi (A : Around) (s : Shared) (a : UInt64) (t : Tok) (b : Int) (u : Tok) : SeqAt.EqAt A s (.float a t) (.int b u) (Float64.cmpInt a b == some .eq) := fun prog w E Q h => by
  unfold eqBool
  refine wpAny_holding ?_
  refine wpAny_ite_split (fun hab => absurd (eq_of_beq hab) nofun) (fun _ => ?_)
  have := PyProof.Rows.eq_fi (prog := prog) (w := w) (A := A) (E := E) (s := s) (a := a) (t := t) (n := b) (u := u) (Q := fun v s' => wpAny (model prog w) A (truthOfDropped v) Q E s') (wpAny_truthy_bool h)
  exact wpAny_bind this

theorem veq_same {s : Shared} {x y : V} {v : Value} (h : vok x y = true) (r : Rep s x v) (r' : Rep s y v) : veq x y = true := by
  match x, y, h, r, r' with
  | .int a, .int b, _, ⟨t, e⟩, ⟨u, e'⟩ => subst e; cases e'; simp [veq]
  | .flt a _, .int b, _, ⟨t, e, _⟩, ⟨u, e'⟩ => subst e; cases e'

theorem eqAt_V {s : Shared} {A : Around} {x y : V} {v w : Value} (h : vok x y = true) (r : Rep s x v) (r' : Rep s y w) : SeqAt.EqAt A s v w (veq x y) := by
  match x, y, h, r, r' with
  | .int a, .int b, _, ⟨t, e⟩, ⟨u, e'⟩ => subst e e'; exact SeqAt.EqAt.int_int a t b u
  | .flt a _, .int b, _, ⟨t, e, _⟩, ⟨u, e'⟩ => subst e e'; exact eqAt_fi A s a t b u

noncomputable def peq : V → V → Bool
  | .pair a b, .pair c d => veq a c && veq b d
  | _, _ => false
noncomputable def pok : V → V → Bool
  | .pair a b, .pair c d => vok a c && vok b d
  | _, _ => false

theorem isTuple_of {h : Heap} {a : Addr} {xs : Array Value} (e : h.get? a = some (tupO xs)) : h.IsTuple a xs := ⟨_, e, rfl, 0, rfl⟩

theorem pair_items {s : Shared} {A : Around} {a b x y : V} {p q p' q' : Value} (h1 : vok a x = true) (h2 : vok b y = true) (r1 : Rep s a p) (r2 : Rep s b q) (r1' : Rep s x p') (r2' : Rep s y q') :
    ∀ j (h1 : j < (#[p, q] : Array Value).size) (h2 : j < (#[p', q'] : Array Value).size), SeqAt.EqAt A s (#[p, q] : Array Value)[j] (#[p', q'] : Array Value)[j] ((fun j : Nat => if j = 0 then veq a x else veq b y) j)
  | 0, _, _ => eqAt_V h1 r1 r1'
  | 1, _, _ => eqAt_V h2 r2 r2'
  | n + 2, h, _ => absurd h (by simp)

theorem eqAt_P {s : Shared} {A : Around} {a b x y : V} {v w : Value} (h : pok (.pair a b) (.pair x y) = true) (r : Rep s (.pair a b) v) (r' : Rep s (.pair x y) w) (hu : A.units < cLine) : SeqAt.EqAt A s v w (peq (.pair a b) (.pair x y)) := by
  simp only [pok, Bool.and_eq_true] at h
  obtain ⟨l, p, q, e, g, r1, r2⟩ := r
  obtain ⟨l', p', q', e', g', r1', r2'⟩ := r'
  subst e e'
  by_cases hvw : l = l'
  · subst hvw
    rw [g] at g'
    cases g'
    have : peq (.pair a b) (.pair x y) = true := by
      simp only [peq, Bool.and_eq_true]
      exact ⟨veq_same h.1 r1 r1', veq_same h.2 r2 r2'⟩
    rw [this]
    exact SeqAt.EqAt.same _
  · have key := SeqAt.RcAt.tuples (A := A) (isTuple_of g) (isTuple_of g') hu (pair_items h.1 h.2 r1 r2 r1' r2')
    have e : ((List.range (min (#[p, q] : Array Value).size (#[p', q'] : Array Value).size)).all (fun j : Nat => if j = 0 then veq a x else veq b y) && (#[p, q] : Array Value).size == (#[p', q'] : Array Value).size) = peq (.pair a b) (.pair x y) := by
      show ((List.range 2).all _ && (2 == 2)) = _
      simp [peq, List.range_succ]
    rw [e] at key
    exact SeqAt.EqAt.of_refs hvw key

section
variable {c : Ctx} {m : Loc} {st : Sto} {env : Env}

/-- != of two pairs -/
theorem ne_pp {a b x y : V} {Q : V → Sto → Prop} (h : pok (.pair a b) (.pair x y) = true) (hQ : Q (.bool (!peq (.pair a b) (.pair x y))) st) : OP2 c m (compareOp .NotEq) (.pair a b) (.pair x y) st Q := fun A s tm v w P E R S r r' k => by
  simp only [pok, Bool.and_eq_true] at h
  obtain ⟨l, p, q, e, g, r1, r2⟩ := r
  obtain ⟨l', p', q', e', g', r1', r2'⟩ := r'
  subst e e'
  refine richCompare_meets_room (op := .NotEq) ⟨_, g, rfl⟩ ⟨_, g', rfl⟩ F.slot_tuple_ne F.entry_tuple_ne (F.args_tuple_ne_2 _ _) (SeqAt.tuple_neAt l l' #[p, q] #[p', q'] 0 0 none none #[] #[] (fun j : Nat => if j = 0 then veq a x else veq b y))
    ⟨g, g', pair_items h.1 h.2 r1 r2 r1' r2', ?_⟩ (Nat.lt_of_le_of_lt (by lia) R.units)
  have e : (!((List.range (min (#[p, q] : Array Value).size (#[p', q'] : Array Value).size)).all (fun j : Nat => if j = 0 then veq a x else veq b y) && (#[p, q] : Array Value).size == (#[p', q'] : Array Value).size)) = !peq (.pair a b) (.pair x y) := by
    show (!((List.range 2).all _ && (2 == 2))) = _
    simp [peq, List.range_succ]
  rw [e]
  exact ⟨(fun x => nomatch x), k _ (.bool _) st s (S.tmp rfl) hQ⟩

theorem RepL.getElem {s : Shared} {xs : List V} {vs : List Value} (r : RepL s xs vs) (j : Nat) (h1 : j < vs.length) (h2 : j < xs.length) : Rep s xs[j] vs[j] := by
  obtain ⟨v, e, q⟩ := r.get (i := j) (List.getElem?_eq_getElem h2)
  rw [List.getElem?_eq_getElem h1] at e
  cases e
  exact q

/-- != of two lists of pairs -/
theorem ne_ll {i j : Nat} {a b : Addr} {xs ys : List V} {Q : V → Sto → Prop} (hi : st[i]? = some (a, .lst xs)) (hj : st[j]? = some (b, .lst ys)) (hl : xs.length = ys.length) (h : ∀ k (h1 : k < xs.length) (h2 : k < ys.length), pok xs[k] ys[k] = true ∧ peq xs[k] ys[k] = true)
    (hQ : Q (.bool false) st) : OP2 c m (compareOp .NotEq) (.ref a) (.ref b) st Q := fun A s tm v w P E R S r r' k => by
  have e : v = .ref a := r
  have e' : w = .ref b := r'
  subst e e'
  obtain ⟨us, n, ho, ru⟩ := S.list hi
  obtain ⟨ws, n', ho', rw'⟩ := S.list hj
  have l1 := ru.length
  have l2 := rw'.length
  simp only [Array.length_toList] at l1 l2
  refine richCompare_meets_room (op := .NotEq) ⟨_, ho, rfl⟩ ⟨_, ho', rfl⟩ F.slot_list_ne F.entry_list_ne (F.args_list_ne_2 _ _) (SeqAt.list_neAt a b us ws n n' none none #[] #[] (by lia) (fun _ => true))
    ⟨ho, ho', fun t h1 h2 => ?_, ?_⟩ (Nat.lt_of_le_of_lt (by lia) R.units)
  · have q1 := ru.getElem t (by simpa using h1) (by lia)
    have q2 := rw'.getElem t (by simpa using h2) (by lia)
    obtain ⟨hp, he⟩ := h t (by lia) (by lia)
    revert q1 q2 hp he
    generalize xs[t] = x
    generalize ys[t] = y
    intro q1 q2 hp he
    match x, y, hp, he, q1, q2 with
    | .pair a b, .pair x y, hp, he, q1, q2 =>
      have := eqAt_P (A := A.in1) hp q1 q2 (Nat.lt_of_le_of_lt (by lia) R.in1)
      rw [he] at this
      simpa using this
  · have e : (!(List.range us.size).all fun _ => true) = false := by simp
    rw [e]
    exact ⟨(fun x => nomatch x), k _ (.bool false) st s (S.tmp rfl) hQ⟩

/-- == of a list and the empty list -/
theorem eq_nil {i j : Nat} {a b : Addr} {xs : List V} {Q : V → Sto → Prop} (hi : st[i]? = some (a, .lst xs)) (hj : st[j]? = some (b, .lst [])) (hQ : Q (.bool xs.isEmpty) st) : OP2 c m (compareOp .Eq) (.ref a) (.ref b) st Q := fun A s tm v w P E R S r r' k => by
  have e : v = .ref a := r
  have e' : w = .ref b := r'
  subst e e'
  obtain ⟨us, n, ho, ru⟩ := S.list hi
  obtain ⟨ws, n', ho', rw'⟩ := S.list hj
  have l1 := ru.length
  have l2 := rw'.length
  simp only [Array.length_toList, List.length_nil] at l1 l2
  cases xs with
  | nil =>
    have l1' : us.size = 0 := l1
    refine SeqAt.eq_listAt (e := fun _ => true) (isList_of ho) (isList_of ho') (by lia) (Nat.lt_of_le_of_lt (by lia) R.units) (fun t h1 h2 => by lia) ?_
    have e : ((List.range us.size).all fun _ => true) = true := by simp
    rw [e]
    exact k _ (.bool true) st s (S.tmp rfl) hQ
  | cons x r =>
    have l1' : us.size = r.length + 1 := l1
    exact SeqAt.eq_list_lengthsAt (isList_of ho) (isList_of ho') (by simp; lia) (Nat.lt_of_le_of_lt (by lia) R.units) (k _ (.bool false) st s (S.tmp rfl) hQ)

/-- in, of ints -/
theorem in_prep {s : Shared} {A : Around} {a : Int} {t : Tok} : ∀ {l : List Int} {vs : List Value}, RepL s (l.map V.int) vs → ∃ e : Value → Bool, (∀ v ∈ vs, SeqAt.EqAt A s v (.int a t) (e v)) ∧ vs.any e = decide (a ∈ l) ∧ ∀ j (h1 : j < vs.length) (h2 : j < l.length), e vs[j] = (l[j] == a) := by
  intro l vs r
  refine ⟨fun v => match v with | .int b _ => b == a | _ => false, ?_, ?_, ?_⟩
  · induction l generalizing vs with
    | nil => match vs, r with | [], _ => intro v hv; cases hv
    | cons b l ih =>
      match vs, r with
      | v :: vs, ⟨⟨u, e⟩, r⟩ =>
        subst e
        intro v hv
        rcases List.mem_cons.mp hv with rfl | hv
        · exact SeqAt.EqAt.int_int b u a t
        · exact ih r v hv
  · induction l generalizing vs with
    | nil => match vs, r with | [], _ => rfl
    | cons b l ih =>
      match vs, r with
      | v :: vs, ⟨⟨u, e⟩, r⟩ =>
        subst e
        rw [List.any_cons, ih r]
        by_cases h : b = a
        · simp [h]
        · simp [h, Ne.symm h]
  · intro j h1 h2
    have q := r.getElem j h1 (by simpa using h2)
    rw [List.getElem_map] at q
    obtain ⟨u, e⟩ := q
    rw [e]
theorem notin_int {i : Nat} {a : Addr} {l : List Int} {x : Int} {Q : V → Sto → Prop} (hi : st[i]? = some (a, .lst (l.map V.int))) (hQ : Q (.bool (!decide (x ∈ l))) st) : OP2 c m (compareOp .NotIn) (.int x) (.ref a) st Q := fun A s tm v w P E R S r r' k => by
  obtain ⟨t, e⟩ := r
  have e' : w = .ref a := r'
  subst e e'
  obtain ⟨us, n, ho, ru⟩ := S.list hi
  obtain ⟨e, h1, h2, _⟩ := in_prep (A := A.in1) (a := x) (t := t) ru
  refine SeqAt.notIn_listAt e (isList_of ho) (fun y hy => h1 y (by simpa using hy)) ?_
  have : us.any e = decide (x ∈ l) := by rw [← h2, Array.any_toList]
  rw [this]
  exact k _ (.bool _) st s (S.tmp rfl) hQ
end

-- L6
open AutoSeq1 (wpAny_loadPart')

noncomputable def plt (a b x y : Int) : Bool := decide (a < x ∨ (a = x ∧ b < y))

theorem rc_lt {prog : Program} {w : World} {A : Around} {E : Value → Shared → Prop} {s : Shared} {a b : Int} {t u : Tok} {Q : Value → Shared → Prop} (h : Q (.bool (decide (a < b))) s) : wpAny (model prog w) A (richCompare .Lt (.int a t) (.int b u)) Q E s := PyProof.Rows.lt_int h

set_option maxHeartbeats 1000000 in
theorem tuple_lt (l l' : Addr) (a b x y : Int) (t1 t2 t3 t4 : Tok) : Meets (Builtin.«tuple.__lt__» ⟨[.ref l, .ref l'], []⟩)
    (fun A R s => s.heap.get? l = some (tupO #[.int a t1, .int b t2]) ∧ s.heap.get? l' = some (tupO #[.int x t3, .int y t4]) ∧ R (.ok (.ret (.bool (plt a b x y)))) s) :=
  .of_wp fun prog w A R s h => by
    obtain ⟨hp, g, d, tk, os⟩ := s; obtain ⟨hl, hb, h⟩ := h
    have f2 := AutoSeq1.sub_tuple_tuple
    wp_walk using wpAny_loadPart' hl, wpAny_loadPart' hb
    refine MeetsSeq.EqGives.int a x t1 t3 prog w _ _ _ _ ?_
    by_cases h1 : a = x
    · subst h1
      rw [show (a == a) = true by simp]
      wp_walk
      refine MeetsSeq.EqGives.int b y t2 t4 prog w _ _ _ _ ?_
      by_cases h2 : b = y
      · subst h2
        rw [show (b == b) = true by simp]
        wp_walk
        have : plt a b a b = false := by simp [plt]
        rw [this] at h
        exact ⟨_, rfl, h⟩
      · rw [show (b == y) = false by simpa using h2]
        wp_walk using rc_lt
        have : plt a b a y = decide (b < y) := by simp [plt]
        rw [this] at h
        exact ⟨_, rfl, h⟩
    · rw [show (a == x) = false by simpa using h1]
      wp_walk using rc_lt
      have : plt a b x y = decide (a < x) := by simp [plt, h1]
      rw [this] at h
      exact ⟨_, rfl, h⟩

-- L7
section
variable {c : Ctx} {m : Loc} {st : Sto} {env : Env}

theorem lt_pp {a b x y : Int} {Q : V → Sto → Prop} (hQ : Q (.bool (plt a b x y)) st) : OP2 c m (compareOp .Lt) (.pair (.int a) (.int b)) (.pair (.int x) (.int y)) st Q := fun A s tm v w P E R S r r' k => by
  obtain ⟨l, p, q, e, g, ⟨t1, e1⟩, ⟨t2, e2⟩⟩ := r
  obtain ⟨l', p', q', e', g', ⟨t3, e3⟩, ⟨t4, e4⟩⟩ := r'
  subst e e' e1 e2 e3 e4
  exact richCompare_meets_room (op := .Lt) ⟨_, g, rfl⟩ ⟨_, g', rfl⟩ F.slot_tuple_lt F.entry_tuple_lt (F.args_tuple_lt_2 _ _) (tuple_lt l l' a b x y t1 t2 t3 t4)
    ⟨g, g', (fun x => nomatch x), k _ (.bool _) st s (S.tmp rfl) hQ⟩ (Nat.lt_of_le_of_lt (by lia) R.units)

/-! unpacking -/
theorem AS_pair {t1 t2 : Expr} {kk : Nat} {pos : Pos} {x y : V} {Q : Loc → Sto → Prop} (h : AS c (assign t1 env) x m st fun m1 st1 => AS c (assign t2 env) y m1 st1 Q)
    (he : assignEach [t1, t2] env = [(false, assign t1 env), (false, assign t2 env)] := by rfl) : AS c (assign (.Tuple [t1, t2] kk pos) env) (.pair x y) m st Q := fun A s tm v P E R S r k => by
  obtain ⟨a, p, q, e, g, r1, r2⟩ := r
  subst e
  refine wpAny_assign_Tuple R.1 (isTuple_of g) (by rw [he]; rfl) (by rw [he]; rfl) fun h' hx => ?_
  have hk : ∀ b o, s.heap.get? b = some o → h'.get? b = some o := fun b o e => hx b o (Nat.ne_of_lt (Heap.lt_size e)) e
  have S1 := S.ext hk (Nat.le_refl s.toks)
  have tk := tkeep_of (s := s) hk (Nat.le_refl _)
  rw [he]
  refine wpAny_assignInOrder_more (h A _ ((y, q) :: tm) p _ E R (S1.tmp (r2.mono tk)) (r1.mono tk) fun m1 st1 s1 S2 h1 => ?_)
  exact wpAny_assignInOrder_more (h1 A _ tm q _ E R S2.drop S2.hd fun m2 st2 s2 S3 h2 => wpAny_assignInOrder_none (k m2 st2 s2 S3 h2))
theorem AS_trip {t1 t2 t3 : Expr} {kk : Nat} {pos : Pos} {x y z : V} {Q : Loc → Sto → Prop} (h : AS c (assign t1 env) x m st fun m1 st1 => AS c (assign t2 env) y m1 st1 fun m2 st2 => AS c (assign t3 env) z m2 st2 Q)
    (he : assignEach [t1, t2, t3] env = [(false, assign t1 env), (false, assign t2 env), (false, assign t3 env)] := by rfl) : AS c (assign (.Tuple [t1, t2, t3] kk pos) env) (.trip x y z) m st Q := fun A s tm v P E R S r k => by
  obtain ⟨a, p, q, q3, e, g, r1, r2, r3⟩ := r
  subst e
  refine wpAny_assign_Tuple R.1 (isTuple_of g) (by rw [he]; rfl) (by rw [he]; rfl) fun h' hx => ?_
  have hk : ∀ b o, s.heap.get? b = some o → h'.get? b = some o := fun b o e => hx b o (Nat.ne_of_lt (Heap.lt_size e)) e
  have S1 := S.ext hk (Nat.le_refl s.toks)
  have tk := tkeep_of (s := s) hk (Nat.le_refl _)
  rw [he]
  refine wpAny_assignInOrder_more (h A _ ((y, q) :: (z, q3) :: tm) p _ E R ((S1.tmp (r3.mono tk)).tmp (r2.mono tk)) (r1.mono tk) fun m1 st1 s1 S2 h1 => ?_)
  refine wpAny_assignInOrder_more (h1 A _ ((z, q3) :: tm) q _ E R S2.drop S2.hd fun m2 st2 s2 S3 h2 => ?_)
  exact wpAny_assignInOrder_more (h2 A _ tm q3 _ E R S3.drop S3.hd fun m3 st3 s3 S4 h3 => wpAny_assignInOrder_none (k m3 st3 s3 S4 h3))
theorem EX_assign_tuple {ts : List Expr} {kk : Nat} {p : Pos} {value : Expr} {pos : Pos} {Q : Fl → Loc → Sto → Prop} (h : EV c m (eval value env) st fun v st1 => AS c (assign (.Tuple ts kk p) env) v m st1 fun m2 st2 => Q .next m2 st2)
    (hs : swapsWithSole [.Tuple ts kk p] value pos.line env = pure false) (hw : swappedStores [.Tuple ts kk p] value env = pure none) : EX c (exec (.Assign [.Tuple ts kk p] value pos) env) m st Q := fun A s tm P E R S k =>
  wpAny_Assign_stores (h A s tm _ E R S fun v x st1 s1 S1 q => by
    show wpAny _ A (assign (.Tuple ts kk p) env v) _ E s1
    exact q A s1 tm v _ E R S1.drop S1.hd fun m2 st2 s2 S2 q2 => k .next .next m2 st2 s2 S2 rfl q2) hs hw

/-! a loop over a list -/
theorem forLoop_any {prog : Program} {w : World} {A : Around} {env : Env} {R : Result → Shared → Prop} {target it body} {s : Shared} (I : Nat → Shared → Prop)
    (turn : ∀ n s, I n s → wpAny (model prog w) A (pyNext it) (fun r s₁ => match r with
      | none => R (.ok .next) s₁
      | some v => wpAny (model prog w) A (letOwnedTupleGo target it v) (fun _ s₁ => wpAny (model prog w) A (assign target env v) (fun _ s₂ => wpAny (model prog w) A (execs body env) (fun f s₃ => match f with
          | .next | .cont => ∃ m, m < n ∧ I m s₃
          | .brk => R (.ok .next) s₃
          | .ret v => R (.ok (.ret v)) s₃) (notedBy (model prog w) A env fun e s' => R (.error e) s') s₂) (notedBy (model prog w) A env fun e s' => R (.error e) s') s₁)
          (notedBy (model prog w) A env fun e s' => R (.error e) s') s₁) (notedBy (model prog w) A env fun e s' => R (.error e) s') s)
    (n : Nat) (h : I n s) : codeAny (model prog w) A (.forLoop target it body [] env) R s := by
  refine codeAny_loop' rfl I (fun n s hI => ?_) n h
  show wpAny _ _ ((forTurn target it body [] env).onRaise (fun x => do noteFrame x env; theTreesLotGoes x)) _ _ s
  refine wpAny_noted ?_
  simp only [forTurn]
  refine wpAny_bind (wpAny_standAt (wpAny_bind (wpAny_onRaise (wpAny_mono (turn n s hI) (fun r s₁ h₁ => ?_) fun _ _ h' => wpAny_standAt h'))))
  cases r with
  | none => exact wpAny_pure (.inr ⟨rfl, codeAny_block (wpAny_execs_nil h₁)⟩)
  | some v =>
    refine wpAny_bind (wpAny_mono h₁ (fun _ s₁' h₁' => ?_) fun _ _ h' => h')
    refine wpAny_bind (wpAny_mono h₁' (fun _ s₂ h₂ => wpAny_bind (wpAny_mono h₂ (fun f s₃ h₃ => ?_) fun _ _ h' => h')) fun _ _ h' => h')
    cases f with
    | next => exact wpAny_pure (.inl ⟨rfl, h₃⟩)
    | cont => exact wpAny_pure (.inl ⟨rfl, h₃⟩)
    | brk => exact wpAny_pure h₃
    | ret v => exact wpAny_pure h₃

/-- the target's form: a name, or a tuple of names over tuples -/
noncomputable def targetOk : Expr → List V → Bool
  | .Name .., _ => true
  | .Tuple .., l => l.all fun x => match x with | .pair .. | .trip .. => true | _ => false
  | _, _ => false

theorem letOwned_ok {prog : Program} {w : World} {A : Around} {E : Value → Shared → Prop} {s : Shared} {target : Expr} {l : List V} {x : V} {v : Value} {I a : Addr} {k : Nat} {Q : Unit → Shared → Prop} (ht : targetOk target l = true) (hx : x ∈ l) (r : Rep s x v)
    (hit : s.heap.IsListIter I a k) (h : Q () s) : wpAny (model prog w) A (letOwnedTupleGo target (.ref I) v) Q E s := by
  cases target
  case Name => exact wpAny_pure h
  case Tuple elts x1 pos =>
    have := List.all_eq_true.mp ht x hx
    cases x
    case pair => obtain ⟨a, p, q, e, _⟩ := r; subst e; exact wpAny_letOwnedTupleGo_listiter hit h
    case trip => obtain ⟨a, p, q, r, e, _⟩ := r; subst e; exact wpAny_letOwnedTupleGo_listiter hit h
    all_goals exact absurd this Bool.false_ne_true
  all_goals exact absurd ht Bool.false_ne_true

theorem In.iter {tm : List (V × Value)} {s : Shared} {it a : Addr} {k : Nat} (S : In c m ((it, .lit a k) :: st) tm s) : s.heap.IsListIter it a k := by
  obtain ⟨o, ho, h1, h2⟩ := S.ents _ (.head _)
  exact ⟨o, ho, h1, h2⟩

theorem EX_for {target iter : Expr} {body : List Stmt} {pos : Pos} {Q : Fl → Loc → Sto → Prop} (J : Nat → Loc → Sto → Prop)
    (h : EV c m (eval iter env) st fun v st1 => ∃ a l, v = .ref a ∧ targetOk target l = true ∧ J 0 m st1 ∧ (∀ k m' st', J k m' st' → ∃ i : Nat, st'[i]? = some (a, .lst l)) ∧
      (∀ (k : Nat) x m' st' it, l[k]? = some x → J k m' st' → AS c (assign target env) x m' ((it, .lit a (k + 1)) :: st') fun m2 st2 => EX c (execs body env) m2 st2 fun fl m3 st3 =>
        ∃ st4, List.Sublist ((it, .lit a (k + 1)) :: st4) st3 ∧ (match fl with | .next | .cont => J (k + 1) m3 st4 | .brk => Q .next m3 st4 | .ret v => Q (.ret v) m3 st4)) ∧
      (∀ m' st', J l.length m' st' → Q .next m' st'))
    (hs : ∀ x, foldedSetIterable iter env x = pure x := by intro _; rfl) : EX c (exec (.For target iter body [] pos) env) m st Q := fun A s tm P E R S kk => by
  refine wpAny_For (h A s tm _ E R S fun v x st1 s1 S1 ⟨a, l, e, ht, h0, hlist, step, done⟩ => ?_) hs
  subst e
  have e : v = .ref a := S1.hd
  subst e
  obtain ⟨i0, hi0⟩ := hlist 0 m st1 h0
  obtain ⟨xs, n, ho, r⟩ := S1.list hi0
  refine wpAny_pyIter_list (isList_of ho) ?_
  have S2 : In c m ((s1.heap.objs.size, .lit a 0) :: st1) tm { s1 with heap := s1.heap.push { cls := .type "list_iterator", data := .fields #[.ref a, .int 0 0] } } := S1.drop.new (e := .lit a 0) ⟨rfl, rfl⟩
  refine forLoop_any (fun n s => ∃ k m' st', n = l.length - k ∧ k ≤ l.length ∧ J k m' st' ∧ In c m' ((s1.heap.objs.size, .lit a k) :: st') tm s) (fun n s' ⟨k, m', st', hn, hk, hJ, S'⟩ => ?_) l.length ⟨0, m, st1, rfl, Nat.zero_le _, h0, S2⟩
  obtain ⟨i, hi⟩ := hlist k m' st' hJ
  have hit := S'.iter
  obtain ⟨ys, n', ho', r'⟩ := S'.list (i := i + 1) (l := l) (a := a) hi
  rcases Nat.lt_or_ge k l.length with hlt | hge
  · obtain ⟨v, ev, rv⟩ := r'.get (List.getElem?_eq_getElem hlt)
    refine wpAny_pyNext_list_item hit (isList_of ho') (by simpa using ev) fun h' hit' hs' => ?_
    have S3 : In c m' ((s1.heap.objs.size, .lit a (k + 1)) :: st') tm { s' with heap := h' } := by
      obtain ⟨o', g1, g2, g3⟩ := hit'
      exact S'.upd (i := 0) rfl (e' := .lit a (k + 1)) hs'.extBut g1 ⟨g2, g3⟩ (Nat.le_refl _)
    have rv' : Rep { s' with heap := h' } l[k] v := rv.mono (S'.tkeep (.head _) hs'.extBut (Nat.le_refl _))
    refine letOwned_ok ht (List.getElem_mem hlt) rv' hit' ?_
    refine step k l[k] m' st' _ (List.getElem?_eq_getElem hlt) hJ A _ tm v _ _ R S3 rv' fun m2 st2 s2 S4 hb => ?_
    refine hb A s2 tm _ _ R S4 fun f fl m3 st3 s3 S5 rf ⟨st4, hsub, hq⟩ => ?_
    have S6 := S5.sub hsub
    cases fl with
    | next => cases rf; exact ⟨l.length - (k + 1), by lia, k + 1, m3, st4, rfl, hlt, hq, S6⟩
    | cont => cases rf; exact ⟨l.length - (k + 1), by lia, k + 1, m3, st4, rfl, hlt, hq, S6⟩
    | brk => cases rf; exact kk .next .next m3 st4 s3 (S6.sub (List.sublist_cons_self _ _)) rfl hq
    | ret v => obtain ⟨cv, e, rr⟩ := rf; subst e; exact kk (.ret cv) (.ret v) m3 st4 s3 (S6.sub (List.sublist_cons_self _ _)) ⟨cv, rfl, rr⟩ hq
  · have e : k = l.length := Nat.le_antisymm hk hge
    subst e
    have hlen := r'.length
    simp only [Array.length_toList] at hlen
    refine wpAny_pyNext_list_end R.1 hit (isList_of ho') (by simp; lia) fun h' hx => ?_
    exact kk .next .next m' st' _ (S'.lose hx (Nat.le_refl _)) rfl (done m' st' hJ)

/-- a while -/
theorem EX_while {test : Expr} {body : List Stmt} {pos : Pos} {Q : Fl → Loc → Sto → Prop} (J : Nat → Loc → Sto → Prop)
    (turn : ∀ n m' st', J n m' st' → TR c m' (isTrue test env (eval test env)) st' fun b st2 => if b then EX c (execs body env) m' st2 fun fl m3 st3 =>
        ∃ st4, List.Sublist st4 st3 ∧ (match fl with | .next | .cont => ∃ k, k < n ∧ J k m3 st4 | .brk => Q .next m3 st4 | .ret v => Q (.ret v) m3 st4) else Q .next m' st2)
    (n : Nat) (h : J n m st) : EX c (exec (.While test body [] pos) env) m st Q := fun A s tm P E R S kk => by
  refine wpAny_While ?_
  refine codeAny_whileLoop (fun n s => ∃ m' st', J n m' st' ∧ In c m' st' tm s) (fun n s' ⟨m', st', hJ, S'⟩ => ?_) n ⟨m, st, h, S⟩
  refine turn n m' st' hJ A s' tm _ _ R S' fun b st2 s2 S2 hb => ?_
  cases b with
  | true =>
    refine hb A s2 tm _ _ R S2 fun f fl m3 st3 s3 S5 rf ⟨st4, hsub, hq⟩ => ?_
    have S6 := S5.sub hsub
    cases fl with
    | next => cases rf; obtain ⟨k, hk, hj⟩ := hq; exact ⟨k, hk, m3, st4, hj, S6⟩
    | cont => cases rf; obtain ⟨k, hk, hj⟩ := hq; exact ⟨k, hk, m3, st4, hj, S6⟩
    | brk => cases rf; exact kk .next .next m3 st4 s3 S6 rfl hq
    | ret v => obtain ⟨cv, e, rr⟩ := rf; subst e; exact kk (.ret cv) (.ret v) m3 st4 s3 S6 ⟨cv, rfl, rr⟩ hq
  | false => exact wpAny_execs_nil (kk .next .next m' st2 s2 S2 rfl hb)
end

-- L8
theorem lookup_mem {α : Type} {x : Str} {v : α} : ∀ {l : List (Str × α)}, l.lookup x = some v → (x, v) ∈ l
  | (y, u) :: r, h => by
    by_cases hy : x = y
    · subst hy; simp at h; subst h; exact .head _
    · have : (x == y) = false := by simpa using hy
      rw [List.lookup_cons, this] at h
      exact .tail _ (lookup_mem h)
theorem lookup_of_mem {α : Type} {x : Str} {v : α} : ∀ {l : List (Str × α)}, (l.map (·.1)).Nodup → (x, v) ∈ l → l.lookup x = some v
  | (y, u) :: r, hn, h => by
    rw [List.map_cons, List.nodup_cons] at hn
    rcases List.mem_cons.mp h with e | h
    · cases e; simp
    · have hy : x ≠ y := fun q => hn.1 (by have := List.mem_map_of_mem (f := fun z : Str × α => z.1) h; rw [← q]; exact this)
      have : (x == y) = false := by simpa using hy
      rw [List.lookup_cons, this]
      exact lookup_of_mem hn.2 h
theorem lookup_rev {α : Type} {x : Str} {v : α} {l : List (Str × α)} (hn : (l.map (·.1)).Nodup) (h : l.lookup x = some v) : l.reverse.lookup x = some v :=
  lookup_of_mem (by rw [List.map_reverse]; exact (List.reverse_perm _).nodup_iff.mpr hn) (List.mem_reverse.mpr (lookup_mem h))

theorem zip_rep {s : Shared} : ∀ {names : List Str} {xs : List V} {vs : List Value}, RepL s xs vs → ∀ x v, (names.zip xs).lookup x = some v → ∃ cv, (names.zip vs).lookup x = some cv ∧ Rep s v cv
  | [], _, _, _, x, v, h => by simp at h
  | y :: ns, [], [], _, x, v, h => by simp at h
  | y :: ns, a :: xs, b :: vs, ⟨r, rs⟩, x, v, h => by
    simp only [List.zip_cons_cons] at h ⊢
    by_cases hy : x = y
    · subst hy
      simp at h
      subst h
      exact ⟨b, by simp, r⟩
    · have : (x == y) = false := by simpa using hy
      rw [List.lookup_cons, this] at h ⊢
      exact zip_rep rs x v h

/-- the context of what is called at s -/
structure Under (c : Ctx) (st : Sto) (s : Shared) (c' : Ctx) : Prop where
  base : c'.toBase = c.toBase
  hb : c'.hb = s.heap
  own : c'.own = st.map (·.1)
  L : s.heap.objs.size ≤ c'.L
  clk : s.toks ≤ c'.clk

section
variable {c c' : Ctx} {m m' : Loc} {st st' : Sto} {tm tm' : List (V × Value)} {s s' : Shared}

theorem In.tup_back (S : In c m st tm s) (U : Under c st s c') (S' : In c' m' st' tm' s') : TKeep s s' := by
  refine ⟨fun a xs g => S'.keep a _ (by rw [U.hb]; exact g) ?_, ?_⟩
  · rw [U.own]
    intro h
    obtain ⟨p, hp, e⟩ := List.mem_map.mp h
    exact S.noTup hp xs (by rw [e]; exact g)
  · exact Nat.le_trans U.clk S'.clk

theorem In.back (S : In c m st tm s) (U : Under c st s c') (S' : In c' m' st' tm' s') : In c m st' tm' s' := by
  have tk := S.tup_back U S'
  have kp : ∀ b o, s.heap.get? b = some o → (∀ p ∈ st, p.1 ≠ b) → s'.heap.get? b = some o := fun b o g hb => S'.keep b o (by rw [U.hb]; exact g) (by
    rw [U.own]; intro h
    obtain ⟨p, hp, e⟩ := List.mem_map.mp h
    exact hb p hp e)
  have hg : c'.g0 = c.g0 := congrArg Base.g0 U.base
  refine ⟨?_, S'.ents, fun p hp => ?_, S'.nodup, S'.tms, fun b o g => S'.stat b o (by rw [hg]; exact g), fun b o g n => ?_, S.sizes, ?_, Nat.le_trans S.clk tk.tok⟩
  · obtain ⟨mc, ⟨o, es, ep, ho, hd⟩, r⟩ := S.ns
    exact ⟨mc, ⟨o, es, ep, kp _ _ ho fun p hp => (S.apart p hp).1, hd⟩, fun x v e => let ⟨cv, a, b⟩ := r x v e; ⟨cv, a, b.mono tk⟩⟩
  · obtain ⟨h1, h2, h3⟩ := S'.apart p hp
    rw [hg] at h2
    rw [U.hb, U.own] at h3
    rcases h3 with h3 | h3
    · exact ⟨Nat.ne_of_gt (Nat.lt_of_lt_of_le S.Llt h3), h2, .inl (Nat.le_trans S.size h3)⟩
    · obtain ⟨q, hq, e⟩ := List.mem_map.mp h3
      have := S.apart q hq
      rw [e] at this
      exact ⟨this.1, h2, this.2.2⟩
  · refine kp b o (S.keep b o g n) fun p hp q => ?_
    subst q
    rcases (S.apart p hp).2.2 with q | q
    · exact absurd (Heap.lt_size g) (Nat.not_lt.mpr q)
    · exact n q
  · obtain ⟨h, t, e⟩ := S'.rest
    exact ⟨h, t, by rw [e, congrArg Base.sb U.base]⟩

/-- entering: the new frame's names stand at L' in h' -/
theorem In.enter (S : In c m st tm s) (U : Under c st s c') {h' : Heap} {t : Nat} {mc : Str → Option Value} (hn : h'.Ns c'.L mc) (k : ∀ b o, s.heap.get? b = some o → h'.get? b = some o) (ht : s.toks ≤ t) (hck : c'.clk ≤ t)
    (hm : ∀ x v, m'.lookup x = some v → ∃ cv, mc x = some cv ∧ Rep s v cv) : In c' m' st tm { s with heap := h', toks := t } := by
  have tk := tkeep_of (s := s) k ht
  have hg : c'.g0 = c.g0 := congrArg Base.g0 U.base
  have S1 := S.ext k ht
  refine ⟨⟨mc, hn, fun x v e => let ⟨cv, a, b⟩ := hm x v e; ⟨cv, a, b.mono tk⟩⟩, S1.ents, fun p hp => ⟨Nat.ne_of_lt (Nat.lt_of_lt_of_le (S.lt hp) U.L), by rw [hg]; exact (S.apart p hp).2.1, .inr (by rw [U.own]; exact List.mem_map_of_mem hp)⟩, S.nodup, S1.tms, fun b o g => S1.stat b o (by rw [← hg]; exact g), fun b o g _ => k b o (by rw [← U.hb]; exact g), ⟨by rw [U.hb]; exact U.L, ?_⟩, ?_, ?_⟩
  · rw [hg, U.hb]; exact Nat.le_trans S.sizes.2 S.size
  · obtain ⟨h, t', e⟩ := S1.rest
    exact ⟨h, t', by rw [congrArg Base.sb U.base, e]⟩
  · exact hck
end

section
variable {c : Ctx} {m : Loc} {st : Sto}

/-- a def of the text's -/
structure IsFn (B : Base) (a : Addr) (fd : FuncData) (body : List Stmt) : Prop where
  obj : ∃ o, B.g0.get? a = some o ∧ o.data = .func fd
  body : fd.body = .stmts body
  code : B.g0.CodeRec fd.code fd.qualname
  globals : fd.globals = mainGlobals
  builtins : fd.builtins = builtinsNs
  kind : fd.scope.kind = .function
  co : fd.scope.isCoroutine = false
  gen : fd.scope.isGenerator = false

noncomputable def calleeOf (c : Ctx) (st : Sto) (s : Shared) : Ctx := { c with hb := s.heap, own := st.map (·.1), L := s.heap.objs.size, n := c.n - 1, clk := s.toks + 1 }
noncomputable def calleeOf0 (c : Ctx) (st : Sto) (s : Shared) : Ctx := { c with hb := s.heap, own := st.map (·.1), L := s.heap.objs.size, n := c.n - 1, clk := s.toks }

noncomputable def TimeOk (st : Sto) (c' : Ctx) : Prop := ∀ p ∈ st, ∀ l N, p.2 = .hue l N → N ≤ c'.clk

theorem OP_def {a : Addr} {fd : FuncData} {body : List Stmt} {names : List Str} {xs ys : List V} {Q : V → Sto → Prop} (G : Stat c.toBase) (F : IsFn c.toBase a fd body) (hn : 0 < c.n)
    (hbind : ∀ s vs, RepL s xs vs → (∀ b o, c.g0.get? b = some o → s.heap.get? b = some o) → ∃ ws, RepL s ys ws ∧ ws.length = names.length ∧ BindsTo s fd ⟨vs, []⟩ (names.zip ws))
    (hcell : ∀ x ∈ fd.scope.names, x.2 ≠ .cell) (hloc : ∀ x ∈ names, fd.scope.names.lookup x = some .local) (hnd : names.Nodup)
    (h : ∀ c' env, c'.toBase = c.toBase → c'.n + 1 = c.n → TimeOk st c' ∧ 0 < c'.clk → EnvOk c' env → env.scope = fd.scope → env.code = fd.code → EX c' (execs body env) (names.zip ys) st fun fl _ st' => ∃ v, (fl = .ret v ∨ (fl = .next ∧ v = .none)) ∧ Q v st') (hne : 0 < names.length := by decide) :
    OP c m (fun vs => call (.ref a) vs) xs st Q := fun A s tm vs P E R S r k => by
  obtain ⟨o, ho, hd⟩ := F.obj
  obtain ⟨ws, rw', hlen, hb⟩ := hbind s vs r S.stat
  have U : Under c st s (calleeOf c st s) := ⟨rfl, rfl, rfl, Nat.le_refl _, Nat.le_succ _⟩
  refine wpAny_call (codeAny_call_def (by have := R.2.1; show A.depth < 1000; lia) (S.stat _ _ ho) hd (G.nolimit.keeps S.stat) (F.code.keeps S.stat) F.body hb hcell (fun x hx => hloc x.1 ?_) (fun h0 hns hk => ?_) F.co F.gen F.kind)
  · exact (List.of_mem_zip hx).1
  · have S1 := S.enter U (m' := names.zip ys) (mc := fun x => (names.zip ws).reverse.lookup x) hns hk (Nat.le_add_right s.toks (names.zip ws).length) (by show s.toks + 1 ≤ s.toks + (names.zip ws).length; rw [List.length_zip]; lia) (fun x v e => by
      obtain ⟨cv, e1, r1⟩ := zip_rep rw' x v e
      refine ⟨cv, lookup_rev ?_ e1, r1⟩
      rw [List.map_fst_zip (by lia)]
      exact hnd)
    refine h (calleeOf c st s) (callEnv fd s.heap.objs.size a) rfl ?_ ?_ ?_ rfl rfl _ _ tm _ _ ?_ S1 fun f fl m' st' s' S' rf ⟨v, hv, q⟩ => ?_
    · show c.n - 1 + 1 = c.n; lia
    · refine ⟨fun p hp l N e => ?_, Nat.succ_pos _⟩
      obtain ⟨o', g1, g2⟩ := S.ents p hp
      rw [e] at g2
      obtain ⟨_, _, _, _, g3⟩ := g2
      exact Nat.le_succ_of_le g3
    · exact ⟨rfl, F.globals, F.builtins, F.kind⟩
    · refine ⟨R.1, ?_, ?_⟩
      · have := R.2.1; show A.depth + 1 + (c.n - 1) < 900; lia
      · have := R.2.2; show A.units + 3 + 8 * (c.n - 1) + 100 < 9900; lia
    · have S2 := S.back U S'
      rcases hv with e | ⟨e, ev⟩
      · subst e
        obtain ⟨cv, e, rr⟩ := rf
        subst e
        exact k cv v st' s' (S2.tmp rr) q
      · subst e ev
        have : f = .next := rf
        subst this
        exact k .none .none st' s' (S2.tmp (x := .none) rfl) q

/-- a plain def: its parameters are names without defaults -/
theorem binds_plain {fd : FuncData} {names : List Str} {xs : List V} (hb : ∀ vs : List Value, vs.length = names.length → bindArgs fd ⟨vs, []⟩ = pure (names.zip vs)) (hl : xs.length = names.length) (g : Heap) :
    ∀ s vs, RepL s xs vs → (∀ b o, g.get? b = some o → s.heap.get? b = some o) → ∃ ws, RepL s xs ws ∧ ws.length = names.length ∧ BindsTo s fd ⟨vs, []⟩ (names.zip ws) := fun s vs r _ =>
  ⟨vs, r, by rw [r.length, hl], BindsTo.of_eq (hb vs (by rw [r.length, hl]))⟩
end

-- L9
noncomputable def V.weak : V → V
  | .flt x _ => .flt x 0
  | .pair a b => .pair a.weak b.weak
  | .trip a b d => .trip a.weak b.weak d.weak
  | v => v
theorem Rep.weak {s : Shared} : ∀ {x : V} {v : Value}, Rep s x v → Rep s x.weak v
  | .none, _, r => r
  | .bool _, _, r => r
  | .int _, _, r => r
  | .flt _ _, _, ⟨t, e, _, b⟩ => ⟨t, e, Nat.zero_le _, b⟩
  | .ref _, _, r => r
  | .bi _, _, r => r
  | .ty _, _, r => r
  | .pair _ _, _, ⟨a, p, q, e, g, r1, r2⟩ => ⟨a, p, q, e, g, Rep.weak r1, Rep.weak r2⟩
  | .trip _ _ _, _, ⟨a, p, q, r, e, g, r1, r2, r3⟩ => ⟨a, p, q, r, e, g, Rep.weak r1, Rep.weak r2, Rep.weak r3⟩

section
variable {c : Ctx} {m : Loc} {st : Sto} {env : Env}

theorem EV_call_def {x : Str} {np pos : Pos} {e : Expr} {rest : List Expr} {a : Addr} {fd : FuncData} {body : List Stmt} {Q : V → Sto → Prop} (G : Stat c.toBase) (K : EnvOk c env) (F : IsFn c.toBase a fd body) (hx : env.kindOf x = some .globalImplicit) (hv : c.mg x = some (.ref a))
    (h : EVs c m (spliced (backTo pos (starEach (e :: rest) env))) st fun xs st1 => OP c m (fun vs => call (.ref a) vs) xs st1 Q) (hd : (x == ("__debug__" : Str)) = false := by decide)
    (he : starEach (e :: rest) env = (false, eval e env) :: starEach rest env := by rfl) :
    EV c m (eval (.Call (.Name x np) (e :: rest) [] pos) env) st Q := fun A s tm P E R S k => by
  obtain ⟨o, ho, hdat⟩ := F.obj
  refine wpAny_Call_ofName (EV_global G K hx hv (Q := fun v st' => v = .ref a ∧ st' = st) ⟨rfl, rfl⟩ hd A s tm _ E R S fun v y st1 s1 S1 ⟨e1, e2⟩ => ?_)
  subst e1 e2
  have e : v = .ref a := S1.hd
  subst e
  refine callWith_def hdat (h A s1 tm _ E R S1.drop fun vs xs st2 s2 S2 r q => ⟨S2.stat _ _ ho, q A s2 tm vs P E R S2 r k⟩) he
theorem EV_call_bi {x : Str} {id : String} {np pos : Pos} {e : Expr} {rest : List Expr} {Q : V → Sto → Prop} (G : Stat c.toBase) (K : EnvOk c env) (hx : env.kindOf x = some .globalImplicit) (hm : c.mg x = none) (hb : bootBuiltins x = some (.builtin id)) (hn : x ≠ "__name__")
    (h : EVs c m (spliced (backTo pos (starEach (e :: rest) env))) st fun xs st1 => OP c m (fun vs => call (.builtin id) vs) xs st1 Q) (hd : (x == ("__debug__" : Str)) = false := by decide)
    (he : starEach (e :: rest) env = (false, eval e env) :: starEach rest env := by rfl) (hplain : (backTo pos (starEach rest env)).any (·.1) = false := by rfl) :
    EV c m (eval (.Call (.Name x np) (e :: rest) [] pos) env) st Q := fun A s tm P E R S k => by
  refine wpAny_Call_ofName (EV_builtin G K hx hm hb hn (v := .bi id) (fun _ => rfl) (Q := fun v st' => v = .bi id ∧ st' = st) ⟨rfl, rfl⟩ hd A s tm _ E R S fun v y st1 s1 S1 ⟨e1, e2⟩ => ?_)
  subst e1 e2
  have e : v = .builtin id := S1.hd
  subst e
  exact callWith_builtin1 (h A s1 tm _ E R S1.drop fun vs xs st2 s2 S2 r q => q A s2 tm vs P E R S2 r k) he hplain
theorem EV_call_ty {x : Str} {T : String} {np pos : Pos} {e : Expr} {rest : List Expr} {Q : V → Sto → Prop} (G : Stat c.toBase) (K : EnvOk c env) (hx : env.kindOf x = some .globalImplicit) (hm : c.mg x = none) (hb : bootBuiltins x = some (.type T)) (hn : x ≠ "__name__")
    (h : EVs c m (spliced (backTo pos (starEach (e :: rest) env))) st fun xs st1 => OP c m (fun vs => call (.type T) vs) xs st1 Q) (hd : (x == ("__debug__" : Str)) = false := by decide)
    (he : starEach (e :: rest) env = (false, eval e env) :: starEach rest env := by rfl) (hplain : (backTo pos (starEach rest env)).any (·.1) = false := by rfl) :
    EV c m (eval (.Call (.Name x np) (e :: rest) [] pos) env) st Q := fun A s tm P E R S k => by
  refine wpAny_Call_ofName (EV_builtin G K hx hm hb hn (v := .ty T) (fun _ => rfl) (Q := fun v st' => v = .ty T ∧ st' = st) ⟨rfl, rfl⟩ hd A s tm _ E R S fun v y st1 s1 S1 ⟨e1, e2⟩ => ?_)
  subst e1 e2
  have e : v = .type T := S1.hd
  subst e
  exact PyProof.Rows.callWith_type1 (h A s1 tm _ E R S1.drop fun vs xs st2 s2 S2 r q => q A s2 tm vs P E R S2 r k) he hplain

theorem OP.mono {f : List Value → Sem Value} {xs : List V} {Q Q' : V → Sto → Prop} (h : OP c m f xs st Q) (hq : ∀ v st', Q v st' → Q' v st') : OP c m f xs st Q' := fun A s tm vs P E R S r k =>
  h A s tm vs P E R S r fun v x st' s' S' q => k v x st' s' S' (hq _ _ q)
theorem OP.weak {f : List Value → Sem Value} {xs : List V} {Q : V → Sto → Prop} (h : OP c m f xs st fun v st' => Q v.weak st') : OP c m f xs st Q := fun A s tm vs P E R S r k =>
  h A s tm vs P E R S r fun v x st' s' S' q => k v x.weak st' s' (S'.drop.tmp S'.hd.weak) q

/-! built-in functions -/
theorem call_len {i : Nat} {a : Addr} {l : List V} {Q : V → Sto → Prop} (hi : st[i]? = some (a, .lst l)) (hl : l.length < 1000000) (h : Q (.int l.length) st) : OP c m (fun vs => call (.builtin "len") vs) [.ref a] st Q := fun A s tm vs P E R S r k => by
  obtain ⟨v, rfl, e⟩ := RepL.one r
  have e : v = .ref a := e
  subst e
  obtain ⟨xs, n, ho, rr⟩ := S.list hi
  have hlen := rr.length
  simp only [Array.length_toList] at hlen
  refine PySem.Calls.call_len_list (isList_of ho) (by lia) ?_
  refine k _ (.int l.length) st _ ((S.tok (Nat.le_add_right _ 2)).tmp ⟨s.toks + 1, ?_⟩) h
  rw [hlen]

theorem intItems_of {s : Shared} : ∀ {ns : List Int} {vs : List Value}, RepL s (ns.map V.int) vs → ∃ xs : List (Int × Tok), vs.toArray = intItems xs.toArray ∧ xs.map (·.1) = ns
  | [], [], _ => ⟨[], by simp [intItems], rfl⟩
  | n :: ns, v :: vs, ⟨⟨t, e⟩, r⟩ => by
    obtain ⟨xs, h1, h2⟩ := intItems_of r
    refine ⟨(n, t) :: xs, ?_, by simp [h2]⟩
    subst e
    apply Array.ext'
    have h1' : vs = (intItems xs.toArray).toList := by rw [← h1]
    simp only [intItems] at h1' ⊢
    simp at h1' ⊢
    exact h1'
end

-- L10
theorem argBest_le {bt : Nat → Nat → Bool} : ∀ k, argBest bt k ≤ k
  | 0 => Nat.le_refl _
  | k + 1 => by
    unfold argBest
    split
    · exact Nat.le_refl _
    · exact Nat.le_succ_of_le (argBest_le k)
theorem argBest_max {val : Nat → Int} : ∀ k i, i ≤ k → val i ≤ val (argBest (fun i j => decide (val i > val j)) k)
  | 0, i, h => by cases Nat.le_zero.mp h; exact Int.le_refl _
  | k + 1, i, h => by
    unfold argBest
    have ih := argBest_max (val := val) k
    split
    · rename_i hb
      have hb := of_decide_eq_true hb
      rcases Nat.lt_or_ge k i with h1 | h1
      · have : i = k + 1 := by lia
        subst this; exact Int.le_refl _
      · have := ih i h1; lia
    · rename_i hb
      have hb : ¬ (val (k + 1) > val (argBest (fun i j => decide (val i > val j)) k)) := fun q => hb (decide_eq_true q)
      rcases Nat.lt_or_ge k i with h1 | h1
      · have : i = k + 1 := by lia
        subst this; lia
      · exact ih i h1
theorem argBest_min {val : Nat → Int} : ∀ k i, i ≤ k → val (argBest (fun i j => decide (val i < val j)) k) ≤ val i
  | 0, i, h => by cases Nat.le_zero.mp h; exact Int.le_refl _
  | k + 1, i, h => by
    unfold argBest
    have ih := argBest_min (val := val) k
    split
    · rename_i hb
      have hb := of_decide_eq_true hb
      rcases Nat.lt_or_ge k i with h1 | h1
      · have : i = k + 1 := by lia
        subst this; exact Int.le_refl _
      · have := ih i h1; lia
    · rename_i hb
      have hb : ¬ (val (k + 1) < val (argBest (fun i j => decide (val i < val j)) k)) := fun q => hb (decide_eq_true q)
      rcases Nat.lt_or_ge k i with h1 | h1
      · have : i = k + 1 := by lia
        subst this; lia
      · exact ih i h1

theorem numAt_get {xs : List (Int × Tok)} {ns : List Int} (h : xs.map (·.1) = ns) {i : Nat} (hi : i < ns.length) : numAt xs.toArray i = ns[i] := by
  subst h
  simp only [List.length_map] at hi
  simp [numAt, hi]

section
variable {c : Ctx} {m : Loc} {st : Sto} {env : Env}

theorem max_list {i : Nat} {a : Addr} {ns : List Int} {Q : V → Sto → Prop} (hi : st[i]? = some (a, .lst (ns.map V.int))) (hne : ns ≠ []) (h : ∀ M, M ∈ ns → (∀ x ∈ ns, x ≤ M) → Q (.int M) st) :
    OP c m (fun vs => call (.builtin "max") vs) [.ref a] st Q := fun A s tm vs P E R S r k => by
  obtain ⟨v, rfl, e⟩ := RepL.one r
  have e : v = .ref a := e
  subst e
  obtain ⟨vs, n, ho, rr⟩ := S.list hi
  obtain ⟨xs, e1, e2⟩ := intItems_of rr
  have e1' : vs = intItems xs.toArray := by simpa using e1
  subst e1'
  have hlen : xs.length = ns.length := by rw [← e2]; simp
  have hpos : 0 < ns.length := List.length_pos_iff.mpr hne
  refine wpAny_toks_mono (max_intList R.1 (isList_of ho) (by simp; lia) fun v h' tk hv hk ht => ?_)
  obtain ⟨t, e⟩ := intItems_at hv
  subst e
  have hsz : (xs.toArray.size - 1) = ns.length - 1 := by simp [hlen]
  rw [hsz]
  have hb := argBest_le (bt := fun i j => decide (numAt xs.toArray i > numAt xs.toArray j)) (ns.length - 1)
  have hlt : argBest (fun i j => decide (numAt xs.toArray i > numAt xs.toArray j)) (ns.length - 1) < ns.length := by lia
  refine k _ (.int _) st _ ((S.ext hk ht).tmp ⟨t, rfl⟩) (h _ ?_ ?_)
  · rw [numAt_get e2 hlt]; exact List.getElem_mem hlt
  · intro x hx
    obtain ⟨j, hj, e⟩ := List.getElem_of_mem hx
    rw [← e, ← numAt_get e2 hj]
    exact argBest_max _ j (by lia)
theorem min_list {i : Nat} {a : Addr} {ns : List Int} {Q : V → Sto → Prop} (hi : st[i]? = some (a, .lst (ns.map V.int))) (hne : ns ≠ []) (h : ∀ M, M ∈ ns → (∀ x ∈ ns, M ≤ x) → Q (.int M) st) :
    OP c m (fun vs => call (.builtin "min") vs) [.ref a] st Q := fun A s tm vs P E R S r k => by
  obtain ⟨v, rfl, e⟩ := RepL.one r
  have e : v = .ref a := e
  subst e
  obtain ⟨vs, n, ho, rr⟩ := S.list hi
  obtain ⟨xs, e1, e2⟩ := intItems_of rr
  have e1' : vs = intItems xs.toArray := by simpa using e1
  subst e1'
  have hlen : xs.length = ns.length := by rw [← e2]; simp
  have hpos : 0 < ns.length := List.length_pos_iff.mpr hne
  refine wpAny_toks_mono (min_intList R.1 (isList_of ho) (by simp; lia) fun v h' tk hv hk ht => ?_)
  obtain ⟨t, e⟩ := intItems_at hv
  subst e
  have hsz : (xs.toArray.size - 1) = ns.length - 1 := by simp [hlen]
  rw [hsz]
  have hb := argBest_le (bt := fun i j => decide (numAt xs.toArray i < numAt xs.toArray j)) (ns.length - 1)
  have hlt : argBest (fun i j => decide (numAt xs.toArray i < numAt xs.toArray j)) (ns.length - 1) < ns.length := by lia
  refine k _ (.int _) st _ ((S.ext hk ht).tmp ⟨t, rfl⟩) (h _ ?_ ?_)
  · rw [numAt_get e2 hlt]; exact List.getElem_mem hlt
  · intro x hx
    obtain ⟨j, hj, e⟩ := List.getElem_of_mem hx
    rw [← e, ← numAt_get e2 hj]
    exact argBest_min _ j (by lia)
theorem max_two {a b : Int} {Q : V → Sto → Prop} (h : Q (.int (max a b)) st) : OP c m (fun vs => call (.builtin "max") vs) [.int a, .int b] st Q := fun A s tm vs P E R S r k => by
  obtain ⟨v, w, rfl, ⟨t, e⟩, ⟨u, e'⟩⟩ := RepL.two r
  subst e e'
  refine wpAny_toks_mono (max_two_ints R.1 fun h' tk hk ht => ?_)
  refine k _ (.int (max a b)) st _ ((S.ext hk ht).tmp ?_) h
  by_cases hb : b > a
  · rw [if_pos hb]; exact ⟨u, by rw [Int.max_eq_right (by lia)]⟩
  · rw [if_neg hb]; exact ⟨t, by rw [Int.max_eq_left (by lia)]⟩

/-! three floats -/
theorem args_max3 (a b d : Value) : argsOk "max" ⟨[a, b, d], []⟩ := by unfold argsOk; kernel_rfl
theorem args_min3 (a b d : Value) : argsOk "min" ⟨[a, b, d], []⟩ := by unfold argsOk; kernel_rfl

theorem call_max3 {prog : Program} {w : World} {A : Around} {E : Value → Shared → Prop} {s : Shared} {a b d : Value} {Q : Value → Shared → Prop}
    (h : wpAny (model prog w) A.in1 (pyIter (.ref s.heap.objs.size)) (fun it s₂ => ∃ I fp wr n P St bt, it = .ref I ∧ Walks prog w A.in1 I fp wr n P St ∧ St 0 s₂.heap ∧ (∀ b ∈ fp, b < s₂.heap.objs.size) ∧ 0 < n ∧ CmpOf prog w A.in1 .Gt P bt ∧
      ∀ v h' tk, P (argBest bt (n - 1)) v → (∀ b o, b ∉ wr → s₂.heap.get? b = some o → h'.get? b = some o) → Q v { s₂ with heap := h', toks := tk }) E
      { s with heap := s.heap.push { cls := .type "tuple", data := .seq #[a, b, d] } }) :
    wpAny (model prog w) A (call (.builtin "max") [a, b, d]) Q E s := by
  have hname : (toString "max" ++ toString ".loop" : String) = "max.loop" := by decide
  refine call_function_tree F.kind_max F.plain_max F.entry_max (args_max3 _ _ _) ?_
  show wpAny _ A.in1 (Builtin.Builtins.bindParams "max" ["key", "default"] 0 ⟨[], []⟩ >>= _) _ _ s
  refine wpAny_bind (wpAny_of_eq (show Builtin.Builtins.bindParams "max" ["key", "default"] 0 ⟨[], []⟩ = pure [none, none] from rfl) ?_)
  show wpAny _ A.in1 (newTuple [a, b, d] >>= _) _ _ s
  refine wpAny_bind (wpAny_newObj_type ?_)
  refine wpAny_bind (wpAny_mono h (fun it s₂ h₂ => ?_) fun _ _ e => e)
  obtain ⟨I, fp, wr, n, P, St, bt, rfl, W, hst, hfp, hn, hcmp, hQ⟩ := h₂
  refine wpAny_bind (wpAny_newObj_type ?_)
  have hSf : s₂.heap.objs.size ∉ fp := fun hm => Nat.lt_irrefl _ (hfp _ hm)
  rw [hname]
  refine wpAny_pure ⟨plainId_quiet F.plain_max_loop _, codeAny_max_loop_first W bt hcmp s₂.heap.objs.size hSf hn (W.frame _ _ _ hst fun b _ o e => Heap.get?_push_of_some _ e) (Heap.get?_push_size _ rfl) fun v h' tk hP hk => ?_⟩
  exact hQ v h' tk hP fun b o hbw e => hk b o hbw (Nat.ne_of_lt (Heap.lt_size e)) (Heap.get?_push_of_some _ e)
theorem call_min3 {prog : Program} {w : World} {A : Around} {E : Value → Shared → Prop} {s : Shared} {a b d : Value} {Q : Value → Shared → Prop}
    (h : wpAny (model prog w) A.in1 (pyIter (.ref s.heap.objs.size)) (fun it s₂ => ∃ I fp wr n P St bt, it = .ref I ∧ Walks prog w A.in1 I fp wr n P St ∧ St 0 s₂.heap ∧ (∀ b ∈ fp, b < s₂.heap.objs.size) ∧ 0 < n ∧ CmpOf prog w A.in1 .Lt P bt ∧
      ∀ v h' tk, P (argBest bt (n - 1)) v → (∀ b o, b ∉ wr → s₂.heap.get? b = some o → h'.get? b = some o) → Q v { s₂ with heap := h', toks := tk }) E
      { s with heap := s.heap.push { cls := .type "tuple", data := .seq #[a, b, d] } }) :
    wpAny (model prog w) A (call (.builtin "min") [a, b, d]) Q E s := by
  have hname : (toString "min" ++ toString ".loop" : String) = "min.loop" := by decide
  refine call_function_tree F.kind_min F.plain_min F.entry_min (args_min3 _ _ _) ?_
  show wpAny _ A.in1 (Builtin.Builtins.bindParams "min" ["key", "default"] 0 ⟨[], []⟩ >>= _) _ _ s
  refine wpAny_bind (wpAny_of_eq (show Builtin.Builtins.bindParams "min" ["key", "default"] 0 ⟨[], []⟩ = pure [none, none] from rfl) ?_)
  show wpAny _ A.in1 (newTuple [a, b, d] >>= _) _ _ s
  refine wpAny_bind (wpAny_newObj_type ?_)
  refine wpAny_bind (wpAny_mono h (fun it s₂ h₂ => ?_) fun _ _ e => e)
  obtain ⟨I, fp, wr, n, P, St, bt, rfl, W, hst, hfp, hn, hcmp, hQ⟩ := h₂
  refine wpAny_bind (wpAny_newObj_type ?_)
  have hSf : s₂.heap.objs.size ∉ fp := fun hm => Nat.lt_irrefl _ (hfp _ hm)
  rw [hname]
  refine wpAny_pure ⟨plainId_quiet F.plain_min_loop _, codeAny_min_loop_first W bt hcmp s₂.heap.objs.size hSf hn (W.frame _ _ _ hst fun b _ o e => Heap.get?_push_of_some _ e) (Heap.get?_push_size _ rfl) fun v h' tk hP hk => ?_⟩
  exact hQ v h' tk hP fun b o hbw e => hk b o hbw (Nat.ne_of_lt (Heap.lt_size e)) (Heap.get?_push_of_some _ e)

/-- the three floats, by place -/
noncomputable def f3 (x y z : UInt64) (i : Nat) : UInt64 := if i = 0 then x else if i = 1 then y else z
noncomputable def fgt (a b : UInt64) : Bool := Float64.cmp a b == some .gt
noncomputable def flt (a b : UInt64) : Bool := Float64.cmp a b == some .lt
noncomputable def fmax2 (a b : UInt64) : UInt64 := if fgt b a then b else a
noncomputable def fmin2 (a b : UInt64) : UInt64 := if flt b a then b else a
noncomputable def fmax3 (a b d : UInt64) : UInt64 := fmax2 (fmax2 a b) d
noncomputable def fmin3 (a b d : UInt64) : UInt64 := fmin2 (fmin2 a b) d
theorem argBest_max3 (x y z : UInt64) : f3 x y z (argBest (fun i j => fgt (f3 x y z i) (f3 x y z j)) 2) = fmax3 x y z := by
  have e : argBest (fun i j => fgt (f3 x y z i) (f3 x y z j)) 2 = (if fgt z (f3 x y z (if fgt y x then 1 else 0)) then 2 else if fgt y x then 1 else 0) := rfl
  rw [e]
  unfold fmax3 fmax2
  by_cases h : fgt y x = true
  · rw [if_pos h, if_pos h]
    have e1 : f3 x y z 1 = y := rfl
    rw [e1]
    by_cases h' : fgt z y = true
    · rw [if_pos h', if_pos h']; rfl
    · rw [if_neg h', if_neg h']; rfl
  · rw [if_neg h, if_neg h]
    have e1 : f3 x y z 0 = x := rfl
    rw [e1]
    by_cases h' : fgt z x = true
    · rw [if_pos h', if_pos h']; rfl
    · rw [if_neg h', if_neg h']; rfl
theorem argBest_min3 (x y z : UInt64) : f3 x y z (argBest (fun i j => flt (f3 x y z i) (f3 x y z j)) 2) = fmin3 x y z := by
  have e : argBest (fun i j => flt (f3 x y z i) (f3 x y z j)) 2 = (if flt z (f3 x y z (if flt y x then 1 else 0)) then 2 else if flt y x then 1 else 0) := rfl
  rw [e]
  unfold fmin3 fmin2
  by_cases h : flt y x = true
  · rw [if_pos h, if_pos h]
    have e1 : f3 x y z 1 = y := rfl
    rw [e1]
    by_cases h' : flt z y = true
    · rw [if_pos h', if_pos h']; rfl
    · rw [if_neg h', if_neg h']; rfl
  · rw [if_neg h, if_neg h]
    have e1 : f3 x y z 0 = x := rfl
    rw [e1]
    by_cases h' : flt z x = true
    · rw [if_pos h', if_pos h']; rfl
    · rw [if_neg h', if_neg h']; rfl

theorem items3 {x y z : UInt64} {l : Nat} {s : Shared} {p q r : Value} (r1 : Rep s (.flt x l) p) (r2 : Rep s (.flt y l) q) (r3 : Rep s (.flt z l) r) {i : Nat} {v : Value} (h : (#[p, q, r] : Array Value)[i]? = some v) : Rep s (.flt (f3 x y z i) l) v := by
  match i, h with
  | 0, h => cases h; exact r1
  | 1, h => cases h; exact r2
  | 2, h => cases h; exact r3
  | n + 3, h => simp at h

theorem max3 {x y z : UInt64} {l : Nat} {Q : V → Sto → Prop} (h : Q (.flt (fmax3 x y z) l) st) : OP c m (fun vs => call (.builtin "max") vs) [.flt x l, .flt y l, .flt z l] st Q := fun A s tm vs P E R S r k => by
  obtain ⟨p, q, u, rfl, r1, r2, r3⟩ := RepL.three r
  have hT : (s.heap.push { cls := .type "tuple", data := .seq #[p, q, u] }).IsTuple s.heap.objs.size #[p, q, u] := ⟨_, Heap.get?_push_size _ rfl, rfl, 0, rfl⟩
  refine wpAny_toks_mono (call_max3 (wpAny_pyIter_tuple hT ?_))
  have hsz : (s.heap.push { cls := .type "tuple", data := .seq #[p, q, u] }).objs.size = s.heap.objs.size + 1 := Heap.size_push ..
  refine ⟨_, [_, s.heap.objs.size], [_], _, _, _, fun i j => fgt (f3 x y z i) (f3 x y z j), rfl, Walks.tuple (A := A.in1) R.1 _ s.heap.objs.size (by rw [hsz]; exact Nat.ne_of_lt (Nat.lt_succ_self _)) #[p, q, u],
    ⟨⟨_, Heap.get?_push_size _ rfl, rfl, rfl⟩, hT.push _⟩, fun c hc => ?_, by simp, ?_, fun v h' tk hP hk ht => ?_⟩
  · show c < ((s.heap.push _).push _).objs.size
    rw [Heap.size_push, hsz]
    rcases List.mem_cons.mp hc with rfl | hc
    · rw [hsz]; exact Nat.lt_succ_self _
    · rcases List.mem_cons.mp hc with rfl | hc
      · exact Nat.lt_succ_of_lt (Nat.lt_succ_self _)
      · cases hc
  · intro i j vi vj s' Q' E' hi hj hq
    obtain ⟨t, e, _⟩ := items3 r1 r2 r3 hi
    obtain ⟨u, e', _⟩ := items3 r1 r2 r3 hj
    subst e e'
    exact AutoFloatOps.gt_0 hq
  · have hold : ∀ c o, s.heap.get? c = some o → h'.get? c = some o := fun c o e => by
      refine hk c o (fun hm => ?_) (Heap.get?_push_of_some _ (Heap.get?_push_of_some _ e))
      rcases List.mem_cons.mp hm with e1 | hm
      · rw [e1, hsz] at e; exact absurd (Heap.lt_size e) (Nat.not_lt.mpr (Nat.le_succ _))
      · cases hm
    refine k _ (.flt (fmax3 x y z) l) st _ ((S.ext hold ht).tmp ?_) h
    rw [← argBest_max3]
    exact Rep.mono (tkeep_of hold ht) (items3 r1 r2 r3 hP)
theorem min3 {x y z : UInt64} {l : Nat} {Q : V → Sto → Prop} (h : Q (.flt (fmin3 x y z) l) st) : OP c m (fun vs => call (.builtin "min") vs) [.flt x l, .flt y l, .flt z l] st Q := fun A s tm vs P E R S r k => by
  obtain ⟨p, q, u, rfl, r1, r2, r3⟩ := RepL.three r
  have hT : (s.heap.push { cls := .type "tuple", data := .seq #[p, q, u] }).IsTuple s.heap.objs.size #[p, q, u] := ⟨_, Heap.get?_push_size _ rfl, rfl, 0, rfl⟩
  refine wpAny_toks_mono (call_min3 (wpAny_pyIter_tuple hT ?_))
  have hsz : (s.heap.push { cls := .type "tuple", data := .seq #[p, q, u] }).objs.size = s.heap.objs.size + 1 := Heap.size_push ..
  refine ⟨_, [_, s.heap.objs.size], [_], _, _, _, fun i j => flt (f3 x y z i) (f3 x y z j), rfl, Walks.tuple (A := A.in1) R.1 _ s.heap.objs.size (by rw [hsz]; exact Nat.ne_of_lt (Nat.lt_succ_self _)) #[p, q, u],
    ⟨⟨_, Heap.get?_push_size _ rfl, rfl, rfl⟩, hT.push _⟩, fun c hc => ?_, by simp, ?_, fun v h' tk hP hk ht => ?_⟩
  · show c < ((s.heap.push _).push _).objs.size
    rw [Heap.size_push, hsz]
    rcases List.mem_cons.mp hc with rfl | hc
    · rw [hsz]; exact Nat.lt_succ_self _
    · rcases List.mem_cons.mp hc with rfl | hc
      · exact Nat.lt_succ_of_lt (Nat.lt_succ_self _)
      · cases hc
  · intro i j vi vj s' Q' E' hi hj hq
    obtain ⟨t, e, _⟩ := items3 r1 r2 r3 hi
    obtain ⟨u, e', _⟩ := items3 r1 r2 r3 hj
    subst e e'
    exact AutoFloatOps.lt_0 hq
  · have hold : ∀ c o, s.heap.get? c = some o → h'.get? c = some o := fun c o e => by
      refine hk c o (fun hm => ?_) (Heap.get?_push_of_some _ (Heap.get?_push_of_some _ e))
      rcases List.mem_cons.mp hm with e1 | hm
      · rw [e1, hsz] at e; exact absurd (Heap.lt_size e) (Nat.not_lt.mpr (Nat.le_succ _))
      · cases hm
    refine k _ (.flt (fmin3 x y z) l) st _ ((S.ext hold ht).tmp ?_) h
    rw [← argBest_min3]
    exact Rep.mono (tkeep_of hold ht) (items3 r1 r2 r3 hP)
end

-- L11
section
variable {c : Ctx} {m : Loc} {st : Sto} {env : Env}

/-! slices -/
noncomputable def dropI (l : List V) (k : Int) : List V := if 0 ≤ k then l.drop k.toNat else l.drop (l.length - (-k).toNat)
theorem slicePick_drop (vs : Array Value) (k : Int) : slicePick vs (some k) none none = (if 0 ≤ k then vs.toList.drop k.toNat else vs.toList.drop (vs.size - (-k).toNat)).toArray := by
  by_cases h : 0 ≤ k
  · rw [if_pos h]
    obtain ⟨n, rfl⟩ := Int.eq_ofNat_of_zero_le h
    exact slicePick_from' vs n
  · rw [if_neg h]
    obtain ⟨n, hn⟩ := Int.eq_ofNat_of_zero_le (a := -k) (by lia)
    have e : k = -(n : Int) := by lia
    subst e
    have := slicePick_last vs n (by lia)
    rw [this]
    simp
theorem EV_slice_from {value e : Expr} {p pos : Pos} {Q : V → Sto → Prop} (h : EV c m (eval value env) st fun v st1 => EV c m (eval e env) st1 fun iv st2 => ∃ a, ∃ i : Nat, ∃ l k, v = .ref a ∧ iv = .int k ∧ st2[i]? = some (a, .lst l) ∧ l.length < 1000000 ∧ ∀ b, Q (.ref b) ((b, .lst (dropI l k)) :: st2))
    (ht : ∀ o r, letTemporaryGo value o r = pure () ∨ True := by intro _ _; exact .inr trivial) (ht' : ∀ o r, letTemporaryGo value o r = pure () := by intro _ _; rfl) : EV c m (eval (.Subscript value (.Slice (some e) none none p) pos) env) st Q := fun A s tm P E R S kk => by
  refine wpAny_Subscript_list_slice (h A s tm _ E R S fun v x st1 s1 S1 h1 => wpAny_evalPart_some (h1 A s1 _ _ E R S1 fun v2 y st2 s2 S2 ⟨a, i, l, k, e1, e2, hi, hl, q⟩ => wpAny_evalPart_none ?_)) ht'
  subst e1 e2
  obtain ⟨t, e2⟩ : ∃ t, v2 = .int k t := S2.hd
  have e1 : v = .ref a := S2.drop.hd
  subst e1 e2
  obtain ⟨xs, n, ho, r⟩ := S2.list hi
  have hlen := r.length
  simp only [Array.length_toList] at hlen
  refine ⟨a, xs, some k, none, rfl, isList_of ho, ?_, ?_, ?_, ?_⟩
  · rw [PySem.sizeLine_eq]; lia
  · exact .int k t
  · exact .none
  have S3 := S2.drop.drop.push { cls := .type "slice", data := .fields #[Value.int k t, .none, .none] }
  rw [slicePick_drop]
  have r' : RepL s2 (dropI l k) (if 0 ≤ k then xs.toList.drop k.toNat else xs.toList.drop (xs.size - (-k).toNat)) := by
    unfold dropI
    split
    · exact r.drop _
    · rw [hlen]; exact r.drop _
  have S4 := S3.newList (xs := dropI l k) (r'.mono (tkeep_of (fun _ _ => Heap.get?_push_of_some _) (Nat.le_refl _)))
  have hs : (s2.heap.push { cls := .type "slice", data := .fields #[Value.int k t, .none, .none] }).objs.size = s2.heap.objs.size + 1 := Heap.size_push ..
  simp only [hs] at S4
  exact kk (.ref (s2.heap.objs.size + 1)) (.ref (s2.heap.objs.size + 1)) _ _ (S4.tmp (x := .ref _) rfl) (q _)

/-- the script's own list -/
theorem EV_slice_static {value e : Expr} {p pos : Pos} {Q : V → Sto → Prop} {a : Addr} {vs : List Value} {ns : List Int} (hL : c.g0.IsList a vs.toArray) (hI : IntsAre vs ns) (hsz : ns.length < 1000000)
    (h : EV c m (eval value env) st fun v st1 => EV c m (eval e env) st1 fun iv st2 => ∃ k : Nat, v = .ref a ∧ iv = .int k ∧ ∀ b, Q (.ref b) ((b, .lst ((ns.take k).map V.int)) :: st2))
    (ht' : ∀ o r, letTemporaryGo value o r = pure () := by intro _ _; rfl) : EV c m (eval (.Subscript value (.Slice none (some e) none p) pos) env) st Q := fun A s tm P E R S kk => by
  refine wpAny_Subscript_list_slice (h A s tm _ E R S fun v x st1 s1 S1 h1 => wpAny_evalPart_none (wpAny_evalPart_some (h1 A s1 _ _ E R S1 fun v2 y st2 s2 S2 ⟨k, e1, e2, q⟩ => ?_))) ht'
  subst e1 e2
  obtain ⟨t, e2⟩ : ∃ t, v2 = .int k t := S2.hd
  have e1 : v = .ref a := S2.drop.hd
  subst e1 e2
  obtain ⟨o, ho, hc, n, hd⟩ := hL
  have hlen := hI.length
  refine ⟨a, vs.toArray, none, some k, rfl, ⟨o, S2.stat _ _ ho, hc, n, hd⟩, ?_, ?_, ?_, ?_⟩
  · rw [PySem.sizeLine_eq]; simp; lia
  · exact .none
  · exact .int k t
  have S3 := S2.drop.drop.push { cls := .type "slice", data := .fields #[Value.none, .int k t, .none] }
  rw [slicePick_upto']
  have rr : ∀ (s : Shared) (vs : List Value) (ns : List Int), IntsAre vs ns → RepL s (ns.map V.int) vs := fun s vs ns h => by
    induction h with
    | nil => trivial
    | cons n t _ ih => exact ⟨⟨_, rfl⟩, ih⟩
  have r' := (rr s2 vs ns hI).take k
  rw [← List.map_take] at r'
  have S4 := S3.newList (xs := (ns.take k).map V.int) (vs := vs.take k) (r'.mono (tkeep_of (fun _ _ => Heap.get?_push_of_some _) (Nat.le_refl _)))
  have hs : (s2.heap.push { cls := .type "slice", data := .fields #[Value.none, .int k t, .none] }).objs.size = s2.heap.objs.size + 1 := Heap.size_push ..
  simp only [hs] at S4
  exact kk (.ref (s2.heap.objs.size + 1)) (.ref (s2.heap.objs.size + 1)) _ _ (S4.tmp (x := .ref _) rfl) (q _)

/-- two lists in one -/
theorem add_ll {i j : Nat} {a b : Addr} {xs ys : List V} {Q : V → Sto → Prop} (hi : st[i]? = some (a, .lst xs)) (hj : st[j]? = some (b, .lst ys)) (hl : xs.length + ys.length < 1000000) (h : ∀ d, Q (.ref d) ((d, .lst (xs ++ ys)) :: st)) :
    OP2 c m (binaryOp .Add) (.ref a) (.ref b) st Q := fun A s tm v w P E R S r r' k => by
  have e : v = .ref a := r
  have e' : w = .ref b := r'
  subst e e'
  obtain ⟨us, n, ho, ru⟩ := S.list hi
  obtain ⟨ws, n', ho', rw'⟩ := S.list hj
  have l1 := ru.length
  have l2 := rw'.length
  simp only [Array.length_toList] at l1 l2
  refine _root_.PySem.P.add_list (n := n) (n2 := n') ho ho' ?_ (by rw [PySem.sizeLine_eq]; lia)
  have S4 := S.newList (ru.append rw')
  have e : (us.toList ++ ws.toList).toArray = us ++ ws := by simp
  rw [e] at S4
  exact k _ (.ref _) _ _ (S4.tmp (x := .ref _) rfl) (h _)

/-! methods of lists -/
theorem EV_append {o e : Expr} {apos pos : Pos} {Q : V → Sto → Prop} (h : EV c m (eval o env) st fun v st1 => ∃ a, ∃ j : Nat, ∃ l, v = .ref a ∧ st1[j]? = some (a, .lst l) ∧ EV c m (eval e env) st1 fun x st2 => ∃ j : Nat, ∃ l, st2[j]? = some (a, .lst l) ∧ l.length < 1000000 ∧ Q .none (st2.set j (a, .lst (l ++ [x]))))
    (hbase : attributeBase o (PySem.Str.ofString "append") env (eval o env) = eval o env := by rfl) (hline : (apos.endLine == pos.line) = true := by rfl) (he : starEach [e] env = [(false, eval e env)] := by rfl) : EV c m (eval (.Call (.Attribute o (PySem.Str.ofString "append") apos) [e] [] pos) env) st Q := fun A s tm P E R S k => by
  refine wpAny_Call_method (T := "list") (id := "list.append") hbase (by rw [he]; rfl) hline F.plainAttrs_list F.slot_list_append F.type_list_append (h A s tm _ E R S fun v x st1 s1 S1 ⟨a, j, l, e1, hj, h1⟩ => ?_)
  subst e1
  have e1 : v = .ref a := S1.hd
  subst e1
  obtain ⟨xs, n, ho, r⟩ := S1.list hj
  refine ⟨⟨_, ho, rfl⟩, fun b hb => by cases hb; exact ⟨_, ho, rfl⟩, ?_⟩
  rw [he]
  show wpAny _ A (callWith pos (.builtin "list.append") [.ref a] [(false, eval e env)] []) P E s1
  refine _root_.PySem.P.append_list (h1 A s1 tm _ E R S1.drop fun w y st2 s2 S2 ⟨j', l', hj', hl', q⟩ => ?_)
  obtain ⟨ys, n', ho', r'⟩ := S2.list hj'
  have hlen := r'.length
  simp only [Array.length_toList] at hlen
  refine ⟨ys, n', by rw [PySem.sizeLine_eq]; lia, ho', ?_⟩
  obtain ⟨n'', hn⟩ := update_list (s := s2) ho' (fun xs => xs.push w)
  have S3 := S2.drop.upd hj' (h' := s2.heap.update a (Obj.mapSeq fun xs => xs.push w)) (t := s2.toks) (e' := .lst (l' ++ [y])) (fun b o hb g => by rw [Heap.get?_update_other _ _ (Ne.symm hb)]; exact g) hn ⟨_, n'', rfl, by
    rw [Array.toList_push]; exact r'.append ⟨S2.hd, trivial⟩⟩ (Nat.le_refl _)
  exact k .none .none _ _ (S3.tmp (x := .none) rfl) q

theorem EV_insert {o e1 e2 : Expr} {apos pos : Pos} {Q : V → Sto → Prop} (h : EV c m (eval o env) st fun v st1 => ∃ a, ∃ j : Nat, ∃ l, v = .ref a ∧ st1[j]? = some (a, .lst l) ∧ EV c m (eval e1 env) st1 fun p st2 => EV c m (eval e2 env) st2 fun x st3 =>
      ∃ k : Nat, ∃ j : Nat, ∃ l, p = .int k ∧ st3[j]? = some (a, .lst l) ∧ k ≤ l.length ∧ l.length < 1000000 ∧ Q .none (st3.set j (a, .lst (l.take k ++ x :: l.drop k))))
    (hbase : attributeBase o (PySem.Str.ofString "insert") env (eval o env) = eval o env := by rfl) (hline : (apos.endLine == pos.line) = true := by rfl) (he : starEach [e1, e2] env = [(false, eval e1 env), (false, eval e2 env)] := by rfl)
    (he1 : starEach [e1, e2] env = (false, eval e1 env) :: starEach [e2] env := by rfl) (he2 : starEach [e2] env = (false, eval e2 env) :: starEach [] env := by rfl) : EV c m (eval (.Call (.Attribute o (PySem.Str.ofString "insert") apos) [e1, e2] [] pos) env) st Q := fun A s tm P E R S k => by
  refine wpAny_Call_method (T := "list") (id := "list.insert") hbase (by rw [he]; rfl) hline F.plainAttrs_list F.slot_list_insert F.type_list_insert (h A s tm _ E R S fun v x st1 s1 S1 ⟨a, j, l, ea, hj, h1⟩ => ?_)
  subst ea
  have ea : v = .ref a := S1.hd
  subst ea
  obtain ⟨xs, n, ho, r⟩ := S1.list hj
  refine ⟨⟨_, ho, rfl⟩, fun b hb => by cases hb; exact ⟨_, ho, rfl⟩, ?_⟩
  have hrest : (backTo pos (starEach [e2] env)).any (·.1) = false := by rw [he2]; rfl
  refine callWith_method1 ?_ he1 hrest
  refine EVs_cons (st := st1) (Q := fun zs st3 => ∃ p x, zs = [p, x] ∧ ∃ k : Nat, ∃ j : Nat, ∃ l, p = .int k ∧ st3[j]? = some (a, .lst l) ∧ k ≤ l.length ∧ l.length < 1000000 ∧ Q .none (st3.set j (a, .lst (l.take k ++ x :: l.drop k)))) ?_ he1 A s1 tm _ E R S1.drop ?_
  · exact EV_mono h1 fun p st2 h2 => EVs_cons (EV_mono h2 fun x st3 h3 => EVs_nil ⟨p, x, rfl, h3⟩) he2
  · intro vs zs st3 s3 S3 rs ⟨p, x, ez, kk, j', l', ep, hj', hk, hl', q⟩
    subst ez ep
    match vs, rs with
    | [vp, vx], ⟨⟨t, e⟩, rx, _⟩ =>
      subst e
      obtain ⟨ys, n', ho', r'⟩ := S3.list hj'
      have hlen := r'.length
      simp only [Array.length_toList] at hlen
      have hz0 : (0 : Int) ≤ (kk : Int) := by lia
      have hz1 : (kk : Int) < 2 ^ 63 := by lia
      have hz2 : (kk : Int).toNat = kk := by simp
      revert hz0 hz1 hz2
      generalize (kk : Int) = z
      intro hz0 hz1 hz2
      have hfit : Builtin.List.listFitsIndex z = true := fitsIndex_of hz0 hz1
      show wpAny _ A (call (.builtin "list.insert") [.ref a, .int z t, vx]) P E s3
      have hT : s3.TypeIs (.ref a) "list" := ⟨_, ho', rfl⟩
      have hsz : ys.size ≤ sizeLine := by rw [PySem.sizeLine_eq]; lia
      have hm := AutoListH.list_insert_list_int_val_1 a ys n' z t vx (by rw [hfit]; simp) hsz
      refine call_meets F.slot_list_insert hT F.entry_list_insert (F.args_list_insert_3 _ _ _) hm ⟨ho', ?_⟩
      obtain ⟨n'', hn⟩ := update_list (s := s3) ho' (fun xs => (xs.extract 0 (if z < 0 then (z + ((xs.size : Nat) : Int)).toNat else min z.toNat xs.size)).push vx ++ xs.extract (if z < 0 then (z + ((xs.size : Nat) : Int)).toNat else min z.toNat xs.size))
      have S4 := S3.upd hj' (t := s3.toks) (e' := .lst (l'.take kk ++ x :: l'.drop kk)) (fun b o hb g => by rw [Heap.get?_update_other _ _ (Ne.symm hb)]; exact g) hn ⟨_, n'', rfl, by
        have e : (if z < 0 then (z + ((ys.size : Nat) : Int)).toNat else min z.toNat ys.size) = kk := by
          rw [if_neg (by lia), hz2]; lia
        rw [e]
        have : ((ys.extract 0 kk).push vx ++ ys.extract kk).toList = ys.toList.take kk ++ vx :: ys.toList.drop kk := by simp; exact List.take_of_length_le (by simp)
        rw [this]
        exact (r'.take kk).append ⟨rx, r'.drop kk⟩⟩ (Nat.le_refl _)
      exact k .none .none _ _ (S4.tmp (x := .none) rfl) q

theorem EV_index {o e : Expr} {apos pos : Pos} {Q : V → Sto → Prop} (h : EV c m (eval o env) st fun v st1 => ∃ a, ∃ j : Nat, ∃ l, v = .ref a ∧ st1[j]? = some (a, .lst l) ∧ EV c m (eval e env) st1 fun x st2 => ∃ j : Nat, ∃ l : List Int, ∃ y : Int, x = .int y ∧ st2[j]? = some (a, .lst (l.map V.int)) ∧ l.length < 1000000 ∧ y ∈ l ∧ Q (.int (l.idxOf y)) st2)
    (hbase : attributeBase o (PySem.Str.ofString "index") env (eval o env) = eval o env := by rfl) (hline : (apos.endLine == pos.line) = true := by rfl) (he : starEach [e] env = [(false, eval e env)] := by rfl) : EV c m (eval (.Call (.Attribute o (PySem.Str.ofString "index") apos) [e] [] pos) env) st Q := fun A s tm P E R S k => by
  refine wpAny_Call_method (T := "list") (id := "list.index") hbase (by rw [he]; rfl) hline F.plainAttrs_list F.slot_list_index F.type_list_index (h A s tm _ E R S fun v x st1 s1 S1 ⟨a, j, l, e1, hj, h1⟩ => ?_)
  subst e1
  have e1 : v = .ref a := S1.hd
  subst e1
  obtain ⟨xs, n, ho, r⟩ := S1.list hj
  refine ⟨⟨_, ho, rfl⟩, fun b hb => by cases hb; exact ⟨_, ho, rfl⟩, ?_⟩
  rw [he]
  show wpAny _ A (callWith pos (.builtin "list.index") [.ref a] [(false, eval e env)] []) P E s1
  refine _root_.PySem.P.index_list (h1 A s1 tm _ E R S1.drop fun w y st2 s2 S2 ⟨j', l', y', ey, hj', hl', hmem, q⟩ => ?_)
  subst ey
  obtain ⟨t, ew⟩ : ∃ t, w = .int y' t := S2.hd
  subst ew
  obtain ⟨ys, n', ho', r'⟩ := S2.list hj'
  have hlen := r'.length
  simp only [Array.length_toList, List.length_map] at hlen
  have hlt : l'.idxOf y' < l'.length := List.idxOf_lt_length_of_mem hmem
  have key : ∀ i (h1 : i < ys.size) (h2 : i < l'.length), ∃ u, ys[i] = .int l'[i] u := fun i h1 h2 => by
    have q := r'.getElem i (by simpa using h1) (by simpa using h2)
    rw [List.getElem_map] at q
    obtain ⟨u, e⟩ := q
    exact ⟨u, by simpa using e⟩
  refine ⟨ys, n', fun v => match v with | .int b _ => b == y' | _ => false, l'.idxOf y', by lia, ho', fun z hz => ?_, by lia, ?_, fun i hi hlt' => ?_, ?_⟩
  · obtain ⟨i, hi, e⟩ := Array.getElem_of_mem hz
    obtain ⟨u, e'⟩ := key i hi (by lia)
    rw [← e, e']
    exact MeetsSeq.EqGives.int _ _ _ _
  · obtain ⟨u, e'⟩ := key _ (by lia) hlt
    rw [e']
    simp
  · obtain ⟨u, e'⟩ := key i hi (by lia)
    rw [e']
    have := List.not_of_lt_findIdx (p := fun x => x == y') (xs := l') (i := i) (by simpa [List.idxOf] using hlt')
    simpa using this
  · exact k _ (.int (l'.idxOf y')) st2 _ (S2.drop.tok1.tmp ⟨_, rfl⟩) q
end

-- L12
open AutoSeq1 (wpAny_loadPart')

/-! reversed(range(n)) -/
theorem sub_rangeiter_reversed : isSubtype (.type "range_iterator") (.type "reversed") = pure false := by rw [isSubtype_type]; kernel_rfl
abbrev rngIt (x left step : Int) : Obj := { cls := .type "range_iterator", data := .fields #[rawInt x, rawInt left, rawInt step] }
abbrev rngO (n : Int) (t u v : Tok) : Obj := { cls := .type "range", data := .fields #[.int 0 t, .int n u, .int 1 v] }
section
variable {prog : Program} {w : World} {A : Around} {E : Value → Shared → Prop} {s : Shared}

theorem call_range_reversed {r : Addr} {n : Int} {t u v : Tok} {Q : Value → Shared → Prop} (hr : s.heap.get? r = some (rngO n t u v)) (h0 : 0 ≤ n) (h1 : n < 1000000)
    (h : Q (.ref s.heap.objs.size) { s with heap := s.heap.push (rngIt (n - 1) n (-1)) }) : wpAny (model prog w) A (call (.builtin "range.__reversed__") [.ref r]) Q E s := by
  refine wpAny_call_entry F.slot_range_reversed ⟨_, hr, rfl⟩ F.entry_range_reversed ?_ (F.args_range_reversed_1 _)
  unfold Builtin.«range.__reversed__»
  have hsz : Builtin.Range.rangeSize 0 n 1 = n := by
    unfold Builtin.Range.rangeSize
    by_cases hn : 0 < n
    · simp [hn]
    · have : n = 0 := by lia
      subst this; rfl
  refine wpAny_bind (wpAny_of_eq (a := Value.ref r) rfl ?_)
  refine wpAny_bind (m := Builtin.Range.rangeFields (.ref r)) ?_
  unfold Builtin.Range.rangeFields
  refine wpAny_bind (wpAny_field hr rfl (x := .int 0 t) rfl ?_)
  refine wpAny_bind (wpAny_of_eq (a := some (0 : Int)) rfl ?_)
  refine wpAny_bind (wpAny_field hr rfl (x := .int n u) rfl ?_)
  refine wpAny_bind (wpAny_of_eq (a := some n) rfl ?_)
  refine wpAny_bind (wpAny_field hr rfl (x := .int 1 v) rfl ?_)
  refine wpAny_bind (wpAny_of_eq (a := some (1 : Int)) rfl ?_)
  refine wpAny_pure ?_
  dsimp only
  rw [hsz]
  have hsm : (Builtin.Range.rangeFitsLong 0 && Builtin.Range.rangeFitsLong n && Builtin.Range.rangeFitsLong 1 && Builtin.Range.rangeFitsLong (-1) && Builtin.Range.rangeFitsLong (0 - 1) && Builtin.Range.rangeFitsLong n) = true := by
    have : Builtin.Range.rangeFitsLong n = true := by
      unfold Builtin.Range.rangeFitsLong
      simp
      lia
    rw [this]
    decide
  rw [hsm]
  refine wpAny_bind (wpAny_newObj_type (wpAny_pure ⟨_, rfl, ?_⟩))
  have e : (0 : Int) + (n - 1) * 1 = n - 1 := by lia
  rw [e]
  exact h

theorem code_reversed_range {r : Addr} {n : Int} {t u v : Tok} {Q₁ : Value → Shared → Prop} (hr : s.heap.get? r = some (rngO n t u v)) (h0 : 0 ≤ n) (h1 : n < 1000000)
    (h : Q₁ (.ref s.heap.objs.size) { s with heap := s.heap.push (rngIt (n - 1) n (-1)) }) :
    codeAny (model prog w) A (.call (.builtin "reversed.__new__") ⟨[.type "reversed", .ref r], []⟩) (wants Q₁ E) s := by
  refine codeAny_of_tree ?_
  show wpAny _ A.in1 (do checkBuiltinCall "reversed.__new__" ⟨[.type "reversed", .ref r], []⟩; again (.builtin "reversed.__new__" ⟨[.type "reversed", .ref r], []⟩)) _ _ s
  refine wpAny_bind (wpAny_of_eq (F.newCall_reversed_1 _) (wpAny_pure ⟨plainId_quiet F.plain_reversed_new _, codeAny_builtin F.entry_reversed_new ?_⟩))
  rw [Around.under_plainId F.plain_reversed_new _]
  unfold Builtin.«reversed.__new__»
  refine wpAny_bind (wpAny_of_eq (newClass_reversed _) ?_)
  try dsimp only
  refine wpAny_bind (wpAny_of_eq (a := ()) (by first | rfl | kernel_rfl) ?_)
  refine wpAny_bind (wpAny_of_eq (a := ()) (by first | rfl | kernel_rfl) ?_)
  try dsimp only
  have hT : s.TypeIs (.ref r) "range" := ⟨_, hr, rfl⟩
  refine wpAny_bind (wpAny_specialOf hT F.slot_range_reversed.lookup ?_)
  try dsimp only
  refine wpAny_bind (wpAny_of_eq (F.slot_range_reversed.bind _) ?_)
  try dsimp only
  first
  | rw [if_neg (show ¬ ((Value.builtin "range.__reversed__" == Value.none) = true) from Bool.false_ne_true)]
  | (show wpAny _ _ (if (Value.builtin "range.__reversed__" == Value.none) = true then _ else _) _ _ _; rw [if_neg (show ¬ ((Value.builtin "range.__reversed__" == Value.none) = true) from Bool.false_ne_true)])
  refine wpAny_bind (wpAny_rule ?_)
  refine wpAny_bind (m := runValue (.call (.builtin "range.__reversed__") ⟨[.ref r], []⟩)) (show wpAny _ _ (call (.builtin "range.__reversed__") [.ref r]) _ _ _ from call_range_reversed hr h0 h1 ?_)
  first
  | exact wpAny_pure h
  | exact wpAny_bind (wpAny_pure (wpAny_pure h))

theorem call_reversed_range {r : Addr} {n : Int} {t u v : Tok} {Q : Value → Shared → Prop} (hr : s.heap.get? r = some (rngO n t u v)) (h0 : 0 ≤ n) (h1 : n < 1000000)
    (h : Q (.ref s.heap.objs.size) { s with heap := s.heap.push (rngIt (n - 1) n (-1)) }) : wpAny (model prog w) A (call (.type "reversed") [.ref r]) Q E s := by
  refine callType_other (U := "range_iterator") (Q₁ := fun obj s₁ => obj = .ref s.heap.objs.size ∧ s₁ = { s with heap := s.heap.push (rngIt (n - 1) n (-1)) }) (by decide +kernel) F.create_reversed ⟨_, _, F.mro_reversed⟩ F.made_reversed sub_rangeiter_reversed (F.typeCall_reversed_1 _) (code_reversed_range hr h0 h1 ⟨rfl, rfl⟩) ?_
  rintro obj s₁ ⟨rfl, rfl⟩
  exact ⟨⟨_, Heap.get?_push_size _ rfl, rfl⟩, h⟩
end

section
variable {c : Ctx} {m : Loc} {st : Sto} {env : Env}

theorem rng_ok (n : Int) (t u v : Tok) : (rngO n t u v).cls ≠ .type "tuple" ∧ (rngO n t u v).isFreed = false := ⟨by simp, rfl⟩
theorem rngIt_ok (a b d : Int) : (rngIt a b d).cls ≠ .type "tuple" ∧ (rngIt a b d).isFreed = false := ⟨by simp, rfl⟩

theorem call_range {n : Int} {Q : V → Sto → Prop} (h : ∀ r t u v, Q (.ref r) ((r, .obj (rngO n t u v)) :: st)) : OP c m (fun vs => call (.type "range") vs) [.int n] st Q := fun A s tm vs P E R S r k => by
  obtain ⟨v, rfl, ⟨t, e⟩⟩ := RepL.one r
  subst e
  refine call_range_1 ?_
  have S1 := S.new (o := rngO n s.toks t (s.toks + 1)) (e := .obj (rngO n s.toks t (s.toks + 1))) ⟨rfl, rng_ok _ _ _ _⟩
  have S2 := S1.tok (t := s.toks + 1 + 1) (by show s.toks ≤ _; lia)
  exact k _ (.ref _) _ _ (S2.tmp (x := .ref _) rfl) (h _ _ _ _)
theorem call_reversed {i : Nat} {r : Addr} {n : Int} {t u v : Tok} {Q : V → Sto → Prop} (hi : st[i]? = some (r, .obj (rngO n t u v))) (h0 : 0 ≤ n) (h1 : n < 1000000) (h : ∀ d, Q (.ref d) ((d, .obj (rngIt (n - 1) n (-1))) :: st)) :
    OP c m (fun vs => call (.type "reversed") vs) [.ref r] st Q := fun A s tm vs P E R S rr k => by
  obtain ⟨w, rfl, e⟩ := RepL.one rr
  have e : w = .ref r := e
  subst e
  obtain ⟨o, ho, e, _⟩ := S.ents _ (List.mem_of_getElem? hi)
  subst e
  refine call_reversed_range ho h0 h1 ?_
  have S1 := S.new (o := rngIt (n - 1) n (-1)) (e := .obj (rngIt (n - 1) n (-1))) ⟨rfl, rngIt_ok _ _ _⟩
  exact k _ (.ref _) _ _ (S1.tmp (x := .ref _) rfl) (h _)
theorem call_list_rng {i : Nat} {r : Addr} {n : Nat} {t u v : Tok} {Q : V → Sto → Prop} (hi : st[i]? = some (r, .obj (rngO n t u v))) (h1 : n < 1000000) (h : ∀ d, Q (.ref d) ((d, .lst ((List.range n).map fun (i : Nat) => V.int i)) :: st)) :
    OP c m (fun vs => call (.type "list") vs) [.ref r] st Q := fun A s tm vs P E R S rr k => by
  obtain ⟨w, rfl, e⟩ := RepL.one rr
  have e : w = .ref r := e
  subst e
  obtain ⟨o, ho, e, _⟩ := S.ents _ (List.mem_of_getElem? hi)
  subst e
  have hsz : Builtin.Range.rangeSize 0 n 1 = n := by
    unfold Builtin.Range.rangeSize
    by_cases hn : (0 : Int) < n
    · simp [hn]; lia
    · have : n = 0 := by lia
      subst this; rfl
  have hfit : ∀ z : Int, 0 ≤ z → z < 1000000 → Builtin.Range.rangeFitsLong z = true := fun z h0 h1 => by
    unfold Builtin.Range.rangeFitsLong
    simp
    lia
  have hsm : Builtin.Range.small 0 n 1 = true := by
    unfold Builtin.Range.small
    rw [hsz]
    simp [hfit n (by lia) (by lia), hfit 0 (by lia) (by lia), hfit 1 (by lia) (by lia)]
  refine wpAny_toks_mono (call_list_range R.1 (a := 0) (b := n) (c := 1) (n := n) ho hsm hsz (by lia) fun h' tk acc' c' hk hS' hacc ht => ?_)
  have S1 := S.ext hk ht
  have hr : RepL { s with heap := h', toks := tk } ((List.range n).map fun (i : Nat) => V.int i) acc'.toList := by
    have gen : ∀ (l : List Value) (f : Nat → Int), (∀ (j : Nat) (w : Value), l[j]? = some w → ∃ t, w = Value.int (f j) t) → RepL { s with heap := h', toks := tk } ((List.range l.length).map fun (i : Nat) => V.int (f i)) l := by
      intro l
      induction l with
      | nil => intro f _; trivial
      | cons a l ih =>
        intro f hf
        rw [List.length_cons, List.range_succ_eq_map, List.map_cons, List.map_map]
        exact ⟨hf 0 a rfl, ih (fun j => f (j + 1)) fun j w hw => hf (j + 1) w hw⟩
    have := gen acc'.toList (fun i => (i : Int)) fun j w hw => by
      obtain ⟨t, e⟩ := hacc.2 j w (by simpa using hw)
      exact ⟨t, by rw [e]; simp⟩
    rw [Array.length_toList, hacc.1] at this
    exact this
  have hfresh : ∀ b o, s.heap.get? b = some o → b ≠ s.heap.objs.size := fun b o g => Nat.ne_of_lt (Heap.lt_size g)
  refine k _ (.ref s.heap.objs.size) _ _ (In.tmp (x := .ref _) ?_ rfl) (h _)
  refine { S1 with ents := fun p hp => ?_, apart := fun p hp => ?_, nodup := ?_ }
  · rcases List.mem_cons.mp hp with rfl | hp
    · exact ⟨_, hS', acc', c', rfl, hr⟩
    · exact S1.ents p hp
  · rcases List.mem_cons.mp hp with rfl | hp
    · exact ⟨Nat.ne_of_gt S.Llt, Heap.get?_none_of_le (Nat.le_trans S.sizes.2 S.size), .inl S.size⟩
    · exact S1.apart p hp
  · refine List.nodup_cons.mpr ⟨fun h => ?_, S.nodup⟩
    obtain ⟨p, hp, e⟩ := List.mem_map.mp h
    exact absurd (S.lt hp) (by rw [e]; exact Nat.lt_irrefl _)

theorem call_int_f {x : UInt64} {lo : Nat} {sg : Bool} {mm : Nat} {e : Int} {Q : V → Sto → Prop} (hd : Float64.decode x = .fin sg mm e) (h : Q (.int (Float64.truncOf sg mm e)) st) : OP c m (fun vs => call (.type "int") vs) [.flt x lo] st Q := fun A s tm vs P E R S r k => by
  obtain ⟨v, rfl, ⟨t, e, _⟩⟩ := RepL.one r
  subst e
  exact call_int_float hd (k _ (.int _) st _ (S.tok1.tmp ⟨_, rfl⟩) h)

/-- a loop over a range's iterator, downward -/
theorem EX_for_rev {x : Str} {xp : Pos} {iter : Expr} {body : List Stmt} {pos : Pos} {Q : Fl → Loc → Sto → Prop} (K : EnvOk c env) (hx : env.kindOf x = some .local) (J : Nat → Loc → Sto → Prop)
    (h : EV c m (eval iter env) st fun v st1 => ∃ it, ∃ n : Nat, ∃ st2, v = .ref it ∧ st1 = (it, .obj (rngIt ((n : Int) - 1) n (-1))) :: st2 ∧ J n m st2 ∧
      (∀ (k : Nat) m' st', J (k + 1) m' st' → ∀ e, EX c (execs body env) (setL m' x (.int k)) ((it, e) :: st') fun fl m3 st3 =>
        ∃ st4, List.Sublist ((it, e) :: st4) st3 ∧ (match fl with | .next | .cont => J k m3 st4 | .brk => Q .next m3 st4 | .ret v => Q (.ret v) m3 st4)) ∧
      (∀ m' st', J 0 m' st' → Q .next m' st'))
    (hs : ∀ x, foldedSetIterable iter env x = pure x := by intro _; rfl) : EX c (exec (.For (.Name x xp) iter body [] pos) env) m st Q := fun A s tm P E R S kk => by
  refine wpAny_For (h A s tm _ E R S fun v y st1 s1 S1 ⟨it, n, st2, e, e2, h0, step, done⟩ => ?_) hs
  subst e e2
  have e : v = .ref it := S1.hd
  subst e
  have hit0 : ∀ {a b d : Int} {st' : Sto} {m' : Loc} {s' : Shared}, In c m' ((it, .obj (rngIt a b d)) :: st') tm s' → IsRangeIter s'.heap it a b d := fun S' => by
    obtain ⟨o, ho, e, _⟩ := S'.ents _ (.head _)
    subst e
    exact ho
  refine wpAny_pyIter_rangeiter (hit0 S1.drop) ?_
  refine forLoop_any (fun n s => ∃ m' st', J n m' st' ∧ In c m' ((it, .obj (rngIt ((n : Int) - 1) n (-1))) :: st') tm s) (fun n s' ⟨m', st', hJ, S'⟩ => ?_) n ⟨m, st2, h0, S1.drop⟩
  have hit := hit0 S'
  cases n with
  | zero =>
    refine wpAny_pyNext_range_end R.1 hit (Int.le_refl _) fun h' hx => ?_
    exact kk .next .next m' st' _ (S'.lose hx (Nat.le_refl _)) rfl (done m' st' hJ)
  | succ n =>
    refine wpAny_pyNext_range_item hit (by lia) fun h' hit' hs' => ?_
    have e1 : ((n + 1 : Nat) : Int) - 1 + -1 = (n : Int) - 1 := by lia
    have e2 : ((n + 1 : Nat) : Int) - 1 = (n : Int) := by lia
    rw [e1] at hit'
    rw [e2] at hit' ⊢
    have S3 : In c m' ((it, .obj (rngIt ((n : Int) - 1) n (-1))) :: st') tm { s' with heap := h', toks := s'.toks + 1 } :=
      S'.upd (i := 0) rfl (e' := .obj (rngIt ((n : Int) - 1) n (-1))) hs'.extBut hit' ⟨rfl, rngIt_ok _ _ _⟩ (Nat.le_succ _)
    refine wpAny_pure ?_
    refine AS_name (ST_local K hx (Q := fun m2 st3 => m2 = setL m' x (.int n) ∧ st3 = (it, .obj (rngIt ((n : Int) - 1) n (-1))) :: st') ⟨rfl, rfl⟩) A _ tm _ _ _ R S3 ⟨_, rfl⟩ fun m2 st3 s2 S4 ⟨ea, eb⟩ => ?_
    subst ea eb
    refine step n m' st' hJ _ A s2 tm _ _ R S4 fun f fl m3 st3 s3 S5 rf ⟨st4, hsub, hq⟩ => ?_
    have S6 := S5.sub hsub
    cases fl with
    | next => cases rf; exact ⟨n, Nat.lt_succ_self _, m3, st4, hq, S6⟩
    | cont => cases rf; exact ⟨n, Nat.lt_succ_self _, m3, st4, hq, S6⟩
    | brk => cases rf; exact kk .next .next m3 st4 s3 (S6.sub (List.sublist_cons_self _ _)) rfl hq
    | ret v => obtain ⟨cv, e, rr⟩ := rf; subst e; exact kk (.ret cv) (.ret v) m3 st4 s3 (S6.sub (List.sublist_cons_self _ _)) ⟨cv, rfl, rr⟩ hq
end

-- L13
noncomputable def feq (a b : UInt64) : Bool := Float64.cmp a b == some .eq

theorem same_ff {M : Model} {A : Around} {E : Value → Shared → Prop} {s : Shared} {x y : UInt64} {t u : Tok} {Q : Bool → Shared → Prop} (ht : t ≠ 0) (hu : u ≠ 0) (hne : t ≠ u) (hb : NoneBooked s.heap) (hq : ∀ b, (b = true → x = y ∧ Float64.isNaN x = false) → Q b s) :
    wpAny M A (isSame (.float x t) (.float y u)) Q E s := by
  show wpAny M A (isSame.created (x == y && !Float64.isNaN x) t u) Q E s
  unfold isSame.created
  refine wpAny_ite ?_
  rw [if_neg (by simp [ht, hu])]
  refine wpAny_ite ?_
  rw [if_neg (by simpa using hne)]
  refine wpAny_ite ?_
  split
  · exact wpAny_pure (hq _ fun h => by cases h)
  rename_i heq
  have heq : (x == y && !Float64.isNaN x) = true := by simpa using heq
  refine wpAny_bind (wpAny_sharingNotTold_none hb ?_)
  first | rw [if_neg Bool.false_ne_true] | simp only [Bool.false_eq_true, if_false]
  refine wpAny_bind (wpAny_sharingNotTold_none hb ?_)
  first | rw [if_neg Bool.false_ne_true] | simp only [Bool.false_eq_true, if_false]
  refine wpAny_bind (wpAny_rule (wpAny_bind (wpAny_askSetting (wpAny_pure (hq _ fun _ => ?_)))))
  simp only [Bool.and_eq_true, Bool.not_eq_true', beq_iff_eq] at heq
  exact heq

theorem eqAt_ff {A : Around} {s : Shared} {x y : UInt64} {t u : Tok} (ht : t ≠ 0) (hu : u ≠ 0) (hne : t ≠ u) (hb : NoneBooked s.heap) : SeqAt.EqAt A s (.float x t) (.float y u) (feq x y) := fun prog w E Q h => by
  unfold eqBool
  refine wpAny_holding ?_
  refine wpAny_ite_split (fun hab => absurd (by have := eq_of_beq hab; injection this) hne) (fun _ => ?_)
  have rest : wpAny (model prog w) A (richCompare .Eq (.float x t) (.float y u)) (fun v s' => wpAny (model prog w) A (truthOfDropped v) Q E s') E s :=
    AutoFloatOps.eq_0 (wpAny_truthy_bool h)
  refine wpAny_bind (same_ff ht hu hne hb fun b hbt => ?_)
  cases b with
  | true =>
    obtain ⟨e, hn⟩ := hbt rfl
    subst e
    have : feq x x = true := by unfold feq; rw [PySem.Flt.cmp_self, hn]; rfl
    rw [this] at h
    exact wpAny_pure h
  | false => exact wpAny_bind rest

section
variable {c : Ctx} {m : Loc} {st : Sto} {env : Env}

theorem Hues.get {N : Nat} : ∀ {l : List UInt64} {vs : List Value}, Hues N l vs → vs.length = l.length ∧ ∀ i (h1 : i < vs.length) (h2 : i < l.length), ∃ t, vs[i] = .float l[i] t ∧ 0 < t ∧ t < N
  | [], [], _ => ⟨rfl, fun i h => absurd h (Nat.not_lt_zero _)⟩
  | x :: l, v :: vs, ⟨h, r⟩ => by
    obtain ⟨e, g⟩ := Hues.get r
    refine ⟨congrArg (· + 1) e, fun i h1 h2 => ?_⟩
    cases i with
    | zero => exact h
    | succ i => exact g i (Nat.lt_of_succ_lt_succ h1) (Nat.lt_of_succ_lt_succ h2)
theorem Hues.mono {N N' : Nat} (hN : N ≤ N') : ∀ {l : List UInt64} {vs : List Value}, Hues N l vs → Hues N' l vs
  | [], [], _ => trivial
  | x :: l, v :: vs, ⟨⟨t, e, a, b⟩, r⟩ => ⟨⟨t, e, a, Nat.lt_of_lt_of_le b hN⟩, r.mono hN⟩
theorem Hues.snoc {N : Nat} {x : UInt64} {v : Value} (h : ∃ t, v = .float x t ∧ 0 < t ∧ t < N) : ∀ {l : List UInt64} {vs : List Value}, Hues N l vs → Hues N (l ++ [x]) (vs ++ [v])
  | [], [], _ => ⟨h, trivial⟩
  | _ :: l, _ :: vs, ⟨a, r⟩ => ⟨a, r.snoc h⟩

theorem In.hues {tm : List (V × Value)} {s : Shared} (S : In c m st tm s) {i : Nat} {a : Addr} {l : List UInt64} {N : Nat} (hi : st[i]? = some (a, .hue l N)) : ∃ xs n, s.heap.get? a = some (listOf xs n) ∧ Hues N l xs.toList ∧ N ≤ s.toks := by
  obtain ⟨o, ho, xs, n, e, r⟩ := S.ents _ (List.mem_of_getElem? hi)
  subst e
  exact ⟨xs, n, ho, r⟩

/-- the items' equality with x -/
theorem hue_prep {tm : List (V × Value)} {s : Shared} {A : Around} (G : Stat c.toBase) (S : In c m st tm s) {xs : Array Value} {l : List UInt64} {N lo : Nat} {x : UInt64} {t : Tok} (h : Hues N l xs.toList) (hlo : N ≤ lo) (hpos : 0 < lo) (ht : lo ≤ t) :
    ∃ e : Value → Bool, (∀ v ∈ xs, SeqAt.EqAt A s v (.float x t) (e v)) ∧ xs.any e = l.any (fun y => feq y x) ∧ ∀ i (h1 : i < xs.size) (h2 : i < l.length), e xs[i] = feq l[i] x := by
  obtain ⟨hl, hg⟩ := h.get
  have hg' : ∀ i (h1 : i < xs.size) (h2 : i < l.length), ∃ t, xs[i] = .float l[i] t ∧ 0 < t ∧ t < N := fun i h1 h2 => by
    obtain ⟨t, e, r⟩ := hg i (by simpa using h1) h2
    exact ⟨t, by simpa using e, r⟩
  have hb : NoneBooked s.heap := by
    obtain ⟨mc, a, b⟩ := G.booked
    exact ⟨mc, a.keeps S.stat, b⟩
  refine ⟨fun v => match v with | .float y _ => feq y x | _ => false, fun v hv => ?_, ?_, fun i h1 h2 => ?_⟩
  · obtain ⟨i, hi, e⟩ := Array.getElem_of_mem hv
    obtain ⟨u, e', h1, h2⟩ := hg' i hi (by simp at hl; lia)
    rw [← e, e']
    exact eqAt_ff (Nat.ne_of_gt h1) (Nat.ne_of_gt (Nat.lt_of_lt_of_le hpos ht)) (Nat.ne_of_lt (Nat.lt_of_lt_of_le h2 (Nat.le_trans hlo ht))) hb
  · clear hg'
    obtain ⟨vs⟩ := xs
    simp only [List.any_toArray] at hl hg h ⊢
    clear hl hg
    revert h
    induction l generalizing vs with
    | nil => intro h; match vs, h with | [], _ => rfl
    | cons y l ih =>
      intro h
      match vs, h with
      | v :: vs, ⟨⟨t, e, _⟩, r⟩ =>
        subst e
        rw [List.any_cons, List.any_cons, ih vs r]
  · obtain ⟨u, e', _⟩ := hg' i h1 h2
    rw [e']

theorem in_hue {i : Nat} {a : Addr} {l : List UInt64} {N lo : Nat} {x : UInt64} {Q : V → Sto → Prop} (G : Stat c.toBase) (hi : st[i]? = some (a, .hue l N)) (hlo : N ≤ lo) (hpos : 0 < lo) (hQ : Q (.bool (l.any fun y => feq y x)) st) :
    OP2 c m (compareOp .In) (.flt x lo) (.ref a) st Q := fun A s tm v w P E R S r r' k => by
  obtain ⟨t, e, h1, h2⟩ := r
  have e' : w = .ref a := r'
  subst e e'
  obtain ⟨xs, n, ho, hh, _⟩ := S.hues hi
  obtain ⟨f, hf, he, _⟩ := hue_prep (A := A.in1) (x := x) G S hh hlo hpos h1
  refine SeqAt.in_listAt f (isList_of ho) hf ?_
  rw [he]
  exact k _ (.bool _) st s (S.tmp (x := .bool _) rfl) hQ

theorem EV_index_hue {o e : Expr} {apos pos : Pos} {Q : V → Sto → Prop} (G : Stat c.toBase) (h : EV c m (eval o env) st fun v st1 => ∃ a, ∃ j : Nat, ∃ l N, v = .ref a ∧ st1[j]? = some (a, .hue l N) ∧ EV c m (eval e env) st1 fun x st2 => ∃ j : Nat, ∃ (l : List UInt64) (N : Nat) (y : UInt64) (lo k : Nat), x = .flt y lo ∧ st2[j]? = some (a, .hue l N) ∧ N ≤ lo ∧ 0 < lo ∧ k < 1000000 ∧
      (∃ hk : k < l.length, feq l[k] y = true ∧ ∀ i (hi : i < l.length), i < k → feq l[i] y = false) ∧ Q (.int k) st2)
    (hbase : attributeBase o (PySem.Str.ofString "index") env (eval o env) = eval o env := by rfl) (hline : (apos.endLine == pos.line) = true := by rfl) (he : starEach [e] env = [(false, eval e env)] := by rfl) : EV c m (eval (.Call (.Attribute o (PySem.Str.ofString "index") apos) [e] [] pos) env) st Q := fun A s tm P E R S kk => by
  refine wpAny_Call_method (T := "list") (id := "list.index") hbase (by rw [he]; rfl) hline F.plainAttrs_list F.slot_list_index F.type_list_index (h A s tm _ E R S fun v x st1 s1 S1 ⟨a, j, l, N, e1, hj, h1⟩ => ?_)
  subst e1
  have e1 : v = .ref a := S1.hd
  subst e1
  obtain ⟨xs, n, ho, r⟩ := S1.hues hj
  refine ⟨⟨_, ho, rfl⟩, fun b hb => by cases hb; exact ⟨_, ho, rfl⟩, ?_⟩
  refine wpAny_toks_mono ?_
  refine callWith_method1 (e := e) (rest := []) (pos := pos) (env := env) (first := [.ref a]) ?_ he rfl
  refine spliced_more (h1 A s1 tm _ _ R S1.drop fun w y st2 s2 S2 ⟨j', l', N', y', lo, k, ey, hj', hlo, hpos, hk6, ⟨hk, hfe, hno⟩, q⟩ => spliced_none ?_) he
  subst ey
  obtain ⟨t, ew, g1, g2⟩ : ∃ t, w = .float y' t ∧ lo ≤ t ∧ t < s2.toks := S2.hd
  subst ew
  obtain ⟨ys, n', ho', hh, _⟩ := S2.hues hj'
  obtain ⟨f, hf, he', hfg⟩ := hue_prep (A := A.in1) (x := y') G S2 hh hlo hpos g1
  have hlen := hh.get.1
  simp only [Array.length_toList] at hlen
  have hT : s2.TypeIs (.ref a) "list" := ⟨_, ho', rfl⟩
  refine call_meets F.slot_list_index hT F.entry_list_index (F.args_list_index_2 _ _) (SeqAt.list_indexAt a ys n' none #[] (.float y' t) f k (by lia) (by lia) (by rw [hfg k (by lia) hk]; exact hfe) (fun i hi hlt => by rw [hfg i hi (by lia)]; exact hno i (by lia) hlt)) ⟨ho', hf, ?_⟩
  intro _
  exact kk _ (.int k) st2 _ (S2.drop.tok1.tmp ⟨_, rfl⟩) q

theorem EV_append_hue {o e : Expr} {apos pos : Pos} {Q : V → Sto → Prop} (h : EV c m (eval o env) st fun v st1 => ∃ a, ∃ j : Nat, ∃ l N, v = .ref a ∧ st1[j]? = some (a, .hue l N) ∧ EV c m (eval e env) st1 fun x st2 => ∃ j : Nat, ∃ l N y lo, x = .flt y lo ∧ 0 < lo ∧ st2[j]? = some (a, .hue l N) ∧ l.length < 1000000 ∧ ∀ N', Q .none (st2.set j (a, .hue (l ++ [y]) N')))
    (hbase : attributeBase o (PySem.Str.ofString "append") env (eval o env) = eval o env := by rfl) (hline : (apos.endLine == pos.line) = true := by rfl) (he : starEach [e] env = [(false, eval e env)] := by rfl) : EV c m (eval (.Call (.Attribute o (PySem.Str.ofString "append") apos) [e] [] pos) env) st Q := fun A s tm P E R S k => by
  refine wpAny_Call_method (T := "list") (id := "list.append") hbase (by rw [he]; rfl) hline F.plainAttrs_list F.slot_list_append F.type_list_append (h A s tm _ E R S fun v x st1 s1 S1 ⟨a, j, l, N, e1, hj, h1⟩ => ?_)
  subst e1
  have e1 : v = .ref a := S1.hd
  subst e1
  obtain ⟨xs, n, ho, r⟩ := S1.hues hj
  refine ⟨⟨_, ho, rfl⟩, fun b hb => by cases hb; exact ⟨_, ho, rfl⟩, ?_⟩
  rw [he]
  show wpAny _ A (callWith pos (.builtin "list.append") [.ref a] [(false, eval e env)] []) P E s1
  refine _root_.PySem.P.append_list (h1 A s1 tm _ E R S1.drop fun w y st2 s2 S2 ⟨j', l', N', y', lo, ey, hlo, hj', hl', q⟩ => ?_)
  subst ey
  obtain ⟨t, ew, g1, g2⟩ : ∃ t, w = .float y' t ∧ lo ≤ t ∧ t < s2.toks := S2.hd
  obtain ⟨ys, n', ho', r', hN⟩ := S2.hues hj'
  have hlen := r'.get.1
  simp only [Array.length_toList] at hlen
  refine ⟨ys, n', by rw [PySem.sizeLine_eq]; lia, ho', ?_⟩
  obtain ⟨n'', hn⟩ := update_list (s := s2) ho' (fun xs => xs.push w)
  have S3 := S2.drop.upd hj' (h' := s2.heap.update a (Obj.mapSeq fun xs => xs.push w)) (t := s2.toks) (e' := .hue (l' ++ [y']) s2.toks) (fun b o hb g => by rw [Heap.get?_update_other _ _ (Ne.symm hb)]; exact g) hn ⟨_, n'', rfl, by
    rw [Array.toList_push]; exact (r'.mono hN).snoc ⟨t, ew, Nat.lt_of_lt_of_le hlo g1, g2⟩, Nat.le_refl _⟩ (Nat.le_refl _)
  exact k .none .none _ _ (S3.tmp (x := .none) rfl) (q _)

/-- an empty list as a list of hues -/
theorem EX_toHue {t : Sem Flow} {i : Nat} {a : Addr} {Q : Fl → Loc → Sto → Prop} (hi : st[i]? = some (a, .lst [])) (h : EX c t m (st.set i (a, .hue [] 0)) Q) : EX c t m st Q := fun A s tm P E R S k => by
  obtain ⟨xs, n, ho, r⟩ := S.list hi
  have hx : xs.toList = [] := by
    cases e : xs.toList with
    | nil => rfl
    | cons v vs => rw [e] at r; exact r.elim
  have S1 := S.upd hi (h' := s.heap) (t := s.toks) (e' := .hue [] 0) (fun b o _ g => g) ho ⟨xs, n, rfl, by rw [hx]; trivial, Nat.zero_le _⟩ (Nat.le_refl _)
  exact h A s tm P E R S1 k
end

-- L14
/-- the cells of a list of names, the last first -/
noncomputable def CellsOf : List (Str × NameKind) → List (Str × Addr) → Prop
  | [], cs => cs = []
  | (n, k) :: r, cs => if k == .cell then ∃ a cs', cs = cs' ++ [(n, a)] ∧ CellsOf r cs' else CellsOf r cs
abbrev cents (cs : List (Str × Addr)) : Sto := cs.map fun p => (p.2, Ent.cel none)

section
variable {c : Ctx} {env : Env}

theorem layCells {M : Model} {A : Around} {E : Value → Shared → Prop} {m : Loc} (f : Str × NameKind → List (Str × Addr) → Sem (ForInStep (List (Str × Addr))))
    (hf : ∀ name kind cells, f (name, kind) cells = if kind == .cell then (do let a ← alloc { cls := .type "cell", data := .cell none }; pure (.yield ((name, a) :: cells))) else pure (.yield cells)) :
    ∀ (ns : List (Str × NameKind)) (cells : List (Str × Addr)) (st : Sto) (tm : List (V × Value)) (s : Shared) (P : List (Str × Addr) → Shared → Prop), In c m st tm s →
      (∀ cs s', CellsOf ns cs → In c m (cents cs ++ st) tm s' → (∃ h, s' = { s with heap := h }) → P (cs ++ cells) s') → wpAny M A (forIn ns cells f) P E s
  | [], cells, st, tm, s, P, S, k => by rw [List.forIn_nil]; exact wpAny_pure (k [] s rfl S ⟨_, rfl⟩)
  | (n, kd) :: r, cells, st, tm, s, P, S, k => by
    rw [List.forIn_cons, hf]
    by_cases hk : (kd == NameKind.cell) = true
    · rw [if_pos hk]
      refine wpAny_bind (wpAny_bind (wpAny_alloc (wpAny_pure ?_)))
      have S1 := S.new (o := { cls := .type "cell", data := .cell none }) (e := .cel none) rfl
      refine layCells f hf r _ _ tm _ P S1 fun cs s' hc S' hs => ?_
      have e : cs ++ (n, s.heap.objs.size) :: cells = (cs ++ [(n, s.heap.objs.size)]) ++ cells := by simp
      rw [e]
      refine k _ s' ?_ ?_ ?_
      · show (if (kd == NameKind.cell) = true then _ else _)
        rw [if_pos hk]; exact ⟨_, cs, rfl, hc⟩
      · have e : cents (cs ++ [(n, s.heap.objs.size)]) ++ st = cents cs ++ (s.heap.objs.size, Ent.cel none) :: st := by simp [cents]
        rw [e]; exact S'
      · obtain ⟨h, e⟩ := hs; exact ⟨h, by rw [e]⟩
    · rw [if_neg hk]
      refine wpAny_bind (wpAny_pure ?_)
      refine layCells f hf r cells st tm s P S fun cs s' hc S' hs => k cs s' ?_ S' hs
      show (if (kd == NameKind.cell) = true then _ else _)
      rw [if_neg hk]; exact hc

/-- names bound one by one -/
noncomputable def BD (c : Ctx) (env : Env) : List (Str × V) → Loc → Sto → (Loc → Sto → Prop) → Prop
  | [], m, st, Q => Q m st
  | (n, v) :: r, m, st, Q => AS c (fun cv => storeName env n cv) v m st fun m1 st1 => BD c env r m1 st1 Q

theorem repL_zip {s : Shared} : ∀ {xs : List V} {vs : List Value}, RepL s xs vs → ∀ p ∈ xs.zip vs, Rep s p.1 p.2
  | [], [], _, p, hp => by simp at hp
  | x :: xs, v :: vs, ⟨r, rs⟩, p, hp => by
    rw [List.zip_cons_cons] at hp
    rcases List.mem_cons.mp hp with rfl | hp
    · exact r
    · exact repL_zip rs p hp
theorem repL_of_zip {s s1 : Shared} : ∀ {xs : List V} {vs : List Value}, RepL s xs vs → (∀ p ∈ xs.zip vs, Rep s1 p.1 p.2) → RepL s1 xs vs
  | [], [], _, _ => trivial
  | x :: xs, v :: vs, ⟨r, rs⟩, h => ⟨h (x, v) (by rw [List.zip_cons_cons]; exact .head _), repL_of_zip rs fun p hp => h p (by rw [List.zip_cons_cons]; exact .tail _ hp)⟩
theorem In.tmpL {m : Loc} {st : Sto} {tm : List (V × Value)} {s : Shared} (S : In c m st tm s) {xs : List V} {vs : List Value} (r : RepL s xs vs) : In c m st (xs.zip vs ++ tm) s :=
  { S with tms := fun p hp => (List.mem_append.mp hp).elim (repL_zip r p) (S.tms p) }
theorem In.dropL {m : Loc} {st : Sto} {tm t1 : List (V × Value)} {s : Shared} (S : In c m st (t1 ++ tm) s) : In c m st tm s := { S with tms := fun p hp => S.tms p (List.mem_append_right _ hp) }

theorem bindAll {A : Around} {E : Value → Shared → Prop} (R : Room c A) (f : Str × Value → PUnit → Sem (ForInStep PUnit)) (hf : ∀ n v u, f (n, v) u = (do storeName env n v; pure (.yield ⟨⟩))) (names : List Str) :
    ∀ (xs : List V) (vs : List Value) (m : Loc) (st : Sto) (tm : List (V × Value)) (s : Shared) (P : PUnit → Shared → Prop) (Q : Loc → Sto → Prop), In c m st tm s → RepL s xs vs → BD c env (names.zip xs) m st Q →
      (∀ m' st' s', In c m' st' tm s' → Q m' st' → P ⟨⟩ s') → wpAny (model prg c.w) A (forIn (names.zip vs) ⟨⟩ f) P E s := by
  induction names with
  | nil =>
    intro xs vs m st tm s P Q S r b k
    rw [List.zip_nil_left, List.forIn_nil]
    rw [List.zip_nil_left] at b
    exact wpAny_pure (k m st s S b)
  | cons n ns ih =>
    intro xs vs m st tm s P Q S r b k
    cases xs with
    | nil =>
      cases vs with
      | nil =>
        rw [List.zip_nil_right, List.forIn_nil]
        rw [List.zip_nil_right] at b
        exact wpAny_pure (k m st s S b)
      | cons v vs => exact r.elim
    | cons x xs =>
      cases vs with
      | nil => exact r.elim
      | cons v vs =>
        obtain ⟨r, rs⟩ := r
        rw [List.zip_cons_cons] at b ⊢
        rw [List.forIn_cons, hf]
        refine wpAny_bind (wpAny_bind (b A s (xs.zip vs ++ tm) v _ _ R (S.tmpL rs) r fun m1 st1 s1 S1 b1 => wpAny_pure ?_))
        exact ih xs vs m1 st1 tm s1 P Q S1.dropL (repL_of_zip rs fun p hp => S1.tms p (List.mem_append_left _ hp)) b1 k

/-! cells -/
variable {m : Loc} {st : Sto}
theorem In.cell {tm : List (V × Value)} {s : Shared} (S : In c m st tm s) {i : Nat} {a : Addr} {v : V} (hi : st[i]? = some (a, .cel (some v))) : ∃ cv, s.heap.IsCell a (some cv) ∧ Rep s v cv := by
  obtain ⟨o, ho, cv, e, r⟩ := S.ents _ (List.mem_of_getElem? hi)
  exact ⟨cv, ⟨_, ho, e⟩, r⟩
theorem EV_cell {x : Str} {pos : Pos} {i : Nat} {a : Addr} {v : V} {Q : V → Sto → Prop} (K : EnvOk c env) (hx : env.kindOf x = some .cell) (hc : env.cells.lookup x = some a) (hi : st[i]? = some (a, .cel (some v))) (h : Q v st) (hd : (x == ("__debug__" : Str)) = false := by decide) :
    EV c m (eval (.Name x pos) env) st Q := fun A s tm P E _ S k => by
  obtain ⟨cv, h1, r⟩ := S.cell hi
  exact wpAny_Name (wpAny_loadName_cell K.kind hx hc h1 (k cv v st s (S.tmp r) h)) hd
theorem EV_free {x : Str} {pos : Pos} {i : Nat} {a : Addr} {v : V} {Q : V → Sto → Prop} (K : EnvOk c env) (hx : env.kindOf x = some .free) (hc : env.cells.lookup x = some a) (hi : st[i]? = some (a, .cel (some v))) (h : Q v st) (hd : (x == ("__debug__" : Str)) = false := by decide)
    (hn : (x == ("__classdict__" : Str)) = false := by decide) : EV c m (eval (.Name x pos) env) st Q := fun A s tm P E _ S k => by
  obtain ⟨cv, h1, r⟩ := S.cell hi
  exact wpAny_Name (wpAny_loadName_free K.kind hx hc h1 (k cv v st s (S.tmp r) h) hn) hd
/-- the store of a cell, raw: the object keeps its form -/
theorem storeCell_raw {M : Model} {A : Around} {E : Value → Shared → Prop} {s : Shared} {name : Str} {a : Addr} {o : Obj} {v₀ : Option Value} {v : Value} {Q : Unit → Shared → Prop} (hk : env.scope.kind = .function) (hl : env.kindOf name = some .cell)
    (hc : env.cells.lookup name = some a) (ho : s.heap.get? a = some o) (hd : o.data = .cell v₀)
    (h : ∀ h' o', h'.get? a = some o' → o'.data = .cell (some v) → Heap.SameBut a s.heap h' → Q () { s with heap := h' }) : wpAny M A (storeName env name v) Q E s := by
  obtain ⟨c, d, dt, sl⟩ := o
  have hd : dt = _ := hd
  subst hd
  unfold storeName
  simp only [hl, hk]
  refine wpAny_bind (wpAny_cellOf hc ?_)
  unfold cellSet
  refine wpAny_bind (wpAny_load ho ?_)
  exact wpAny_update ho (h _ _ (Heap.get?_update_self _ ho rfl) rfl (Heap.SameBut.update ..))
theorem ST_cell {x : Str} {i : Nat} {a : Addr} {v : V} {v0 : Option V} {Q : Loc → Sto → Prop} (K : EnvOk c env) (hx : env.kindOf x = some .cell) (hc : env.cells.lookup x = some a) (hi : st[i]? = some (a, .cel v0)) (h : Q m (st.set i (a, .cel (some v)))) : AS c (fun cv => storeName env x cv) v m st Q := fun A s tm cv P E R S r k => by
  obtain ⟨o, ho, e⟩ := S.ents _ (List.mem_of_getElem? hi)
  have : ∃ w, o.data = .cell w := by
    cases v0 with
    | none => exact ⟨_, e⟩
    | some v0 => obtain ⟨w, e, _⟩ := e; exact ⟨_, e⟩
  obtain ⟨w, hw⟩ := this
  refine storeCell_raw K.kind hx hc ho hw fun h' o' hn hd hs => ?_
  exact k _ _ _ (S.upd hi (e' := .cel (some v)) hs.extBut hn ⟨cv, hd, r⟩ (Nat.le_refl _)) h
end

-- L15
section
variable {c : Ctx} {m : Loc} {st : Sto} {env : Env}

/-- a def with cells -/
theorem OP_defC {a : Addr} {fd : FuncData} {body : List Stmt} {names : List Str} {xs : List V} {Q : V → Sto → Prop} (G : Stat c.toBase) (F : IsFn c.toBase a fd body) (hcl : fd.closure = []) (hn : 0 < c.n) (hlen : xs.length = names.length)
    (hbind : ∀ vs : List Value, vs.length = names.length → bindArgs fd ⟨vs, []⟩ = pure (names.zip vs))
    (h : ∀ c' env cs, c'.toBase = c.toBase → c'.n + 1 = c.n → TimeOk st c' → EnvOk c' env → env.scope = fd.scope → env.code = fd.code → env.cells = cs → CellsOf fd.scope.names cs →
      BD c' env (names.zip xs) [] (cents cs ++ st) fun m1 st1 => EX c' (execs body env) m1 st1 fun fl _ st' => ∃ v, (fl = .ret v ∨ (fl = .next ∧ v = .none)) ∧ Q v st') :
    OP c m (fun vs => call (.ref a) vs) xs st Q := fun A s tm vs P E R S r k => by
  obtain ⟨o, ho, hd⟩ := F.obj
  have U : Under c st s (calleeOf0 c st s) := ⟨rfl, rfl, rfl, Nat.le_refl _, Nat.le_refl _⟩
  have hlv : vs.length = names.length := by rw [r.length, hlen]
  have R' : Room (calleeOf0 c st s) A.in1 := by
    refine ⟨R.1, ?_, ?_⟩
    · have := R.2.1; show A.depth + (c.n - 1) < 900; lia
    · have := R.2.2; show A.units + 1 + 8 * (c.n - 1) + 100 < 9900; lia
  refine wpAny_call (codeAny_call_function (by have := R.2.1; show A.depth < 1000; lia) (S.stat _ _ ho) hd F.co F.gen F.body (F.code.keeps S.stat) ?_)
  refine wpAny_of_eq (hbind vs hlv) ?_
  simp only [newFunctionEnv, Option.isSome_none, Bool.false_eq_true, if_false]
  refine wpAny_bind (wpAny_alloc ?_)
  have S1 : In (calleeOf0 c st s) [] st tm { s with heap := s.heap.push { cls := .type "frame", data := .dict #[] } } :=
    S.enter U (m' := []) (mc := fun _ => none) (t := s.toks) (Heap.Ns.new s.heap (.type "frame")) (fun b o e => Heap.get?_push_of_some _ e) (Nat.le_refl _) (Nat.le_refl _) (fun x v e => by cases e)
  refine wpAny_bind (layCells (c := calleeOf0 c st s) (m := []) _ (fun name kind cells => by cases hkc : kind == NameKind.cell <;> simp [hkc]) _ _ st tm _ _ S1 fun cs s2 hcs S2 hs2 => ?_)
  rw [hcl, List.append_nil]
  have hK : EnvOk (calleeOf0 c st s) (newEnv fd.scope s.heap.objs.size fd.globals cs (fd.qualname ++ ".<locals>.") (some a) fd.code none fd.builtins) := ⟨rfl, F.globals, F.builtins, F.kind⟩
  have body := h (calleeOf0 c st s) (newEnv fd.scope s.heap.objs.size fd.globals cs (fd.qualname ++ ".<locals>.") (some a) fd.code none fd.builtins) cs rfl (by show c.n - 1 + 1 = c.n; lia) (fun p hp l N e => by
      obtain ⟨o', g1, g2⟩ := S.ents p hp
      rw [e] at g2
      obtain ⟨_, _, _, _, g3⟩ := g2
      exact g3) hK rfl rfl rfl hcs
  obtain ⟨h2, e2⟩ := hs2
  have rs2 : RepL s2 xs vs := r.mono (S.tup_back U S2)
  refine wpAny_bind (bindAll (c := calleeOf0 c st s) (env := newEnv fd.scope s.heap.objs.size fd.globals cs (fd.qualname ++ ".<locals>.") (some a) fd.code none fd.builtins) R' _ (fun _ _ _ => rfl) names xs vs [] (cents cs ++ st) tm s2 _ _ S2 rs2 body fun m3 st3 s3 S3 hex => ?_)
  refine wpAny_pure ⟨G.nolimit.keeps S3.stat, codeAny_func ?_⟩
  refine hex _ s3 tm _ _ ?_ S3 fun f fl m' st' s' S' rf ⟨v, hv, q⟩ => ?_
  · refine ⟨R.1, ?_, ?_⟩
    · have := R.2.1; show A.depth + 1 + (c.n - 1) < 900; lia
    · have := R.2.2; show A.units + 3 + 8 * (c.n - 1) + 100 < 9900; lia
  · have S4 := S.back U S'
    rcases hv with e | ⟨e, ev⟩
    · subst e
      obtain ⟨cv, e, rr⟩ := rf
      subst e
      exact k cv v st' s' (S4.tmp rr) q
    · subst e ev
      have : f = .next := rf
      subst this
      exact k .none .none st' s' (S4.tmp (x := .none) rfl) q

theorem EV_sub' {t : Sem Value} {Q : V → Sto → Prop} (h : EV c m t st fun v st' => ∃ st2, SubP st2 st' ∧ Q v st2) : EV c m t st Q := fun A s tm P E R S k =>
  h A s tm P E R S fun v x st' s' S' ⟨st2, hs, q⟩ => k v x st2 s' (S'.subP hs) q
theorem OP_sub {f : List Value → Sem Value} {xs : List V} {Q : V → Sto → Prop} (h : OP c m f xs st fun v st' => ∃ st2, SubP st2 st' ∧ Q v st2) : OP c m f xs st Q := fun A s tm vs P E R S r k =>
  h A s tm vs P E R S r fun v x st' s' S' ⟨st2, hs, q⟩ => k v x st2 s' (S'.subP hs) q

/-! comprehensions -/
theorem compLoop_any {prog : Program} {w : World} {A : Around} {env : Env} {R : Result → Shared → Prop} {elt target iter : Expr} {ifs : List Expr} {scope : Scope} {pos : Pos} {it acc : Value} {s : Shared} (I : Nat → Shared → Prop)
    (turn : ∀ n s, I n s → wpAny (model prog w) A (pyNext it) (fun r s₁ => match r with
      | none => R (.ok .next) s₁
      | some v => wpAny (model prog w) A (letOwnedTupleGo target it v) (fun _ s₁ => wpAny (model prog w) A (assign target env v) (fun _ s₂ =>
          wpAny (model prog w) A (forIn ifs true fun c r => if r = true then do let ok ← isTrue c env (eval c env); pure (ForInStep.yield ok) else pure (ForInStep.yield r)) (fun ok s₃ =>
            if ok = true then wpAny (model prog w) A (eval elt env) (fun x s₄ => wpAny (model prog w) A (call (.builtin "list.append") [acc, x]) (fun _ s₅ => ∃ m, m < n ∧ I m s₅) (notedBy (model prog w) A env fun e s' => R (.error e) s') s₄) (notedBy (model prog w) A env fun e s' => R (.error e) s') s₃
            else ∃ m, m < n ∧ I m s₃) (notedBy (model prog w) A env fun e s' => R (.error e) s') s₂) (notedBy (model prog w) A env fun e s' => R (.error e) s') s₁) (notedBy (model prog w) A env fun e s' => R (.error e) s') s₁)
      (notedBy (model prog w) A env fun e s' => R (.error e) s') s)
    (n : Nat) (h : I n s) : codeAny (model prog w) A (.compLoop (.ListComp elt [⟨target, iter, ifs, 0⟩] scope pos) 0 it acc env) R s := by
  refine codeAny_loop rfl I (fun n s hI => ?_) n h
  show wpAny _ A ((compTurn (.ListComp elt [⟨target, iter, ifs, 0⟩] scope pos) 0 it acc env).onRaise (fun x => do noteFrame x env; theTreesLotGoes x)) _ _ s
  refine wpAny_noted ?_
  rw [compTurn_list]
  refine wpAny_bind (wpAny_standAt (wpAny_bind (wpAny_mono (turn n s hI) (fun r s₁ h₁ => ?_) fun _ _ h' => h')))
  cases r with
  | none => exact wpAny_pure h₁
  | some v =>
    refine wpAny_bind (wpAny_mono h₁ (fun _ s₁' h₁' => ?_) fun _ _ h' => h')
    refine wpAny_bind (wpAny_mono h₁' (fun _ s₂ h₂ => wpAny_bind (wpAny_mono h₂ (fun ok s₃ h₃ => ?_) fun _ _ h' => h')) fun _ _ h' => h')
    cases ok with
    | false => exact wpAny_pure ⟨rfl, h₃⟩
    | true =>
      exact wpAny_bind (wpAny_bind (wpAny_mono h₃ (fun x s₄ h₄ => wpAny_bind (wpAny_mono h₄ (fun _ s₅ h₅ => wpAny_pure (wpAny_pure ⟨rfl, h₅⟩)) fun _ _ h' => h')) fun _ _ h' => h'))

/-- the tests of a clause: none, or one -/
noncomputable def TS (c : Ctx) (m : Loc) (env : Env) : List Expr → Sto → (Bool → Sto → Prop) → Prop
  | [], st, Q => Q true st
  | [t], st, Q => TR c m (isTrue t env (eval t env)) st Q
  | _, _, _ => False
theorem tests_any {A : Around} {E : Value → Shared → Prop} (R : Room c A) {ifs : List Expr} {tm : List (V × Value)} {s : Shared} {P : Bool → Shared → Prop} {Q : Bool → Sto → Prop} (S : In c m st tm s) (h : TS c m env ifs st Q) (k : ∀ b st' s', In c m st' tm s' → Q b st' → P b s') :
    wpAny (model prg c.w) A (forIn ifs true fun c r => if r = true then do let ok ← isTrue c env (eval c env); pure (ForInStep.yield ok) else pure (ForInStep.yield r)) P E s := by
  match ifs, h with
  | [], h => rw [List.forIn_nil]; exact wpAny_pure (k _ _ _ S h)
  | [t], h =>
    rw [List.forIn_cons]
    simp only [if_true]
    refine wpAny_bind (wpAny_bind (h A s tm _ E R S fun b st1 s1 S1 q => wpAny_pure ?_))
    dsimp only
    rw [List.forIn_nil]
    exact wpAny_pure (k _ _ _ S1 q)

/-- back from a comprehension: its table of names stands as an entry -/
theorem In.backNs {c' : Ctx} {m' : Loc} {st' : Sto} {tm tm' : List (V × Value)} {s s' : Shared} (S : In c m st tm s) (U : Under c st s c') (S' : In c' m' st' tm' s') : In c m ((c'.L, .ns) :: st') tm' s' := by
  have B := S.back U S'
  refine { B with ents := fun p hp => ?_, apart := fun p hp => ?_, nodup := ?_ }
  · rcases List.mem_cons.mp hp with rfl | hp
    · obtain ⟨mc, ⟨o, es, ep, ho, hd, hk, _⟩, _⟩ := S'.ns
      exact ⟨o, ho, es, ep, hd, hk⟩
    · exact B.ents p hp
  · rcases List.mem_cons.mp hp with rfl | hp
    · have h1 := S.Llt
      have h2 := U.L
      refine ⟨Nat.ne_of_gt (Nat.lt_of_lt_of_le h1 h2), ?_, .inl (Nat.le_trans S.size h2)⟩
      exact Heap.get?_none_of_le (Nat.le_trans S.sizes.2 (Nat.le_trans S.size h2))
    · exact B.apart p hp
  · refine List.nodup_cons.mpr ⟨fun h => ?_, B.nodup⟩
    obtain ⟨p, hp, e⟩ := List.mem_map.mp h
    exact (S'.apart p hp).1 e
theorem In.nsAt {a : Addr} {tm : List (V × Value)} {s : Shared} (S : In c m ((a, .ns) :: st) tm s) : ∃ mc, s.heap.Ns a mc := by
  obtain ⟨o, ho, es, ep, hd, hk⟩ := S.ents _ (.head _)
  exact ⟨_, o, es, ep, ho, hd, hk, fun _ => rfl⟩

noncomputable def compCtx (c : Ctx) (st : Sto) (s : Shared) : Ctx := { c with hb := s.heap, own := st.map (·.1), L := s.heap.objs.size, clk := s.toks }

/-- what a comprehension's turns must show -/
noncomputable def CompStep (c' : Ctx) (env' : Env) (elt target : Expr) (ifs : List Expr) (a : Addr) (l : List V) (J : Nat → List V → Loc → Sto → Prop) : Prop :=
  (∀ k ys m' st', J k ys m' st' → ∃ i : Nat, st'[i]? = some (a, .lst l)) ∧ (∀ k ys m' st', J k ys m' st' → ys.length < 1000000) ∧
  ∀ (k : Nat) x ys m' st' it acc, l[k]? = some x → J k ys m' st' → AS c' (assign target env') x m' ((it, .lit a (k + 1)) :: (acc, .lst ys) :: st') fun m2 st2 => TS c' m2 env' ifs st2 fun b st3 =>
    if b = true then EV c' m2 (eval elt env') st3 fun y st4 => ∃ st5, SubP ((it, .lit a (k + 1)) :: (acc, .lst ys) :: st5) st4 ∧ J (k + 1) (ys ++ [y]) m2 st5
    else ∃ st5, SubP ((it, .lit a (k + 1)) :: (acc, .lst ys) :: st5) st3 ∧ J (k + 1) ys m2 st5

theorem comp_core {elt target iter : Expr} {ifs : List Expr} {scope : Scope} {pos p1 : Pos} {use : Option (Value → Sem Unit)} {cl : List (Str × Addr)} {A : Around} {s : Shared} {tm : List (V × Value)} {P : Value → Shared → Prop} {E : Value → Shared → Prop} (R : Room c A) (S : In c m st tm s) (K : EnvOk c env)
    (hclos : closureFor scope env = pure cl) (hkind : scope.kind = .function) (hnames : ∀ x ∈ scope.names, x.2 = .local → scope.names.lookup x.1 = some .local)
    (h : EV c m (eval iter env) st fun v st1 => ∃ a l, v = .ref a ∧ targetOk target l = true ∧ (∃ i : Nat, st1[i]? = some (a, .lst l)) ∧
      ∀ c' env' cs, c'.toBase = c.toBase → c'.n = c.n → TimeOk st1 c' → EnvOk c' env' → env'.scope = relabel scope env → env'.cells = cs ++ cl → CellsOf scope.names cs →
        ∃ J : Nat → List V → Loc → Sto → Prop, J 0 [] [] (cents cs ++ st1) ∧ CompStep c' env' elt target ifs a l J ∧
        ∀ ys m' st', J l.length ys m' st' → ∀ (acc C : Addr) (s' : Shared), In c m ((C, .ns) :: (acc, .lst ys) :: st') tm s' → compPost (model prg c.w) A E use P (.ref acc) C (.ok .next) s')
    (hs : ∀ x, foldedSetIterable iter env x = pure x := by intro _; rfl) :
    wpAny (model prg c.w) A (comprehension (.ListComp elt [⟨target, iter, ifs, 0⟩] scope pos) scope env p1 (newList []) false (eval iter env) use) P E s := by
  refine wpAny_comprehension_free (g := ⟨target, iter, ifs, 0⟩) (gs := []) rfl hs hclos hkind hnames (h A s tm _ E R S fun v x st1 s1 S1 ⟨a, l, e, ht, ⟨i0, hi0⟩, hrest⟩ => ?_)
  subst e
  have e : v = .ref a := S1.hd
  subst e
  obtain ⟨xs, n, ho, r⟩ := S1.list hi0
  refine wpAny_pyIter_list (isList_of ho) ?_
  have S2 : In c m ((s1.heap.objs.size, .lit a 0) :: st1) tm { s1 with heap := s1.heap.push { cls := .type "list_iterator", data := .fields #[.ref a, .int 0 0] } } := S1.drop.new (e := .lit a 0) ⟨rfl, rfl⟩
  generalize ({ s1 with heap := s1.heap.push { cls := .type "list_iterator", data := .fields #[.ref a, .int 0 0] } } : Shared) = s2 at S2 ⊢
  generalize s1.heap.objs.size = it at S2 ⊢
  refine wpAny_newList ?_
  have S3 := S2.newList (xs := []) (vs := []) trivial
  generalize ({ s2 with heap := s2.heap.push { cls := .type "list", data := .seq ([] : List Value).toArray } } : Shared) = s3 at S3 ⊢
  generalize s2.heap.objs.size = acc at S3 ⊢
  simp only [newFunctionEnv, Option.isSome_some, if_true]
  refine wpAny_bind (wpAny_alloc ?_)
  have U : Under c ((acc, .lst []) :: (it, .lit a 0) :: st1) s3 (compCtx c ((acc, .lst []) :: (it, .lit a 0) :: st1) s3) := ⟨rfl, rfl, rfl, Nat.le_refl _, Nat.le_refl _⟩
  have S4 : In (compCtx c ((acc, .lst []) :: (it, .lit a 0) :: st1) s3) [] ((acc, .lst []) :: (it, .lit a 0) :: st1) tm { s3 with heap := s3.heap.push { cls := .type "dict", data := .dict #[] } } :=
    S3.enter U (m' := []) (mc := fun _ => none) (t := s3.toks) (Heap.Ns.new s3.heap (.type "dict")) (fun b o e => Heap.get?_push_of_some _ e) (Nat.le_refl _) (Nat.le_refl _) (fun x v e => by cases e)
  have hL : (compCtx c ((acc, .lst []) :: (it, .lit a 0) :: st1) s3).L = s3.heap.objs.size := rfl
  have hbase : (compCtx c ((acc, .lst []) :: (it, .lit a 0) :: st1) s3).toBase = c.toBase := rfl
  have hnn : (compCtx c ((acc, .lst []) :: (it, .lit a 0) :: st1) s3).n = c.n := rfl
  have htime : TimeOk st1 (compCtx c ((acc, .lst []) :: (it, .lit a 0) :: st1) s3) := fun p hp l' N e => by
    obtain ⟨o', g1, g2⟩ := S3.ents p (.tail _ (.tail _ hp))
    rw [e] at g2
    obtain ⟨_, _, _, _, g3⟩ := g2
    exact g3
  generalize hc' : compCtx c ((acc, .lst []) :: (it, .lit a 0) :: st1) s3 = c' at U S4 hL hbase hnn htime
  refine wpAny_bind (layCells (c := c') (m := []) _ (fun name kind cells => by cases hkc : kind == NameKind.cell <;> simp [hkc]) _ _ _ tm _ _ S4 fun cs s5 hcs S5 hs5 => ?_)
  refine wpAny_bind ?_
  rw [List.forIn_nil]
  refine wpAny_pure (wpAny_pure ?_)
  have hK : EnvOk c' { ({ scope := scope, locals := s3.heap.objs.size, globals := env.globals, cells := cs ++ cl, qual := env.qual, func := none, code := env.code, frame := env.frame, builtins := env.builtins } : Env) with scope := relabel scope env } := ⟨hL.symm, K.globals, K.builtins, hkind⟩
  obtain ⟨J, hJ0, ⟨hlist, hsmall, step⟩, done⟩ := hrest c' _ cs hbase hnn htime hK rfl rfl hcs
  have Rc : Room c' A := by
    refine ⟨R.1, ?_, ?_⟩
    · rw [hnn]; exact R.2.1
    · rw [hnn]; exact R.2.2
  have S6 : In c' [] ((it, .lit a 0) :: (acc, .lst []) :: (cents cs ++ st1)) tm s5 := S5.perm (by
    have : (cents cs ++ (acc, Ent.lst []) :: (it, Ent.lit a 0) :: st1).Perm ((it, Ent.lit a 0) :: (acc, Ent.lst []) :: (cents cs ++ st1)) := by
      refine (List.perm_middle).trans ?_
      refine (List.Perm.cons _ List.perm_middle).trans ?_
      exact List.Perm.swap ..
    exact this.symm)
  have loop : codeAny (model prg c.w) A (.compLoop (.ListComp elt [⟨target, iter, ifs, 0⟩] scope pos) 0 (.ref it) (.ref acc) { ({ scope := scope, locals := s3.heap.objs.size, globals := env.globals, cells := cs ++ cl, qual := env.qual, func := none, code := env.code, frame := env.frame, builtins := env.builtins } : Env) with scope := relabel scope env })
      (compPost (model prg c.w) A E use P (.ref acc) s3.heap.objs.size) s5 := by
    have hw : c.w = c'.w := congrArg Base.w hbase.symm
    rw [hw]
    refine compLoop_any (fun n s => ∃ k ys m' st', n = l.length - k ∧ k ≤ l.length ∧ J k ys m' st' ∧ In c' m' ((it, .lit a k) :: (acc, .lst ys) :: st') tm s) (fun n s' ⟨k, ys, m', st', hn, hk, hJ, S'⟩ => ?_) l.length ⟨0, [], [], _, rfl, Nat.zero_le _, hJ0, S6⟩
    obtain ⟨i, hi⟩ := hlist k ys m' st' hJ
    have hit := S'.iter
    obtain ⟨us, n', ho', r'⟩ := S'.list (i := i + 2) (l := l) (a := a) hi
    rcases Nat.lt_or_ge k l.length with hlt | hge
    · obtain ⟨v, ev, rv⟩ := r'.get (List.getElem?_eq_getElem hlt)
      refine wpAny_pyNext_list_item hit (isList_of ho') (by simpa using ev) fun h' hit' hs' => ?_
      have S7 : In c' m' ((it, .lit a (k + 1)) :: (acc, .lst ys) :: st') tm { s' with heap := h' } := by
        obtain ⟨o', g1, g2, g3⟩ := hit'
        exact S'.upd (i := 0) rfl (e' := .lit a (k + 1)) hs'.extBut g1 ⟨g2, g3⟩ (Nat.le_refl _)
      have rv' : Rep { s' with heap := h' } l[k] v := rv.mono (S'.tkeep (.head _) hs'.extBut (Nat.le_refl _))
      refine letOwned_ok ht (List.getElem_mem hlt) rv' hit' ?_
      refine step k l[k] ys m' st' it acc (List.getElem?_eq_getElem hlt) hJ A _ tm v _ _ Rc S7 rv' fun m2 st2 s8 S8 hts => ?_
      refine tests_any Rc S8 hts fun b st3 s9 S9 hb => ?_
      cases b with
      | false =>
        obtain ⟨st5, hsub, hJ'⟩ := hb
        exact ⟨l.length - (k + 1), by lia, k + 1, ys, m2, st5, rfl, hlt, hJ', S9.subP hsub⟩
      | true =>
        refine hb A s9 tm _ _ Rc S9 fun vy y st4 s10 S10 ⟨st5, hsub, hJ'⟩ => ?_
        have S11 := S10.subP hsub
        obtain ⟨zs, n2, ho2, r2⟩ := S11.list (i := 1) (l := ys) (a := acc) rfl
        have hlen := r2.length
        have hsm := hsmall k ys m' st' hJ
        simp only [Array.length_toList] at hlen
        refine append_at ho2 (fun h2 hsb hg2 => ?_) (by rw [PySem.sizeLine_eq]; lia)
        have S12 := S11.drop.upd (i := 1) (a := acc) (e := .lst ys) (e' := .lst (ys ++ [y])) rfl hsb.extBut hg2 ⟨_, _, rfl, by rw [Array.toList_push]; exact r2.append ⟨S11.hd, trivial⟩⟩ (Nat.le_refl s10.toks)
        exact ⟨l.length - (k + 1), by lia, k + 1, ys ++ [y], m2, st5, rfl, hlt, hJ', S12⟩
    · have e : k = l.length := Nat.le_antisymm hk hge
      subst e
      have hlen := r'.length
      simp only [Array.length_toList] at hlen
      refine wpAny_pyNext_list_end R.1 hit (isList_of ho') (by simp; lia) fun h' hx => ?_
      have S7 := S'.lose hx (Nat.le_refl _)
      have S8 := S3.backNs U S7
      rw [hL] at S8
      rw [← hw]
      exact done ys m' st' hJ acc _ _ S8
  refine codeAny_compStart_list loop (wpAny_pyIter_listiter S6.iter loop)
end

-- L16
section
variable {c : Ctx} {m : Loc} {st : Sto} {env : Env}

/-- a comprehension's proof: the turns and the end -/
noncomputable def CompOf (c : Ctx) (env : Env) (elt target : Expr) (ifs : List Expr) (scope : Scope) (cl : List (Str × Addr)) (st1 : Sto) (v : V) (Q : V → Sto → Prop) : Prop :=
  ∃ a l, v = .ref a ∧ targetOk target l = true ∧ (∃ i : Nat, st1[i]? = some (a, .lst l)) ∧
      ∀ c' env' cs, c'.toBase = c.toBase → c'.n = c.n → TimeOk st1 c' → EnvOk c' env' → env'.scope = relabel scope env → env'.cells = cs ++ cl → CellsOf scope.names cs →
        ∃ J : Nat → List V → Loc → Sto → Prop, J 0 [] [] (cents cs ++ st1) ∧ CompStep c' env' elt target ifs a l J ∧
        ∀ ys m' st', J l.length ys m' st' → ∀ acc : Addr, ∃ st6, SubP ((acc, .lst ys) :: st6) ((acc, .lst ys) :: st') ∧ Q (.ref acc) ((acc, .lst ys) :: st6)

theorem EV_comp {elt target iter : Expr} {ifs : List Expr} {scope : Scope} {pos : Pos} {cl : List (Str × Addr)} {Q : V → Sto → Prop} (K : EnvOk c env)
    (hclos : closureFor scope env = pure cl) (hkind : scope.kind = .function) (hnames : ∀ x ∈ scope.names, x.2 = .local → scope.names.lookup x.1 = some .local)
    (h : EV c m (eval iter env) st fun v st1 => CompOf c env elt target ifs scope cl st1 v Q)
    (hs : ∀ x, foldedSetIterable iter env x = pure x := by intro _; rfl) : EV c m (eval (.ListComp elt [⟨target, iter, ifs, 0⟩] scope pos) env) st Q := fun A s tm P E R S k => by
  refine comp_core (use := none) R S K hclos hkind hnames (EV_mono h fun v st1 ⟨a, l, e, ht, hi, hr⟩ => ⟨a, l, e, ht, hi, fun c' env' cs h1 h2 h3 h4 h5 h6 h7 => ?_⟩) hs
  obtain ⟨J, j0, js, jd⟩ := hr c' env' cs h1 h2 h3 h4 h5 h6 h7
  refine ⟨J, j0, js, fun ys m' st' hJ acc C s' S' => ?_⟩
  obtain ⟨st6, hsub, q⟩ := jd ys m' st' hJ acc
  obtain ⟨mc, hn⟩ := S'.nsAt
  refine ⟨mc, hn, fun h' hsb => ?_⟩
  have S1 := (S'.lose hsb.extBut (Nat.le_refl s'.toks)).subP hsub
  exact k _ (.ref acc) _ _ (S1.tmp (x := .ref acc) rfl) q

theorem EX_assign_comp {y : Str} {py spos : Pos} {elt target iter : Expr} {ifs : List Expr} {scope : Scope} {pos : Pos} {cl : List (Str × Addr)} {Q : Fl → Loc → Sto → Prop} (K : EnvOk c env) (hy : env.kindOf y = some .local)
    (hsw : swapsWithSole [.Name y py] (.ListComp elt [⟨target, iter, ifs, 0⟩] scope pos) spos.line env = pure true)
    (hclos : closureFor scope env = pure cl) (hkind : scope.kind = .function) (hnames : ∀ x ∈ scope.names, x.2 = .local → scope.names.lookup x.1 = some .local)
    (h : EV c m (eval iter env) st fun v st1 => CompOf c env elt target ifs scope cl st1 v fun r st6 => Q .next (setL m y r) st6)
    (hs : ∀ x, foldedSetIterable iter env x = pure x := by intro _; rfl) : EX c (exec (.Assign [.Name y py] (.ListComp elt [⟨target, iter, ifs, 0⟩] scope pos) spos) env) m st Q := fun A s tm P E R S k => by
  rw [arm_exec_Assign]
  refine wpAny_bind (wpAny_standAt (wpAny_bind (wpAny_of_eq hsw ?_)))
  rw [if_pos rfl, arm_evalThenUse_ListComp]
  refine wpAny_bind (wpAny_bind ?_)
  refine comp_core (P := fun _ s' => wpAny (model prg c.w) A (pure ()) (fun _ s' => wpAny (model prg c.w) A (pure Flow.next) P E s') E s') R S K hclos hkind hnames (EV_mono h fun v st1 ⟨a, l, e, ht, hi, hr⟩ => ⟨a, l, e, ht, hi, fun c' env' cs h1 h2 h3 h4 h5 h6 h7 => ?_⟩) hs
  obtain ⟨J, j0, js, jd⟩ := hr c' env' cs h1 h2 h3 h4 h5 h6 h7
  refine ⟨J, j0, js, fun ys m' st' hJ acc C s' S' => ?_⟩
  obtain ⟨st6, hsub, q⟩ := jd ys m' st' hJ acc
  show wpAny _ A (assign (.Name y py) env (.ref acc)) _ E s'
  refine AS_name (ST_local K hy (Q := fun m2 st2 => m2 = setL m y (.ref acc) ∧ st2 = (C, .ns) :: (acc, .lst ys) :: st') ⟨rfl, rfl⟩) A s' tm _ _ _ R S' rfl fun m2 st2 s2 S2 ⟨e1, e2⟩ => ?_
  subst e1 e2
  obtain ⟨mc, hn⟩ := S2.nsAt
  refine ⟨mc, hn, fun h' hsb => wpAny_pure (wpAny_pure ?_)⟩
  have S3 := (S2.lose hsb.extBut (Nat.le_refl s2.toks)).subP hsub
  exact k .next .next _ _ _ S3 rfl q

/-- the plain case: every turn gives a value (or none) and leaves the entries as they were -/
theorem CompOf.plain {elt target : Expr} {ifs : List Expr} {scope : Scope} {cl : List (Str × Addr)} {Q : V → Sto → Prop} {i : Nat} {a : Addr} {l : List V} (f : V → Option V) (hi : st[i]? = some (a, .lst l)) (hl : l.length < 1000000) (ht : targetOk target l = true)
    (hcells : ∀ cs, CellsOf scope.names cs → cs = [])
    (step : ∀ c' env', c'.toBase = c.toBase → c'.n = c.n → TimeOk st c' → EnvOk c' env' → env'.scope = relabel scope env → env'.cells = cl →
      ∀ x ∈ l, ∀ m' (e1 e2 : Addr × Ent), AS c' (assign target env') x m' (e1 :: e2 :: st) fun m2 st2 => st2 = e1 :: e2 :: st ∧ TS c' m2 env' ifs (e1 :: e2 :: st) fun b st3 => st3 = e1 :: e2 :: st ∧
        if b = true then EV c' m2 (eval elt env') (e1 :: e2 :: st) fun y st4 => SubP (e1 :: e2 :: st) st4 ∧ f x = some y else f x = none)
    (h : ∀ acc, Q (.ref acc) ((acc, .lst (l.filterMap f)) :: st)) : CompOf c env elt target ifs scope cl st (.ref a) Q := by
  refine ⟨a, l, rfl, ht, ⟨i, hi⟩, fun c' env' cs h1 h2 h3 h4 h5 h6 h7 => ?_⟩
  have := hcells cs h7
  subst this
  refine ⟨fun k ys m' st' => ys = (l.take k).filterMap f ∧ st' = st, ⟨rfl, rfl⟩, ⟨fun k ys m' st' hJ => ?_, fun k ys m' st' hJ => ?_, fun k x ys m' st' it acc hx hJ => ?_⟩, fun ys m' st' hJ acc => ?_⟩
  · rw [hJ.2]; exact ⟨i, hi⟩
  · rw [hJ.1]
    have h1 := List.length_filterMap_le f (l.take k)
    have h2 := List.length_take_le k l
    have h3 := List.length_take (i := k) (l := l)
    lia
  · obtain ⟨e1, e2⟩ := hJ
    subst e2
    have hmem : x ∈ l := List.mem_of_getElem? hx
    have htake : (l.take (k + 1)).filterMap f = ys ++ (f x).toList := by
      rw [List.take_add_one, hx, List.filterMap_append, ← e1]
      cases hf : f x <;> simp [hf]
    intro A s tm v P E R S r kk
    refine step c' env' h1 h2 h3 h4 h5 (by rw [h6]; rfl) x hmem m' (it, .lit a (k + 1)) (acc, .lst ys) A s tm v P E R S r fun m2 st2 s' S' ⟨e, q⟩ => kk m2 st2 s' S' ?_
    subst e
    have key : ∀ (b : Bool) (st3 : Sto), (st3 = (it, .lit a (k + 1)) :: (acc, .lst ys) :: st' ∧ if b = true then EV c' m2 (eval elt env') ((it, .lit a (k + 1)) :: (acc, .lst ys) :: st') fun y st4 => SubP ((it, .lit a (k + 1)) :: (acc, .lst ys) :: st') st4 ∧ f x = some y else f x = none) →
        if b = true then EV c' m2 (eval elt env') st3 fun y st4 => ∃ st5, SubP ((it, .lit a (k + 1)) :: (acc, .lst ys) :: st5) st4 ∧ (ys ++ [y] = (l.take (k + 1)).filterMap f ∧ st5 = st')
        else ∃ st5, SubP ((it, .lit a (k + 1)) :: (acc, .lst ys) :: st5) st3 ∧ (ys = (l.take (k + 1)).filterMap f ∧ st5 = st') := fun b st3 ⟨e, q⟩ => by
      subst e
      cases b with
      | true =>
        rw [if_pos rfl] at q ⊢
        exact EV_mono q fun y st4 ⟨hs, hf⟩ => ⟨st', hs, by rw [htake, hf]; rfl, rfl⟩
      | false =>
        rw [if_neg Bool.false_ne_true] at q ⊢
        exact ⟨st', .refl _, by rw [htake, q]; simp, rfl⟩
    match ifs, q with
    | [], q => exact key true _ q
    | [t], q => exact fun A s tm P E R S k => q A s tm P E R S fun b st3 s' S' q' => k b st3 s' S' (key b st3 q')
  · obtain ⟨e1, e2⟩ := hJ
    subst e2
    rw [List.take_length] at e1
    subst e1
    exact ⟨st', .refl _, h acc⟩
end

-- W0
noncomputable def noStm : Stmt := .Pass ⟨0, 0, 0, 0⟩
noncomputable def stm (i : Nat) : Stmt := prg.main.body.getD i noStm
noncomputable def bodyOf : Stmt → List Stmt
  | .FunctionDef _ _ b _ _ _ _ _ _ _ => b
  | _ => []
noncomputable def argsOf : Stmt → Arguments
  | .FunctionDef _ a _ _ _ _ _ _ _ _ => a
  | _ => default
noncomputable def scopeOf : Stmt → Scope
  | .FunctionDef _ _ _ _ _ _ sc _ _ _ => sc
  | _ => default

/-- a def of the text's top, without defaults -/
structure Def (B : Base) (n : Str) (i : Nat) (a : Addr) (fd : FuncData) : Prop where
  glob : B.mg n = some (.ref a)
  fn : IsFn B a fd (bodyOf (stm i))
  scope : fd.scope = scopeOf (stm i)
  params : fd.params = argsOf (stm i)
  dflt : fd.defaults = .none
  kwd : fd.kwdefaults = .none
  clos : fd.closure = []
abbrev HasDef (B : Base) (n : Str) (i : Nat) : Prop := ∃ a fd, Def B n i a fd

structure Prog (B : Base) : Prop extends Stat B where
  hls : HasDef B "rgb_to_hls" 5
  hsv : HasDef B "rgb_to_hsv" 6
  rgb : HasDef B "hsv_to_rgb" 7
  heapreplace : HasDef B "heapreplace" 9
  heapify : HasDef B "heapify" 10
  siftdown : HasDef B "_siftdown" 11
  siftup : HasDef B "_siftup" 12
  draws : HasDef B "_law_draws" 14
  arcs : HasDef B "_law_arcs" 15
  forward : HasDef B "_law_forward" 16
  backward : HasDef B "_law_backward" 17
  most : HasDef B "_law_most" 18
  fewest : HasDef B "_law_fewest" 19
  len : B.mg "len" = none
  range : B.mg "range" = none
  reversed : B.mg "reversed" = none
  int : B.mg "int" = none
  max : B.mg "max" = none
  min : B.mg "min" = none
  list : B.mg "list" = none

theorem Def.binds {B : Base} {n : Str} {i : Nat} {a : Addr} {fd : FuncData} (D : Def B n i a fd) {names : List Str}
    (h : ∀ fd : FuncData, fd.params = argsOf (stm i) → fd.defaults = .none → fd.kwdefaults = .none → ∀ vs : List Value, vs.length = names.length → bindArgs fd ⟨vs, []⟩ = pure (names.zip vs)) : ∀ vs : List Value, vs.length = names.length → bindArgs fd ⟨vs, []⟩ = pure (names.zip vs) :=
  h fd D.params D.dflt D.kwd

abbrev P := Int × Int
noncomputable def pv (p : P) : V := .pair (.int p.1) (.int p.2)
noncomputable def ltP (p q : P) : Bool := plt p.1 p.2 q.1 q.2

noncomputable def sdF (l : List P) (start : Nat) : Nat → P → List P
  | pos, x => if h : start < pos then (if ltP x (l.getD ((pos - 1) / 2) (0, 0)) then sdF (l.set pos (l.getD ((pos - 1) / 2) (0, 0))) start ((pos - 1) / 2) x else l.set pos x) else l.set pos x
termination_by pos _ => pos
decreasing_by lia

theorem kindOf_of {env : Env} {sc : Scope} {x : Str} {k : NameKind} (h : env.scope = sc) (e : sc.names.lookup x = some k) : env.kindOf x = some k := by
  unfold Env.kindOf; rw [h]; exact e

abbrev Has (m : Loc) (x : Str) (v : V) : Prop := m.lookup x = some v
theorem lk_ne {m : Loc} {x y : Str} {v : V} {r : Option V} (h : y ≠ x) (e : m.lookup y = r) : (setL m x v).lookup y = r := by
  rw [lookup_setL, if_neg h]; exact e
theorem lk_eq {m : Loc} {x : Str} {v : V} : (setL m x v).lookup x = some v := by
  rw [lookup_setL, if_pos rfl]
/-- looks a name up in the frame's list -/
local macro_rules | `(tactic| keq_hits) => `(tactic| ((repeat (with_reducible refine lk_ne (by decide) ?_)); first | with_reducible exact lk_eq | with_reducible assumption | exact rfl))

-- the walk's steps
theorem not_inter {c : Ctx} {env : Env} (K : EnvOk c env) : interactive env = false := by
  unfold interactive; rw [K.kind]; rfl
/-- a statement's end, hidden: so its text is not laid at every step -/
noncomputable def Hid (Q Q' : Fl → Loc → Sto → Prop) : Prop := ∀ f m st, Q f m st → Q' f m st
theorem unhide {Q Q' : Fl → Loc → Sto → Prop} {f : Fl} {m : Loc} {st : Sto} (h : Hid Q Q') (q : Q f m st) : Q' f m st := h _ _ _ q
theorem EX_hide {c : Ctx} {t : Sem Flow} {m : Loc} {st : Sto} {Q : Fl → Loc → Sto → Prop} (h : ∀ Q', Hid Q Q' → EX c t m st Q') : EX c t m st Q := h Q fun _ _ _ q => q
theorem ite_dT {p : Prop} [Decidable p] {X Y : Prop} (h : p) (x : X) : if decide p = true then X else Y := by rw [if_pos (decide_eq_true h)]; exact x
theorem ite_dF {p : Prop} [Decidable p] {X Y : Prop} (h : ¬ p) (y : Y) : if decide p = true then X else Y := by rw [if_neg (by simpa using h)]; exact y
theorem ite_t {X Y : Prop} (x : X) : if true = true then X else Y := by rw [if_pos rfl]; exact x
theorem ite_f {X Y : Prop} (y : Y) : if false = true then X else Y := by rw [if_neg (by decide)]; exact y
local macro_rules | `(tactic| kct_strs) => `(tactic| first
  | ((with_reducible refine' EV_local (by assumption) ?hx ?hv ?_ ?hd); (case hx => exact kindOf_of (by assumption) rfl); (case hv => keq_hits); (case hd => decide))
  | (with_reducible refine' EV_int ?_)
  | (with_reducible refine' EV_binop ?_)
  | (with_reducible refine' EV_sub ?_)
  | ((with_reducible refine' EV_compare ?_ ?hm); (case hm => with_unfolding_all rfl))
  | ((with_reducible refine' TR_compare ?_ ?hm); (case hm => with_unfolding_all rfl))
  | (with_reducible refine' EX_nil ?_)
  | ((with_reducible refine' EX_assign ?_ ?hs); (case hs => exact rfl))
  | ((with_reducible refine' ST_local (by assumption) ?hx ?_); (case hx => exact kindOf_of (by assumption) rfl))
  | (with_reducible refine' EX_if ?_)
  | (with_reducible refine' EX_break ?_)
  | (with_reducible refine' EX_continue ?_)
  | (with_reducible refine' EX_return ?_)
  | (with_reducible refine' add_ii ?_)
  | (with_reducible refine' sub_ii ?_)
  | (with_reducible refine' lt_ii ?_)
  | (with_reducible refine' gt_ii ?_)
  | (with_reducible refine' le_ii ?_)
  | (with_reducible refine' eq_ii ?_)
  | ((with_reducible refine' shr_ii ?h0 ?_); (case h0 => decide))
  | (with_reducible refine' TR_and ?_)
  | (with_reducible refine' TR_and_cons ?_)
  | (with_reducible refine' TR_and_nil ?_)
  | (with_reducible refine' TR_or_cons ?_)
  | (with_reducible refine' TR_or_nil ?_)
  | (with_reducible refine' TR_not ?_)
  | ((with_reducible refine' EVs_cons ?_ ?he); (case he => exact rfl))
  | (with_reducible refine' EVs_nil ?_)
  | ((with_reducible refine' EX_expr ?_ ?hi ?hs); (case hi => exact not_inter (by assumption)); (case hs => exact rfl))
  | ((with_reducible refine' mul_ii ?_ ?hm); (case hm => mul_fits))
  | (with_reducible refine' unhide (by assumption) ?_)
  | (dsimp only))
/-- a step of the walk; kct_strs stops ahead of a statement -/
local macro_rules | `(tactic| keq_rows) => `(tactic| first | kct_strs | (with_reducible refine' EX_cons ?_))




theorem set_get {st : Sto} {i : Nat} {h : Addr} {e e' : Ent} (hi : st[i]? = some (h, e)) : (st.set i (h, e'))[i]? = some (h, e') := by
  have : i < st.length := (List.getElem?_eq_some_iff.mp hi).1
  simp [this]

theorem set_same {st : Sto} {i : Nat} {p : Addr × Ent} (hi : st[i]? = some p) : st.set i p = st := by
  obtain ⟨h, rfl⟩ := List.getElem?_eq_some_iff.mp hi
  exact List.set_getElem_self h

section
variable {c : Ctx} {m : Loc} {st : Sto} {env : Env}
theorem lt_pv {p q : P} {Q : V → Sto → Prop} (h : Q (.bool (ltP p q)) st) : OP2 c m (compareOp .Lt) (pv p) (pv q) st Q := lt_pp h
theorem getP {l : List P} {k : Nat} (h : k < l.length) : (l.map pv)[((k : Nat) : Int).toNat]? = some (pv (l.getD k (0, 0))) := by
  simp [h]
theorem setP {l : List P} {k : Nat} {p : P} : (l.map pv).set ((k : Nat) : Int).toNat (pv p) = (l.set k p).map pv := by
  simp [List.map_set]
theorem subP {value slice : Expr} {i : Nat} {a : Addr} {l : List P} {k : Int} {Q : V → Sto → Prop} (hi : st[i]? = some (a, .lst (l.map pv))) (j : Nat) (hk : k = j) (hj : j < l.length) (hl : l.length < 1000) (h : Q (pv (l.getD j (0, 0))) st)
    (hs : ∀ u, subscripted slice false (.ref a) (.int k u) = operate [.ref a, .int k u] (getItem (.ref a) (.int k u)) := by intro _; with_unfolding_all rfl) :
    OP2 c m (subscriptTail value slice) (.ref a) (.int k) st Q := by
  subst hk
  exact sub_list hi (by lia) (by lia) (getP hj) h hs
theorem subN {value slice : Expr} {i : Nat} {a : Addr} {α : Type} {f : α → V} {d : α} {l : List α} {k : Int} {Q : V → Sto → Prop} (hi : st[i]? = some (a, .lst (l.map f))) (j : Nat) (hk : k = j) (hj : j < l.length) (hl : l.length < 1000) (h : Q (f (l.getD j d)) st)
    (hs : ∀ u, subscripted slice false (.ref a) (.int k u) = operate [.ref a, .int k u] (getItem (.ref a) (.int k u)) := by intro _; with_unfolding_all rfl) :
    OP2 c m (subscriptTail value slice) (.ref a) (.int k) st Q := by
  subst hk
  exact sub_list hi (by lia) (by lia) (by simp [hj]) h hs
theorem half (k : Nat) : (((k : Nat) : Int) - 1).fdiv (2 ^ (1 : Int).toNat) = if k = 0 then -1 else (((k - 1) / 2 : Nat) : Int) := by
  by_cases h : k = 0
  · subst h; rfl
  · rw [if_neg h, Int.fdiv_eq_ediv_of_nonneg _ (by decide)]
    have : ((k : Nat) : Int) - 1 = ((k - 1 : Nat) : Int) := by lia
    rw [this]
    simp

/-- a call of a def of the text's top without defaults -/
theorem Def.call {n : Str} {i : Nat} {a : Addr} {fd : FuncData} {names : List Str} {xs : List V} {Q : V → Sto → Prop} (D : Def c.toBase n i a fd) (G : Stat c.toBase) (hn : 0 < c.n) (hl : xs.length = names.length)
    (hb : ∀ fd : FuncData, fd.params = argsOf (stm i) → fd.defaults = .none → fd.kwdefaults = .none → ∀ vs : List Value, vs.length = names.length → bindArgs fd ⟨vs, []⟩ = pure (names.zip vs))
    (hcell : ∀ x ∈ (scopeOf (stm i)).names, x.2 ≠ .cell) (hloc : ∀ x ∈ names, (scopeOf (stm i)).names.lookup x = some .local) (hnd : names.Nodup)
    (h : ∀ c' env, c'.toBase = c.toBase → c'.n + 1 = c.n → TimeOk st c' ∧ 0 < c'.clk → EnvOk c' env → env.scope = scopeOf (stm i) → EX c' (execs (bodyOf (stm i)) env) (names.zip xs) st fun fl _ st' => ∃ v, (fl = .ret v ∨ (fl = .next ∧ v = .none)) ∧ Q v st') (hne : 0 < names.length := by decide) :
    OP c m (fun vs => call (.ref a) vs) xs st Q :=
  OP_def G D.fn hn (binds_plain (hb fd D.params D.dflt D.kwd) hl _) (D.scope ▸ hcell) (D.scope ▸ hloc) hnd (fun c' env h1 h2 h3 h4 h5 _ => h c' env h1 h2 h3 h4 (h5.trans D.scope)) hne
end

/-- binds the parameters of a def without defaults -/
local macro_rules | `(tactic| kat_tups) => `(tactic| (intro fd hp h1 h2 vs hv; obtain ⟨fields⟩ := fd; simp only at hp h1 h2; subst hp h1 h2; revert hv; rcases vs with _ | ⟨a, _ | ⟨b, _ | ⟨d, _ | ⟨e, vs⟩⟩⟩⟩ <;> intro hv <;> first | rfl | exact absurd hv (by simp; try lia)))

-- W1
set_option maxHeartbeats 400000 in
theorem siftdown_body (c : Ctx) (env : Env) (K : EnvOk c env) (hsc : env.scope = scopeOf (stm 11)) {st : Sto} {i : Nat} {h : Addr} {l : List P} {start pos : Nat} (hi : st[i]? = some (h, .lst (l.map pv))) (hpos : pos < l.length) (hlen : l.length < 1000)
    {Q : V → Sto → Prop} (hQ : Q .none (st.set i (h, .lst ((sdF l start pos (l.getD pos (0, 0))).map pv)))) :
    EX c (execs (bodyOf (stm 11)) env) [("heap", .ref h), ("startpos", .int start), ("pos", .int pos)] st fun fl _ st' => ∃ v, (fl = .ret v ∨ (fl = .next ∧ v = .none)) ∧ Q v st' := by
  refine EX_cons ?_
  repeat keq_rows
  refine' sub_list hi ?h0 ?hk (getP hpos) ?_
  case h0 => lia
  case hk => lia
  repeat keq_rows
  refine EX_while (fun n m' st' => ∃ (l' : List P), l'.length = l.length ∧ n < l.length ∧ sdF l' start n (l.getD pos (0, 0)) = sdF l start pos (l.getD pos (0, 0)) ∧
    Has m' "heap" (.ref h) ∧ Has m' "startpos" (.int start) ∧ Has m' "pos" (.int n) ∧ Has m' "newitem" (pv (l.getD pos (0, 0))) ∧ st' = st.set i (h, .lst (l'.map pv))) ?_ pos ?_
  · rintro n m' st' ⟨l', hl', hp', hsd, hm1, hm2, hm3, hm4, rfl⟩
    have hi' := set_get (e' := .lst (l'.map pv)) hi
    generalize hst2 : st.set i (h, .lst (l'.map pv)) = st2 at hi'
    have hst3 : ∀ e, st2.set i e = st.set i e := fun e => by rw [← hst2, List.set_set]
    have fin : ∀ m' st', sdF l' start n (l.getD pos (0, 0)) = l'.set n (l.getD pos (0, 0)) → st' = st2 → Has m' "heap" (.ref h) → Has m' "pos" (.int n) → Has m' "newitem" (pv (l.getD pos (0, 0))) →
        EX c (execs (List.drop 2 (bodyOf (stm 11))) env) m' st' fun fl _ st' => ∃ v, (fl = .ret v ∨ (fl = .next ∧ v = .none)) ∧ Q v st' := by
      rintro m' st' hsd2 rfl k1 k2 k3
      refine EX_cons (EX_setitem ?_)
      repeat keq_rows
      refine ⟨_, _, _, _, rfl, rfl, hi', by lia, by lia, by simp; lia, ?_⟩
      rw [setP, ← hsd2, hsd, hst3]
      keq_rows
      exact ⟨_, .inr ⟨rfl, rfl⟩, hQ⟩
    repeat keq_rows
    refine ⟨_, rfl, ?_⟩
    by_cases hlt : (start : Int) < n
    · first | refine ite_dT hlt ?_ | rw [decide_eq_true hlt, if_pos rfl]
      have hn0 : n ≠ 0 := by lia
      have hhalf : (n - 1) / 2 < n := by lia
      repeat keq_rows
      rw [half, if_neg hn0]
      repeat keq_rows
      refine' sub_list hi' ?h0 ?hk (getP (by lia)) ?_
      case h0 => lia
      case hk => lia
      repeat keq_rows
      refine lt_pv ⟨_, rfl, ?_⟩
      have hsu : sdF l' start n (l.getD pos (0, 0)) = if ltP (l.getD pos (0, 0)) (l'.getD ((n - 1) / 2) (0, 0)) then sdF (l'.set n (l'.getD ((n - 1) / 2) (0, 0))) start ((n - 1) / 2) (l.getD pos (0, 0)) else l'.set n (l.getD pos (0, 0)) := by
        rw [sdF, dif_pos (by lia)]
      cases hc : ltP (l.getD pos (0, 0)) (l'.getD ((n - 1) / 2) (0, 0)) with
      | true =>
        first | refine ite_t ?_ | rw [if_pos rfl]
        rw [hc, if_pos rfl] at hsu
        refine EX_cons (EX_setitem ?_)
        repeat keq_rows
        refine ⟨_, _, _, _, rfl, rfl, hi', by lia, by lia, by simp; lia, ?_⟩
        rw [setP, hst3]
        repeat keq_rows
        refine ⟨_, List.Sublist.refl _, _, hhalf, _, by simpa using hl', by lia, by rw [← hsu]; exact hsd, by keq_hits, by keq_hits, by keq_hits, by keq_hits, rfl⟩
      | false =>
        first | refine ite_f ?_ | rw [if_neg (by decide)]
        rw [hc, if_neg (by decide)] at hsu
        repeat keq_rows
        exact ⟨_, List.Sublist.refl _, fin _ _ hsu rfl (by keq_hits) (by keq_hits) (by keq_hits)⟩
    · first | refine ite_dF hlt ?_ | rw [decide_eq_false hlt, if_neg (by decide)]
      exact fin _ _ (by rw [sdF, dif_neg (by lia)]) rfl (by keq_hits) (by keq_hits) (by keq_hits)
  · exact ⟨l, rfl, hpos, rfl, by keq_hits, by keq_hits, by keq_hits, by keq_hits, (set_same hi).symm⟩
theorem siftdown_call {c : Ctx} {m : Loc} (G : Prog c.toBase) (hn : 0 < c.n) {a : Addr} {fd : FuncData} (D : Def c.toBase "_siftdown" 11 a fd) {st : Sto} {i : Nat} {h : Addr} {l : List P} {start pos : Nat} (hi : st[i]? = some (h, .lst (l.map pv))) (hpos : pos < l.length) (hlen : l.length < 1000)
    {Q : V → Sto → Prop} (hQ : Q .none (st.set i (h, .lst ((sdF l start pos (l.getD pos (0, 0))).map pv)))) : OP c m (fun vs => call (.ref a) vs) [.ref h, .int start, .int pos] st Q :=
  D.call (names := ["heap", "startpos", "pos"]) G.toStat hn rfl (by kat_tups) (by decide) (by decide) (by decide) fun c' env _ _ _ K hsc => siftdown_body c' env K hsc hi hpos hlen hQ

-- W2
/-- the child that moves up -/
noncomputable def chF (l : List P) (p : Nat) : Nat := if 2 * p + 2 < l.length ∧ ltP (l.getD (2 * p + 1) (0, 0)) (l.getD (2 * p + 2) (0, 0)) = false then 2 * p + 2 else 2 * p + 1
noncomputable def suF (l : List P) (p : Nat) : List P × Nat :=
  if h : 2 * p + 1 < l.length then suF (l.set p (l.getD (chF l p) (0, 0))) (chF l p) else (l, p)
termination_by l.length - p
decreasing_by simp only [List.length_set, chF]; split <;> lia
theorem chF_gt (l : List P) (p : Nat) : p < chF l p := by unfold chF; split <;> lia
theorem chF_lt (l : List P) (p : Nat) (h : 2 * p + 1 < l.length) : chF l p < l.length := by unfold chF; split <;> lia
noncomputable def siftupF (l : List P) (p : Nat) : List P :=
  sdF ((suF l p).1.set (suF l p).2 (l.getD p (0, 0))) p (suF l p).2 (((suF l p).1.set (suF l p).2 (l.getD p (0, 0))).getD (suF l p).2 (0, 0))

set_option maxHeartbeats 800000 in
theorem siftup_body (c : Ctx) (env : Env) (G : Prog c.toBase) (hn : 0 < c.n) (K : EnvOk c env) (hsc : env.scope = scopeOf (stm 12)) {st : Sto} {i : Nat} {h : Addr} {l : List P} {pos : Nat} (hi : st[i]? = some (h, .lst (l.map pv))) (hpos : pos < l.length) (hlen : l.length < 1000)
    {Q : V → Sto → Prop} (hQ : Q .none (st.set i (h, .lst ((siftupF l pos).map pv)))) :
    EX c (execs (bodyOf (stm 12)) env) [("heap", .ref h), ("pos", .int pos)] st fun fl _ st' => ∃ v, (fl = .ret v ∨ (fl = .next ∧ v = .none)) ∧ Q v st' := by
  refine EX_cons ?_
  keq_rows
  refine EV_call_bi G.toStat K (kindOf_of hsc rfl) G.len rfl (by decide) ?_
  repeat keq_rows
  refine call_len hi (by simp; lia) ?_
  rw [List.length_map]
  repeat keq_rows
  refine' sub_list hi ?h0 ?hk (getP hpos) ?_
  case h0 => lia
  case hk => lia
  repeat keq_rows
  obtain ⟨J, hJ⟩ : ∃ J : Nat → Loc → Sto → Prop, J = fun n m' st' => ∃ (l' : List P) (p : Nat), n = l.length - p ∧ l'.length = l.length ∧ p < l.length ∧ suF l' p = suF l pos ∧
    Has m' "heap" (.ref h) ∧ Has m' "endpos" (.int l.length) ∧ Has m' "startpos" (.int pos) ∧ Has m' "pos" (.int p) ∧ Has m' "childpos" (.int (2 * p + 1)) ∧ Has m' "newitem" (pv (l.getD pos (0, 0))) ∧ st' = st.set i (h, .lst (l'.map pv)) := ⟨_, rfl⟩
  refine EX_while J ?_ (l.length - pos) ?_
  · intro n m' st' hj
    rw [hJ] at hj
    obtain ⟨l', p, rfl, hl', hp', hsu, hm1, hm2, hm3, hm4, hm5, hm6, rfl⟩ := hj
    have hi' := set_get (e' := .lst (l'.map pv)) hi
    generalize hst2 : st.set i (h, .lst (l'.map pv)) = st2 at hi'
    have hst3 : ∀ e, st2.set i e = st.set i e := fun e => by rw [← hst2, List.set_set]
    repeat keq_rows
    refine ⟨_, rfl, ?_⟩
    by_cases hlt : (2 * p + 1 : Int) < l.length
    · first | refine ite_dT hlt ?_ | rw [decide_eq_true hlt, if_pos rfl]
      have hlt' : 2 * p + 1 < l'.length := by lia
      have hcl := chF_lt l' p hlt'
      have hcg := chF_gt l' p
      have hsu' : suF (l'.set p (l'.getD (chF l' p) (0, 0))) (chF l' p) = suF l' p := by
        conv => rhs; rw [suF]
        rw [dif_pos hlt']
      have fin : ∀ m' (k : Int), k = chF l' p → Has m' "heap" (.ref h) → Has m' "endpos" (.int l.length) → Has m' "startpos" (.int pos) → Has m' "pos" (.int p) → Has m' "childpos" (.int k) → Has m' "newitem" (pv (l.getD pos (0, 0))) →
          EX c (execs (List.drop 2 (match (bodyOf (stm 12)).getD 4 noStm with | .While _ b _ _ => b | _ => [])) env) m' st2 fun fl m3 st3 => ∃ st4, st4.Sublist st3 ∧ fl = .next ∧ ∃ k, k < l.length - p ∧ J k m3 st4 := by
        rintro m' k rfl h1 h2 h3 h4 h5 h6
        refine EX_cons (EX_setitem ?_)
        repeat keq_rows
        refine subP hi' (chF l' p) rfl hcl (by lia) ?_
        repeat keq_rows
        refine ⟨_, _, _, _, rfl, rfl, hi', by lia, by lia, by simp; lia, ?_⟩
        rw [setP, hst3]
        repeat keq_rows
        exact ⟨_, List.Sublist.refl _, rfl, l.length - chF l' p, by lia, by rw [hJ]; exact ⟨_, chF l' p, rfl, by simpa using hl', by lia, hsu'.trans hsu, by keq_hits, by keq_hits, by keq_hits, by keq_hits, by keq_hits, by keq_hits, rfl⟩⟩
      repeat keq_rows
      refine ⟨_, rfl, ?_⟩
      by_cases hr : (2 * p + 1 + 1 : Int) < l.length
      · first | refine ite_dT hr ?_ | rw [decide_eq_true hr, if_pos rfl]
        repeat keq_rows
        refine subP hi' (2 * p + 1) (by lia) (by lia) (by lia) ?_
        repeat keq_rows
        refine subP hi' (2 * p + 2) (by lia) (by lia) (by lia) ?_
        repeat keq_rows
        refine lt_pv ⟨_, rfl, ?_⟩
        cases hc : ltP (l'.getD (2 * p + 1) (0, 0)) (l'.getD (2 * p + 2) (0, 0)) with
        | true =>
          rw [Bool.not_true, if_neg (by decide), if_neg (by decide)]
          have : chF l' p = 2 * p + 1 := if_neg (by rw [hc]; simp)
          exact EX_nil (EX_mono (fin _ (2 * p + 1) (by lia) (by keq_hits) (by keq_hits) (by keq_hits) (by keq_hits) (by keq_hits) (by keq_hits)) (fun fl m3 st3 ⟨st4, hs, hf, k, hk, r⟩ => by subst hf; exact ⟨st4, hs, k, hk, r⟩))
        | false =>
          rw [Bool.not_false, if_pos rfl]
          keq_rows
          first | refine ite_t ?_ | rw [if_pos rfl]
          have : chF l' p = 2 * p + 2 := if_pos ⟨by lia, hc⟩
          keq_rows
          repeat kct_strs
          exact (EX_mono (fin _ (2 * p + 1 + 1) (by lia) (by keq_hits) (by keq_hits) (by keq_hits) (by keq_hits) (by keq_hits) (by keq_hits)) (fun fl m3 st3 ⟨st4, hs, hf, k, hk, r⟩ => by subst hf; exact ⟨st4, hs, k, hk, r⟩))
      · rw [decide_eq_false hr, if_neg (by decide), if_neg (by decide)]
        have : chF l' p = 2 * p + 1 := if_neg (by lia)
        exact EX_nil (EX_mono (fin _ (2 * p + 1) (by lia) (by keq_hits) (by keq_hits) (by keq_hits) (by keq_hits) (by keq_hits) (by keq_hits)) (fun fl m3 st3 ⟨st4, hs, hf, k, hk, r⟩ => by subst hf; exact ⟨st4, hs, k, hk, r⟩))
    · first | refine ite_dF hlt ?_ | rw [decide_eq_false hlt, if_neg (by decide)]
      have hsu2 : suF l pos = (l', p) := by rw [← hsu, suF, dif_neg (by lia)]
      refine EX_cons (EX_setitem ?_)
      repeat keq_rows
      refine ⟨_, _, _, _, rfl, rfl, hi', by lia, by lia, by simp; lia, ?_⟩
      rw [setP, hst3]
      repeat keq_rows
      obtain ⟨a, fd, D⟩ := G.siftdown
      refine EV_call_def G.toStat K D.fn (kindOf_of hsc rfl) D.glob ?_
      repeat keq_rows
      refine siftdown_call G hn D (set_get hi) (by simp; lia) (by simp; lia) ?_
      rw [List.set_set]
      repeat keq_rows
      unfold siftupF at hQ
      rw [hsu2] at hQ
      exact ⟨_, .inr ⟨rfl, rfl⟩, hQ⟩
  · rw [hJ]; exact ⟨l, pos, rfl, rfl, hpos, rfl, by keq_hits, by keq_hits, by keq_hits, by keq_hits, by keq_hits, by keq_hits, (set_same hi).symm⟩

theorem siftup_call {c : Ctx} {m : Loc} (G : Prog c.toBase) (hn : 1 < c.n) {a : Addr} {fd : FuncData} (D : Def c.toBase "_siftup" 12 a fd) {st : Sto} {i : Nat} {h : Addr} {l : List P} {pos : Nat} (hi : st[i]? = some (h, .lst (l.map pv))) (hpos : pos < l.length) (hlen : l.length < 1000)
    {Q : V → Sto → Prop} (hQ : Q .none (st.set i (h, .lst ((siftupF l pos).map pv)))) : OP c m (fun vs => call (.ref a) vs) [.ref h, .int pos] st Q :=
  D.call (names := ["heap", "pos"]) G.toStat (by lia) rfl (by kat_tups) (by decide) (by decide) (by decide) fun c' env hB hn' _ K hsc => siftup_body c' env (hB ▸ G) (by lia) K hsc hi hpos hlen hQ

-- W3
theorem sdF_length (l : List P) (s : Nat) : ∀ (p : Nat) (x : P), (sdF l s p x).length = l.length := by
  intro p
  induction p using Nat.strongRecOn generalizing l with
  | _ p ih =>
    intro x
    rw [sdF]
    split
    · split
      · rw [ih _ (by lia)]; simp
      · simp
    · simp
theorem suF_length (l : List P) (p : Nat) : (suF l p).1.length = l.length := by
  induction hk : l.length - p using Nat.strongRecOn generalizing l p with
  | _ k ih =>
    rw [suF]
    split
    · rename_i h
      have := chF_gt l p
      rw [ih (l.length - chF l p) (by lia) _ _ (by simp)]; simp
    · rfl
theorem siftupF_length (l : List P) (p : Nat) : (siftupF l p).length = l.length := by
  unfold siftupF; rw [sdF_length]; simp [suF_length]

noncomputable def hfF : Nat → List P → List P
  | 0, l => l
  | k + 1, l => hfF k (siftupF l k)
theorem hfF_length : ∀ (k : Nat) (l : List P), (hfF k l).length = l.length
  | 0, l => rfl
  | k + 1, l => (hfF_length k _).trans (siftupF_length l k)

theorem heapreplace_call {c : Ctx} {m : Loc} (G : Prog c.toBase) (hn : 2 < c.n) {a : Addr} {fd : FuncData} (D : Def c.toBase "heapreplace" 9 a fd) {st : Sto} {i : Nat} {h : Addr} {l : List P} {p : P} (hi : st[i]? = some (h, .lst (l.map pv))) (hpos : 0 < l.length) (hlen : l.length < 1000)
    {Q : V → Sto → Prop} (hQ : Q (pv (l.getD 0 (0, 0))) (st.set i (h, .lst ((siftupF (l.set 0 p) 0).map pv)))) : OP c m (fun vs => call (.ref a) vs) [.ref h, pv p] st Q :=
  D.call (names := ["heap", "item"]) G.toStat (by lia) rfl (by kat_tups) (by decide) (by decide) (by decide) fun c' env hB hn' _ K hsc => by
    have G' : Prog c'.toBase := hB ▸ G
    refine EX_cons ?_
    repeat keq_rows
    refine subP hi 0 rfl hpos hlen ?_
    repeat keq_rows
    refine EX_setitem ?_
    repeat keq_rows
    refine ⟨_, _, _, _, rfl, rfl, hi, by lia, by lia, by simp; lia, ?_⟩
    have e : (l.map pv).set (0 : Int).toNat (pv p) = (l.set 0 p).map pv := by simp
    rw [e]
    repeat keq_rows
    obtain ⟨a, fd, D⟩ := G'.siftup
    refine EV_call_def G'.toStat K D.fn (kindOf_of hsc rfl) D.glob ?_
    repeat keq_rows
    refine siftup_call (pos := 0) G' (by lia) D (set_get hi) (by simpa using hpos) (by simpa using hlen) ?_
    rw [List.set_set]
    repeat keq_rows
    exact ⟨_, .inl rfl, hQ⟩

theorem heapify_call {c : Ctx} {m : Loc} (G : Prog c.toBase) (hn : 2 < c.n) {a : Addr} {fd : FuncData} (D : Def c.toBase "heapify" 10 a fd) {st : Sto} {i : Nat} {h : Addr} {l : List P} (hi : st[i]? = some (h, .lst (l.map pv))) (hlen : l.length < 1000)
    {Q : V → Sto → Prop} (hQ : Q .none (st.set i (h, .lst ((hfF (l.length / 2) l).map pv)))) : OP c m (fun vs => call (.ref a) vs) [.ref h] st Q :=
  D.call (names := ["x"]) G.toStat (by lia) rfl (by kat_tups) (by decide) (by decide) (by decide) fun c' env hB hn' _ K hsc => by
    have G' : Prog c'.toBase := hB ▸ G
    refine EX_cons ?_
    repeat keq_rows
    refine EV_call_bi G'.toStat K (kindOf_of hsc rfl) G'.len rfl (by decide) ?_
    repeat keq_rows
    refine call_len hi (by simp; lia) ?_
    rw [List.length_map]
    repeat keq_rows
    refine EX_for_rev K (kindOf_of hsc rfl) (fun k m' st' => ∃ (l' : List P) (r : Addr) (e0 : Ent), l'.length = l.length ∧ hfF k l' = hfF (l.length / 2) l ∧ k ≤ l.length / 2 ∧ Has m' "x" (.ref h) ∧ st' = (r, e0) :: st.set i (h, Ent.lst (l'.map pv))) ?_
    refine EV_call_ty G'.toStat K (kindOf_of hsc rfl) G'.reversed rfl (by decide) ?_
    keq_rows
    refine EV_call_ty G'.toStat K (kindOf_of hsc rfl) G'.range rfl (by decide) ?_
    repeat keq_rows
    refine fdiv_ii (by decide) ?_ (by decide)
    repeat keq_rows
    have e : ((l.length : Nat) : Int).fdiv 2 = ((l.length / 2 : Nat) : Int) := by
      rw [Int.fdiv_eq_ediv_of_nonneg _ (by decide)]; rfl
    rw [e]
    refine call_range fun r t u v => ?_
    repeat keq_rows
    refine call_reversed (i := 0) rfl (by lia) (by lia) fun d => ?_
    refine ⟨d, l.length / 2, _, rfl, rfl, ⟨l, r, _, rfl, rfl, Nat.le_refl _, by keq_hits, by rw [set_same hi]⟩, ?_, ?_⟩
    · rintro k m' st' ⟨l', r, e0, hl', hhf, hk, hm1, rfl⟩ e
      refine EX_cons ?_
      repeat keq_rows
      obtain ⟨a, fd, D⟩ := G'.siftup
      refine EV_call_def G'.toStat K D.fn (kindOf_of hsc rfl) D.glob ?_
      repeat keq_rows
      refine siftup_call (i := i + 2) (l := l') (pos := k) G' (by lia) D (show (st.set i (h, Ent.lst (l'.map pv)))[i]? = _ from set_get hi) (by lia) (by lia) ?_
      repeat keq_rows
      refine ⟨_, List.Sublist.refl _, siftupF l' k, r, e0, (siftupF_length _ _).trans hl', hhf, by lia, by keq_hits, ?_⟩
      rw [List.set_cons_succ, List.set_set]
    · rintro m' st' ⟨l', r, e0, hl', hhf, hk, hm1, rfl⟩
      refine EX_sub (List.sublist_cons_self _ _) ?_
      have hhf : l' = hfF (l.length / 2) l := hhf
      rw [hhf]
      repeat keq_rows
      exact ⟨_, .inr ⟨rfl, rfl⟩, hQ⟩

-- W4
theorem trip_intro {x y z : V} {Q : V → V → V → Prop} (h : Q x y z) : ∃ x' y' z', [x, y, z] = [x', y', z'] ∧ Q x' y' z' := ⟨_, _, _, rfl, h⟩
theorem pair_intro {x y : V} {Q : V → V → Prop} (h : Q x y) : ∃ x' y', [x, y] = [x', y'] ∧ Q x' y' := ⟨_, _, rfl, h⟩
theorem bool_intro {x : Bool} {Q : Bool → Prop} (h : Q x) : ∃ x', V.bool x = V.bool x' ∧ Q x' := ⟨_, rfl, h⟩
local macro_rules | `(tactic| kct_strs) => `(tactic| first
  | (with_reducible refine' EV_flt ?_)
  | (with_reducible refine' EV_trip ?_)
  | (with_reducible refine' EV_pair ?_)
  | (with_reducible refine' trip_intro ?_)
  | (with_reducible refine' pair_intro ?_)
  | (with_reducible refine' bool_intro ?_)
  | (with_reducible refine' add_ff ?_)
  | (with_reducible refine' sub_ff ?_)
  | (with_reducible refine' mul_ff ?_)
  | (with_reducible refine' eq_ff ?_)
  | (with_reducible refine' le_ff ?_))

-- the constants of the colour functions
noncomputable def k1 : UInt64 := 0x3FF0000000000000
noncomputable def k2 : UInt64 := 0x4000000000000000
noncomputable def k4 : UInt64 := 0x4010000000000000
noncomputable def k6 : UInt64 := 0x4018000000000000
noncomputable def kh : UInt64 := 0x3FE0000000000000
noncomputable def k0 : UInt64 := 0

noncomputable def fcmpEq (x y : UInt64) : Bool := Float64.cmp x y == some .eq
/-- the hue -/
noncomputable def hueF (r g b mx rg : UInt64) : UInt64 :=
  let rc := Float64.div (Float64.sub mx r) rg
  let gc := Float64.div (Float64.sub mx g) rg
  let bc := Float64.div (Float64.sub mx b) rg
  let h := if fcmpEq r mx then Float64.sub bc gc else if fcmpEq g mx then Float64.sub (Float64.add k2 rc) bc else Float64.sub (Float64.add k4 gc) rc
  (Float64.divmod (Float64.div h k6) k1).2

noncomputable def OkLo (st : Sto) (lo : Nat) : Prop := (∀ p ∈ st, ∀ l N, p.2 = .hue l N → N ≤ lo) ∧ 0 < lo

/-- rgb_to_hsv's answer -/
noncomputable def hsvF (r g b : UInt64) : UInt64 × UInt64 × UInt64 :=
  let mx := fmax3 r g b
  let mn := fmin3 r g b
  if fcmpEq mn mx then (k0, k0, mx) else (hueF r g b mx (Float64.sub mx mn), Float64.div (Float64.sub mx mn) mx, mx)
/-- no division by zero -/
noncomputable def hsvOk (r g b : UInt64) : Prop := fcmpEq (fmin3 r g b) (fmax3 r g b) = false → Float64.isZero (fmax3 r g b) = false ∧ Float64.isZero (Float64.sub (fmax3 r g b) (fmin3 r g b)) = false

set_option maxHeartbeats 1000000 in
theorem hsv_call {c : Ctx} {m : Loc} (G : Prog c.toBase) (hn : 0 < c.n) {a : Addr} {fd : FuncData} (D : Def c.toBase "rgb_to_hsv" 6 a fd) {st : Sto} {r g b : UInt64} (hok : hsvOk r g b)
    {Q : V → Sto → Prop} (hQ : ∀ lo l2 l3, OkLo st lo → Q (.trip (.flt (hsvF r g b).1 lo) (.flt (hsvF r g b).2.1 l2) (.flt (hsvF r g b).2.2 l3)) st) : OP c m (fun vs => call (.ref a) vs) [.flt r 0, .flt g 0, .flt b 0] st Q :=
  D.call (names := ["r", "g", "b"]) G.toStat (by lia) rfl (by kat_tups) (by decide) (by decide) (by decide) fun c' env hB hn' T K hsc => by
    have G' : Prog c'.toBase := hB ▸ G
    refine EX_cons ?_
    repeat keq_rows
    refine EV_call_bi G'.toStat K (kindOf_of hsc rfl) G'.max rfl (by decide) ?_
    repeat keq_rows
    refine max3 ?_
    repeat keq_rows
    refine EV_call_bi G'.toStat K (kindOf_of hsc rfl) G'.min rfl (by decide) ?_
    repeat keq_rows
    refine min3 ?_
    repeat keq_rows
    have hF : hsvF r g b = if fcmpEq (fmin3 r g b) (fmax3 r g b) then (k0, k0, fmax3 r g b) else (hueF r g b (fmax3 r g b) (Float64.sub (fmax3 r g b) (fmin3 r g b)), Float64.div (Float64.sub (fmax3 r g b) (fmin3 r g b)) (fmax3 r g b), fmax3 r g b) := rfl
    generalize hsvF r g b = F at hF hQ
    cases hc : (Float64.cmp (fmin3 r g b) (fmax3 r g b) == some Ordering.eq) with
    | true =>
      first | refine ite_t ?_ | rw [if_pos rfl]
      rw [fcmpEq, hc, if_pos rfl] at hF
      subst hF
      repeat keq_rows
      exact ⟨_, .inl rfl, hQ _ _ _ T⟩
    | false =>
      obtain ⟨z1, z2⟩ := hok hc
      rw [fcmpEq, hc, if_neg (by decide)] at hF
      first | refine ite_f ?_ | rw [if_neg (by decide)]
      repeat keq_rows
      refine div_ff z1 ?_
      repeat keq_rows
      refine div_ff z2 ?_
      repeat keq_rows
      refine div_ff z2 ?_
      repeat keq_rows
      refine div_ff z2 ?_
      repeat keq_rows
      have fin : ∀ m' h lo, Has m' "h" (.flt h lo) → Has m' "s" (.flt (Float64.div (Float64.sub (fmax3 r g b) (fmin3 r g b)) (fmax3 r g b)) c'.clk) → Has m' "v" (.flt (fmax3 r g b) 0) → F = ((Float64.divmod (Float64.div h k6) k1).2, Float64.div (Float64.sub (fmax3 r g b) (fmin3 r g b)) (fmax3 r g b), fmax3 r g b) →
          EX c' (execs (List.drop 10 (bodyOf (stm 6))) env) m' st fun fl _ st' => ∃ v, (fl = .ret v ∨ (fl = .next ∧ v = .none)) ∧ Q v st' := by
        rintro m' h lo h1 h2 h3 rfl
        refine EX_cons ?_
        repeat keq_rows
        refine div_ff (by decide +kernel) ?_
        repeat keq_rows
        refine mod_ff (by decide +kernel) ?_
        repeat keq_rows
        exact ⟨_, .inl rfl, hQ _ _ _ T⟩
      cases h1 : (Float64.cmp r (fmax3 r g b) == some Ordering.eq) with
      | true =>
        first | refine ite_t ?_ | rw [if_pos rfl]
        keq_rows
        repeat kct_strs
        exact fin _ _ _ (by keq_hits) (by keq_hits) (by keq_hits) (by rw [hF]; unfold hueF fcmpEq; simp only [h1]; rfl)
      | false =>
        first | refine ite_f ?_ | rw [if_neg (by decide)]
        keq_rows
        repeat kct_strs
        cases h2 : (Float64.cmp g (fmax3 r g b) == some Ordering.eq) with
        | true =>
          first | refine ite_t ?_ | rw [if_pos rfl]
          keq_rows
          repeat kct_strs
          exact fin _ _ _ (by keq_hits) (by keq_hits) (by keq_hits) (by rw [hF]; unfold hueF fcmpEq; simp only [h1, h2]; rfl)
        | false =>
          first | refine ite_f ?_ | rw [if_neg (by decide)]
          keq_rows
          repeat kct_strs
          exact fin _ _ _ (by keq_hits) (by keq_hits) (by keq_hits) (by rw [hF]; unfold hueF fcmpEq; simp only [h1, h2]; rfl)

-- W5
/-- the lightness -/
noncomputable def hlsL (r g b : UInt64) : UInt64 := Float64.div (Float64.add (fmax3 r g b) (fmin3 r g b)) k2
noncomputable def hlsOk (r g b : UInt64) : Prop := fcmpEq (fmin3 r g b) (fmax3 r g b) = false → Float64.isZero (Float64.sub (fmax3 r g b) (fmin3 r g b)) = false ∧
  Float64.isZero (Float64.add (fmax3 r g b) (fmin3 r g b)) = false ∧ Float64.isZero (Float64.sub (Float64.sub k2 (fmax3 r g b)) (fmin3 r g b)) = false

set_option maxHeartbeats 1000000 in
theorem hls_call {c : Ctx} {m : Loc} (G : Prog c.toBase) (hn : 0 < c.n) {a : Addr} {fd : FuncData} (D : Def c.toBase "rgb_to_hls" 5 a fd) {st : Sto} {r g b : UInt64} (hok : hlsOk r g b)
    {Q : V → Sto → Prop} (hQ : ∀ x y lo, Q (.trip x (.flt (hlsL r g b) lo) y) st) : OP c m (fun vs => call (.ref a) vs) [.flt r 0, .flt g 0, .flt b 0] st Q :=
  D.call (names := ["r", "g", "b"]) G.toStat (by lia) rfl (by kat_tups) (by decide) (by decide) (by decide) fun c' env hB hn' T K hsc => by
    have G' : Prog c'.toBase := hB ▸ G
    refine EX_cons ?_
    repeat keq_rows
    refine EV_call_bi G'.toStat K (kindOf_of hsc rfl) G'.max rfl (by decide) ?_
    repeat keq_rows
    refine max3 ?_
    repeat keq_rows
    refine EV_call_bi G'.toStat K (kindOf_of hsc rfl) G'.min rfl (by decide) ?_
    repeat keq_rows
    refine min3 ?_
    repeat keq_rows
    refine div_ff (by decide +kernel) ?_
    repeat keq_rows
    have fin1 : ∀ m' h lo, Has m' "h" (.flt h lo) → (∃ x, Has m' "s" x) → (∃ lo, Has m' "l" (.flt (hlsL r g b) lo)) →
        EX c' (execs (List.drop 11 (bodyOf (stm 5))) env) m' st fun fl _ st' => ∃ v, (fl = .ret v ∨ (fl = .next ∧ v = .none)) ∧ Q v st' := by
      rintro m' h lo h1 ⟨x, h2⟩ ⟨lo2, h3⟩
      refine EX_cons ?_
      repeat keq_rows
      refine div_ff (by decide +kernel) ?_
      repeat keq_rows
      refine mod_ff (by decide +kernel) ?_
      repeat keq_rows
      exact ⟨_, .inl rfl, hQ _ _ _⟩
    cases hc : (Float64.cmp (fmin3 r g b) (fmax3 r g b) == some Ordering.eq) with
    | true =>
      first | refine ite_t ?_ | rw [if_pos rfl]
      repeat keq_rows
      exact ⟨_, .inl rfl, hQ _ _ _⟩
    | false =>
      obtain ⟨z1, z2, z3⟩ := hok hc
      first | refine ite_f ?_ | rw [if_neg (by decide)]
      have fin2 : ∀ m', (∃ x, Has m' "s" x) → (∃ lo, Has m' "l" (.flt (hlsL r g b) lo)) → Has m' "r" (.flt r 0) → Has m' "g" (.flt g 0) → Has m' "b" (.flt b 0) → Has m' "maxc" (.flt (fmax3 r g b) 0) → (∃ lo, Has m' "rangec" (.flt (Float64.sub (fmax3 r g b) (fmin3 r g b)) lo)) →
          EX c' (execs (List.drop 7 (bodyOf (stm 5))) env) m' st fun fl _ st' => ∃ v, (fl = .ret v ∨ (fl = .next ∧ v = .none)) ∧ Q v st' := by
        rintro m' ⟨x, h2⟩ ⟨lo2, h3⟩ h4 h5 h6 h7 ⟨lo3, h8⟩
        refine EX_cons ?_
        repeat keq_rows
        refine div_ff z1 ?_
        repeat keq_rows
        refine div_ff z1 ?_
        repeat keq_rows
        refine div_ff z1 ?_
        repeat keq_rows
        cases h1 : (Float64.cmp r (fmax3 r g b) == some Ordering.eq) with
        | true =>
          first | refine ite_t ?_ | rw [if_pos rfl]
          keq_rows
          repeat kct_strs
          exact fin1 _ _ _ (by keq_hits) ⟨_, by keq_hits⟩ ⟨_, by keq_hits⟩
        | false =>
          first | refine ite_f ?_ | rw [if_neg (by decide)]
          keq_rows
          repeat kct_strs
          cases h2 : (Float64.cmp g (fmax3 r g b) == some Ordering.eq) with
          | true =>
            first | refine ite_t ?_ | rw [if_pos rfl]
            keq_rows
            repeat kct_strs
            exact fin1 _ _ _ (by keq_hits) ⟨_, by keq_hits⟩ ⟨_, by keq_hits⟩
          | false =>
            first | refine ite_f ?_ | rw [if_neg (by decide)]
            keq_rows
            repeat kct_strs
            exact fin1 _ _ _ (by keq_hits) ⟨_, by keq_hits⟩ ⟨_, by keq_hits⟩
      repeat keq_rows
      cases h1 : (Float64.cmp (Float64.div (Float64.add (fmax3 r g b) (fmin3 r g b)) k2) kh == some Ordering.lt || Float64.cmp (Float64.div (Float64.add (fmax3 r g b) (fmin3 r g b)) k2) kh == some Ordering.eq) with
      | true =>
        refine (congrArg (fun b => (ite (b = true) _ _ : Prop)) h1).mpr ?_
        first | refine ite_t ?_ | rw [if_pos rfl]
        keq_rows
        repeat kct_strs
        refine div_ff z2 ?_
        repeat kct_strs
        exact fin2 _ ⟨_, by keq_hits⟩ ⟨_, by keq_hits⟩ (by keq_hits) (by keq_hits) (by keq_hits) (by keq_hits) ⟨_, by keq_hits⟩
      | false =>
        refine (congrArg (fun b => (ite (b = true) _ _ : Prop)) h1).mpr ?_
        first | refine ite_f ?_ | rw [if_neg (by decide)]
        keq_rows
        repeat kct_strs
        refine div_ff z3 ?_
        repeat kct_strs
        exact fin2 _ ⟨_, by keq_hits⟩ ⟨_, by keq_hits⟩ (by keq_hits) (by keq_hits) (by keq_hits) (by keq_hits) ⟨_, by keq_hits⟩

-- W6
/-- hsv_to_rgb's answer, i the whole part of six times the hue -/
noncomputable def rgbF (h s v : UInt64) (i : Int) : UInt64 × UInt64 × UInt64 :=
  if fcmpEq s k0 then (v, v, v) else
  let f := Float64.sub (Float64.mul h k6) (Float64.ofInt i)
  let p := Float64.mul v (Float64.sub k1 s)
  let q := Float64.mul v (Float64.sub k1 (Float64.mul s f))
  let t := Float64.mul v (Float64.sub k1 (Float64.mul s (Float64.sub k1 f)))
  if i.fmod 6 = 0 then (v, t, p) else if i.fmod 6 = 1 then (q, v, p) else if i.fmod 6 = 2 then (p, v, t) else if i.fmod 6 = 3 then (p, q, v) else if i.fmod 6 = 4 then (t, p, v) else (v, p, q)
/-- what int() gives -/
noncomputable def Whole (x : UInt64) (i : Int) : Prop := ∃ sg mm e, Float64.decode x = .fin sg mm e ∧ Float64.truncOf sg mm e = i

theorem small1023 {i : Int} (h : i.natAbs < 1000) : i.natAbs < 2 ^ 1023 := Nat.lt_trans h (by decide +kernel)
set_option maxHeartbeats 1000000 in
theorem rgb_call {c : Ctx} {m : Loc} (G : Prog c.toBase) (hn : 0 < c.n) {a : Addr} {fd : FuncData} (D : Def c.toBase "hsv_to_rgb" 7 a fd) {st : Sto} {h s v : UInt64} {l1 l2 l3 : Nat} {i : Int} (hw : Whole (Float64.mul h k6) i) (hi : i.natAbs < 1000)
    {Q : V → Sto → Prop} (hQ : Q (.trip (.flt (rgbF h s v i).1 0) (.flt (rgbF h s v i).2.1 0) (.flt (rgbF h s v i).2.2 0)) st) : OP c m (fun vs => call (.ref a) vs) [.flt h l1, .flt s l2, .flt v l3] st Q :=
  OP.weak <| D.call (names := ["h", "s", "v"]) G.toStat (by lia) rfl (by kat_tups) (by decide) (by decide) (by decide) fun c' env hB hn' T K hsc => by
    have G' : Prog c'.toBase := hB ▸ G
    obtain ⟨sg, mm, e, hd, ht⟩ := hw
    refine EX_cons ?_
    repeat keq_rows
    have hF : rgbF h s v i = _ := rfl
    generalize hR : rgbF h s v i = R at hQ
    unfold rgbF fcmpEq at hR
    cases hc : (Float64.cmp s k0 == some Ordering.eq) with
    | true =>
      refine (congrArg (fun b => (ite (b = true) _ _ : Prop)) hc).mpr ?_
      first | refine ite_t ?_ | rw [if_pos rfl]
      rw [hc, if_pos rfl] at hR
      subst hR
      repeat keq_rows
      exact ⟨_, .inl rfl, hQ⟩
    | false =>
      refine (congrArg (fun b => (ite (b = true) _ _ : Prop)) hc).mpr ?_
      first | refine ite_f ?_ | rw [if_neg (by decide)]
      rw [hc, if_neg (by decide)] at hR
      repeat keq_rows
      refine EV_call_ty G'.toStat K (kindOf_of hsc rfl) G'.int rfl (by decide) ?_
      repeat keq_rows
      refine call_int_f hd ?_
      rw [ht]
      repeat keq_rows
      refine sub_fi (l2 := 0) (small1023 hi) ?_
      repeat keq_rows
      refine mod_ii (by decide) ?_
      repeat keq_rows
      have b2 : i.fmod 6 = i % 6 := Int.fmod_eq_emod_of_nonneg _ (by decide)
      have b0 : 0 ≤ i.fmod 6 := by lia
      have b1 : i.fmod 6 < 6 := by lia
      clear b2
      generalize i.fmod 6 = j at hR b0 b1
      by_cases h0 : j = 0
      · rw [beq_iff_eq.mpr h0, if_pos rfl]
        rw [if_pos h0] at hR
        subst hR
        repeat keq_rows
        exact ⟨_, .inl rfl, hQ⟩
      rw [beq_eq_false_iff_ne.mpr h0, if_neg (by decide)]
      rw [if_neg h0] at hR
      repeat keq_rows
      by_cases h1 : j = 1
      · rw [beq_iff_eq.mpr h1, if_pos rfl]
        rw [if_pos h1] at hR
        subst hR
        repeat keq_rows
        exact ⟨_, .inl rfl, hQ⟩
      rw [beq_eq_false_iff_ne.mpr h1, if_neg (by decide)]
      rw [if_neg h1] at hR
      repeat keq_rows
      by_cases h2 : j = 2
      · rw [beq_iff_eq.mpr h2, if_pos rfl]
        rw [if_pos h2] at hR
        subst hR
        repeat keq_rows
        exact ⟨_, .inl rfl, hQ⟩
      rw [beq_eq_false_iff_ne.mpr h2, if_neg (by decide)]
      rw [if_neg h2] at hR
      repeat keq_rows
      by_cases h3 : j = 3
      · rw [beq_iff_eq.mpr h3, if_pos rfl]
        rw [if_pos h3] at hR
        subst hR
        repeat keq_rows
        exact ⟨_, .inl rfl, hQ⟩
      rw [beq_eq_false_iff_ne.mpr h3, if_neg (by decide)]
      rw [if_neg h3] at hR
      repeat keq_rows
      by_cases h4 : j = 4
      · rw [beq_iff_eq.mpr h4, if_pos rfl]
        rw [if_pos h4] at hR
        subst hR
        repeat keq_rows
        exact ⟨_, .inl rfl, hQ⟩
      rw [beq_eq_false_iff_ne.mpr h4, if_neg (by decide)]
      rw [if_neg h4] at hR
      repeat keq_rows
      have h5 : j = 5 := by lia
      rw [beq_iff_eq.mpr h5, if_pos rfl]
      subst hR
      repeat keq_rows
      exact ⟨_, .inl rfl, hQ⟩

-- W7
local macro_rules | `(tactic| kct_strs) => `(tactic| ((with_reducible refine' EV_slice_from ?_ ?ht ?ht'); (case ht => intro _ _; exact .inr trivial); (case ht' => intro _ _; rfl)))

noncomputable def nv (n : Nat) : V := .int n
/-- the rows of truth values -/
noncomputable def Mat (st : Sto) (aL : Addr) (B : List (List Bool)) : Prop := ∃ rows : List Addr, (aL, Ent.lst (rows.map V.ref)) ∈ st ∧ rows.length = B.length ∧ ∀ (k : Nat) (h : k < rows.length), (rows[k], Ent.lst ((B.getD k []).map V.bool)) ∈ st
theorem Mat.mono {st st' : Sto} {aL : Addr} {B : List (List Bool)} (M : Mat st aL B) (h : ∀ p ∈ st, p ∈ st') : Mat st' aL B := by
  obtain ⟨rows, h1, h2, h3⟩ := M
  exact ⟨rows, h _ h1, h2, fun k hk => h _ (h3 k hk)⟩
noncomputable def bg (B : List (List Bool)) (i j : Nat) : Bool := (B.getD i []).getD j false
/-- the matrix is n by n' -/
noncomputable def Dim (B : List (List Bool)) (n : Nat) : Prop := ∀ k < B.length, (B.getD k []).length = n

noncomputable def apartF (B : List (List Bool)) (i : Nat) (l : List Nat) : List Nat := l.filter fun j => !bg B i j && !bg B j i
noncomputable def mostF (B : List (List Bool)) : List Nat → Nat
  | [] => 0
  | i :: r => max (mostF B r) (1 + mostF B (apartF B i r))
termination_by l => l.length
decreasing_by
  · simp
  · have := List.length_filter_le (fun j => !bg B i j && !bg B j i) r; simp only [apartF, List.length_cons]; lia

/-- the choice of a comprehension over ints -/
noncomputable def selF (p : Nat → Bool) : V → Option V
  | .int j => if p j.toNat then some (.int j) else none
  | _ => none
theorem selF_nv (p : Nat → Bool) (j : Nat) : selF p (nv j) = if p j then some (nv j) else none := rfl
theorem selF_map (p : Nat → Bool) : ∀ l : List Nat, (l.map nv).filterMap (selF p) = (l.filter p).map nv
  | [] => rfl
  | j :: l => by
    rw [List.map_cons, List.filterMap_cons, selF_nv, List.filter_cons]
    cases p j
    · exact selF_map p l
    · show _ :: _ = _ :: _
      rw [selF_map p l]

theorem at_of_mem {st : Sto} {p : Addr × Ent} (h : p ∈ st) : ∃ i : Nat, st[i]? = some p := List.mem_iff_getElem?.mp h

theorem Dim.of {B : List (List Bool)} {n : Nat} (h : Dim B n) {k : Nat} (hk : k < B.length) : (B.getD k []).length = n := h k hk
section
variable {c : Ctx} {m : Loc} {st : Sto}
theorem row_sub {B : List (List Bool)} {aL : Addr} (M : Mat st aL B) (hBl : B.length < 100) {value slice : Expr} {i : Nat} (hi : i < B.length) {Q : V → Sto → Prop} (h : ∀ r, (r, Ent.lst ((B.getD i []).map V.bool)) ∈ st → Q (.ref r) st)
    (hs : ∀ u, subscripted slice false (.ref aL) (.int i u) = operate [.ref aL, .int i u] (getItem (.ref aL) (.int i u)) := by intro _; with_unfolding_all rfl) :
    OP2 c m (subscriptTail value slice) (.ref aL) (.int i) st Q := by
  obtain ⟨rows, h1, h2, h3⟩ := M
  obtain ⟨k, hk⟩ := at_of_mem h1
  have hil : i < rows.length := by lia
  exact sub_list (x := .ref rows[i]) hk (by lia) (by lia) (by simp [hil]) (h _ (h3 i hil)) hs
theorem bit_sub {l : List Bool} {r : Addr} (M : (r, Ent.lst (l.map V.bool)) ∈ st) {value slice : Expr} {i : Nat} (hi : i < l.length) (hl : l.length < 100) {Q : V → Sto → Prop} (h : Q (.bool (l.getD i false)) st)
    (hs : ∀ u, subscripted slice false (.ref r) (.int i u) = operate [.ref r, .int i u] (getItem (.ref r) (.int i u)) := by intro _; with_unfolding_all rfl) :
    OP2 c m (subscriptTail value slice) (.ref r) (.int i) st Q := by
  obtain ⟨k, hk⟩ := at_of_mem M
  exact sub_list (x := .bool (l.getD i false)) hk (by lia) (by lia) (by simp [hi]) h hs
end
theorem cellOf_of {env : Env} {x : Str} {a : Addr} (h : env.cells.lookup x = some a) : cellOf env x = pure a := by
  unfold cellOf; rw [h]
theorem dropI_1 {l : List V} : dropI l 1 = l.drop 1 := rfl

noncomputable def relabelS (scope : Scope) (s : Scope) : Scope :=
  { scope with names := scope.names.map fun (n, k) => if (k == .free && s.kind == .function && s.names.lookup n == some .cell) then (n, .cell) else (n, k) }
theorem relabel_of {env : Env} {sc s : Scope} (h : env.scope = s) : relabel sc env = relabelS sc s := by subst h; rfl

theorem cells_hd {n : Str} {r : List (Str × NameKind)} {cs : List (Str × Addr)} (h : CellsOf ((n, .cell) :: r) cs) : ∃ a cs', cs = cs' ++ [(n, a)] ∧ CellsOf r cs' := by
  unfold CellsOf at h; rw [if_pos (by decide)] at h; exact h
theorem cells_tl {n : Str} {k : NameKind} {r : List (Str × NameKind)} {cs : List (Str × Addr)} (h : CellsOf ((n, k) :: r) cs) (hk : (k == .cell) = false := by decide) : CellsOf r cs := by
  unfold CellsOf at h; rw [if_neg (by rw [hk]; decide)] at h; exact h

theorem most_call {B : List (List Bool)} (hB : Dim B B.length) (hBl : B.length < 100) : ∀ (k : Nat) (left : List Nat), left.length = k → (∀ j ∈ left, j < B.length) → ∀ {c : Ctx} {m : Loc} {st : Sto} (G : Prog c.toBase) (hn : k < c.n) (hk : k < 100) {a : Addr} {fd : FuncData} (D : Def c.toBase "_law_most" 18 a fd) {aL aX : Addr}
    (M : Mat st aL B) (hX : (aX, Ent.lst (left.map nv)) ∈ st) {Q : V → Sto → Prop} (hQ : Q (.int (mostF B left : Nat)) st), OP c m (fun vs => call (.ref a) vs) [.ref aL, .ref aX] st Q := by
  intro k
  induction k using Nat.strongRecOn with
  | _ k ih =>
    intro left hlen hmem c m st G hn hk a fd D aL aX M hX Q hQ
    refine OP_sub (OP_defC (names := ["lit", "left"]) G.toStat D.fn D.clos (by lia) rfl (D.binds (by kat_tups)) ?_)
    intro c' env cs hB' hn' T K hsc _ hcs hcell
    have G' : Prog c'.toBase := hB' ▸ G
    have hsc := hsc.trans D.scope
    rw [D.scope] at hcell
    have hnm : (scopeOf (stm 18)).names = ([("lit", .cell), ("left", .local), ("i", .cell), ("apart", .local), ("max", .globalImplicit), ("_law_most", .globalImplicit)] : List (Str × NameKind)) := rfl
    rw [hnm] at hcell
    obtain ⟨a1, cs1, e1, hc1⟩ := cells_hd hcell
    obtain ⟨a2, cs2, e2, hc2⟩ := cells_hd (cells_tl hc1)
    have e3 : cs2 = [] := cells_tl (cells_tl (cells_tl hc2))
    subst e3 e2 e1
    clear hcell hnm hc1 hc2
    show AS _ _ _ _ _ _
    refine ST_cell (i := 1) K (kindOf_of hsc rfl) (by rw [hcs]; rfl) rfl ?_
    show AS _ _ _ _ _ _
    refine ST_local K (kindOf_of hsc rfl) ?_
    refine EX_cons ?_
    dsimp only [List.nil_append, List.cons_append, cents, List.map, List.set]
    repeat keq_rows
    refine EV_list (EVs_nil ⟨by decide, fun aN => ?_⟩)
    obtain ⟨iX, hiX⟩ := at_of_mem hX
    refine eq_nil (i := iX + 3) (j := 0) hiX rfl ?_
    repeat keq_rows
    rcases left with _ | ⟨x, left⟩
    · rw [show (List.map nv []).isEmpty = true from rfl, if_pos rfl]
      repeat keq_rows
      rw [mostF] at hQ
      exact ⟨_, .inl rfl, st, SubP.of_sub (((List.Sublist.refl _).cons _).cons _ |>.cons _), hQ⟩
    · rw [show (List.map nv (x :: left)).isEmpty = false from rfl, if_neg (by decide)]
      repeat keq_rows
      simp only [List.length_cons] at hlen
      refine subN (f := nv) (d := 0) (i := iX + 3) hiX 0 rfl (by simp) (by simp; lia) ?_
      repeat keq_rows
      refine ST_cell (i := 1) K (kindOf_of hsc rfl) (by rw [hcs]; rfl) rfl ?_
      dsimp only [List.set, List.getD_cons_zero]
      keq_rows
      have hclos : ∀ sc : Scope, sc.names = ([(".0", .local), ("j", .local), ("i", .free), ("lit", .free)] : List (Str × NameKind)) → closureFor sc env = pure ([("lit", a1), ("i", a2)] : List (Str × Addr)) := by
        intro sc hsc2
        unfold closureFor
        rw [hsc2]
        have e1 : cellOf env "i" = pure a2 := cellOf_of (by rw [hcs]; rfl)
        have e2 : cellOf env "lit" = pure a1 := cellOf_of (by rw [hcs]; rfl)
        simp [e1, e2]
      refine EX_assign_comp K (kindOf_of hsc rfl) ?hsw (hclos _ rfl) rfl ?hnames ?_
      case hsw =>
        have k1 : env.kindOf "apart" = some .local := kindOf_of hsc rfl
        have k2 : env.blockKind = .function := by unfold Env.blockKind; rw [K.kind]; rfl
        show pure (env.blockKind == .function && env.kindOf "apart" == some .local && _ && _) = _
        rw [k1, k2]
        rfl
      case hnames => decide
      repeat keq_rows
      refine ⟨aX, iX + 3, _, 1, rfl, rfl, hiX, by simp; lia, fun b => ?_⟩
      have hdr : dropI (List.map nv (x :: left)) 1 = left.map nv := rfl
      rw [hdr]
      refine CompOf.plain (selF fun j => !bg B x j && !bg B j x) (i := 0) rfl (by simp; lia) rfl ?_ ?_ ?_
      · intro cs hcs2
        exact cells_tl (cells_tl (cells_tl (cells_tl hcs2)))
      · intro c2 env2 hB2 hn2 T2 K2 hsc2 hcs2 y hy m2 e1 e2
        have hsc2 := hsc2.trans (relabel_of hsc)
        obtain ⟨j, hj, rfl⟩ := List.mem_map.mp hy
        have hjB : j < B.length := hmem j (by simp [hj])
        have hxB : x < B.length := hmem x (by simp)
        refine AS_name (ST_local K2 (kindOf_of hsc2 rfl) ?_)
        refine ⟨rfl, ?_⟩
        have M2 : Mat (e1 :: e2 :: (b, Ent.lst (left.map nv)) :: (aN, Ent.lst []) :: (a2, Ent.cel (some (nv ((x :: left).getD 0 0)))) :: (a1, Ent.cel (some (V.ref aL))) :: st) aL B := M.mono fun p hp => by simp [hp]
        show TR _ _ _ _ _
        repeat keq_rows
        refine TR_value ?_
        repeat keq_rows
        refine EV_cell (i := 5) K2 (kindOf_of hsc2 rfl) (by rw [hcs2]; rfl) rfl ?_
        refine EV_cell (i := 4) K2 (kindOf_of hsc2 rfl) (by rw [hcs2]; rfl) rfl ?_
        refine row_sub M2 hBl hxB fun r hr => ?_
        repeat keq_rows
        refine bit_sub hr (by rw [hB.of hxB]; exact hjB) (by rw [hB.of hxB]; exact hBl) ?_
        repeat keq_rows
        cases hb1 : (B.getD x []).getD j false with
        | true =>
          first | refine ite_f ?_ | rw [if_neg (by decide)]
          refine ⟨rfl, ?_⟩
          first | refine ite_f ?_ | rw [if_neg (by decide)]
          have : (!bg B x j && !bg B j x) = false := by unfold bg; rw [hb1]; rfl
          exact (selF_nv _ _).trans (if_neg (by rw [this]; decide))
        | false =>
          rw [if_pos (by decide)]
          repeat keq_rows
          refine TR_value ?_
          repeat keq_rows
          refine EV_cell (i := 5) K2 (kindOf_of hsc2 rfl) (by rw [hcs2]; rfl) rfl ?_
          repeat keq_rows
          refine row_sub M2 hBl hjB fun r hr => ?_
          refine EV_cell (i := 4) K2 (kindOf_of hsc2 rfl) (by rw [hcs2]; rfl) rfl ?_
          refine bit_sub hr (by rw [hB.of hjB]; exact hxB) (by rw [hB.of hjB]; exact hBl) ?_
          repeat keq_rows
          cases hb2 : (B.getD j []).getD x false with
          | true =>
            rw [show ((B.getD j []).getD ((x :: left).getD 0 0) false) = true from hb2, if_neg (by decide)]
            refine ⟨rfl, ?_⟩
            first | refine ite_f ?_ | rw [if_neg (by decide)]
            have : (!bg B x j && !bg B j x) = false := by unfold bg; rw [hb1, hb2]; rfl
            exact (selF_nv _ _).trans (if_neg (by rw [this]; decide))
          | false =>
            rw [show ((B.getD j []).getD ((x :: left).getD 0 0) false) = false from hb2, if_pos (by decide)]
            repeat keq_rows
            refine ⟨rfl, ?_⟩
            first | refine ite_t ?_ | rw [if_pos rfl]
            repeat keq_rows
            have : (!bg B x j && !bg B j x) = true := by unfold bg; rw [hb1, hb2]; rfl
            refine ⟨.refl _, ?_⟩
            exact (selF_nv _ _).trans (if_pos this)
      · intro acc
        rw [selF_map]
        repeat keq_rows
        obtain ⟨a', fd', D'⟩ := G'.most
        refine EV_call_bi G'.toStat K (kindOf_of hsc rfl) G'.max rfl (by decide) ?_
        repeat keq_rows
        refine EV_call_def G'.toStat K D'.fn (kindOf_of hsc rfl) D'.glob ?_
        repeat keq_rows
        refine EV_cell (i := 4) K (kindOf_of hsc rfl) (by rw [hcs]; rfl) rfl ?_
        repeat keq_rows
        refine ⟨aX, iX + 5, _, 1, rfl, rfl, hiX, by simp; lia, fun b' => ?_⟩
        rw [hdr]
        repeat keq_rows
        refine ih left.length (by lia) left rfl (fun j hj => hmem j (by simp [hj])) G' (by lia) (by lia) D' (M.mono fun p hp => by simp [hp]) (by simp) ?_
        repeat keq_rows
        refine EV_call_def G'.toStat K D'.fn (kindOf_of hsc rfl) D'.glob ?_
        repeat keq_rows
        refine EV_cell (i := 5) K (kindOf_of hsc rfl) (by rw [hcs]; rfl) rfl ?_
        repeat keq_rows
        have hal : (apartF B x left).length ≤ left.length := List.length_filter_le _ _
        refine ih (apartF B x left).length (by lia) (apartF B x left) rfl (fun j hj => hmem j (by simp [(List.mem_filter.mp hj).1])) G' (by lia) (by lia) D' (M.mono fun p hp => by simp [hp]) (by simp [apartF]) ?_
        repeat keq_rows
        refine max_two ?_
        rw [mostF] at hQ
        refine ⟨_, .inl rfl, st, SubP.of_sub ((((((List.Sublist.refl _).cons _).cons _).cons _).cons _ |>.cons _).cons _), ?_⟩
        have e : max ((mostF B left : Nat) : Int) (1 + (mostF B (apartF B x left) : Nat)) = ((max (mostF B left) (1 + mostF B (apartF B x left)) : Nat) : Int) := by lia
        rw [e]
        exact hQ

-- W8
/-- some N lamps light all of the row -/
noncomputable def Cov (B : List (List Bool)) (left : List Nat) (N : Nat) : Prop := ∃ L : List Nat, L.length = N ∧ (∀ i ∈ L, i < B.length) ∧ ∀ j ∈ left, ∃ i ∈ L, bg B i j = true
noncomputable def IsFew (B : List (List Bool)) (left : List Nat) (N : Nat) : Prop := Cov B left N ∧ ∀ N', Cov B left N' → N ≤ N'
noncomputable def unlit (B : List (List Bool)) (i : Nat) (l : List Nat) : List Nat := l.filter fun j => !bg B i j

theorem few_nil {B : List (List Bool)} : IsFew B [] 0 := ⟨⟨[], rfl, by simp, by simp⟩, fun _ _ => Nat.zero_le _⟩
theorem few_cons {B : List (List Bool)} {x : Nat} {r : List Nat} {M : Nat} (h1 : ∃ i < B.length, bg B i x = true ∧ IsFew B (unlit B i (x :: r)) M) (h2 : ∀ i < B.length, bg B i x = true → ∃ N, M ≤ N ∧ IsFew B (unlit B i (x :: r)) N) : IsFew B (x :: r) (1 + M) := by
  constructor
  · obtain ⟨i, hi, hb, ⟨⟨L, hl, hL, hc⟩, _⟩⟩ := h1
    refine ⟨i :: L, by simp; lia, by simpa using ⟨hi, hL⟩, fun j hj => ?_⟩
    by_cases hij : bg B i j = true
    · exact ⟨i, by simp, hij⟩
    · obtain ⟨i', h, h'⟩ := hc j (List.mem_filter.mpr ⟨hj, by simpa using hij⟩)
      exact ⟨i', by simp [h], h'⟩
  · rintro N' ⟨L, hl, hL, hc⟩
    obtain ⟨i, hi, hb⟩ := hc x (by simp)
    obtain ⟨N, hMN, hN⟩ := h2 i (hL i hi) hb
    have := hN.2 (N' - 1) ⟨L.erase i, by rw [List.length_erase_of_mem hi, hl], fun k hk => hL k (List.mem_of_mem_erase hk), fun j hj => ?_⟩
    · have : 0 < L.length := List.length_pos_of_mem hi
      lia
    · obtain ⟨hj, hn⟩ := List.mem_filter.mp hj
      obtain ⟨k, hk, hkj⟩ := hc j hj
      refine ⟨k, (List.mem_erase_of_ne ?_).mpr hk, hkj⟩
      rintro rfl
      rw [hkj] at hn
      exact absurd hn (by decide)
theorem unlit_length {B : List (List Bool)} {i x : Nat} {r : List Nat} (h : bg B i x = true) : (unlit B i (x :: r)).length ≤ r.length := by
  unfold unlit
  rw [List.filter_cons, if_neg (by rw [h]; decide)]
  exact List.length_filter_le _ _

set_option maxHeartbeats 1000000 in
theorem fewest_call {B : List (List Bool)} (hB : Dim B B.length) (hBl : B.length < 100) (hdiag : ∀ j < B.length, bg B j j = true) : ∀ (k : Nat) (left : List Nat), left.length = k → (∀ j ∈ left, j < B.length) → ∀ {c : Ctx} {m : Loc} {st : Sto} (G : Prog c.toBase) (hn : k < c.n) (hk : k < 100) {a : Addr} {fd : FuncData} (D : Def c.toBase "_law_fewest" 19 a fd) {aL aX : Addr}
    (M : Mat st aL B) (hX : (aX, Ent.lst (left.map nv)) ∈ st) {Q : V → Sto → Prop} (hQ : ∀ N : Nat, IsFew B left N → Q (.int N) st), OP c m (fun vs => call (.ref a) vs) [.ref aL, .ref aX] st Q := by
  intro k
  induction k using Nat.strongRecOn with
  | _ k ih =>
    intro left hlen hmem c m st G hn hk a fd D aL aX M hX Q hQ
    refine OP_sub (OP_defC (names := ["lit", "left"]) G.toStat D.fn D.clos (by lia) rfl (D.binds (by kat_tups)) ?_)
    intro c' env cs hB' hn' T K hsc _ hcs hcell
    have G' : Prog c'.toBase := hB' ▸ G
    have hsc := hsc.trans D.scope
    rw [D.scope] at hcell
    have hnm : (scopeOf (stm 19)).names = ([("lit", .local), ("left", .local), ("counts", .local), ("lamp", .cell), ("_law_fewest", .globalImplicit), ("min", .globalImplicit)] : List (Str × NameKind)) := rfl
    rw [hnm] at hcell
    obtain ⟨a1, cs1, e1, hc1⟩ := cells_hd (cells_tl (cells_tl (cells_tl hcell)))
    have e3 : cs1 = [] := cells_tl (cells_tl hc1)
    subst e3 e1
    clear hcell hnm hc1
    show AS _ _ _ _ _ _
    refine ST_local K (kindOf_of hsc rfl) ?_
    show AS _ _ _ _ _ _
    refine ST_local K (kindOf_of hsc rfl) ?_
    refine EX_cons ?_
    dsimp only [List.nil_append, List.cons_append, cents, List.map, List.set]
    repeat keq_rows
    refine EV_list (EVs_nil ⟨by decide, fun aN => ?_⟩)
    obtain ⟨iX, hiX⟩ := at_of_mem hX
    refine eq_nil (i := iX + 2) (j := 0) hiX rfl ?_
    repeat keq_rows
    rcases left with _ | ⟨x, left⟩
    · rw [show (List.map nv []).isEmpty = true from rfl, if_pos rfl]
      repeat keq_rows
      exact ⟨_, .inl rfl, st, SubP.of_sub (((List.Sublist.refl _).cons _).cons _), hQ 0 few_nil⟩
    · rw [show (List.map nv (x :: left)).isEmpty = false from rfl, if_neg (by decide)]
      repeat keq_rows
      simp only [List.length_cons] at hlen
      refine EV_list (EVs_nil ⟨by decide, fun aC => ?_⟩)
      repeat keq_rows
      obtain ⟨rows, hr1, hr2, hr3⟩ := id M
      obtain ⟨iL, hiL⟩ := at_of_mem hr1
      refine EX_for (fun k m' st' => ∃ (ns : List Nat) (v : Option V), Has m' "lit" (.ref aL) ∧ Has m' "left" (.ref aX) ∧ Has m' "counts" (.ref aC) ∧ st' = (aC, Ent.lst (ns.map nv)) :: (aN, Ent.lst []) :: (a1, Ent.cel v) :: st ∧
        (∀ N ∈ ns, ∃ i < B.length, bg B i x = true ∧ IsFew B (unlit B i (x :: left)) N) ∧ (∀ i < k, bg B i x = true → ∃ N ∈ ns, IsFew B (unlit B i (x :: left)) N) ∧ ns.length ≤ k ∧ k ≤ B.length) ?_
      repeat keq_rows
      refine ⟨aL, rows.map V.ref, rfl, rfl, ⟨[], none, by keq_hits, by keq_hits, by keq_hits, rfl, by simp, by intro i hi; lia, Nat.le_refl _, Nat.zero_le _⟩, ?_, ?_, ?_⟩
      · rintro k m' st' ⟨ns, v, _, _, _, rfl, _⟩
        exact ⟨iL + 3, hiL⟩
      · rintro k y m' st' it hky ⟨ns, v, h1, h2, h3, rfl, h4, h5, h6, h6'⟩
        rw [List.getElem?_map] at hky
        obtain ⟨r, hr, rfl⟩ := Option.map_eq_some_iff.mp hky
        obtain ⟨hkr, rfl⟩ := List.getElem?_eq_some_iff.mp hr
        have hkB : k < B.length := by lia
        have hxB : x < B.length := hmem x (by simp)
        refine AS_name (ST_cell (i := 3) K (kindOf_of hsc rfl) (by rw [hcs]; rfl) rfl ?_)
        dsimp only [List.set]
        refine EX_cons ?_
        repeat keq_rows
        refine TR_value ?_
        repeat keq_rows
        refine EV_cell (i := 3) K (kindOf_of hsc rfl) (by rw [hcs]; rfl) rfl ?_
        repeat keq_rows
        refine subN (f := nv) (d := 0) (i := iX + 4) hiX 0 rfl (by simp) (by simp; lia) ?_
        have hrow := hr3 k hkr
        refine bit_sub (i := x) (r := rows[k]) (l := B.getD k []) (by repeat (first | exact hrow | refine List.mem_cons_of_mem _ ?_)) (by rw [hB.of hkB]; exact hxB) (by rw [hB.of hkB]; exact hBl) ?_
        repeat keq_rows
        cases hb : (B.getD k []).getD x false with
        | false =>
          first | refine ite_f ?_ | rw [if_neg (by decide)]
          repeat keq_rows
          refine ⟨_, List.Sublist.refl _, ns, _, h1, h2, h3, rfl, h4, ?_, by lia, by lia⟩
          intro i hi hbi
          rcases Nat.lt_succ_iff_lt_or_eq.mp hi with hi | rfl
          · exact h5 i hi hbi
          · exact absurd (hbi.symm.trans hb) (by decide)
        | true =>
          first | refine ite_t ?_ | rw [if_pos rfl]
          repeat keq_rows
          obtain ⟨a', fd', D'⟩ := G'.fewest
          refine EV_append ?_
          keq_rows
          refine ⟨aC, 1, _, rfl, rfl, ?_⟩
          refine EV_call_def G'.toStat K D'.fn (kindOf_of hsc rfl) D'.glob ?_
          repeat keq_rows
          have hclos : ∀ sc : Scope, sc.names = ([(".0", .local), ("j", .local), ("lamp", .free)] : List (Str × NameKind)) → closureFor sc env = pure ([("lamp", a1)] : List (Str × Addr)) := by
            intro sc hsc2
            unfold closureFor
            rw [hsc2]
            have e1 : cellOf env "lamp" = pure a1 := cellOf_of (by rw [hcs]; rfl)
            simp [e1]
          refine EV_comp K (hclos _ rfl) rfl (by decide) ?_
          repeat keq_rows
          refine CompOf.plain (selF fun j => !bg B k j) (i := iX + 4) hiX (by simp; lia) rfl ?_ ?_ ?_
          · intro cs hcs2
            exact cells_tl (cells_tl (cells_tl hcs2))
          · intro c2 env2 hB2 hn2 T2 K2 hsc2 hcs2 y hy m2 e1 e2
            have hsc2 := hsc2.trans (relabel_of hsc)
            obtain ⟨j, hj, rfl⟩ := List.mem_map.mp hy
            have hjB : j < B.length := hmem j hj
            refine AS_name (ST_local K2 (kindOf_of hsc2 rfl) ?_)
            refine ⟨rfl, ?_⟩
            show TR _ _ _ _ _
            repeat keq_rows
            refine TR_value ?_
            repeat keq_rows
            refine EV_cell (i := 5) K2 (kindOf_of hsc2 rfl) (by rw [hcs2]; rfl) rfl ?_
            repeat keq_rows
            refine bit_sub (i := j) (r := rows[k]) (l := B.getD k []) (by repeat (first | exact hrow | refine List.mem_cons_of_mem _ ?_)) (by rw [hB.of hkB]; exact hjB) (by rw [hB.of hkB]; exact hBl) ?_
            repeat keq_rows
            cases hb2 : (B.getD k []).getD j false with
            | true =>
              refine ⟨rfl, ?_⟩
              first | refine ite_f ?_ | rw [if_neg (by decide)]
              exact (selF_nv _ _).trans (if_neg (by unfold bg; rw [hb2]; decide))
            | false =>
              refine ⟨rfl, ?_⟩
              rw [if_pos (by decide)]
              repeat keq_rows
              refine ⟨.refl _, ?_⟩
              exact (selF_nv _ _).trans (if_pos (by unfold bg; rw [hb2]; decide))
          · intro acc
            rw [selF_map]
            repeat keq_rows
            have hul := unlit_length (r := left) hb
            refine ih (unlit B k (x :: left)).length (by lia) (unlit B k (x :: left)) rfl (fun j hj => hmem j (List.mem_filter.mp hj).1) G' (by lia) (by lia) D' (M.mono fun p hp => by repeat (first | exact hp | refine List.mem_cons_of_mem _ ?_)) (by simp [unlit]) fun N hN => ?_
            refine ⟨2, ns.map nv, rfl, by simp; lia, ?_⟩
            repeat keq_rows
            refine ⟨_, (List.Sublist.refl _).cons _, ns ++ [N], _, h1, h2, h3, by rw [List.map_append]; rfl, ?_, ?_, by simp; lia, by lia⟩
            · intro N' hN'
              rcases List.mem_append.mp hN' with h | h
              · exact h4 N' h
              · rw [List.mem_singleton.mp h]
                exact ⟨k, hkB, hb, hN⟩
            · intro i hi hbi
              rcases Nat.lt_succ_iff_lt_or_eq.mp hi with hi | rfl
              · obtain ⟨N', h, h'⟩ := h5 i hi hbi
                exact ⟨N', by simp [h], h'⟩
              · exact ⟨N, by simp, hN⟩
      · rintro m' st' ⟨ns, v, h1, h2, h3, rfl, h4, h5, h6, h6'⟩
        have hxB : x < B.length := hmem x (by simp)
        have hmp : ns.map nv = (ns.map fun (n : Nat) => (n : Int)).map V.int := by simp [nv, Function.comp_def]
        repeat keq_rows
        refine EV_call_bi G'.toStat K (kindOf_of hsc rfl) G'.min rfl (by decide) ?_
        repeat keq_rows
        rw [hmp]
        have hlr : (rows.map V.ref).length = B.length := by simp [hr2]
        rw [hlr] at h5
        obtain ⟨N0, hN0, _⟩ := h5 x hxB (hdiag x hxB)
        refine min_list (i := 0) rfl (by intro h; simp at h; subst h; simp at hN0) fun M' hM' hmin => ?_
        obtain ⟨M0, hM0, rfl⟩ := List.mem_map.mp hM'
        repeat keq_rows
        refine ⟨_, .inl rfl, st, SubP.of_sub (((List.Sublist.refl _).cons _).cons _ |>.cons _), ?_⟩
        have e : (1 : Int) + (M0 : Nat) = ((1 + M0 : Nat) : Int) := by lia
        rw [e]
        refine hQ _ (few_cons (h4 M0 hM0) fun i hi hb => ?_)
        obtain ⟨N, hN, hf⟩ := h5 i hi hb
        have := hmin (N : Int) (List.mem_map.mpr ⟨N, hN, rfl⟩)
        exact ⟨N, by lia, hf⟩

-- W9
/-- a slice of a list, be the list a name's or one made on the spot -/
theorem slice_raw {prog : Program} {w : World} {A : Around} {E : Value → Shared → Prop} {s : Shared} {env : Env} {value : Expr} {lower upper : Option Expr} {p pos : Pos} {Q : Value → Shared → Prop}
    (h : wpAny (model prog w) A (eval value env) (fun o s₁ => wpAny (model prog w) A (evalPart lower env) (fun vl s₂ => wpAny (model prog w) A (evalPart upper env) (fun vu s₃ =>
      ∃ l items lo hi, o = .ref l ∧ s₃.heap.IsList l items ∧ items.size ≤ sizeLine ∧ IsPart vl lo ∧ IsPart vu hi ∧
        Q (.ref (s₃.heap.objs.size + 1)) { s₃ with heap := (s₃.heap.push { cls := .type "slice", data := .fields #[vl, vu, .none] }).push { cls := .type "list", data := .seq (slicePick items lo hi none) } }) E s₂) E s₁) E s) :
    wpAny (model prog w) A (eval (.Subscript value (.Slice lower upper none p) pos) env) Q E s := by
  rw [eval_Subscript]
  refine wpAny_bind (wpAny_mono h (fun o s₁ h₁ => wpAny_bind (wpAny_holding (wpAny_mono (wpAny_Slice (Q := fun i s₂ => s₂.TypeIs o "list" ∧ wpAny (model prog w) A (getItem o i) Q E s₂)
    (wpAny_mono h₁ (fun vl s₂ h₂ => wpAny_mono h₂ (fun vu s₃ h₃ => ?_) fun _ _ e => e) fun _ _ e => e)) (fun i s₂ h₂ => wpAny_bind (wpAny_standAt ?_)) fun _ _ x => x))) fun _ _ x => x)
  · obtain ⟨l, items, lo, hi, rfl, hl, hsz, pl, pu, hQ⟩ := h₃
    rw [evalPart_none]
    refine wpAny_pure ⟨(hl.push _).typeIs, wpAny_getItem_list_slice (hl.push _) (Heap.IsSliceOf.new ..) pl pu .none (by simp) ?_ hsz⟩
    rw [Heap.size_push]
    exact hQ
  · have fin : wpAny (model prog w) A (operate [i, o] (getItem o i)) (fun r s₃ => wpAny (model prog w) A (letTemporaryGo value o r >>= fun _ => pure r) Q E s₃) E s₂ :=
      wpAny_operating (wpAny_mono h₂.2 (fun r s₃ h₃ => wpAny_bind (wpAny_letTemporaryGo (wpAny_pure h₃))) fun _ _ x => x)
    first
      | (refine wpAny_bind ?_
         rw [getitemInPython_of_ne h₂.1.not_modules]
         refine wpAny_bind (wpAny_specialOf h₂.1 list_getitem_lookup ?_)
         first
           | exact wpAny_pure (wpAny_bind fin)
           | exact wpAny_bind (wpAny_pure (wpAny_bind fin))
           | exact wpAny_bind fin)
      | (refine wpAny_bind (wpAny_specialOf h₂.1 list_getitem_lookup ?_)
         first
           | exact wpAny_bind (wpAny_pure (wpAny_bind fin))
           | exact wpAny_bind fin)
section
variable {c : Ctx} {m : Loc} {st : Sto} {env : Env}
theorem EV_slice_tmp {value e : Expr} {p pos : Pos} {Q : V → Sto → Prop} (h : EV c m (eval value env) st fun v st1 => EV c m (eval e env) st1 fun iv st2 => ∃ a, ∃ i : Nat, ∃ l k, v = .ref a ∧ iv = .int k ∧ st2[i]? = some (a, .lst l) ∧ l.length < 1000000 ∧ ∀ b, Q (.ref b) ((b, .lst (dropI l k)) :: st2)) : EV c m (eval (.Subscript value (.Slice (some e) none none p) pos) env) st Q := fun A s tm P E R S kk => by
  refine slice_raw (h A s tm _ E R S fun v x st1 s1 S1 h1 => wpAny_evalPart_some (h1 A s1 _ _ E R S1 fun v2 y st2 s2 S2 ⟨a, i, l, k, e1, e2, hi, hl, q⟩ => wpAny_evalPart_none ?_))
  subst e1 e2
  obtain ⟨t, e2⟩ : ∃ t, v2 = .int k t := S2.hd
  have e1 : v = .ref a := S2.drop.hd
  subst e1 e2
  obtain ⟨xs, n, ho, r⟩ := S2.list hi
  have hlen := r.length
  simp only [Array.length_toList] at hlen
  refine ⟨a, xs, some k, none, rfl, isList_of ho, ?_, ?_, ?_, ?_⟩
  · rw [PySem.sizeLine_eq]; lia
  · exact .int k t
  · exact .none
  have S3 := S2.drop.drop.push { cls := .type "slice", data := .fields #[Value.int k t, .none, .none] }
  rw [slicePick_drop]
  have r' : RepL s2 (dropI l k) (if 0 ≤ k then xs.toList.drop k.toNat else xs.toList.drop (xs.size - (-k).toNat)) := by
    unfold dropI
    split
    · exact r.drop _
    · rw [hlen]; exact r.drop _
  have S4 := S3.newList (xs := dropI l k) (r'.mono (tkeep_of (fun _ _ => Heap.get?_push_of_some _) (Nat.le_refl _)))
  have hs : (s2.heap.push { cls := .type "slice", data := .fields #[Value.int k t, .none, .none] }).objs.size = s2.heap.objs.size + 1 := Heap.size_push ..
  simp only [hs] at S4
  exact kk (.ref (s2.heap.objs.size + 1)) (.ref (s2.heap.objs.size + 1)) _ _ (S4.tmp (x := .ref _) rfl) (q _)


end
local macro_rules | `(tactic| kct_strs) => `(tactic| (with_reducible refine' EV_slice_tmp ?_))

-- W10
theorem closure_none {env : Env} : ∀ sc : Scope, sc.names.all (fun x => !(x.2 == .free)) = true → closureFor sc env = pure [] := by
  intro sc h
  unfold closureFor
  generalize sc.names = l at h
  have key : ∀ (l : List (Str × NameKind)) (cs : List (Str × Addr)), l.all (fun x => !(x.2 == .free)) = true → (forIn l cs fun x r => if (x.2 == .free) = true then do let y ← cellOf env x.1; pure (ForInStep.yield ((x.1, y) :: r)) else pure (ForInStep.yield r) : Sem (List (Str × Addr))) = pure cs := by
    intro l
    induction l with
    | nil => intro cs _; simp
    | cons x l ih =>
      intro cs h
      simp only [List.all_cons, Bool.and_eq_true, Bool.not_eq_true'] at h
      rw [List.forIn_cons]
      simp only [h.1, Bool.false_eq_true, if_false]
      rw [pure_bind]
      exact ih cs (by simpa using h.2)
  have := key l [] h
  simp at this ⊢
  exact this

theorem swaps_yes {c : Ctx} {env : Env} (K : EnvOk c env) {y : Str} {py spos : Pos} {elt : Expr} {gs : List Comprehension} {scope : Scope} {pos : Pos} (hk : env.kindOf y = some .local) (hl : (py.line == pos.line && !(scope.names.any fun (n, k) => n == y && (k == .local || k == .cell))) = true) :
    swapsWithSole [.Name y py] (.ListComp elt gs scope pos) spos.line env = pure true := by
  have k2 : env.blockKind = .function := by unfold Env.blockKind; rw [K.kind]; rfl
  show pure (env.blockKind == .function && env.kindOf y == some .local && py.line == pos.line && _) = _
  rw [k2, hk]
  simp only [Bool.and_eq_true] at hl
  rw [hl.1]
  exact congrArg pure hl.2

/-- a comprehension that changes every item -/
noncomputable def mapF (g : Int → V) : V → Option V
  | .int x => some (g x)
  | _ => none
theorem mapF_map (g : Int → V) : ∀ l : List Int, (l.map V.int).filterMap (mapF g) = l.map g
  | [] => rfl
  | x :: l => by
    rw [List.map_cons, List.filterMap_cons]
    show g x :: _ = g x :: _
    rw [mapF_map g l]

noncomputable def spare : List Int := [1152, 1267, 1626, 1421, 1894]
/-- the draws of a script -/
noncomputable def drawsF (ns : List Int) : List Int := (ns.take 7).map (·.fmod 2048) ++ spare.drop ((ns.take 7).map (·.fmod 2048)).length
noncomputable def tripI (x : Int) : V := .trip (.int (x.fmod 64)) (.int ((x.fdiv 64).fmod 4 + 1)) (.int (x.fdiv 256 + 1))

set_option maxHeartbeats 1000000 in
theorem draws_call {c : Ctx} {m : Loc} (G : Prog c.toBase) (hn : 0 < c.n) {a : Addr} {fd : FuncData} (D : Def c.toBase "_law_draws" 14 a fd) {st : Sto} {sa : Addr} {vs : List Value} {ns : List Int} (hL : c.g0.IsList sa vs.toArray) (hI : IntsAre vs ns) (hsz : ns.length < 1000)
    {Q : V → Sto → Prop} (hQ : ∀ b, Q (.ref b) ((b, .lst ((drawsF ns).map tripI)) :: st)) : OP c m (fun vs => call (.ref a) vs) [.ref sa] st Q :=
  OP_sub <| D.call (names := ["script"]) G.toStat hn rfl (by kat_tups) (by decide) (by decide) (by decide) fun c' env hB hn' T K hsc => by
    have G' : Prog c'.toBase := hB ▸ G
    refine EX_cons ?_
    refine EX_assign_comp K (kindOf_of hsc rfl) (swaps_yes K (kindOf_of hsc rfl) (by decide)) (closure_none _ (by decide)) rfl (by decide) ?_
    have hL' : c'.g0.IsList sa vs.toArray := by rw [hB]; exact hL
    refine EV_slice_static hL' hI (by lia) ?_
    repeat keq_rows
    refine ⟨7, rfl, rfl, fun b => ?_⟩
    have hc : ∀ cs, CellsOf ([(".0", .local), ("x", .local)] : List (Str × NameKind)) cs → cs = [] := fun cs h => cells_tl (cells_tl h)
    refine CompOf.plain (mapF fun x => .int (x.fmod 2048)) (i := 0) rfl (by simp; lia) rfl hc ?_ fun d1 => ?_
    · intro c2 env2 hB2 hn2 T2 K2 hsc2 hcs2 y hy m2 e1 e2
      have hsc2 := hsc2.trans (relabel_of hsc)
      obtain ⟨j, hj, rfl⟩ := List.mem_map.mp hy
      refine AS_name (ST_local K2 (kindOf_of hsc2 rfl) ⟨rfl, rfl, ?_⟩)
      first | refine ite_t ?_ | rw [if_pos rfl]
      repeat keq_rows
      refine mod_ii (by decide) ⟨.refl _, rfl⟩
    rw [mapF_map]
    repeat keq_rows
    have h2048 : List.map (fun x => V.int (Int.fmod x 2048)) (List.take 7 ns) = ((ns.take 7).map (·.fmod 2048)).map V.int := by simp [Function.comp_def]
    rw [h2048]
    have hlen1 : ((ns.take 7).map (·.fmod 2048)).length ≤ 7 := by simp; lia
    have hdr : drawsF ns = (ns.take 7).map (·.fmod 2048) ++ spare.drop ((ns.take 7).map (·.fmod 2048)).length := rfl
    generalize (ns.take 7).map (·.fmod 2048) = D1 at hdr hlen1 ⊢
    refine EV_list ?_
    repeat keq_rows
    refine ⟨by decide, fun d2 => ?_⟩
    refine EV_call_bi G'.toStat K (kindOf_of hsc rfl) G'.len rfl (by decide) ?_
    repeat keq_rows
    refine call_len (i := 1) rfl (by simp; lia) ?_
    rw [List.length_map]
    refine ⟨d2, 0, _, _, rfl, rfl, rfl, by simp, fun d3 => ?_⟩
    have e5 : dropI [V.int 1152, V.int 1267, V.int 1626, V.int 1421, V.int 1894] D1.length = (spare.drop D1.length).map V.int := by
      unfold dropI
      rw [if_pos (by lia), Int.toNat_natCast, List.map_drop]
      rfl
    rw [e5]
    have hsp : (spare.drop D1.length).length ≤ 5 := by simp [spare]
    refine add_ll (i := 2) (j := 0) rfl rfl (by simp [spare]; lia) fun d4 => ?_
    rw [← List.map_append, ← hdr]
    have hdl : (drawsF ns).length < 1000 := by rw [hdr, List.length_append]; lia
    generalize drawsF ns = D2 at hdl hQ
    repeat keq_rows
    refine EV_comp K (closure_none _ (by decide)) rfl (by decide) ?_
    repeat keq_rows
    refine CompOf.plain (mapF tripI) (i := 0) rfl (by simp; lia) rfl hc ?_ fun d5 => ?_
    · intro c2 env2 hB2 hn2 T2 K2 hsc2 hcs2 y hy m2 e1 e2
      have hsc2 := hsc2.trans (relabel_of hsc)
      obtain ⟨j, hj, rfl⟩ := List.mem_map.mp hy
      refine AS_name (ST_local K2 (kindOf_of hsc2 rfl) ⟨rfl, rfl, ?_⟩)
      first | refine ite_t ?_ | rw [if_pos rfl]
      repeat keq_rows
      refine mod_ii (by decide) ?_
      repeat keq_rows
      refine fdiv_ii (by decide) ?_ (by decide)
      repeat keq_rows
      refine mod_ii (by decide) ?_
      repeat keq_rows
      refine fdiv_ii (by decide) ?_ (by decide)
      repeat keq_rows
      exact ⟨.refl _, rfl⟩
    rw [mapF_map]
    exact ⟨_, .inl rfl, (d5, .lst (D2.map tripI)) :: st, SubP.of_sub (.cons₂ _ (.cons _ (.cons _ (.cons _ (.cons _ (.cons _ (.refl _))))))), hQ d5⟩

-- W11
section
variable {c : Ctx} {m : Loc} {st : Sto} {env : Env}
theorem EV_weak {t : Sem Value} {Q : V → Sto → Prop} (h : EV c m t st fun v st' => Q v.weak st') : EV c m t st Q := fun A s tm P E R S k =>
  h A s tm P E R S fun v x st' s' S' q => k v x.weak st' s' (S'.drop.tmp S'.hd.weak) q
theorem EV_pair2 {e1 e2 : Expr} {k : Nat} {pos : Pos} {Q : V → Sto → Prop} (h : EVs c m (spliced (backTo pos (starEach [e1, e2] env))) st fun xs st1 => ∃ x y, xs = [x, y] ∧ Q (.pair x y) st1) :
    EV c m (eval (.Tuple [e1, e2] k pos) env) st Q := EV_pair h
theorem small64 : (64 : Int).natAbs < 2 ^ 1023 := Nat.lt_trans (show (64 : Int).natAbs < 1000 by decide) (by decide +kernel)
end
local macro_rules | `(tactic| kct_strs) => `(tactic| (with_reducible refine' EV_pair2 ?_))

noncomputable def k64 : UInt64 := Float64.ofInt 64
abbrev Col := UInt64 × UInt64 × UInt64
noncomputable def cv (x : Col) : V := .trip (.flt x.1 0) (.flt x.2.1 0) (.flt x.2.2 0)
/-- a colour's arc as told in floats -/
noncomputable def arcF (x : Col) : UInt64 × UInt64 :=
  let h := (hsvF x.1 x.2.1 x.2.2).1
  (Float64.mul k64 h, Float64.mul k64 (Float64.add h (Float64.sub (hsvF x.1 x.2.1 x.2.2).2.2 (hlsL x.1 x.2.1 x.2.2))))
noncomputable def fpv (x : UInt64 × UInt64) : V := .pair (.flt x.1 0) (.flt x.2 0)
noncomputable def ColOk (x : Col) : Prop := hsvOk x.1 x.2.1 x.2.2 ∧ hlsOk x.1 x.2.1 x.2.2

set_option maxHeartbeats 1000000 in
theorem arcs_call {c : Ctx} {m : Loc} (G : Prog c.toBase) (hn : 1 < c.n) {a : Addr} {fd : FuncData} (D : Def c.toBase "_law_arcs" 15 a fd) {st : Sto} {i : Nat} {ca : Addr} {cols : List Col} (hi : st[i]? = some (ca, .lst (cols.map cv))) (hl : cols.length < 1000) (hok : ∀ x ∈ cols, ColOk x)
    {Q : V → Sto → Prop} (hQ : ∀ b, Q (.ref b) ((b, .lst (cols.map fun x => fpv (arcF x))) :: st)) : OP c m (fun vs => call (.ref a) vs) [.ref ca] st Q :=
  OP_sub <| D.call (names := ["colours"]) G.toStat (by lia) rfl (by kat_tups) (by decide) (by decide) (by decide) fun c' env hB hn' T K hsc => by
    have G' : Prog c'.toBase := hB ▸ G
    refine EX_cons ?_
    keq_rows
    refine EV_list (EVs_nil ⟨by decide, fun aC => ?_⟩)
    repeat keq_rows
    refine EX_for (fun k m' st' => Has m' "arcs" (.ref aC) ∧ st' = (aC, Ent.lst ((cols.take k).map fun x => fpv (arcF x))) :: st) ?_
    repeat keq_rows
    refine ⟨ca, cols.map cv, rfl, ?_, ⟨by keq_hits, rfl⟩, ?_, ?_, ?_⟩
    · simp [targetOk, cv]
    · rintro k m' st' ⟨_, rfl⟩
      exact ⟨i + 1, hi⟩
    · rintro k y m' st' it hky ⟨h1, rfl⟩
      rw [List.getElem?_map] at hky
      obtain ⟨x, hx, rfl⟩ := Option.map_eq_some_iff.mp hky
      obtain ⟨o1, o2⟩ := hok x (List.mem_of_getElem? hx)
      refine AS_trip (AS_name (ST_local K (kindOf_of hsc rfl) (AS_name (ST_local K (kindOf_of hsc rfl) (AS_name (ST_local K (kindOf_of hsc rfl) ?_))))))
      refine EX_cons (EX_assign_tuple ?_ rfl rfl)
      obtain ⟨a1, fd1, D1⟩ := G'.hsv
      refine EV_call_def G'.toStat K D1.fn (kindOf_of hsc rfl) D1.glob ?_
      repeat keq_rows
      refine OP.weak (hsv_call G' (by lia) D1 o1 fun lo l2 l3 _ => ?_)
      dsimp only [V.weak]
      refine AS_trip (AS_name (ST_local K (kindOf_of hsc rfl) (AS_name (ST_local K (kindOf_of hsc rfl) (AS_name (ST_local K (kindOf_of hsc rfl) ?_))))))
      repeat keq_rows
      obtain ⟨a2, fd2, D2⟩ := G'.hls
      refine EV_call_def G'.toStat K D2.fn (kindOf_of hsc rfl) D2.glob ?_
      repeat keq_rows
      refine hls_call G' (by lia) D2 o2 fun _ _ lo => ?_
      repeat keq_rows
      refine sub_trip (k := 1) rfl ?_
      repeat keq_rows
      refine EV_append ?_
      repeat keq_rows
      refine ⟨aC, 1, _, rfl, rfl, ?_⟩
      refine EV_weak ?_
      repeat keq_rows
      refine mul_if (l1 := 0) small64 ?_
      repeat keq_rows
      refine mul_if (l1 := 0) small64 ?_
      repeat keq_rows
      refine ⟨1, _, rfl, by simp; lia, ?_⟩
      repeat keq_rows
      refine ⟨_, List.Sublist.refl _, by keq_hits, ?_⟩
      have ht : (cols.take (k + 1)).map (fun x => fpv (arcF x)) = (cols.take k).map (fun x => fpv (arcF x)) ++ [fpv (arcF x)] := by
        rw [List.take_add_one, hx, List.map_append]; rfl
      rw [ht]
      rfl
    · rintro m' st' ⟨h1, rfl⟩
      rw [List.take_of_length_le (by simp)]
      repeat keq_rows
      exact ⟨_, .inl rfl, _, .refl _, hQ aC⟩

-- W12
/-- a turn of the forward round: the heap of (end, begin), the last lamp, the ends so far -/
noncomputable def fwdF : Nat → List P → Int → List Int → Option (Int × Int)
  | 0, _, _, _ => none
  | n + 1, q, last, ends =>
    let e := (q.getD 0 (0, 0)).1
    let b := (q.getD 0 (0, 0)).2
    if b ≤ last then fwdF n (siftupF (q.set 0 (e + 64, b + 64)) 0) last ends else
    if ¬ (0 ≤ e ∧ e < 8000) then none else
    if ends.any (fun x => x % 64 == e % 64) then
      some ((ends.length : Int) - (ends.findIdx fun x => x % 64 == e % 64), e - ends.getD (ends.findIdx fun x => x % 64 == e % 64) 0)
    else fwdF n q e (ends ++ [e])

/-- the floats of a lamp at e -/
noncomputable def lampH (e : Int) : UInt64 := Float64.ofFrac (decide (e < 0) != decide ((64 : Int) < 0)) e.natAbs (64 : Int).natAbs
noncomputable def LampOk (e : Int) (hu : UInt64) : Prop := Float64.isInf (lampH e) = false ∧ ∃ i, Whole (Float64.mul (lampH e) k6) i ∧ i.natAbs < 1000 ∧ hsvOk (rgbF (lampH e) k1 k1 i).1 (rgbF (lampH e) k1 k1 i).2.1 (rgbF (lampH e) k1 k1 i).2.2 ∧
  (hsvF (rgbF (lampH e) k1 k1 i).1 (rgbF (lampH e) k1 k1 i).2.1 (rgbF (lampH e) k1 k1 i).2.2).1 = hu ∧ Float64.cmpInt (Float64.mul k64 hu) (e.fmod 64) = some .eq
structure LampsOk (hu : Int → UInt64) : Prop where
  ok : ∀ e, 0 ≤ e → e < 8000 → LampOk e (hu e)
  eq : ∀ e e', 0 ≤ e → e < 8000 → 0 ≤ e' → e' < 8000 → feq (hu e) (hu e') = (e % 64 == e' % 64)

noncomputable def swapP (v : V) : Option V := match v with | .pair a b => some (.pair b a) | _ => none
theorem swapP_map : ∀ l : List P, (l.map pv).filterMap swapP = (l.map fun p => (p.2, p.1)).map pv
  | [] => rfl
  | x :: l => by
    rw [List.map_cons, List.filterMap_cons]
    show _ :: _ = _ :: _
    rw [swapP_map l]
    rfl

set_option maxHeartbeats 2000000 in
theorem forward_call {c : Ctx} {m : Loc} (G : Prog c.toBase) (hn : 3 < c.n) {a : Addr} {fd : FuncData} (D : Def c.toBase "_law_forward" 16 a fd) {st : Sto} {i : Nat} {aA : Addr} {as : List P} (hi : st[i]? = some (aA, .lst (as.map pv))) (hl : as.length < 1000) (hpos : 0 < as.length)
    {hu : Int → UInt64} (FF : LampsOk hu) {n : Nat} {ans : Int × Int} (hrun : fwdF n (hfF (as.length / 2) (as.map fun p => (p.2, p.1))) (-1) [] = some ans) (hn8 : n < 100000)
    {Q : V → Sto → Prop} (hQ : Q (pv ans) st) : OP c m (fun vs => call (.ref a) vs) [.ref aA] st Q :=
  OP_sub <| D.call (names := ["arcs"]) G.toStat (by lia) rfl (by kat_tups) (by decide) (by decide) (by decide) fun c' env hB hn' T K hsc => by
    have G' : Prog c'.toBase := hB ▸ G
    refine EX_hide fun Q' hQ' => ?_
    refine EX_cons ?_
    refine EX_assign_comp K (kindOf_of hsc rfl) (swaps_yes K (kindOf_of hsc rfl) (by decide)) (closure_none _ (by decide)) rfl (by decide) ?_
    repeat keq_rows
    have hc : ∀ cs, CellsOf ([(".0", .local), ("begin", .local), ("end", .local)] : List (Str × NameKind)) cs → cs = [] := fun cs h => cells_tl (cells_tl (cells_tl h))
    refine CompOf.plain swapP (i := i) hi (by simp; lia) ?_ hc ?_ fun aQ => ?_
    · simp [targetOk, pv]
    · intro c2 env2 hB2 hn2 T2 K2 hsc2 hcs2 y hy m2 e1 e2
      have hsc2 := hsc2.trans (relabel_of hsc)
      obtain ⟨p, hp, rfl⟩ := List.mem_map.mp hy
      refine AS_pair (AS_name (ST_local K2 (kindOf_of hsc2 rfl) (AS_name (ST_local K2 (kindOf_of hsc2 rfl) ⟨rfl, rfl, ?_⟩))))
      first | refine ite_t ?_ | rw [if_pos rfl]
      repeat keq_rows
      exact ⟨.refl _, rfl⟩
    rw [swapP_map]
    have hql : (as.map fun p => (p.2, p.1)).length = as.length := by simp
    generalize (as.map fun p => (p.2, p.1)) = q0 at hrun hql
    repeat keq_rows
    obtain ⟨a1, fd1, D1⟩ := G'.heapify
    refine EV_call_def G'.toStat K D1.fn (kindOf_of hsc rfl) D1.glob ?_
    repeat keq_rows
    refine heapify_call (i := 0) (l := q0) G' (by lia) D1 rfl (by lia) ?_
    rw [hql]
    have hq1l : (hfF (as.length / 2) q0).length = as.length := by rw [hfF_length, hql]
    generalize hfF (as.length / 2) q0 = q1 at hrun hq1l
    dsimp only [List.set]
    repeat keq_rows
    refine EV_unop ?_
    repeat keq_rows
    refine neg_i ?_
    repeat keq_rows
    refine EV_list (EVs_nil ⟨by decide, fun aE => ?_⟩)
    repeat keq_rows
    refine EV_list (EVs_nil ⟨by decide, fun aH => ?_⟩)
    repeat kct_strs
    refine EX_toHue (i := 0) (a := aH) rfl ?_
    dsimp only [List.set]
    keq_rows
    obtain ⟨J, hJ⟩ : ∃ J : Nat → Loc → Sto → Prop, J = fun n m' st' => ∃ (q : List P) (last : Int) (ends : List Int) (N : Nat), n < 100000 ∧ fwdF n q last ends = some ans ∧ q.length = as.length ∧ (∀ e ∈ ends, 0 ≤ e ∧ e < 8000) ∧ ends.length + n < 100001 ∧
      Has m' "queue" (.ref aQ) ∧ Has m' "last" (.int last) ∧ Has m' "ends" (.ref aE) ∧ Has m' "hues" (.ref aH) ∧
      st' = (aH, Ent.hue (ends.map hu) N) :: (aE, Ent.lst (ends.map V.int)) :: (aQ, Ent.lst (q.map pv)) :: st := ⟨_, rfl⟩
    refine EX_while J ?_ n ?_
    · intro n m' st' hj
      rw [hJ] at hj
      obtain ⟨q, last, ends, N, hn9, hf, hq, hends, hel, h1, h2, h3, h4, rfl⟩ := hj
      refine TR_value (EV_bool ⟨_, rfl, ?_⟩)
      first | refine ite_t ?_ | rw [if_pos rfl]
      refine EX_cons (EX_assign_tuple ?_ rfl rfl)
      repeat keq_rows
      refine subP (i := 2) (l := q) rfl 0 rfl (by lia) (by lia) ?_
      rcases n with _ | n
      · exact absurd hf (by simp [fwdF])
      unfold fwdF at hf
      dsimp only at hf
      have hq0 : q.getD 0 (0, 0) = ((q.getD 0 (0, 0)).1, (q.getD 0 (0, 0)).2) := rfl
      generalize (q.getD 0 (0, 0)).1 = e at hf hq0
      generalize (q.getD 0 (0, 0)).2 = b at hf hq0
      rw [hq0]
      refine AS_pair (AS_name (ST_local K (kindOf_of hsc rfl) (AS_name (ST_local K (kindOf_of hsc rfl) ?_))))
      dsimp only
      repeat keq_rows
      by_cases hbl : b ≤ last
      · first | refine ite_dT hbl ?_ | rw [decide_eq_true hbl, if_pos rfl]
        rw [if_pos hbl] at hf
        repeat keq_rows
        obtain ⟨a2, fd2, D2⟩ := G'.heapreplace
        refine EV_call_def G'.toStat K D2.fn (kindOf_of hsc rfl) D2.glob ?_
        repeat keq_rows
        refine heapreplace_call (i := 2) (l := q) (p := (e + 64, b + 64)) G' (by lia) D2 rfl (by lia) (by lia) ?_
        rw [hq0]
        repeat keq_rows
        refine ne_pp rfl ?_
        repeat keq_rows
        rw [show (!peq (V.pair (.int e) (.int b)) (V.pair (.int e) (.int b))) = false by simp [peq, veq], if_neg (by decide)]
        repeat keq_rows
        exact ⟨_, .refl _, n, Nat.lt_succ_self _, by rw [hJ]; exact ⟨_, last, ends, N, by lia, hf, by rw [siftupF_length]; simpa using hq, hends, by lia, by keq_hits, by keq_hits, by keq_hits, by keq_hits, rfl⟩⟩
      · first | refine ite_dF hbl ?_ | rw [decide_eq_false hbl, if_neg (by decide)]
        rw [if_neg hbl] at hf
        by_cases hrange : 0 ≤ e ∧ e < 8000
        · rw [if_neg (by simpa using hrange)] at hf
          obtain ⟨r1, i', r2, r3, r4, r5, r6⟩ := FF.ok e hrange.1 hrange.2
          repeat keq_rows
          refine EX_assign_tuple ?_ rfl rfl
          obtain ⟨a2, fd2, D2⟩ := G'.rgb
          refine EV_call_def G'.toStat K D2.fn (kindOf_of hsc rfl) D2.glob ?_
          repeat keq_rows
          refine div_ii (by decide) r1 ?_
          repeat keq_rows
          refine rgb_call (h := lampH e) (s := k1) (v := k1) G' (by lia) D2 r2 r3 ?_
          refine AS_trip (AS_name (ST_local K (kindOf_of hsc rfl) (AS_name (ST_local K (kindOf_of hsc rfl) (AS_name (ST_local K (kindOf_of hsc rfl) ?_))))))
          repeat keq_rows
          obtain ⟨a3, fd3, D3⟩ := G'.hsv
          refine EV_call_def G'.toStat K D3.fn (kindOf_of hsc rfl) D3.glob ?_
          repeat keq_rows
          refine hsv_call G' (by lia) D3 r4 fun lo l2 l3 hlo => ?_
          rw [r5]
          repeat keq_rows
          refine sub_trip (k := 0) rfl ?_
          repeat keq_rows
          refine mul_if (l1 := 0) small64 ?_
          repeat keq_rows
          refine mod_ii (by decide) ?_
          repeat keq_rows
          refine ne_fi (l2 := 0) ?_
          repeat keq_rows
          rw [show (Float64.cmpInt (Float64.mul (Float64.ofInt 64) (hu e)) (e.fmod 64) != some Ordering.eq) = false by rw [show Float64.ofInt 64 = k64 from rfl, r6]; rfl, if_neg (by decide)]
          repeat keq_rows
          have hNlo : N ≤ lo := hlo.1 _ (List.mem_cons_self ..) _ _ rfl
          refine in_hue (i := 0) G'.toStat rfl hNlo hlo.2 ?_
          repeat keq_rows
          have hfe : ∀ x ∈ ends, feq (hu x) (hu e) = (x % 64 == e % 64) := fun x hx => FF.eq x e (hends x hx).1 (hends x hx).2 hrange.1 hrange.2
          have hany : ((ends.map hu).any fun y => feq y (hu e)) = ends.any fun x => x % 64 == e % 64 := by
            rw [List.any_map]
            apply Bool.eq_iff_iff.mpr
            simp only [List.any_eq_true, Function.comp]
            exact ⟨fun ⟨x, hx, h⟩ => ⟨x, hx, by rw [← hfe x hx]; exact h⟩, fun ⟨x, hx, h⟩ => ⟨x, hx, by rw [hfe x hx]; exact h⟩⟩
          rw [hany]
          cases ha : ends.any fun x => x % 64 == e % 64 with
          | true =>
            first | refine ite_t ?_ | rw [if_pos rfl]
            rw [ha, if_pos rfl] at hf
            have hk : (ends.findIdx fun x => x % 64 == e % 64) < ends.length := by
              obtain ⟨x, hx, h⟩ := List.any_eq_true.mp ha
              exact List.findIdx_lt_length_of_exists ⟨x, hx, h⟩
            have hk1 := List.findIdx_getElem (w := hk)
            have hk2 : ∀ i (h : i < (ends.findIdx fun x => x % 64 == e % 64)), (ends[i]'(by lia) % 64 == e % 64) = false := fun i h => by
              have := List.not_of_lt_findIdx h
              simpa using this
            obtain ⟨k, hk, hk1, hk2, hf⟩ : ∃ k, ∃ hk : k < ends.length, (ends[k] % 64 == e % 64) = true ∧ (∀ i (h : i < k), (ends[i]'(by lia) % 64 == e % 64) = false) ∧ some ((ends.length : Int) - (k : Int), e - ends.getD k 0) = some ans := ⟨_, hk, hk1, hk2, hf⟩
            keq_rows
            refine EX_assign (EV_index_hue G'.toStat ?_) rfl
            repeat keq_rows
            refine ⟨aH, 0, _, _, rfl, rfl, ?_⟩
            repeat keq_rows
            refine ⟨0, ends.map hu, N, hu e, lo, k, rfl, rfl, hNlo, hlo.2, by lia, ⟨by simpa using hk, ?_, ?_⟩, ?_⟩
            · rw [List.getElem_map, hfe _ (List.getElem_mem _)]; exact hk1
            · intro i hi hik
              rw [List.getElem_map, hfe _ (List.getElem_mem _)]
              exact hk2 i hik
            repeat keq_rows
            refine EV_call_bi G'.toStat K (kindOf_of hsc rfl) G'.len rfl (by decide) ?_
            repeat keq_rows
            refine call_len (i := 1) rfl (by simp; lia) ?_
            rw [List.length_map]
            repeat keq_rows
            refine sub_list (i := 1) (x := V.int (ends.getD k 0)) rfl (by lia) (by lia) (by simp [hk]) ?_
            repeat keq_rows
            obtain rfl := Option.some.inj hf
            exact ⟨_, .refl _, hQ' _ _ _ ⟨_, .inl rfl, st, SubP.of_sub (((List.Sublist.refl _).cons _).cons _ |>.cons _), hQ⟩⟩
          | false =>
            first | refine ite_f ?_ | rw [if_neg (by decide)]
            rw [ha, if_neg (by decide)] at hf
            keq_rows
            keq_rows
            refine EX_cons (EX_expr (EV_append_hue ?_) (not_inter K) rfl)
            repeat keq_rows
            refine ⟨aH, 0, _, _, rfl, rfl, ?_⟩
            repeat keq_rows
            refine ⟨0, ends.map hu, N, hu e, lo, rfl, hlo.2, rfl, by simp; lia, fun N' => ?_⟩
            repeat keq_rows
            refine EV_append ?_
            repeat keq_rows
            refine ⟨aE, 1, _, rfl, rfl, ?_⟩
            repeat keq_rows
            refine ⟨1, _, rfl, by simp; lia, ?_⟩
            repeat keq_rows
            refine ⟨_, .refl _, n, Nat.lt_succ_self _, ?_⟩
            rw [hJ]
            refine ⟨q, e, ends ++ [e], N', by lia, hf, hq, ?_, by simp; lia, by keq_hits, by keq_hits, by keq_hits, by keq_hits, ?_⟩
            · intro x hx
              rcases List.mem_append.mp hx with h | h
              · exact hends x h
              · rw [List.mem_singleton.mp h]; exact hrange
            · rw [List.map_append, List.map_append]; rfl
        · rw [if_pos hrange] at hf
          exact absurd hf (by simp)
    · rw [hJ]; exact ⟨q1, -1, [], 0, hn8, hrun, hq1l, by simp, by simp; lia, by keq_hits, by keq_hits, by keq_hits, by keq_hits, rfl⟩

-- W13
section
variable {c : Ctx} {m : Loc} {st : Sto} {env : Env}
theorem OP_defA (args : List Value → Args) {a : Addr} {fd : FuncData} {body : List Stmt} {names : List Str} {xs ys : List V} {Q : V → Sto → Prop} (G : Stat c.toBase) (F : IsFn c.toBase a fd body) (hn : 0 < c.n)
    (hbind : ∀ s vs, RepL s xs vs → (∀ b o, c.g0.get? b = some o → s.heap.get? b = some o) → ∃ keq_rows, RepL s ys keq_rows ∧ keq_rows.length = names.length ∧ BindsTo s fd (args vs) (names.zip keq_rows))
    (hcell : ∀ x ∈ fd.scope.names, x.2 ≠ .cell) (hloc : ∀ x ∈ names, fd.scope.names.lookup x = some .local) (hnd : names.Nodup)
    (h : ∀ c' env, c'.toBase = c.toBase → c'.n + 1 = c.n → TimeOk st c' ∧ 0 < c'.clk → EnvOk c' env → env.scope = fd.scope → env.code = fd.code → EX c' (execs body env) (names.zip ys) st fun fl _ st' => ∃ v, (fl = .ret v ∨ (fl = .next ∧ v = .none)) ∧ Q v st') (hne : 0 < names.length := by decide) :
    OP c m (fun vs => call (.ref a) (args vs).pos (args vs).kw) xs st Q := fun A s tm vs P E R S r k => by
  obtain ⟨o, ho, hd⟩ := F.obj
  obtain ⟨keq_rows, rw', hlen, hb⟩ := hbind s vs r S.stat
  have U : Under c st s (calleeOf c st s) := ⟨rfl, rfl, rfl, Nat.le_refl _, Nat.le_succ _⟩
  refine wpAny_call (codeAny_call_def (by have := R.2.1; show A.depth < 1000; lia) (S.stat _ _ ho) hd (G.nolimit.keeps S.stat) (F.code.keeps S.stat) F.body hb hcell (fun x hx => hloc x.1 ?_) (fun h0 hns hk => ?_) F.co F.gen F.kind)
  · exact (List.of_mem_zip hx).1
  · have S1 := S.enter U (m' := names.zip ys) (mc := fun x => (names.zip keq_rows).reverse.lookup x) hns hk (Nat.le_add_right s.toks (names.zip keq_rows).length) (by show s.toks + 1 ≤ s.toks + (names.zip keq_rows).length; rw [List.length_zip]; lia) (fun x v e => by
      obtain ⟨cv, e1, r1⟩ := zip_rep rw' x v e
      refine ⟨cv, lookup_rev ?_ e1, r1⟩
      rw [List.map_fst_zip (by lia)]
      exact hnd)
    refine h (calleeOf c st s) (callEnv fd s.heap.objs.size a) rfl ?_ ?_ ?_ rfl rfl _ _ tm _ _ ?_ S1 fun f fl m' st' s' S' rf ⟨v, hv, q⟩ => ?_
    · show c.n - 1 + 1 = c.n; lia
    · refine ⟨fun p hp l N e => ?_, Nat.succ_pos _⟩
      obtain ⟨o', g1, g2⟩ := S.ents p hp
      rw [e] at g2
      obtain ⟨_, _, _, _, g3⟩ := g2
      exact Nat.le_succ_of_le g3
    · exact ⟨rfl, F.globals, F.builtins, F.kind⟩
    · refine ⟨R.1, ?_, ?_⟩
      · have := R.2.1; show A.depth + 1 + (c.n - 1) < 900; lia
      · have := R.2.2; show A.units + 3 + 8 * (c.n - 1) + 100 < 9900; lia
    · have S2 := S.back U S'
      rcases hv with e | ⟨e, ev⟩
      · subst e
        obtain ⟨cv, e, rr⟩ := rf
        subst e
        exact k cv v st' s' (S2.tmp rr) q
      · subst e ev
        have : f = .next := rf
        subst this
        exact k .none .none st' s' (S2.tmp (x := .none) rfl) q


end
/-- a def with the defaults lo=0, hi=None, key=None -/
structure DefB (B : Base) (n : Str) (i : Nat) (a : Addr) (fd : FuncData) : Prop where
  glob : B.mg n = some (.ref a)
  fn : IsFn B a fd (bodyOf (stm i))
  scope : fd.scope = scopeOf (stm i)
  params : fd.params = argsOf (stm i)
  pos : ∃ T o t k, fd.defaults = .ref T ∧ B.g0.get? T = some o ∧ o.data = .seq #[.int 0 t, .none] k
  kw : ∃ D mc, fd.kwdefaults = .ref D ∧ B.g0.Ns D mc ∧ mc "key" = some .none
structure ProgB (B : Base) : Prop extends Prog B where
  insort : ∃ a fd, DefB B "insort_right" 1 a fd
  right : ∃ a fd, DefB B "bisect_right" 2 a fd
  left : ∃ a fd, DefB B "bisect_left" 3 a fd

noncomputable def bnames : List Str := ["a", "x", "lo", "hi", "key"]

theorem bind2 {fd : FuncData} {s : Shared} {T D : Addr} {o : Obj} {t : Tok} {n : Nat} {mc : Str → Option Value} (hp : fd.params = argsOf (stm 1))
    (hd : fd.defaults = .ref T) (ho : s.heap.get? T = some o) (hs : o.data = .seq #[.int 0 t, .none] n) (hD : fd.kwdefaults = .ref D) (hk : s.heap.Ns D mc) (hkv : mc "key" = some .none) (v w : Value) : BindsTo s fd ⟨[v, w], []⟩ (bnames.zip [v, w, .int 0 t, .none, .none]) := by
  intro M A E Q hq
  obtain ⟨fields⟩ := fd
  simp only at hp hd hD
  subst hp hd hD
  have hns : ∀ Q', Q' (some Value.none) s → wpAny M A (nsGet D "key") Q' E s := fun Q' h => wpAny_nsGet hk (by rw [hkv]; exact h)
  refine wpAny_bind (wpAny_pure ?_)
  refine wpAny_bind (wpAny_seqItems ho hs ?_)
  repeat (first | exact hq | refine wpAny_pure ?_ | refine hns _ ?_ | refine wpAny_bind ?_)
theorem bind4 {fd : FuncData} {s : Shared} {T D : Addr} {o : Obj} {t : Tok} {n : Nat} {mc : Str → Option Value} (hp : fd.params = argsOf (stm 2))
    (hd : fd.defaults = .ref T) (ho : s.heap.get? T = some o) (hs : o.data = .seq #[.int 0 t, .none] n) (hD : fd.kwdefaults = .ref D) (hk : s.heap.Ns D mc) (hkv : mc "key" = some .none) (v w u z : Value) : BindsTo s fd ⟨[v, w, u, z], []⟩ (bnames.zip [v, w, u, z, .none]) := by
  intro M A E Q hq
  obtain ⟨fields⟩ := fd
  simp only at hp hd hD
  subst hp hd hD
  have hns : ∀ Q', Q' (some Value.none) s → wpAny M A (nsGet D "key") Q' E s := fun Q' h => wpAny_nsGet hk (by rw [hkv]; exact h)
  refine wpAny_bind (wpAny_pure ?_)
  refine wpAny_bind (wpAny_seqItems ho hs ?_)
  repeat (first | exact hq | refine wpAny_pure ?_ | refine hns _ ?_ | refine wpAny_bind ?_)
theorem bindK {fd : FuncData} {s : Shared} {T D : Addr} {o : Obj} {t : Tok} {n : Nat} {mc : Str → Option Value} (hp : fd.params = argsOf (stm 3))
    (hd : fd.defaults = .ref T) (ho : s.heap.get? T = some o) (hs : o.data = .seq #[.int 0 t, .none] n) (hD : fd.kwdefaults = .ref D) (hk : s.heap.Ns D mc) (hkv : mc "key" = some .none) (v w kv : Value) : BindsTo s fd ⟨[v, w], [("key", kv)]⟩ (bnames.zip [v, w, .int 0 t, .none, kv]) := by
  intro M A E Q hq
  obtain ⟨fields⟩ := fd
  simp only at hp hd hD
  subst hp hd hD
  have hns : ∀ Q', Q' (some Value.none) s → wpAny M A (nsGet D "key") Q' E s := fun Q' h => wpAny_nsGet hk (by rw [hkv]; exact h)
  refine wpAny_bind (wpAny_pure ?_)
  refine wpAny_bind (wpAny_seqItems ho hs ?_)
  repeat (first | exact hq | refine wpAny_pure ?_ | refine hns _ ?_ | refine wpAny_bind ?_)

-- W14
local macro_rules | `(tactic| kct_strs) => `(tactic| first | (with_reducible refine' is_none ?_) | (with_reducible refine' EV_none ?_))

section
variable {c : Ctx} {m : Loc} {st : Sto}
theorem DefB.call2 {n : Str} {a : Addr} {fd : FuncData} {x y : V} {Q : V → Sto → Prop} (D : DefB c.toBase n 1 a fd) (G : Stat c.toBase) (hn : 0 < c.n)
    (hcell : ∀ x ∈ (scopeOf (stm 1)).names, x.2 ≠ .cell) (hloc : ∀ x ∈ bnames, (scopeOf (stm 1)).names.lookup x = some .local)
    (h : ∀ c' env, c'.toBase = c.toBase → c'.n + 1 = c.n → TimeOk st c' ∧ 0 < c'.clk → EnvOk c' env → env.scope = scopeOf (stm 1) → EX c' (execs (bodyOf (stm 1)) env) (bnames.zip [x, y, .int 0, .none, .none]) st fun fl _ st' => ∃ v, (fl = .ret v ∨ (fl = .next ∧ v = .none)) ∧ Q v st') :
    OP c m (fun vs => call (.ref a) vs) [x, y] st Q :=
  OP_def G D.fn hn (fun s vs r hk => by
    obtain ⟨T, o, t, k, hd, ho, hs⟩ := D.pos
    obtain ⟨Dk, mc, hkw, hns, hkey⟩ := D.kw
    obtain ⟨v, w, rfl, r1, r2⟩ := RepL.two r
    exact ⟨[v, w, .int 0 t, .none, .none], ⟨r1, r2, ⟨t, rfl⟩, rfl, rfl, trivial⟩, rfl, bind2 D.params hd (hk _ _ ho) hs hkw (hns.keeps hk) hkey v w⟩)
    (D.scope ▸ hcell) (D.scope ▸ hloc) (by decide) fun c' env h1 h2 h3 h4 h5 _ => h c' env h1 h2 h3 h4 (h5.trans D.scope)
theorem DefB.call4 {n : Str} {a : Addr} {fd : FuncData} {x y l hi : V} {Q : V → Sto → Prop} (D : DefB c.toBase n 2 a fd) (G : Stat c.toBase) (hn : 0 < c.n)
    (hcell : ∀ x ∈ (scopeOf (stm 2)).names, x.2 ≠ .cell) (hloc : ∀ x ∈ bnames, (scopeOf (stm 2)).names.lookup x = some .local)
    (h : ∀ c' env, c'.toBase = c.toBase → c'.n + 1 = c.n → TimeOk st c' ∧ 0 < c'.clk → EnvOk c' env → env.scope = scopeOf (stm 2) → EX c' (execs (bodyOf (stm 2)) env) (bnames.zip [x, y, l, hi, .none]) st fun fl _ st' => ∃ v, (fl = .ret v ∨ (fl = .next ∧ v = .none)) ∧ Q v st') :
    OP c m (fun vs => call (.ref a) vs) [x, y, l, hi] st Q :=
  OP_def G D.fn hn (fun s vs r hk => by
    obtain ⟨T, o, t, k, hd, ho, hs⟩ := D.pos
    obtain ⟨Dk, mc, hkw, hns, hkey⟩ := D.kw
    obtain ⟨v, w, u, z, rfl, r1, r2, r3, r4⟩ := RepL.four r
    exact ⟨[v, w, u, z, .none], ⟨r1, r2, r3, r4, rfl, trivial⟩, rfl, bind4 D.params hd (hk _ _ ho) hs hkw (hns.keeps hk) hkey v w u z⟩)
    (D.scope ▸ hcell) (D.scope ▸ hloc) (by decide) fun c' env h1 h2 h3 h4 h5 _ => h c' env h1 h2 h3 h4 (h5.trans D.scope)
/-- two arguments and key= -/
noncomputable def argsK (vs : List Value) : Args := ⟨vs.take 2, [("key", vs.getD 2 .none)]⟩
theorem DefB.callK {n : Str} {a : Addr} {fd : FuncData} {x y z : V} {Q : V → Sto → Prop} (D : DefB c.toBase n 3 a fd) (G : Stat c.toBase) (hn : 0 < c.n)
    (hcell : ∀ x ∈ (scopeOf (stm 3)).names, x.2 ≠ .cell) (hloc : ∀ x ∈ bnames, (scopeOf (stm 3)).names.lookup x = some .local)
    (h : ∀ c' env, c'.toBase = c.toBase → c'.n + 1 = c.n → TimeOk st c' ∧ 0 < c'.clk → EnvOk c' env → env.scope = scopeOf (stm 3) → EX c' (execs (bodyOf (stm 3)) env) (bnames.zip [x, y, .int 0, .none, z]) st fun fl _ st' => ∃ v, (fl = .ret v ∨ (fl = .next ∧ v = .none)) ∧ Q v st') :
    OP c m (fun vs => call (.ref a) (argsK vs).pos (argsK vs).kw) [x, y, z] st Q :=
  OP_defA argsK G D.fn hn (fun s vs r hk => by
    obtain ⟨T, o, t, k, hd, ho, hs⟩ := D.pos
    obtain ⟨Dk, mc, hkw, hns, hkey⟩ := D.kw
    obtain ⟨v, w, u, rfl, r1, r2, r3⟩ := RepL.three r
    exact ⟨[v, w, .int 0 t, .none, u], ⟨r1, r2, ⟨t, rfl⟩, rfl, r3, trivial⟩, rfl, bindK D.params hd (hk _ _ ho) hs hkw (hns.keeps hk) hkey v w u⟩)
    (D.scope ▸ hcell) (D.scope ▸ hloc) (by decide) fun c' env h1 h2 h3 h4 h5 _ => h c' env h1 h2 h3 h4 (h5.trans D.scope)
end

noncomputable def brF (l : List P) (x : P) (lo hi : Nat) : Nat :=
  if h : lo < hi then (if ltP x (l.getD ((lo + hi) / 2) (0, 0)) then brF l x lo ((lo + hi) / 2) else brF l x ((lo + hi) / 2 + 1) hi) else lo
termination_by hi - lo
decreasing_by all_goals lia
theorem brF_le (l : List P) (x : P) (lo hi : Nat) (h : lo ≤ hi) : brF l x lo hi ≤ hi := by
  induction hk : hi - lo using Nat.strongRecOn generalizing lo hi with
  | _ k ih =>
    rw [brF]
    split
    · split
      · exact Nat.le_trans (ih _ (by lia) lo ((lo + hi) / 2) (by lia) rfl) (by lia)
      · exact ih _ (by lia) ((lo + hi) / 2 + 1) hi (by lia) rfl
    · exact h
theorem midI (lo hi : Nat) : ((lo : Int) + hi).fdiv 2 = ((lo + hi) / 2 : Nat) := by
  rw [Int.fdiv_eq_ediv_of_nonneg _ (by decide)]; lia

theorem right_call {c : Ctx} {m : Loc} (G : ProgB c.toBase) (hn : 0 < c.n) {a : Addr} {fd : FuncData} (D : DefB c.toBase "bisect_right" 2 a fd) {st : Sto} {i : Nat} {h : Addr} {l : List P} {x : P} (hi : st[i]? = some (h, .lst (l.map pv))) (hlen : l.length < 1000)
    {Q : V → Sto → Prop} (hQ : Q (.int (brF l x 0 l.length : Nat)) st) : OP c m (fun vs => call (.ref a) vs) [.ref h, pv x, .int 0, .none] st Q :=
  D.call4 G.toStat hn (by decide) (by decide) fun c' env hB hn' T K hsc => by
    have G' : ProgB c'.toBase := hB ▸ G
    refine EX_cons ?_
    repeat keq_rows
    rw [show decide ((0 : Int) < 0) = false from rfl, if_neg (by decide)]
    repeat keq_rows
    rw [show V.none.isNone = true from rfl, if_pos rfl]
    repeat keq_rows
    refine EV_call_bi G'.toStat K (kindOf_of hsc rfl) G'.len rfl (by decide) ?_
    repeat keq_rows
    refine call_len hi (by simp; lia) ?_
    rw [List.length_map]
    repeat keq_rows
    rw [show V.none.isNone = true from rfl, if_pos rfl]
    repeat keq_rows
    obtain ⟨J, hJ⟩ : ∃ J : Nat → Loc → Sto → Prop, J = fun n m' st' => ∃ lo hi' : Nat, n = hi' - lo ∧ lo ≤ hi' ∧ hi' ≤ l.length ∧ brF l x lo hi' = brF l x 0 l.length ∧ Has m' "a" (.ref h) ∧ Has m' "x" (pv x) ∧ Has m' "lo" (.int lo) ∧ Has m' "hi" (.int hi') ∧ st' = st := ⟨_, rfl⟩
    refine EX_while J ?_ l.length ?_
    · intro n m' st' hj
      rw [hJ] at hj
      obtain ⟨lo, hi', rfl, hle, hhi, hbr, h1, h2, h3, h4, rfl⟩ := hj
      repeat keq_rows
      by_cases hlt : lo < hi'
      · first | refine ite_dT (show (lo : Int) < hi' by lia) ?_ | rw [decide_eq_true (show (lo : Int) < hi' by lia), if_pos rfl]
        have hb : brF l x lo hi' = if ltP x (l.getD ((lo + hi') / 2) (0, 0)) then brF l x lo ((lo + hi') / 2) else brF l x ((lo + hi') / 2 + 1) hi' := by
          rw [brF, dif_pos hlt]
        repeat keq_rows
        refine fdiv_ii (by decide) ?_ (by decide)
        rw [midI]
        repeat keq_rows
        refine subP hi ((lo + hi') / 2) rfl (by lia) hlen ?_
        refine lt_pv ⟨_, rfl, ?_⟩
        cases hc : ltP x (l.getD ((lo + hi') / 2) (0, 0)) with
        | true =>
          first | refine ite_t ?_ | rw [if_pos rfl]
          rw [hc, if_pos rfl] at hb
          repeat keq_rows
          exact ⟨_, .refl _, (lo + hi') / 2 - lo, by lia, by rw [hJ]; exact ⟨lo, (lo + hi') / 2, rfl, by lia, by lia, by rw [← hb]; exact hbr, by keq_hits, by keq_hits, by keq_hits, by keq_hits, rfl⟩⟩
        | false =>
          first | refine ite_f ?_ | rw [if_neg (by decide)]
          rw [hc, if_neg (by decide)] at hb
          repeat keq_rows
          exact ⟨_, .refl _, hi' - ((lo + hi') / 2 + 1), by lia, by rw [hJ]; exact ⟨(lo + hi') / 2 + 1, hi', rfl, by lia, by lia, by rw [← hb]; exact hbr, by keq_hits, by keq_hits, by exact lk_eq, by keq_hits, rfl⟩⟩
      · first | refine ite_dF (show ¬ (lo : Int) < hi' by lia) ?_ | rw [decide_eq_false (show ¬ (lo : Int) < hi' by lia), if_neg (by decide)]
        have hb : brF l x lo hi' = lo := by rw [brF, dif_neg hlt]
        repeat keq_rows
        refine ⟨_, .inl rfl, ?_⟩
        rw [← hb, hbr]
        exact hQ
    · rw [hJ]; exact ⟨0, l.length, by lia, by lia, by lia, rfl, by keq_hits, by keq_hits, by keq_hits, by keq_hits, rfl⟩

/-- insort_right's new row -/
noncomputable def insF (l : List P) (x : P) : List P := l.take (brF l x 0 l.length) ++ x :: l.drop (brF l x 0 l.length)
theorem insort_call {c : Ctx} {m : Loc} (G : ProgB c.toBase) (hn : 1 < c.n) {a : Addr} {fd : FuncData} (D : DefB c.toBase "insort_right" 1 a fd) {st : Sto} {i : Nat} {h : Addr} {l : List P} {x : P} (hi : st[i]? = some (h, .lst (l.map pv))) (hlen : l.length < 1000)
    {Q : V → Sto → Prop} (hQ : Q .none (st.set i (h, .lst ((insF l x).map pv)))) : OP c m (fun vs => call (.ref a) vs) [.ref h, pv x] st Q :=
  D.call2 G.toStat (by lia) (by decide) (by decide) fun c' env hB hn' T K hsc => by
    have G' : ProgB c'.toBase := hB ▸ G
    refine EX_cons ?_
    repeat keq_rows
    rw [show V.none.isNone = true from rfl, if_pos rfl]
    repeat keq_rows
    obtain ⟨a1, fd1, D1⟩ := G'.right
    refine EV_call_def G'.toStat K D1.fn (kindOf_of hsc rfl) D1.glob ?_
    repeat keq_rows
    refine right_call G' (by lia) D1 hi hlen ?_
    repeat keq_rows
    refine EV_insert ?_
    repeat keq_rows
    refine ⟨h, i, _, rfl, hi, ?_⟩
    repeat keq_rows
    refine ⟨_, i, _, rfl, hi, by simpa using brF_le l x 0 l.length (Nat.zero_le _), by simp; lia, ?_⟩
    have e : (l.map pv).take (brF l x 0 l.length) ++ pv x :: (l.map pv).drop (brF l x 0 l.length) = (insF l x).map pv := by
      unfold insF
      rw [List.map_append, List.map_cons, List.map_take, List.map_drop]
    rw [e]
    repeat keq_rows
    exact ⟨_, .inr ⟨rfl, rfl⟩, hQ⟩

-- W15
/-- a function made from an expression, with its code -/
structure LamAt (st : Sto) (ka : Addr) (fd : FuncData) (e : Expr) : Prop where
  obj : ∃ o, (ka, Ent.obj o) ∈ st ∧ o.data = .func fd
  body : fd.body = .expr e
  code : ∃ ca oc vs t, fd.code = .ref ca ∧ (ca, Ent.obj oc) ∈ st ∧ oc.data = .fields vs ∧ vs[1]? = some (.str fd.qualname t)
  globals : fd.globals = mainGlobals
  builtins : fd.builtins = builtinsNs
  kind : fd.scope.kind = .function
  co : fd.scope.isCoroutine = false
  gen : fd.scope.isGenerator = false
  clos : fd.closure = []
theorem LamAt.mono {st st' : Sto} {ka : Addr} {fd : FuncData} {e : Expr} (L : LamAt st ka fd e) (h : ∀ p ∈ st, p ∈ st') : LamAt st' ka fd e := by
  obtain ⟨⟨o, h1, h2⟩, hb, ⟨ca, oc, vs, t, h3, h4, h5, h6⟩, a1, a2, a3, a4, a5, a6⟩ := L
  exact ⟨⟨o, h _ h1, h2⟩, hb, ⟨ca, oc, vs, t, h3, h _ h4, h5, h6⟩, a1, a2, a3, a4, a5, a6⟩

section
variable {c : Ctx} {m : Loc} {st : Sto} {env : Env}
theorem In.obj_at {tm : List (V × Value)} {s : Shared} (S : In c m st tm s) {a : Addr} {o : Obj} (h : (a, Ent.obj o) ∈ st) : s.heap.get? a = some o := by
  obtain ⟨o', g, e, _⟩ := S.ents _ h
  subst e
  exact g
/-- a call of a local name that holds a function made on the way -/
theorem EV_call_lam {x : Str} {np pos : Pos} {e : Expr} {rest : List Expr} {ka : Addr} {o : Obj} {fd : FuncData} {Q : V → Sto → Prop} (K : EnvOk c env) (hx : env.kindOf x = some .local) (hv : m.lookup x = some (.ref ka)) (hd : o.data = .func fd)
    (h : EVs c m (spliced (backTo pos (starEach (e :: rest) env))) st fun xs st1 => (ka, Ent.obj o) ∈ st1 ∧ OP c m (fun vs => call (.ref ka) vs) xs st1 Q) (hdb : (x == ("__debug__" : Str)) = false := by decide)
    (he : starEach (e :: rest) env = (false, eval e env) :: starEach rest env := by rfl) :
    EV c m (eval (.Call (.Name x np) (e :: rest) [] pos) env) st Q := fun A s tm P E R S k => by
  refine wpAny_Call_ofName (EV_local K hx hv (Q := fun v st' => v = .ref ka ∧ st' = st) ⟨rfl, rfl⟩ hdb A s tm _ E R S fun v y st1 s1 S1 ⟨e1, e2⟩ => ?_)
  subst e1 e2
  have e : v = .ref ka := S1.hd
  subst e
  exact callWith_def hd (h A s1 tm _ E R S1.drop fun vs xs st2 s2 S2 r ⟨ho, q⟩ => ⟨S2.obj_at ho, q A s2 tm vs P E R S2 r k⟩) he

theorem OP_lam {ka : Addr} {fd : FuncData} {e : Expr} {names : List Str} {xs : List V} {Q : V → Sto → Prop} (G : Stat c.toBase) (L : LamAt st ka fd e) (hn : 0 < c.n) (hl : xs.length = names.length)
    (hbind : ∀ vs : List Value, vs.length = names.length → bindArgs fd ⟨vs, []⟩ = pure (names.zip vs))
    (hcell : ∀ x ∈ fd.scope.names, x.2 ≠ .cell) (hloc : ∀ x ∈ names, fd.scope.names.lookup x = some .local) (hnd : names.Nodup)
    (h : ∀ c' env, c'.toBase = c.toBase → c'.n + 1 = c.n → TimeOk st c' ∧ 0 < c'.clk → EnvOk c' env → env.scope = fd.scope → EV c' (names.zip xs) (eval e env) st Q) (hne : 0 < names.length := by decide) :
    OP c m (fun vs => call (.ref ka) vs) xs st Q := fun A s tm vs P E R S r k => by
  obtain ⟨o, ho, hd⟩ := L.obj
  obtain ⟨ca, oc, cvs, t, hc1, hc2, hc3, hc4⟩ := L.code
  have hvl : vs.length = names.length := by rw [r.length, hl]
  have U : Under c st s (calleeOf c st s) := ⟨rfl, rfl, rfl, Nat.le_refl _, Nat.le_succ _⟩
  have hcd : s.heap.CodeRec fd.code fd.qualname := ⟨ca, oc, cvs, t, hc1, S.obj_at hc2, hc3, hc4⟩
  refine wpAny_call (kla_callFunE (by have := R.2.1; show A.depth < 1000; lia) (S.obj_at ho) hd L.co L.gen L.body hcd (BindsTo.of_eq (hbind vs hvl) _ _ _ _ ?_))
  have hlim : s.heap.NoLimit := G.nolimit.keeps S.stat
  refine wpAny_newFunctionEnv hcell (fun x hx => hloc x.1 (List.of_mem_zip hx).1) (fun h₀ hns hsb => ⟨hlim.fresh _ hsb, kla_codeExpr ?_⟩) L.kind
  have hk : ∀ b o, s.heap.get? b = some o → h₀.get? b = some o := fun b o e => hsb.extBut b o (Nat.ne_of_lt (Heap.lt_size e)) (Heap.get?_push_of_some _ e)
  have S1 := S.enter U (m' := names.zip xs) (mc := fun x => (names.zip vs).reverse.lookup x) hns hk (Nat.le_add_right s.toks (names.zip vs).length) (by show s.toks + 1 ≤ s.toks + (names.zip vs).length; rw [List.length_zip]; lia) (fun x v e => by
      obtain ⟨cv, e1, r1⟩ := zip_rep r x v e
      refine ⟨cv, lookup_rev ?_ e1, r1⟩
      rw [List.map_fst_zip (by lia)]
      exact hnd)
  refine h (calleeOf c st s) _ rfl ?_ ?_ ?_ ?_ _ _ tm _ _ ?_ S1 fun v x st' s' S' q => ?_
  · show c.n - 1 + 1 = c.n; lia
  · refine ⟨fun p hp l N e => ?_, Nat.succ_pos _⟩
    obtain ⟨o', g1, g2⟩ := S.ents p hp
    rw [e] at g2
    obtain ⟨_, _, _, _, g3⟩ := g2
    exact Nat.le_succ_of_le g3
  · exact ⟨rfl, L.globals, L.builtins, L.kind⟩
  · rfl
  · refine ⟨R.1, ?_, ?_⟩
    · have := R.2.1; show A.depth + 1 + (c.n - 1) < 900; lia
    · have := R.2.2; show A.units + 3 + 8 * (c.n - 1) + 100 < 9900; lia
  · have S2 := S.back U (S'.drop)
    exact k v x st' s' (S2.tmp S'.hd) q
end

noncomputable def blF (l : List P) (x : Int) (lo hi : Nat) : Nat :=
  if h : lo < hi then (if (l.getD ((lo + hi) / 2) (0, 0)).1 < x then blF l x ((lo + hi) / 2 + 1) hi else blF l x lo ((lo + hi) / 2)) else lo
termination_by hi - lo
decreasing_by all_goals lia

/-- a key function that gives a pair's first -/
structure KeyAt (B : Base) (st : Sto) (ka : Addr) : Prop where
  obj : ∃ o fd, (ka, Ent.obj o) ∈ st ∧ o.data = .func fd
  call : ∀ (c2 : Ctx) (m2 : Loc), c2.toBase = B → 0 < c2.n → ∀ (p : P) (Q' : V → Sto → Prop), Q' (.int p.1) st → OP c2 m2 (fun vs => PySem.call (.ref ka) vs) [pv p] st Q'

set_option maxHeartbeats 1000000 in
theorem left_call {c : Ctx} {m : Loc} (G : ProgB c.toBase) (hn : 1 < c.n) {a : Addr} {fd : FuncData} (D : DefB c.toBase "bisect_left" 3 a fd) {st : Sto} {i : Nat} {h ka : Addr} {l : List P} {x : Int} (hi : st[i]? = some (h, .lst (l.map pv))) (hlen : l.length < 1000) (HK : KeyAt c.toBase st ka)
    {Q : V → Sto → Prop} (hQ : Q (.int (blF l x 0 l.length : Nat)) st) : OP c m (fun vs => call (.ref a) (argsK vs).pos (argsK vs).kw) [.ref h, .int x, .ref ka] st Q :=
  D.callK G.toStat (by lia) (by decide) (by decide) fun c' env hB hn' T K hsc => by
    have G' : ProgB c'.toBase := hB ▸ G
    obtain ⟨o, fdk, ho, hd⟩ := HK.obj
    refine EX_cons ?_
    repeat keq_rows
    rw [show decide ((0 : Int) < 0) = false from rfl, if_neg (by decide)]
    repeat keq_rows
    rw [show V.none.isNone = true from rfl, if_pos rfl]
    repeat keq_rows
    refine EV_call_bi G'.toStat K (kindOf_of hsc rfl) G'.len rfl (by decide) ?_
    repeat keq_rows
    refine call_len hi (by simp; lia) ?_
    rw [List.length_map]
    repeat keq_rows
    rw [show (V.ref ka).isNone = false from rfl, if_neg (by decide)]
    repeat keq_rows
    obtain ⟨J, hJ⟩ : ∃ J : Nat → Loc → Sto → Prop, J = fun n m' st' => ∃ lo hi' : Nat, n = hi' - lo ∧ lo ≤ hi' ∧ hi' ≤ l.length ∧ blF l x lo hi' = blF l x 0 l.length ∧ Has m' "a" (.ref h) ∧ Has m' "x" (.int x) ∧ Has m' "key" (.ref ka) ∧ Has m' "lo" (.int lo) ∧ Has m' "hi" (.int hi') ∧ st' = st := ⟨_, rfl⟩
    refine EX_while J ?_ l.length ?_
    · intro n m' st' hj
      rw [hJ] at hj
      obtain ⟨lo, hi', rfl, hle, hhi, hbr, h1, h2, h5, h3, h4, rfl⟩ := hj
      repeat keq_rows
      by_cases hlt : lo < hi'
      · first | refine ite_dT (show (lo : Int) < hi' by lia) ?_ | rw [decide_eq_true (show (lo : Int) < hi' by lia), if_pos rfl]
        have hb : blF l x lo hi' = if (l.getD ((lo + hi') / 2) (0, 0)).1 < x then blF l x ((lo + hi') / 2 + 1) hi' else blF l x lo ((lo + hi') / 2) := by
          rw [blF, dif_pos hlt]
        repeat keq_rows
        refine fdiv_ii (by decide) ?_ (by decide)
        rw [midI]
        repeat keq_rows
        refine EV_call_lam K (kindOf_of hsc rfl) (by keq_hits) hd ?_
        repeat keq_rows
        refine subP hi ((lo + hi') / 2) rfl (by lia) hlen ?_
        repeat keq_rows
        refine ⟨ho, HK.call c' _ hB (by lia) _ _ ?_⟩
        repeat keq_rows
        by_cases hc : (l.getD ((lo + hi') / 2) (0, 0)).1 < x
        · first | refine ite_dT hc ?_ | rw [decide_eq_true hc, if_pos rfl]
          rw [if_pos hc] at hb
          repeat keq_rows
          exact ⟨_, .refl _, hi' - ((lo + hi') / 2 + 1), by lia, by rw [hJ]; exact ⟨(lo + hi') / 2 + 1, hi', rfl, by lia, by lia, by rw [← hb]; exact hbr, by keq_hits, by keq_hits, by keq_hits, by exact lk_eq, by keq_hits, rfl⟩⟩
        · first | refine ite_dF hc ?_ | rw [decide_eq_false hc, if_neg (by decide)]
          rw [if_neg hc] at hb
          repeat keq_rows
          exact ⟨_, .refl _, (lo + hi') / 2 - lo, by lia, by rw [hJ]; exact ⟨lo, (lo + hi') / 2, rfl, by lia, by lia, by rw [← hb]; exact hbr, by keq_hits, by keq_hits, by keq_hits, by keq_hits, by keq_hits, rfl⟩⟩
      · first | refine ite_dF (show ¬ (lo : Int) < hi' by lia) ?_ | rw [decide_eq_false (show ¬ (lo : Int) < hi' by lia), if_neg (by decide)]
        have hb : blF l x lo hi' = lo := by rw [blF, dif_neg hlt]
        repeat keq_rows
        refine ⟨_, .inl rfl, ?_⟩
        rw [← hb, hbr]
        exact hQ
    · rw [hJ]; exact ⟨0, l.length, by lia, by lia, by lia, rfl, by keq_hits, by keq_hits, by keq_hits, by keq_hits, by keq_hits, rfl⟩

-- W16
section
variable {c : Ctx} {m : Loc} {st : Sto} {env : Env}

theorem In.adopt {tm : List (V × Value)} {s : Shared} (S : In c m st tm s) {a : Addr} {o : Obj} {e : Ent} (ho : s.heap.get? a = some o) (he : EntAt s o e) (hL : a ≠ c.L) (hg : c.g0.get? a = none) (hb : c.hb.objs.size ≤ a) (hn : a ∉ st.map (·.1)) : In c m ((a, e) :: st) tm s :=
  { S with
    ents := fun p hp => by
      rcases List.mem_cons.mp hp with rfl | hp
      · exact ⟨o, ho, he⟩
      · exact S.ents p hp
    apart := fun p hp => by
      rcases List.mem_cons.mp hp with rfl | hp
      · exact ⟨hL, hg, .inl hb⟩
      · exact S.apart p hp
    nodup := List.nodup_cons.mpr ⟨hn, S.nodup⟩ }

/-- two arguments and key= -/
theorem EV_call_kw {x : Str} {np kp pos : Pos} {e1 e2 ke : Expr} {a : Addr} {fd : FuncData} {body : List Stmt} {Q : V → Sto → Prop} (G : Stat c.toBase) (K : EnvOk c env) (F : IsFn c.toBase a fd body) (hx : env.kindOf x = some .globalImplicit) (hv : c.mg x = some (.ref a))
    (h : EVs c m (spliced (backTo pos (starEach [e1, e2] env))) st fun xs st1 => ∃ y z, xs = [y, z] ∧ EV c m (eval ke env) st1 fun w st2 => OP c m (fun vs => call (.ref a) (argsK vs).pos (argsK vs).kw) [y, z, w] st2 Q) (hd : (x == ("__debug__" : Str)) = false := by decide)
    (he : starEach [e1, e2] env = (false, eval e1 env) :: starEach [e2] env := by rfl) :
    EV c m (eval (.Call (.Name x np) [e1, e2] [⟨some "key", ke, kp⟩] pos) env) st Q := fun A s tm P E R S k => by
  obtain ⟨o, ho, hdat⟩ := F.obj
  refine wpAny_Call_ofName (EV_global G K hx hv (Q := fun v st' => v = .ref a ∧ st' = st) ⟨rfl, rfl⟩ hd A s tm _ E R S fun v y st1 s1 S1 ⟨e1', e2'⟩ => ?_)
  subst e1' e2'
  have e : v = .ref a := S1.hd
  subst e
  refine callWith_def_kw hdat ?_
  rw [he] at h ⊢
  refine evalArgs_kw rfl (h A s1 tm _ E R S1.drop fun vs xs st2 s2 S2 r ⟨y, z, exs, q⟩ => ?_)
  subst exs
  refine wpAny_evalAll_cons (wpAny_bind (q A s2 _ _ E R (S2.tmpL r) fun w wv st3 s3 S3 q3 => wpAny_bind (wpAny_standAt (wpAny_pure (wpAny_evalAll_nil ?_)))))
  have r3 : RepL s3 [y, z] vs := repL_of_zip r fun p hp => S3.tms p (by simp [hp])
  refine ⟨S3.stat _ _ ho, ?_⟩
  obtain ⟨v1, v2, rfl, q1, q2⟩ := RepL.two r3
  exact q3 A s3 tm [v1, v2, w] _ E R (S3.drop.dropL) ⟨q1, q2, S3.hd, trivial⟩ fun v x st' s' S' qq => k v x st' s' S' qq
end

-- W17
/-- a code object for functions of this name -/
noncomputable def CodeIn (st : Sto) (ca : Addr) (q : Str) : Prop := ∃ oc vs t, (ca, Ent.obj oc) ∈ st ∧ oc.data = .fields vs ∧ vs[1]? = some (.str q t)
/-- a fresh function from an expression -/
noncomputable def LamFn (fd : FuncData) (q : Str) (params : Arguments) (body : Expr) (scope : Scope) (ca : Addr) : Prop :=
  fd.qualname = q ∧ fd.params = params ∧ fd.body = .expr body ∧ fd.scope = scope ∧ fd.globals = mainGlobals ∧ fd.builtins = builtinsNs ∧ fd.closure = [] ∧ fd.code = .ref ca ∧ fd.defaults = .none ∧ fd.kwdefaults = .none

section
variable {c : Ctx} {m : Loc} {st : Sto} {env : Env}
theorem EV_lambda {params : Arguments} {body : Expr} {scope : Scope} {pos : Pos} {i : Nat} {P cc : Addr} {ps : Array Value} {Q : V → Sto → Prop} (G : Stat c.toBase) (K : EnvOk c env) (hcode : env.code = .ref cc) (C : CodeHd c.g0 cc P) (hb : c.g0.BuiltinsAt c.mg P)
    (hdef : defaultsOf params env = ([], [])) (hcl : closureFor scope env = pure []) (hi : st[i]? = some (P, .obj (tabObj ps))) (ht : TriplesOk ps.toList) (hnf : codeAmong pos ps.toList = none)
    (h : ∀ ka ca o oc vs t fd, o.data = .func fd → LamFn fd (env.qual ++ "<lambda>") params body scope ca → oc.data = .fields vs → vs[1]? = some (.str (env.qual ++ "<lambda>") t) →
      Q (.ref ka) ((ka, .obj o) :: (ca, .obj oc) :: st.set i (P, .obj (tabObj (ps ++ #[rawInt pos.line, rawInt pos.col, .ref ca]))))) :
    EV c m (eval (.Lambda params body scope pos) env) st Q := fun A s tm P' E R S k => by
  refine kla_eval hdef ?_
  rw [makeFunction_eq]
  simp only [List.zip_nil_right, List.filterMap_nil, List.isEmpty_nil, if_true, pure_bind]
  have hP : s.heap.get? P = some (tabObj ps) := S.obj_at (List.mem_of_getElem? hi)
  have hPg : c.g0.get? P = none := (S.apart _ (List.mem_of_getElem? hi)).2.1
  have hgs : s.heap.Ns mainGlobals c.mg := G.g.keeps S.stat
  have hgP : mainGlobals ≠ P := fun q => by
    obtain ⟨o, es, ep, e, hd, _⟩ := G.g
    rw [q, hPg] at e; cases e
  obtain ⟨bm, ob, hbm, hne0, _, hneP, hbo, hcls, hdict, hdata⟩ := hb
  have C' := C.keeps S.stat
  refine wpAny_toks_mono ?_
  unfold makeTail
  rw [hcl, K.globals]
  refine wpAny_bind (wpAny_pure ?_)
  simp only [List.isEmpty_nil, if_true]
  refine wpAny_bind (wpAny_pure ?_)
  refine wpAny_bind (wpAny_functionCodeX hcode (C'.code hP ht) (C'.tab hP) hnf fun ca h' tk hx hge hlt _ hrec htb hcode' => ?_)
  have hg' := hgs.extBut hx hgP
  refine wpAny_bind (wpAny_builtinsFor hg' hbm hne0 (hx _ _ hneP (S.stat _ _ hbo)) hcls hdict hdata ?_)
  refine wpAny_bind (wpAny_nsGet hg' ?_)
  refine wpAny_bind (wpAny_pure (wpAny_newObj_type ?_ (by size_fits)))
  intro htk
  have S1 := S.upd hi hx htb.2 (e' := .obj (tabObj (ps ++ #[rawInt pos.line, rawInt pos.col, .ref ca]))) ⟨rfl, show Value.none ≠ .type "tuple" by decide, Obj.isFreed_of_fields rfl⟩ htk
  obtain ⟨c₂, oc, vs, t, e2, hoc, hd, hv⟩ := hrec
  cases e2
  obtain ⟨P2, _, _, ⟨⟨oc2, vs2, g1, g2, g3, g4⟩, _⟩⟩ := hcode'
  rw [hoc] at g1
  obtain rfl := Option.some.inj g1
  have S2 := S1.adopt (a := ca) (e := .obj oc) hoc ⟨rfl, by rw [g2]; decide, Obj.isFreed_of_fields hd⟩ (Nat.ne_of_gt (Nat.lt_of_lt_of_le S.Llt hge))
    (Heap.get?_none_of_le (Nat.le_trans S.sizes.2 (Nat.le_trans S.size hge))) (Nat.le_trans S.size hge) (fun hm => by
      rw [nodup_set hi] at hm
      obtain ⟨p, hp, e⟩ := List.mem_map.mp hm
      have := S.lt hp
      rw [e] at this
      exact absurd (Nat.lt_of_lt_of_le this hge) (Nat.lt_irrefl _))
  refine k _ (.ref h'.objs.size) _ _ ((S2.new (e := .obj _) ⟨rfl, ?_, ?_⟩).tmp (x := .ref h'.objs.size) rfl) (h _ _ _ _ vs t _ rfl ⟨rfl, rfl, rfl, rfl, rfl, rfl, rfl, rfl, rfl, rfl⟩ hd hv)
  · exact show Value.type "function" ≠ .type "tuple" by decide
  · rfl

theorem EV_lambdaHit {params : Arguments} {body : Expr} {scope : Scope} {pos : Pos} {i : Nat} {P cc ca : Addr} {ps : Array Value} {Q : V → Sto → Prop} (G : Stat c.toBase) (K : EnvOk c env) (hcode : env.code = .ref cc) (C : CodeHd c.g0 cc P) (hb : c.g0.BuiltinsAt c.mg P)
    (hdef : defaultsOf params env = ([], [])) (hcl : closureFor scope env = pure []) (hi : st[i]? = some (P, .obj (tabObj ps))) (ht : TriplesOk ps.toList) (hf : codeAmong pos ps.toList = some (.ref ca))
    (h : ∀ ka o fd, o.data = .func fd → LamFn fd (env.qual ++ "<lambda>") params body scope ca → Q (.ref ka) ((ka, .obj o) :: st)) :
    EV c m (eval (.Lambda params body scope pos) env) st Q := fun A s tm P' E R S k => by
  refine kla_eval hdef ?_
  rw [makeFunction_eq]
  simp only [List.zip_nil_right, List.filterMap_nil, List.isEmpty_nil, if_true, pure_bind]
  have hP : s.heap.get? P = some (tabObj ps) := S.obj_at (List.mem_of_getElem? hi)
  have hgs : s.heap.Ns mainGlobals c.mg := G.g.keeps S.stat
  obtain ⟨bm, ob, hbm, hne0, _, hneP, hbo, hcls, hdict, hdata⟩ := hb
  have C' := C.keeps S.stat
  unfold makeTail
  rw [hcl, K.globals]
  refine wpAny_bind (wpAny_pure ?_)
  simp only [List.isEmpty_nil, if_true]
  refine wpAny_bind (wpAny_pure ?_)
  refine wpAny_bind (wpAny_functionCode_hit hcode (C'.code hP ht) hf ?_)
  refine wpAny_bind (wpAny_builtinsFor hgs hbm hne0 (S.stat _ _ hbo) hcls hdict hdata ?_)
  refine wpAny_bind (wpAny_nsGet hgs ?_)
  refine wpAny_bind (wpAny_pure (wpAny_newObj_type ?_ (by size_fits)))
  refine k _ (.ref s.heap.objs.size) _ _ ((S.new (e := .obj _) ⟨rfl, ?_, ?_⟩).tmp (x := .ref s.heap.objs.size) rfl) (h _ _ _ rfl ⟨rfl, rfl, rfl, rfl, rfl, rfl, rfl, rfl, rfl, rfl⟩)
  · exact show Value.type "function" ≠ .type "tuple" by decide
  · rfl
end

-- W18
noncomputable def rowF (as : List P) (row : List P) : List P := as.foldl (fun row a => insF (insF row (a.2 - (a.2 - a.2.fmod 64), a.1 - (a.2 - a.2.fmod 64))) (a.2 - (a.2 - a.2.fmod 64) - 64, a.1 - (a.2 - a.2.fmod 64) - 64)) row
noncomputable def latS (acc : List Int) (b : Int) : List Int := acc ++ [match acc.getLast? with | some x => max x b | none => b]
noncomputable def latF (row : List P) : List Int := row.foldl (fun acc p => latS acc p.2) []
theorem insF_length (l : List P) (x : P) : (insF l x).length = l.length + 1 := by
  unfold insF
  have := brF_le l x 0 l.length (Nat.zero_le _)
  simp; lia
theorem latF_length (row : List P) : (latF row).length = row.length := by
  unfold latF
  have : ∀ (row : List P) (acc : List Int), (row.foldl (fun acc p => latS acc p.2) acc).length = acc.length + row.length := by
    intro row
    induction row with
    | nil => intro acc; simp
    | cons p r ih => intro acc; rw [List.foldl_cons, ih]; simp [latS]; lia
  simpa using this row []

noncomputable def bwdF (row : List P) (latest : List Int) : Nat → Int → List Int → Option (Int × Int)
  | 0, _, _ => none
  | n + 1, place, places =>
    if place.fmod 64 ∈ places.map (·.fmod 64) then
      some ((places.length : Int) - ((places.map (·.fmod 64)).idxOf (place.fmod 64) : Nat), places.getD ((places.map (·.fmod 64)).idxOf (place.fmod 64)) 0 - place)
    else
      let k := blF row (place.fmod 64) 0 row.length
      if k = 0 ∨ latest.length < k then none else bwdF row latest n (place - place.fmod 64 + latest.getD (k - 1) 0) (places ++ [place])

section
variable {c : Ctx} {m : Loc} {st : Sto}
/-- a call, with the code's address told -/
theorem Def.callc {n : Str} {i : Nat} {a : Addr} {fd : FuncData} {names : List Str} {xs : List V} {Q : V → Sto → Prop} (D : Def c.toBase n i a fd) (G : Stat c.toBase) (hn : 0 < c.n) (hl : xs.length = names.length)
    (hb : ∀ fd : FuncData, fd.params = argsOf (stm i) → fd.defaults = .none → fd.kwdefaults = .none → ∀ vs : List Value, vs.length = names.length → bindArgs fd ⟨vs, []⟩ = pure (names.zip vs))
    (hcell : ∀ x ∈ (scopeOf (stm i)).names, x.2 ≠ .cell) (hloc : ∀ x ∈ names, (scopeOf (stm i)).names.lookup x = some .local) (hnd : names.Nodup)
    (h : ∀ c' env, c'.toBase = c.toBase → c'.n + 1 = c.n → TimeOk st c' ∧ 0 < c'.clk → EnvOk c' env → env.scope = scopeOf (stm i) → env.code = fd.code → EX c' (execs (bodyOf (stm i)) env) (names.zip xs) st fun fl _ st' => ∃ v, (fl = .ret v ∨ (fl = .next ∧ v = .none)) ∧ Q v st') (hne : 0 < names.length := by decide) :
    OP c m (fun vs => PySem.call (.ref a) vs) xs st Q :=
  OP_def G D.fn hn (binds_plain (hb fd D.params D.dflt D.kwd) hl _) (D.scope ▸ hcell) (D.scope ▸ hloc) hnd (fun c' env h1 h2 h3 h4 h5 h6 => h c' env h1 h2 h3 h4 (h5.trans D.scope) h6) hne
end
theorem getPre {pre : Sto} {l : Sto} (k : Nat) {p : Addr × Ent} (h : l[k]? = some p) : (pre ++ l)[pre.length + k]? = some p := by
  rw [List.getElem?_append_right (by lia), Nat.add_sub_cancel_left]; exact h
theorem setPre {pre : Sto} {l : Sto} (k : Nat) {p : Addr × Ent} : (pre ++ l).set (pre.length + k) p = pre ++ l.set k p := by
  rw [List.set_append_right _ _ (by lia), Nat.add_sub_cancel_left]

theorem setEnd {st : Sto} {q q' : Addr × Ent} : (st ++ [q]).set st.length q' = st ++ [q'] := by
  rw [List.set_append_right _ _ (Nat.le_refl _), Nat.sub_self]; rfl
/-- the lambda `pair[0]` gives a pair's first -/
theorem key_of {B : Base} (G : Stat B) {st : Sto} {ka ca : Addr} {o oc : Obj} {fdl : FuncData} {q : Str} {params : Arguments} {x : Str} {p1 p2 p3 : Pos} {kk : Nat} {scope : Scope} {vs : Array Value} {t : Tok} (ho : (ka, Ent.obj o) ∈ st) (hod : o.data = .func fdl)
    (hlf : LamFn fdl q params (.Subscript (.Name x p1) (.Constant (.int 0) kk p2) p3) scope ca) (hca : (ca, Ent.obj oc) ∈ st) (hoc : oc.data = .fields vs) (hv : vs[1]? = some (.str q t))
    (hb : ∀ fd : FuncData, fd.params = params → fd.defaults = .none → fd.kwdefaults = .none → ∀ vs : List Value, vs.length = 1 → bindArgs fd ⟨vs, []⟩ = pure ([x].zip vs))
    (hk : scope.kind = .function) (h1 : scope.isCoroutine = false) (h2 : scope.isGenerator = false) (hcell : ∀ x ∈ scope.names, x.2 ≠ .cell) (hloc : scope.names.lookup x = some .local) (hd : (x == ("__debug__" : Str)) = false := by decide) : KeyAt B st ka := by
  obtain ⟨e1, e2, e3, e4, e5, e6, e7, e8, e9, e10⟩ := hlf
  have L : LamAt st ka fdl (.Subscript (.Name x p1) (.Constant (.int 0) kk p2) p3) := ⟨⟨o, ho, hod⟩, e3, ⟨ca, oc, vs, t, e8, hca, hoc, by rw [e1]; exact hv⟩, e5, e6, by rw [e4]; exact hk, by rw [e4]; exact h1, by rw [e4]; exact h2, e7⟩
  refine ⟨⟨o, fdl, ho, hod⟩, fun c2 m2 hB hn p Q' hQ => ?_⟩
  subst hB
  refine OP_lam (names := [x]) G L hn rfl (hb fdl e2 e9 e10) (by rw [e4]; exact hcell) (by rw [e4]; simpa using hloc) (by simp) (fun c' env hB' hn' T K hsc => ?_) (Nat.succ_pos _)
  refine EV_sub (EV_local K (kindOf_of (hsc.trans e4) hloc) (v := pv p) (by simp [List.lookup]) ?_ hd)
  exact EV_int (sub_pair0 hQ)

set_option maxHeartbeats 2000000 in
theorem backward_call {c : Ctx} {m : Loc} (G : ProgB c.toBase) (hn : 3 < c.n) {a : Addr} {fd : FuncData} (D : Def c.toBase "_law_backward" 17 a fd) {cc Pt : Addr} (hcode : fd.code = .ref cc) (C : CodeHd c.g0 cc Pt) (hb : c.g0.BuiltinsAt c.mg Pt)
    {st : Sto} {i : Nat} {aA : Addr} {as : List P} (hi : st[i]? = some (aA, .lst (as.map pv))) (hl : as.length < 100)
    {n : Nat} {ans : Int × Int} (hrun : bwdF (rowF as []) (latF (rowF as [])) n 64 [] = some ans) (hn8 : n < 100000)
    {Q : V → Sto → Prop} (hQ : ∀ ps, Q (pv ans) (st ++ [(Pt, .obj (tabObj ps))])) : OP c m (fun vs => call (.ref a) vs) [.ref aA] (st ++ [(Pt, .obj (tabObj #[]))]) Q :=
  OP_sub <| D.callc (names := ["arcs"]) G.toStat (by lia) rfl (by kat_tups) (by decide) (by decide) (by decide) fun c' env hB hn' T K hsc hco => by
    have G' : ProgB c'.toBase := hB ▸ G
    have hil : i < st.length := (List.getElem?_eq_some_iff.mp hi).1
    have hi0 : (st ++ [(Pt, Ent.obj (tabObj #[]))])[i]? = some (aA, .lst (as.map pv)) := by rw [List.getElem?_append_left hil]; exact hi
    refine EX_cons ?_
    keq_rows
    refine EV_list (EVs_nil ⟨by decide, fun aR => ?_⟩)
    repeat keq_rows
    refine EX_for (fun k m' st' => Has m' "row" (.ref aR) ∧ st' = (aR, Ent.lst ((rowF (as.take k) []).map pv)) :: (st ++ [(Pt, Ent.obj (tabObj #[]))]) ∧ (rowF (as.take k) []).length = 2 * k ∧ k ≤ as.length) ?_
    repeat keq_rows
    refine ⟨aA, as.map pv, rfl, ?_, ⟨by keq_hits, rfl, rfl, Nat.zero_le _⟩, ?_, ?_, ?_⟩
    · simp [targetOk, pv]
    · rintro k m' st' ⟨_, rfl, _⟩
      exact ⟨i + 1, hi0⟩
    · rintro k y m' st' it hky ⟨h1, rfl, hlen, hk⟩
      rw [List.getElem?_map] at hky
      obtain ⟨x, hx, rfl⟩ := Option.map_eq_some_iff.mp hky
      have hkl : k < as.length := (List.getElem?_eq_some_iff.mp hx).1
      refine AS_pair (AS_name (ST_local K (kindOf_of hsc rfl) (AS_name (ST_local K (kindOf_of hsc rfl) ?_))))
      refine EX_cons ?_
      repeat keq_rows
      refine mod_ii (by decide) ?_
      repeat keq_rows
      obtain ⟨a1, fd1, D1⟩ := G'.insort
      refine EV_call_def G'.toStat K D1.fn (kindOf_of hsc rfl) D1.glob ?_
      repeat keq_rows
      refine insort_call (i := 1) (l := rowF (as.take k) []) (x := (x.2 - (x.2 - x.2.fmod 64), x.1 - (x.2 - x.2.fmod 64))) G' (by lia) D1 rfl (by lia) ?_
      dsimp only [List.set]
      repeat keq_rows
      refine EV_call_def G'.toStat K D1.fn (kindOf_of hsc rfl) D1.glob ?_
      repeat keq_rows
      refine insort_call (i := 1) (l := insF (rowF (as.take k) []) (x.2 - (x.2 - x.2.fmod 64), x.1 - (x.2 - x.2.fmod 64))) (x := (x.2 - (x.2 - x.2.fmod 64) - 64, x.1 - (x.2 - x.2.fmod 64) - 64)) G' (by lia) D1 rfl (by rw [insF_length]; lia) ?_
      dsimp only [List.set]
      repeat keq_rows
      have ht : rowF (as.take (k + 1)) [] = insF (insF (rowF (as.take k) []) (x.2 - (x.2 - x.2.fmod 64), x.1 - (x.2 - x.2.fmod 64))) (x.2 - (x.2 - x.2.fmod 64) - 64, x.1 - (x.2 - x.2.fmod 64) - 64) := by
        unfold rowF
        rw [List.take_add_one, hx, List.foldl_append]; rfl
      refine ⟨_, .refl _, by keq_hits, ?_, ?_, by lia⟩
      · rw [ht]
      · rw [ht, insF_length, insF_length]; lia
    · rintro m' st' ⟨h1, rfl, hlen, hk⟩
      rw [List.length_map, List.take_length] at hlen
      rw [List.length_map, List.take_length]
      generalize rowF as [] = row at hrun hlen
      repeat keq_rows
      refine EV_list (EVs_nil ⟨by decide, fun aT => ?_⟩)
      repeat keq_rows
      refine EX_for (fun k m' st' => Has m' "row" (.ref aR) ∧ Has m' "latest" (.ref aT) ∧ st' = (aT, Ent.lst ((latF (row.take k)).map V.int)) :: (aR, Ent.lst (row.map pv)) :: (st ++ [(Pt, Ent.obj (tabObj #[]))])) ?_
      repeat keq_rows
      refine ⟨aR, row.map pv, rfl, ?_, ⟨by keq_hits, by keq_hits, rfl⟩, ?_, ?_, ?_⟩
      · simp [targetOk, pv]
      · rintro k m' st' ⟨_, _, rfl⟩
        exact ⟨1, rfl⟩
      · rintro k y m' st' it hky ⟨h1, h2, rfl⟩
        rw [List.getElem?_map] at hky
        obtain ⟨x, hx, rfl⟩ := Option.map_eq_some_iff.mp hky
        have hkl : k < row.length := (List.getElem?_eq_some_iff.mp hx).1
        refine AS_pair (AS_name (ST_local K (kindOf_of hsc rfl) (AS_name (ST_local K (kindOf_of hsc rfl) ?_))))
        refine EX_cons ?_
        repeat keq_rows
        refine EV_append ?_
        repeat keq_rows
        refine ⟨aT, 1, _, rfl, rfl, ?_⟩
        refine EV_call_bi G'.toStat K (kindOf_of hsc rfl) G'.max rfl (by decide) ?_
        repeat keq_rows
        have hLl : (latF (row.take k)).length = k := by rw [latF_length, List.length_take]; lia
        have hLs : latF (row.take (k + 1)) = latS (latF (row.take k)) x.2 := by
          unfold latF
          rw [List.take_add_one, hx, List.foldl_append]; rfl
        rw [hLs]
        generalize latF (row.take k) = L at hLl
        refine EV_unop ?_
        repeat keq_rows
        refine neg_i ?_
        refine ⟨aT, 1, _, -1, rfl, rfl, rfl, by simp; lia, fun b => ?_⟩
        refine EV_list ?_
        repeat keq_rows
        refine ⟨show 1 ≤ 100 by decide, fun d => ?_⟩
        have hdr : dropI (L.map V.int) (-1) = (L.drop (L.length - 1)).map V.int := by
          unfold dropI
          rw [if_neg (by decide), List.map_drop, List.length_map]
          rfl
        rw [hdr]
        refine add_ll (i := 1) (j := 0) rfl rfl (by simp; lia) fun d2 => ?_
        repeat keq_rows
        refine max_list (i := 0) (ns := L.drop (L.length - 1) ++ [x.2]) (by rw [List.map_append]; rfl) (by simp) fun M hM hmax => ?_
        repeat keq_rows
        refine ⟨4, _, rfl, by simp; lia, ?_⟩
        have hMe : M = match L.getLast? with | some y => max y x.2 | none => x.2 := by
          rcases List.eq_nil_or_concat L with rfl | ⟨L', y, rfl⟩
          · simpa using hM
          · rw [List.concat_eq_append] at hM hmax ⊢
            have e1 : (L' ++ [y]).drop ((L' ++ [y]).length - 1) = [y] := by simp
            rw [e1] at hM hmax
            have h1 := hmax y (by simp)
            have h2 := hmax x.2 (by simp)
            rw [List.getLast?_concat]
            simp at hM
            show M = max y x.2
            rcases hM with rfl | rfl <;> lia
        repeat keq_rows
        exact ⟨(aT, Ent.lst (L.map V.int ++ [V.int M])) :: (aR, Ent.lst (row.map pv)) :: (st ++ [(Pt, Ent.obj (tabObj #[]))]), .cons _ (.cons _ (.cons _ (.refl _))), by keq_hits, by keq_hits, by unfold latS; rw [← hMe, List.map_append]; rfl⟩
      · rintro m' st' ⟨h1, h2, rfl⟩
        rw [List.length_map, List.take_length]
        repeat keq_rows
        refine EV_list (EVs_nil ⟨by decide, fun aPl => ?_⟩)
        repeat keq_rows
        refine EV_list (EVs_nil ⟨by decide, fun aRe => ?_⟩)
        repeat keq_rows
        have hlatl : (latF row).length = row.length := latF_length row
        generalize latF row = latest at hrun hlatl
        obtain ⟨J, hJ⟩ : ∃ J : Nat → Loc → Sto → Prop, J = fun n m' st' => ∃ (place : Int) (places : List Int) (pre : Sto) (ps : Array Value), n < 100000 ∧ bwdF row latest n place places = some ans ∧ places.length + n < 100001 ∧
          Has m' "place" (.int place) ∧ Has m' "places" (.ref aPl) ∧ Has m' "rests" (.ref aRe) ∧ Has m' "row" (.ref aR) ∧ Has m' "latest" (.ref aT) ∧
          st' = pre ++ ((aRe, Ent.lst ((places.map (·.fmod 64)).map V.int)) :: (aPl, Ent.lst (places.map V.int)) :: (aT, Ent.lst (latest.map V.int)) :: (aR, Ent.lst (row.map pv)) :: (st ++ [(Pt, Ent.obj (tabObj ps))])) ∧
          ((pre = [] ∧ ps = #[]) ∨ ∃ ca oc vs t, pre = [(ca, Ent.obj oc)] ∧ TriplesOk ps.toList ∧ codeAmong ⟨196, 45, 196, 65⟩ ps.toList = some (.ref ca) ∧ oc.data = .fields vs ∧ vs[1]? = some (.str (env.qual ++ "<lambda>") t)) := ⟨_, rfl⟩
        refine EX_while J ?_ n ?_
        · intro n m' st' hj
          rw [hJ] at hj
          obtain ⟨place, places, pre, ps, hn9, hf, hpl, k1, k2, k3, k4, k5, rfl, hpre⟩ := hj
          rcases n with _ | n
          · exact absurd hf (by simp [bwdF])
          unfold bwdF at hf
          repeat keq_rows
          refine mod_ii (by decide) ?_
          repeat keq_rows
          refine notin_int (i := pre.length + 0) (l := places.map (·.fmod 64)) (getPre 0 rfl) ?_
          repeat keq_rows
          by_cases hin : place.fmod 64 ∈ places.map (·.fmod 64)
          · rw [decide_eq_true hin, if_neg (by decide)]
            rw [if_pos hin] at hf
            have hfl : (places.map (·.fmod 64)).idxOf (place.fmod 64) < places.length := by
              have := List.idxOf_lt_length_of_mem hin
              simpa using this
            refine EX_cons (EX_assign (EV_index ?_) rfl)
            repeat keq_rows
            refine ⟨aRe, pre.length + 0, _, rfl, getPre 0 rfl, ?_⟩
            repeat keq_rows
            refine mod_ii (by decide) ?_
            refine ⟨pre.length + 0, places.map (·.fmod 64), place.fmod 64, rfl, getPre 0 rfl, by simp; lia, hin, ?_⟩
            generalize (places.map (·.fmod 64)).idxOf (place.fmod 64) = first at hf hfl
            repeat keq_rows
            refine EV_call_bi G'.toStat K (kindOf_of hsc rfl) G'.len rfl (by decide) ?_
            repeat keq_rows
            refine call_len (i := pre.length + 1) (getPre 1 rfl) (by simp; lia) ?_
            rw [List.length_map]
            repeat keq_rows
            refine sub_list (i := pre.length + 1) (x := V.int (places.getD first 0)) (getPre 1 rfl) (by lia) (by lia) (by simp [hfl]) ?_
            repeat keq_rows
            obtain rfl := Option.some.inj hf
            exact ⟨_, .inl rfl, st ++ [(Pt, Ent.obj (tabObj ps))], SubP.of_sub ((((((List.Sublist.refl _).cons _).cons _).cons _).cons _).trans (List.sublist_append_right pre _)), hQ ps⟩
          · rw [decide_eq_false hin, if_pos (by decide)]
            rw [if_neg hin] at hf
            dsimp only at hf
            refine EX_cons (EX_expr (EV_append ?_) (not_inter K) rfl)
            repeat keq_rows
            refine ⟨aRe, pre.length + 0, _, rfl, getPre 0 rfl, ?_⟩
            repeat keq_rows
            refine mod_ii (by decide) ?_
            refine ⟨pre.length + 0, _, getPre 0 rfl, by simp; lia, ?_⟩
            rw [setPre]
            dsimp only [List.set]
            refine EX_cons (EX_expr (EV_append ?_) (not_inter K) rfl)
            repeat keq_rows
            refine ⟨aPl, pre.length + 1, _, rfl, getPre 1 rfl, ?_⟩
            repeat keq_rows
            refine ⟨pre.length + 1, _, getPre 1 rfl, by simp; lia, ?_⟩
            rw [setPre]
            dsimp only [List.set]
            obtain ⟨a1, fd1, D1⟩ := G'.left
            refine EX_cons (EX_assign (EV_call_kw G'.toStat K D1.fn (kindOf_of hsc rfl) D1.glob ?_) rfl)
            repeat keq_rows
            refine mod_ii (by decide) ?_
            repeat keq_rows
            have C' : CodeHd c'.g0 cc Pt := by rw [hB]; exact C
            have hb' : c'.g0.BuiltinsAt c'.mg Pt := by rw [hB]; exact hb
            have hco' : env.code = .ref cc := hco.trans hcode
            rcases hpre with ⟨rfl, rfl⟩ | ⟨ca, oc, vs, t, rfl, htr, hca, hoc, hv⟩
            · refine EV_lambda (i := st.length + 4) (ps := #[]) G'.toStat K hco' C' hb' rfl (closure_none _ (by decide)) (by simp) trivial rfl fun ka ca o oc vs t fdl hod hlf hoc hv => ?_
              dsimp only [List.nil_append, List.set]
              rw [setEnd]
              have htr : TriplesOk ((#[] : Array Value) ++ #[rawInt 196, rawInt 45, .ref ca]).toList := trivial
              have hca : codeAmong ⟨196, 45, 196, 65⟩ ((#[] : Array Value) ++ #[rawInt 196, rawInt 45, .ref ca]).toList = some (.ref ca) := rfl
              generalize hps : (#[] : Array Value) ++ #[rawInt 196, rawInt 45, .ref ca] = ps at htr hca
              have HK := key_of (B := c'.toBase) G'.toStat (st := (ka, Ent.obj o) :: (ca, Ent.obj oc) :: (aRe, Ent.lst (List.map V.int (List.map (fun x => x.fmod 64) places) ++ [V.int (place.fmod 64)])) :: (aPl, Ent.lst (List.map V.int places ++ [V.int place])) :: (aT, Ent.lst (List.map V.int latest)) :: (aR, Ent.lst (List.map pv row)) :: (st ++ [(Pt, Ent.obj (tabObj ps))])) (.head _) hod hlf (.tail _ (.head _)) hoc hv (by kat_tups) rfl rfl rfl (by decide) (by decide)
              refine left_call (i := 5) G' (by lia) D1 rfl (by lia) HK ?_
              by_cases hk0 : blF row (place.fmod 64) 0 row.length = 0 ∨ latest.length < blF row (place.fmod 64) 0 row.length
              · rw [if_pos hk0] at hf; exact absurd hf (by simp)
              rw [if_neg hk0] at hf
              generalize blF row (place.fmod 64) 0 row.length = kb at hf hk0
              repeat keq_rows
              refine mod_ii (by decide) ?_
              repeat keq_rows
              have hkb : ((kb : Int) - 1).toNat = kb - 1 := by lia
              refine sub_list (i := 4) (x := V.int (latest.getD (kb - 1) 0)) rfl (by lia) (by lia) (by rw [hkb, List.getElem?_map, List.getElem?_eq_getElem (by lia)]; simp [show kb - 1 < latest.length by lia]) ?_
              repeat keq_rows
              exact ⟨_, .cons _ (.refl _), n, Nat.lt_succ_self _, by rw [hJ]; exact ⟨_, places ++ [place], [(ca, Ent.obj oc)], ps, by lia, hf, by simp; lia, by keq_hits, by keq_hits, by keq_hits, by keq_hits, by keq_hits, by simp only [List.map_append]; rfl, .inr ⟨ca, oc, vs, t, rfl, htr, hca, hoc, hv⟩⟩⟩
            · refine EV_lambdaHit (i := st.length + 5) G'.toStat K hco' C' hb' rfl (closure_none _ (by decide)) (by simp) htr hca fun ka o fdl hod hlf => ?_
              dsimp only [List.cons_append, List.nil_append]
              have HK := key_of (B := c'.toBase) G'.toStat (st := (ka, Ent.obj o) :: (ca, Ent.obj oc) :: (aRe, Ent.lst (List.map V.int (List.map (fun x => x.fmod 64) places) ++ [V.int (place.fmod 64)])) :: (aPl, Ent.lst (List.map V.int places ++ [V.int place])) :: (aT, Ent.lst (List.map V.int latest)) :: (aR, Ent.lst (List.map pv row)) :: (st ++ [(Pt, Ent.obj (tabObj ps))])) (.head _) hod hlf (.tail _ (.head _)) hoc hv (by kat_tups) rfl rfl rfl (by decide) (by decide)
              refine left_call (i := 5) G' (by lia) D1 rfl (by lia) HK ?_
              by_cases hk0 : blF row (place.fmod 64) 0 row.length = 0 ∨ latest.length < blF row (place.fmod 64) 0 row.length
              · rw [if_pos hk0] at hf; exact absurd hf (by simp)
              rw [if_neg hk0] at hf
              generalize blF row (place.fmod 64) 0 row.length = kb at hf hk0
              repeat keq_rows
              refine mod_ii (by decide) ?_
              repeat keq_rows
              have hkb : ((kb : Int) - 1).toNat = kb - 1 := by lia
              refine sub_list (i := 4) (x := V.int (latest.getD (kb - 1) 0)) rfl (by lia) (by lia) (by rw [hkb, List.getElem?_map, List.getElem?_eq_getElem (by lia)]; simp [show kb - 1 < latest.length by lia]) ?_
              repeat keq_rows
              exact ⟨_, .cons _ (.refl _), n, Nat.lt_succ_self _, by rw [hJ]; exact ⟨_, places ++ [place], [(ca, Ent.obj oc)], ps, by lia, hf, by simp; lia, by keq_hits, by keq_hits, by keq_hits, by keq_hits, by keq_hits, by simp only [List.map_append]; rfl, .inr ⟨ca, oc, vs, t, rfl, htr, hca, hoc, hv⟩⟩⟩
        · rw [hJ]; exact ⟨64, [], [], #[], hn8, hrun, by simp; lia, by keq_hits, by keq_hits, by keq_hits, by keq_hits, by keq_hits, rfl, .inl ⟨rfl, rfl⟩⟩

-- W19
noncomputable def hI (x : Int) : Int := x.fmod 64
noncomputable def sI (x : Int) : Int := (x.fdiv 64).fmod 4 + 1
noncomputable def vI (x : Int) : Int := x.fdiv 256 + 1
noncomputable def arcI (x : Int) : P := (hI x, hI x + sI x * vI x)
noncomputable def frac (n d : Int) : UInt64 := Float64.ofFrac (decide (n < 0) != decide (d < 0)) n.natAbs d.natAbs
/-- the whole part -/
noncomputable def wholeOf (x : UInt64) : Int := match Float64.decode x with | .fin sg mm e => Float64.truncOf sg mm e | _ => 0
theorem Whole.eq {x : UInt64} {i : Int} (h : Whole x i) : wholeOf x = i := by
  obtain ⟨sg, mm, e, h1, h2⟩ := h
  unfold wholeOf; rw [h1]; exact h2
noncomputable def colF (h s v : Int) : Col := rgbF (frac h 64) (frac s 4) (frac v 8) (wholeOf (Float64.mul (frac h 64) k6))
noncomputable abbrev colD (x : Int) : Col := colF (hI x) (sI x) (vI x)
/-- the floats of a draw are right -/
structure DrawOk (x : Int) : Prop where
  h : Float64.isInf (frac (hI x) 64) = false
  s : Float64.isInf (frac (sI x) 4) = false
  v : Float64.isInf (frac (vI x) 8) = false
  w : Whole (Float64.mul (frac (hI x) 64) k6) (wholeOf (Float64.mul (frac (hI x) 64) k6))
  i : (wholeOf (Float64.mul (frac (hI x) 64) k6)).natAbs < 1000
  col : ColOk (colD x)
  b : Float64.cmpInt (arcF (colD x)).1 (arcI x).1 = some .eq
  e : Float64.cmpInt (arcF (colD x)).2 (arcI x).2 = some .eq
  wb : Whole (arcF (colD x)).1 (arcI x).1
  we : Whole (arcF (colD x)).2 (arcI x).2
  pos : 0 ≤ sI x * vI x

noncomputable def tripM (F : Int → Int → Int → V) : V → Option V
  | .trip (.int h) (.int s) (.int v) => some (F h s v)
  | _ => none
theorem tripM_map (F : Int → Int → Int → V) : ∀ D : List Int, (D.map tripI).filterMap (tripM F) = D.map fun x => F (hI x) (sI x) (vI x)
  | [] => rfl
  | x :: D => by
    rw [List.map_cons, List.filterMap_cons]
    show _ :: _ = _ :: _
    rw [tripM_map F D]; rfl
noncomputable def wholeM : V → Option V
  | .pair (.flt a _) (.flt b _) => some (.pair (.int (wholeOf a)) (.int (wholeOf b)))
  | _ => none
theorem wholeM_map : ∀ D : List Int, (∀ x ∈ D, DrawOk x) → (D.map fun x => fpv (arcF (colD x))).filterMap wholeM = (D.map arcI).map pv
  | [], _ => rfl
  | x :: D, h => by
    rw [List.map_cons, List.filterMap_cons]
    have e1 := (h x (by simp)).wb.eq
    have e2 := (h x (by simp)).we.eq
    show V.pair (.int (wholeOf (arcF (colD x)).1)) (.int (wholeOf (arcF (colD x)).2)) :: _ = _ :: _
    rw [wholeM_map D fun y hy => h y (by simp [hy]), e1, e2]
    rfl

noncomputable def pairM (F : Int → Int → V) : V → Option V
  | .pair (.int b) (.int e) => some (F b e)
  | _ => none
theorem pairM_map (F : Int → Int → V) : ∀ l : List P, (l.map pv).filterMap (pairM F) = l.map fun p => F p.1 p.2
  | [] => rfl
  | x :: l => by
    rw [List.map_cons, List.filterMap_cons]
    show _ :: _ = _ :: _
    rw [pairM_map F l]

theorem swaps_no {c : Ctx} {env : Env} (K : EnvOk c env) {y : Str} {py : Pos} {ln : Nat} {elt : Expr} {gs : List Comprehension} {scope : Scope} {pos : Pos} (hk : env.kindOf y = some .cell) :
    swapsWithSole [.Name y py] (.ListComp elt gs scope pos) ln env = pure false := by
  show pure (env.blockKind == .function && env.kindOf y == some .local && _ && _) = _
  rw [hk, show ((some NameKind.cell) == (some NameKind.local)) = false from rfl, Bool.and_false, Bool.false_and, Bool.false_and]

noncomputable def litF (D : List Int) : List (List Bool) := D.map fun x => (D.map arcI).map fun a => decide ((hI x - a.1).fmod 64 ≤ a.2 - a.1)

structure LawFacts (D : List Int) : Prop where
  len : 5 ≤ D.length ∧ D.length ≤ 7
  draws : ∀ x ∈ D, DrawOk x
  lamps : ∃ hu, LampsOk hu
  run : ∃ (ans : Int × Int) (n n' : Nat), n < 100000 ∧ n' < 100000 ∧ fwdF n (hfF ((D.map arcI).length / 2) ((D.map arcI).map fun p => (p.2, p.1))) (-1) [] = some ans ∧
    bwdF (rowF (D.map arcI) []) (latF (rowF (D.map arcI) [])) n' 64 [] = some ans ∧ 0 < ans.2 ∧ ans.2.fmod 64 = 0 ∧ ans.2.natAbs < 1000000 ∧ ans.1.natAbs < 1000000 ∧
    (mostF (litF D) (List.range D.length) : Int) = (64 * ans.1).fdiv ans.2 ∧ ∀ N : Nat, IsFew (litF D) (List.range D.length) N → (N : Int) = -((-64) * ans.1).fdiv ans.2

section
variable {c : Ctx} {m : Loc} {st : Sto} {env : Env}
theorem EV_and2 {x y : Expr} {pos : Pos} {Q : V → Sto → Prop} (h : EV c m (eval x env) st fun v st1 => ∃ b, v = .bool b ∧ if b = true then EV c m (eval y env) st1 Q else Q (.bool false) st1) :
    EV c m (eval (.BoolOp .And [x, y] pos) env) st Q := by
  intro A s tm P E R S k
  refine wpAny_And2 (h A s tm _ E R S fun v x st1 s1 S1 ⟨b, e, q⟩ => ?_)
  subst e
  have : v = .bool b := S1.hd
  subst this
  refine wpAny_truthy_bool ?_
  cases b with
  | true => exact q A s1 tm P E R S1.drop k
  | false => exact k _ _ _ s1 S1 q
end

set_option maxHeartbeats 2000000 in
theorem law_body (c : Ctx) (env : Env) (G : ProgB c.toBase) (hn : 20 < c.n) (K : EnvOk c env) (hsc : env.scope = scopeOf (stm 20)) {a1 Pt sa cc : Addr} (hcs : env.cells = ([("arcs", a1)] : List (Str × Addr))) {vs : List Value} {ns : List Int} (hL : c.g0.IsList sa vs.toArray) (hIA : IntsAre vs ns) (hsz : ns.length < 1000)
    (hcodeB : ∀ a fd, Def c.toBase "_law_backward" 17 a fd → fd.code = .ref cc) (C : CodeHd c.g0 cc Pt) (hb : c.g0.BuiltinsAt c.mg Pt) (F : LawFacts (drawsF ns)) :
    EX c (execs (bodyOf (stm 20)) env) [("script", .ref sa)] [(a1, .cel none), (Pt, .obj (tabObj #[]))] fun fl _ st' => fl = .ret (.bool true) ∧ ∃ ps, (Pt, Ent.obj (tabObj ps)) ∈ st' := by
  refine EX_cons ?_
  repeat keq_rows
  obtain ⟨b1, fd1, D1⟩ := G.draws
  refine EV_call_def G.toStat K D1.fn (kindOf_of hsc rfl) D1.glob ?_
  repeat keq_rows
  refine draws_call G.toProg (by lia) D1 hL hIA hsz fun aD => ?_
  generalize hD : drawsF ns = D at F
  repeat keq_rows
  have hDl := F.len
  have hc : ∀ cs, CellsOf ([(".0", .local), ("h", .local), ("s", .local), ("v", .local)] : List (Str × NameKind)) cs → cs = [] := fun cs h => cells_tl (cells_tl (cells_tl (cells_tl h)))
  have hc3 : ∀ cs, CellsOf ([(".0", .local), ("begin", .local), ("end", .local)] : List (Str × NameKind)) cs → cs = [] := fun cs h => cells_tl (cells_tl (cells_tl h))
  refine EX_assign ?_ (swaps_no (ln := 216) K (kindOf_of hsc rfl))
  refine EV_comp K (closure_none _ (by decide)) rfl (by decide) ?_
  repeat keq_rows
  refine CompOf.plain (tripM fun h s v => .pair (.int h) (.int (h + s * v))) (i := 0) rfl (by simp; lia) ?_ hc ?_ fun aA => ?_
  · simp [targetOk, tripI]
  · intro c2 env2 hB2 hn2 T2 K2 hsc2 hcs2 y hy m2 e1 e2
    have hsc2 := hsc2.trans (relabel_of hsc)
    obtain ⟨x, hx, rfl⟩ := List.mem_map.mp hy
    refine AS_trip (AS_name (ST_local K2 (kindOf_of hsc2 rfl) (AS_name (ST_local K2 (kindOf_of hsc2 rfl) (AS_name (ST_local K2 (kindOf_of hsc2 rfl) ⟨rfl, rfl, ?_⟩))))))
    first | refine ite_t ?_ | rw [if_pos rfl]
    repeat keq_rows
    exact ⟨.refl _, rfl⟩
  rw [tripM_map]
  have hAe : (D.map fun x => V.pair (.int (hI x)) (.int (hI x + sI x * vI x))) = (D.map arcI).map pv := by rw [List.map_map]; rfl
  rw [hAe]
  refine ST_cell (i := 2) K (kindOf_of hsc rfl) (by rw [hcs]; rfl) rfl ?_
  dsimp only [List.set]
  keq_rows
  repeat kct_strs
  obtain ⟨b2, fd2, D2⟩ := G.arcs
  refine EV_call_def G.toStat K D2.fn (kindOf_of hsc rfl) D2.glob ?_
  repeat keq_rows
  refine EV_comp K (closure_none _ (by decide)) rfl (by decide) ?_
  repeat keq_rows
  refine CompOf.plain (tripM fun h s v => cv (colF h s v)) (i := 1) rfl (by simp; lia) ?_ hc ?_ fun aC => ?_
  · simp [targetOk, tripI]
  · intro c2 env2 hB2 hn2 T2 K2 hsc2 hcs2 y hy m2 e1 e2
    have hsc2 := hsc2.trans (relabel_of hsc)
    have G2 : ProgB c2.toBase := by rw [hB2]; exact G
    obtain ⟨x, hx, rfl⟩ := List.mem_map.mp hy
    obtain ⟨o1, o2, o3, o4, o5, _⟩ := F.draws x hx
    refine AS_trip (AS_name (ST_local K2 (kindOf_of hsc2 rfl) (AS_name (ST_local K2 (kindOf_of hsc2 rfl) (AS_name (ST_local K2 (kindOf_of hsc2 rfl) ⟨rfl, rfl, ?_⟩))))))
    first | refine ite_t ?_ | rw [if_pos rfl]
    obtain ⟨b3, fd3, D3⟩ := G2.rgb
    refine EV_call_def G2.toStat K2 D3.fn (kindOf_of hsc2 rfl) D3.glob ?_
    repeat keq_rows
    refine div_ii (by decide) o1 ?_
    repeat keq_rows
    refine div_ii (by decide) o2 ?_
    repeat keq_rows
    refine div_ii (by decide) o3 ?_
    repeat keq_rows
    exact rgb_call G2.toProg (by lia) D3 o4 o5 ⟨.refl _, rfl⟩
  rw [tripM_map]
  have hCe : (D.map fun x => cv (colF (hI x) (sI x) (vI x))) = (D.map colD).map cv := by rw [List.map_map]; rfl
  rw [hCe]
  repeat keq_rows
  refine arcs_call (i := 0) (cols := D.map colD) G.toProg (by lia) D2 rfl (by simp; lia) ?_ fun aT => ?_
  · intro y hy
    obtain ⟨x, hx, rfl⟩ := List.mem_map.mp hy
    exact (F.draws x hx).col
  have hTe : ((D.map colD).map fun x => fpv (arcF x)) = D.map fun x => fpv (arcF (colD x)) := by rw [List.map_map]; rfl
  rw [hTe]
  repeat keq_rows
  refine EV_cell (i := 4) K (kindOf_of hsc rfl) (by rw [hcs]; rfl) rfl ?_
  refine ne_ll (i := 0) (j := 2) rfl rfl (by simp) ?_ ?_
  · intro k h1 h2
    have hkD : k < D.length := by simpa using h1
    have hF := F.draws D[k] (List.getElem_mem _)
    rw [List.getElem_map, List.getElem_map, List.getElem_map]
    refine ⟨rfl, ?_⟩
    show (Float64.cmpInt (arcF (colD D[k])).1 (arcI D[k]).1 == some .eq && Float64.cmpInt (arcF (colD D[k])).2 (arcI D[k]).2 == some .eq) = true
    rw [hF.b, hF.e]; rfl
  repeat keq_rows
  first | refine ite_f ?_ | rw [if_neg (by decide)]
  repeat keq_rows
  refine EX_assign_tuple ?_ rfl rfl
  obtain ⟨b4, fd4, D4⟩ := G.forward
  refine EV_call_def G.toStat K D4.fn (kindOf_of hsc rfl) D4.glob ?_
  repeat keq_rows
  refine EV_comp K (closure_none _ (by decide)) rfl (by decide) ?_
  repeat keq_rows
  refine CompOf.plain wholeM (i := 0) rfl (by simp; lia) ?_ hc3 ?_ fun aW => ?_
  · simp [targetOk, fpv]
  · intro c2 env2 hB2 hn2 T2 K2 hsc2 hcs2 y hy m2 e1 e2
    have hsc2 := hsc2.trans (relabel_of hsc)
    have G2 : ProgB c2.toBase := by rw [hB2]; exact G
    obtain ⟨x, hx, rfl⟩ := List.mem_map.mp hy
    have hF := F.draws x hx
    obtain ⟨sg1, mm1, ee1, w1, w2⟩ := hF.wb
    obtain ⟨sg2, mm2, ee2, w3, w4⟩ := hF.we
    refine AS_pair (AS_name (ST_local K2 (kindOf_of hsc2 rfl) (AS_name (ST_local K2 (kindOf_of hsc2 rfl) ⟨rfl, rfl, ?_⟩))))
    first | refine ite_t ?_ | rw [if_pos rfl]
    repeat keq_rows
    refine EV_call_ty G2.toStat K2 (kindOf_of hsc2 rfl) G2.int rfl (by decide) ?_
    repeat keq_rows
    refine call_int_f w1 ?_
    repeat keq_rows
    refine EV_call_ty G2.toStat K2 (kindOf_of hsc2 rfl) G2.int rfl (by decide) ?_
    repeat keq_rows
    refine call_int_f w3 ?_
    repeat keq_rows
    refine ⟨.refl _, ?_⟩
    rw [w2, w4]
    show some (V.pair (.int (wholeOf _)) (.int (wholeOf _))) = _
    rw [hF.wb.eq, hF.we.eq]
  rw [wholeM_map D F.draws]
  obtain ⟨hu, FF⟩ := F.lamps
  obtain ⟨ans, n, n', r1, r2, r3, r4, r5, r6, r7, r8, r9, r10⟩ := F.run
  repeat keq_rows
  refine forward_call (i := 0) (as := D.map arcI) G.toProg (by lia) D4 rfl (by simp; lia) (by simp; lia) FF r3 r1 ?_
  refine AS_pair (AS_name (ST_local K (kindOf_of hsc rfl) (AS_name (ST_local K (kindOf_of hsc rfl) ?_))))
  repeat keq_rows
  obtain ⟨b5, fd5, D5⟩ := G.backward
  refine EV_call_def G.toStat K D5.fn (kindOf_of hsc rfl) D5.glob ?_
  repeat keq_rows
  refine EV_cell (i := 5) K (kindOf_of hsc rfl) (by rw [hcs]; rfl) rfl ?_
  repeat keq_rows
  refine backward_call (st := (aW, Ent.lst ((D.map arcI).map pv)) :: (aT, Ent.lst (List.map (fun x => fpv (arcF (colD x))) D)) :: (aC, Ent.lst (List.map cv (List.map colD D))) :: (aA, Ent.lst (List.map pv (List.map arcI D))) :: (aD, Ent.lst (List.map tripI D)) :: [(a1, Ent.cel (some (V.ref aA)))]) (i := 3) (as := D.map arcI) G (by lia) D5 (hcodeB _ _ D5) C hb rfl (by simp; lia) r4 r2 fun psF => ?_
  dsimp only [List.cons_append, List.nil_append]
  repeat keq_rows
  refine ne_pp rfl ?_
  repeat keq_rows
  rw [show (!peq (V.pair (.int ans.1) (.int ans.2)) (V.pair (.int ans.1) (.int ans.2))) = false by simp [peq, veq], if_neg (by decide)]
  repeat keq_rows
  first | refine ite_dF (show ¬ ans.2 ≤ 0 by lia) ?_ | rw [decide_eq_false (show ¬ ans.2 ≤ 0 by lia), if_neg (by decide)]
  repeat keq_rows
  refine mod_ii (by decide) ?_
  repeat keq_rows
  refine ne_ii ?_
  repeat keq_rows
  rw [r6]
  repeat keq_rows
  rw [show ((0 : Int) != 0) = false from rfl, if_neg (by decide)]
  repeat keq_rows
  first | refine ite_f ?_ | rw [if_neg (by decide)]
  repeat keq_rows
  have hclos : ∀ sc : Scope, sc.names = ([(".0", .local), ("h", .cell), ("s", .local), ("v", .local), ("arcs", .free)] : List (Str × NameKind)) → closureFor sc env = pure ([("arcs", a1)] : List (Str × Addr)) := by
    intro sc hsc2
    unfold closureFor
    rw [hsc2]
    have e1 : cellOf env "arcs" = pure a1 := cellOf_of (by rw [hcs]; rfl)
    simp [e1]
  refine EX_assign_comp K (kindOf_of hsc rfl) (swaps_yes K (kindOf_of hsc rfl) (by decide)) (hclos _ rfl) rfl (by decide) ?_
  repeat keq_rows
  refine ⟨aD, D.map tripI, rfl, ?_, ⟨4, rfl⟩, fun c' env' cs h1 h2 h3 h4 h5 h6 h7 => ?_⟩
  · simp [targetOk, tripI]
  have G2 : ProgB c'.toBase := by rw [h1]; exact G
  have h5 := h5.trans (relabel_of hsc)
  obtain ⟨aH, cs1, e1, hc1⟩ := cells_hd (cells_tl h7)
  have e3 : cs1 = [] := cells_tl (cells_tl (cells_tl hc1))
  subst e3 e1
  clear hc1 h7
  obtain ⟨ST, hST⟩ : ∃ ST : Sto, ST = [(aW, Ent.lst (List.map pv (List.map arcI D))), (aT, Ent.lst (List.map (fun x => fpv (arcF (colD x))) D)), (aC, Ent.lst (List.map cv (List.map colD D))), (aA, Ent.lst (List.map pv (List.map arcI D))), (aD, Ent.lst (List.map tripI D)), (a1, Ent.cel (some (V.ref aA))), (Pt, Ent.obj (tabObj psF))] := ⟨_, rfl⟩
  have hS3 : ST[3]? = some (aA, Ent.lst (List.map pv (List.map arcI D))) := by rw [hST]; rfl
  have hS4 : ST[4]? = some (aD, Ent.lst (List.map tripI D)) := by rw [hST]; rfl
  have hS5 : ST[5]? = some (a1, Ent.cel (some (V.ref aA))) := by rw [hST]; rfl
  have hS6 : (Pt, Ent.obj (tabObj psF)) ∈ ST := by rw [hST]; simp
  rw [← hST]
  clear hST h3
  have hll : (litF D).length = D.length := by simp [litF]
  refine ⟨fun k ys m' st' => ∃ (rows : List Addr) (R : Sto) (v0 : Option V), rows.length = k ∧ k ≤ D.length ∧ ys = rows.map V.ref ∧ (∀ j (h : j < rows.length), (rows[j], Ent.lst (((litF D).getD j []).map V.bool)) ∈ R) ∧ st' = R ++ (aH, Ent.cel v0) :: ST, ⟨[], [], none, rfl, Nat.zero_le _, rfl, by simp, rfl⟩, ⟨?_, ?_, ?_⟩, ?_⟩
  · rintro k ys m' st' ⟨rows, R, v0, _, _, _, _, rfl⟩
    exact ⟨R.length + 5, getPre 5 hS4⟩
  · rintro k ys m' st' ⟨rows, R, v0, rfl, hk, rfl, _, _⟩
    simp; lia
  · rintro k y ys m' st' it acc hky ⟨rows, R, v0, rfl, hk, rfl, hR, rfl⟩
    rw [List.getElem?_map] at hky
    obtain ⟨x, hx, rfl⟩ := Option.map_eq_some_iff.mp hky
    have hkD : rows.length < D.length := (List.getElem?_eq_some_iff.mp hx).1
    have hxe : D[rows.length] = x := (List.getElem?_eq_some_iff.mp hx).2
    refine AS_trip (AS_name (ST_cell (i := ((it, Ent.lit aD (rows.length + 1)) :: (acc, Ent.lst (rows.map V.ref)) :: R).length + 0) h4 (kindOf_of h5 rfl) (by rw [h6]; rfl) (getPre (pre := (it, Ent.lit aD (rows.length + 1)) :: (acc, Ent.lst (rows.map V.ref)) :: R) 0 rfl) ?_))
    have hset : ∀ q : Addr × Ent, ((it, Ent.lit aD (rows.length + 1)) :: (acc, Ent.lst (rows.map V.ref)) :: (R ++ (aH, Ent.cel v0) :: ST)).set (((it, Ent.lit aD (rows.length + 1)) :: (acc, Ent.lst (rows.map V.ref)) :: R).length + 0) q = (it, Ent.lit aD (rows.length + 1)) :: (acc, Ent.lst (rows.map V.ref)) :: (R ++ q :: ST) := fun q => setPre (pre := (it, Ent.lit aD (rows.length + 1)) :: (acc, Ent.lst (rows.map V.ref)) :: R) 0
    rw [hset]
    refine AS_name (ST_local h4 (kindOf_of h5 rfl) (AS_name (ST_local h4 (kindOf_of h5 rfl) ?_)))
    dsimp only [TS]
    first | refine ite_t ?_ | rw [if_pos rfl]
    have hclos2 : ∀ sc : Scope, sc.names = ([(".0", .local), ("begin", .local), ("end", .local), ("h", .free)] : List (Str × NameKind)) → closureFor sc env' = pure ([("h", aH)] : List (Str × Addr)) := by
      intro sc hsc2
      unfold closureFor
      rw [hsc2]
      have e1 : cellOf env' "h" = pure aH := cellOf_of (by rw [h6]; rfl)
      simp [e1]
    refine EV_comp h4 (hclos2 _ rfl) rfl (by decide) ?_
    refine EV_cell (i := ((it, Ent.lit aD (rows.length + 1)) :: (acc, Ent.lst (rows.map V.ref)) :: R).length + 6) h4 (kindOf_of h5 rfl) (by rw [h6]; rfl) (getPre (pre := (it, Ent.lit aD (rows.length + 1)) :: (acc, Ent.lst (rows.map V.ref)) :: R) 6 hS5) ?_
    refine CompOf.plain (pairM fun b e => .bool (decide ((hI x - b).fmod 64 ≤ e - b))) (i := ((it, Ent.lit aD (rows.length + 1)) :: (acc, Ent.lst (rows.map V.ref)) :: R).length + 4) (getPre (pre := (it, Ent.lit aD (rows.length + 1)) :: (acc, Ent.lst (rows.map V.ref)) :: R) 4 hS3) (by simp; lia) ?_ ?_ ?_ fun ar => ?_
    · simp [targetOk, pv]
    · intro cs hcs2
      exact cells_tl (cells_tl (cells_tl (cells_tl hcs2)))
    · intro c3 env3 hB3 hn3 T3 K3 hsc3 hcs3 y hy m3 e1 e2
      have hsc3 := hsc3.trans (relabel_of h5)
      obtain ⟨p, hp, rfl⟩ := List.mem_map.mp hy
      refine AS_pair (AS_name (ST_local K3 (kindOf_of hsc3 rfl) (AS_name (ST_local K3 (kindOf_of hsc3 rfl) ⟨rfl, rfl, ?_⟩))))
      first | refine ite_t ?_ | rw [if_pos rfl]
      repeat keq_rows
      refine EV_cell (i := (e1 :: e2 :: (it, Ent.lit aD (rows.length + 1)) :: (acc, Ent.lst (rows.map V.ref)) :: R).length + 0) K3 (kindOf_of hsc3 rfl) (by rw [hcs3]; rfl) (getPre (pre := e1 :: e2 :: (it, Ent.lit aD (rows.length + 1)) :: (acc, Ent.lst (rows.map V.ref)) :: R) 0 rfl) ?_
      repeat keq_rows
      refine mod_ii (by decide) ?_
      repeat keq_rows
      exact ⟨.refl _, rfl⟩
    · rw [pairM_map]
      refine ⟨((ar, Ent.lst ((D.map arcI).map fun p => V.bool (decide ((hI x - p.1).fmod 64 ≤ p.2 - p.1)))) :: R) ++ (aH, Ent.cel (some (.int (hI x)))) :: ST, ⟨_, List.perm_middle (l₁ := [(it, Ent.lit aD (rows.length + 1)), (acc, Ent.lst (rows.map V.ref))]), .refl _⟩, rows ++ [ar], _, _, by simp, by lia, by simp, ?_, rfl⟩
      intro j hj
      rcases Nat.lt_or_ge j rows.length with h | h
      · rw [List.getElem_append_left h]
        exact .tail _ (hR j h)
      · have hj' : j = rows.length := by simp at hj; lia
        subst hj'
        rw [List.getElem_append_right (Nat.le_refl _)]
        have e : ((litF D).getD rows.length []).map V.bool = (D.map arcI).map fun p => V.bool (decide ((hI x - p.1).fmod 64 ≤ p.2 - p.1)) := by
          unfold litF
          rw [List.getD_eq_getElem?_getD, List.getElem?_map, hx]
          simp [Function.comp_def]
        rw [e]
        simp
  · rintro ys m' st' ⟨rows, R, v0, hrl, hk, rfl, hR, rfl⟩ acc
    rw [List.length_map] at hrl
    refine ⟨_, .refl _, ?_⟩
    have MM : Mat ((acc, Ent.lst (rows.map V.ref)) :: (R ++ (aH, Ent.cel v0) :: ST)) acc (litF D) := ⟨rows, .head _, by lia, fun k hk => .tail _ (List.mem_append_left _ (hR k hk))⟩
    have hdim : Dim (litF D) (litF D).length := by
      intro k hk
      rw [hll] at hk ⊢
      unfold litF
      rw [List.getD_eq_getElem?_getD, List.getElem?_map, List.getElem?_eq_getElem hk]
      simp
    have hdiag : ∀ j < (litF D).length, bg (litF D) j j = true := by
      intro j hj
      rw [hll] at hj
      unfold bg litF
      rw [List.getD_eq_getElem?_getD (l := D.map _), List.getElem?_map, List.getElem?_eq_getElem hj]
      simp only [Option.map_some, Option.getD_some]
      rw [List.getD_eq_getElem?_getD, List.getElem?_map, List.getElem?_map, List.getElem?_eq_getElem hj]
      simp only [Option.map_some, Option.getD_some]
      have := (F.draws D[j] (List.getElem_mem _)).pos
      refine decide_eq_true ?_
      show (hI D[j] - hI D[j]).fmod 64 ≤ hI D[j] + sI D[j] * vI D[j] - hI D[j]
      rw [Int.sub_self, show (0 : Int).fmod 64 = 0 from rfl]
      lia
    dsimp only
    repeat keq_rows
    refine EV_call_ty G.toStat K (kindOf_of hsc rfl) G.list rfl (by decide) ?_
    repeat keq_rows
    refine EV_call_ty G.toStat K (kindOf_of hsc rfl) G.range rfl (by decide) ?_
    repeat keq_rows
    refine EV_call_bi G.toStat K (kindOf_of hsc rfl) G.len rfl (by decide) ?_
    repeat keq_rows
    refine EV_cell (i := ((acc, Ent.lst (rows.map V.ref)) :: R).length + 6) K (kindOf_of hsc rfl) (by rw [hcs]; rfl) (getPre (pre := (acc, Ent.lst (rows.map V.ref)) :: R) 6 hS5) ?_
    repeat keq_rows
    refine call_len (i := ((acc, Ent.lst (rows.map V.ref)) :: R).length + 4) (getPre (pre := (acc, Ent.lst (rows.map V.ref)) :: R) 4 hS3) (by simp; lia) ?_
    have hAl : ((D.map arcI).map pv).length = D.length := by simp
    rw [hAl]
    repeat keq_rows
    refine call_range fun rr t u v => ?_
    repeat keq_rows
    refine call_list_rng (i := 0) rfl (by lia) fun aE => ?_
    repeat keq_rows
    obtain ⟨b6, fd6, D6⟩ := G.most
    refine EV_call_def G.toStat K D6.fn (kindOf_of hsc rfl) D6.glob ?_
    repeat keq_rows
    refine most_call hdim (by lia) D.length (List.range D.length) (by simp) (by simp [hll]) G.toProg (by lia) (by lia) D6 (MM.mono fun p hp => .tail _ (.tail _ hp)) (.head _) ?_
    repeat keq_rows
    obtain ⟨b7, fd7, D7⟩ := G.fewest
    refine EV_call_def G.toStat K D7.fn (kindOf_of hsc rfl) D7.glob ?_
    repeat keq_rows
    refine fewest_call hdim (by lia) hdiag D.length (List.range D.length) (by simp) (by simp [hll]) G.toProg (by lia) (by lia) D7 (MM.mono fun p hp => .tail _ (.tail _ hp)) (.head _) fun N hN => ?_
    repeat keq_rows
    refine EV_and2 ?_
    repeat keq_rows
    refine fdiv_ii (by lia) ?_ (by lia)
    rw [← r9]
    repeat keq_rows
    rw [beq_self_eq_true, if_pos rfl]
    repeat keq_rows
    refine EV_unop ?_
    repeat keq_rows
    refine EV_unop ?_
    repeat keq_rows
    refine neg_i ?_
    repeat keq_rows
    refine fdiv_ii (by lia) ?_ (by lia)
    refine neg_i ?_
    repeat keq_rows
    rw [r10 N hN, beq_self_eq_true]
    exact ⟨rfl, psF, .tail _ (.tail _ (.tail _ (List.mem_append_right _ (.tail _ hS6))))⟩

-- M1
/-- f, n times -/
noncomputable def itI (f : Int → Int) : Nat → Int → Int
  | 0, x => x
  | n + 1, x => itI f n (f x)
theorem itI_add (f : Int → Int) (n : Nat) : ∀ (k : Nat) (x : Int), itI f (n + k) x = itI f n (itI f k x)
  | 0, _ => rfl
  | k + 1, x => itI_add f n k (f x)
theorem itI_succ (f : Int → Int) (n : Nat) (x : Int) : itI f (n + 1) x = f (itI f n x) := by
  rw [Nat.add_comm, itI_add]; rfl

theorem itI_mulS (f : Int → Int) (m q : Nat) (x : Int) : itI f ((m + 1) * q) x = itI f q (itI f (m * q) x) := by
  rw [Nat.succ_mul, Nat.add_comm (m * q), itI_add]

/-- a monotone map that goes with the turn, and its counterpart -/
structure Gal (f g : Int → Int) : Prop where
  gal : ∀ x y, f x < y ↔ x < g y
  turn : ∀ x, f (x + 64) = f x + 64
  up : ∀ x, x < f x

/-- a monotone map that goes with the turn -/
structure Tur (f : Int → Int) : Prop where
  mono : ∀ {x y}, x ≤ y → f x ≤ f y
  turn : ∀ x, f (x + 64) = f x + 64

theorem Gal.turF {f g : Int → Int} (G : Gal f g) : Tur f where
  mono := fun {x y} h => by
    have h1 := (G.gal y (f y + 1)).mp (by lia)
    have h2 := (G.gal x (f y + 1)).mpr (by lia)
    lia
  turn := G.turn
theorem Gal.turG {f g : Int → Int} (G : Gal f g) : Tur g where
  mono := fun {x y} h => by
    have h1 := (G.gal (g x - 1) x).mpr (by lia)
    have h2 := (G.gal (g x - 1) y).mp (by lia)
    lia
  turn := fun y => by
    have a1 := (G.gal (g (y + 64) - 1) (y + 64)).mpr (by lia)
    have a2 := G.turn (g (y + 64) - 1 - 64)
    rw [show g (y + 64) - 1 - 64 + 64 = g (y + 64) - 1 by lia] at a2
    have a3 := (G.gal (g (y + 64) - 1 - 64) y).mp (by lia)
    have b1 := (G.gal (g y - 1) y).mpr (by lia)
    have b2 := G.turn (g y - 1)
    have b3 := (G.gal (g y - 1 + 64) (y + 64)).mp (by lia)
    lia
theorem Gal.it {f g : Int → Int} (G : Gal f g) : ∀ (k : Nat) (x y : Int), itI f k x < y ↔ x < itI g k y
  | 0, _, _ => Iff.rfl
  | k + 1, x, y => by
    rw [itI_succ f, G.gal, G.it k]; rfl

theorem Tur.itM {f : Int → Int} (T : Tur f) : ∀ (k : Nat) {x y : Int}, x ≤ y → itI f k x ≤ itI f k y
  | 0, _, _, h => h
  | k + 1, _, _, h => T.itM k (T.mono h)
theorem Tur.turnI {f : Int → Int} (T : Tur f) (c : Int) (x : Int) : f (x + 64 * c) = f x + 64 * c := by
  have h1 : ∀ (n : Nat) (x : Int), f (x + 64 * n) = f x + 64 * n := by
    intro n
    induction n with
    | zero => intro x; simp
    | succ n ih =>
      intro x
      have := T.turn (x + 64 * n)
      rw [ih] at this
      rw [show x + 64 * ((n + 1 : Nat) : Int) = x + 64 * n + 64 by lia, this]
      lia
  rcases Int.le_total 0 c with h | h
  · have := h1 c.toNat x
    rw [Int.toNat_of_nonneg h] at this
    exact this
  · have := h1 (-c).toNat (x + 64 * c)
    rw [Int.toNat_of_nonneg (by lia)] at this
    rw [show x + 64 * c + 64 * -c = x by lia] at this
    lia
theorem Tur.itT {f : Int → Int} (T : Tur f) (c : Int) : ∀ (k : Nat) (x : Int), itI f k (x + 64 * c) = itI f k x + 64 * c
  | 0, _ => rfl
  | k + 1, x => by
    show itI f k (f (x + 64 * c)) = itI f k (f x) + 64 * c
    rw [T.turnI, T.itT c k]

/-- rounds upon rounds -/
theorem Tur.per {f : Int → Int} (T : Tur f) {q : Nat} {z p : Int} (h : itI f q z = z + 64 * p) : ∀ m : Nat, itI f (m * q) z = z + 64 * (m * p)
  | 0 => by simp [itI]
  | m + 1 => by
    rw [itI_mulS, T.per h m, T.itT, h]
    rw [show ((m + 1 : Nat) : Int) * p = m * p + p by rw [Int.natCast_succ, Int.add_mul, Int.one_mul]]
    lia
theorem Tur.perLe {f : Int → Int} (T : Tur f) {q : Nat} {z p : Int} (h : itI f q z ≤ z + 64 * p) : ∀ m : Nat, itI f (m * q) z ≤ z + 64 * (m * p)
  | 0 => by simp [itI]
  | m + 1 => by
    rw [itI_mulS]
    have h1 := T.itM q (T.perLe h m)
    rw [T.itT] at h1
    rw [show ((m + 1 : Nat) : Int) * p = m * p + p by rw [Int.natCast_succ, Int.add_mul, Int.one_mul]]
    lia
theorem Tur.perGe {f : Int → Int} (T : Tur f) {q : Nat} {z p : Int} (h : z + 64 * p ≤ itI f q z) : ∀ m : Nat, z + 64 * (m * p) ≤ itI f (m * q) z
  | 0 => by simp [itI]
  | m + 1 => by
    rw [itI_mulS]
    have h1 := T.itM q (T.perGe h m)
    rw [T.itT] at h1
    rw [show ((m + 1 : Nat) : Int) * p = m * p + p by rw [Int.natCast_succ, Int.add_mul, Int.one_mul]]
    lia
theorem Tur.perLt {f : Int → Int} (T : Tur f) {q : Nat} {z p : Int} (h : itI f q z < z + 64 * p) : ∀ m : Nat, itI f ((m + 1) * q) z < z + 64 * ((m + 1 : Nat) * p)
  | 0 => by simpa using h
  | m + 1 => by
    rw [itI_mulS]
    have h1 := T.itM q (Int.le_of_lt (T.perLt h m))
    rw [T.itT] at h1
    rw [show ((m + 1 + 1 : Nat) : Int) * p = (m + 1 : Nat) * p + p by rw [Int.natCast_succ (m + 1), Int.add_mul, Int.one_mul]]
    lia
theorem Tur.perGt {f : Int → Int} (T : Tur f) {q : Nat} {z p : Int} (h : z + 64 * p < itI f q z) : ∀ m : Nat, z + 64 * ((m + 1 : Nat) * p) < itI f ((m + 1) * q) z
  | 0 => by simpa using h
  | m + 1 => by
    rw [itI_mulS]
    have h1 := T.itM q (Int.le_of_lt (T.perGt h m))
    rw [T.itT] at h1
    rw [show ((m + 1 + 1 : Nat) : Int) * p = (m + 1 : Nat) * p + p by rw [Int.natCast_succ (m + 1), Int.add_mul, Int.one_mul]]
    lia

/-- a closed round: q steps, p turns, and no earlier close -/
structure Round (f : Int → Int) (z : Int) (q : Nat) (p : Int) : Prop where
  pos : 0 < q
  per : itI f q z = z + 64 * p
  fst : ∀ i, 0 < i → i < q → itI f i z % 64 ≠ z % 64

theorem Round.coprime {f : Int → Int} (T : Tur f) {z : Int} {q : Nat} {p : Int} (R : Round f z q p) : Nat.Coprime q p.natAbs := by
  obtain ⟨q1, hq⟩ := Nat.gcd_dvd_left q p.natAbs
  obtain ⟨p1, hp⟩ : ((Nat.gcd q p.natAbs : Nat) : Int) ∣ p := Int.dvd_natAbs.mp (Int.natCast_dvd_natCast.mpr (Nat.gcd_dvd_right q p.natAbs))
  show Nat.gcd q p.natAbs = 1
  generalize Nat.gcd q p.natAbs = d at hq hp
  have hq0 := R.pos
  have hd0 : 0 < d := by
    rcases d with _ | d
    · simp at hq; lia
    · lia
  have hq1 : 0 < q1 := by
    rcases q1 with _ | q1
    · simp at hq; lia
    · lia
  have key : itI f q1 z = z + 64 * p1 := by
    have hper := R.per
    rw [hq, hp] at hper
    obtain ⟨d', rfl⟩ : ∃ d', d = d' + 1 := ⟨d - 1, by lia⟩
    rcases Int.lt_trichotomy (itI f q1 z) (z + 64 * p1) with h | h | h
    · have := T.perLt h d'; lia
    · exact h
    · have := T.perGt h d'; lia
  rcases Nat.lt_or_ge 1 d with h1 | h1
  · have hlt : q1 < q := by
      rw [hq]
      have := Nat.mul_lt_mul_of_pos_right h1 hq1
      lia
    have := R.fst q1 hq1 hlt
    rw [key] at this
    lia
  · lia

theorem Gal.cross {f g : Int → Int} (G : Gal f g) {z y : Int} {q q' : Nat} {p p' : Int} (h : itI f q z = z + 64 * p) (h' : itI g q' y = y - 64 * p') : (q' : Int) * p = q * p' := by
  have h2 : itI g q' y = y + 64 * (-p') := by lia
  have e1 := G.turF.per h q'
  have e2 := G.turG.per h2 q
  have key : ∀ j : Int, z + 64 * (q' * p) < y + 64 * j ↔ z < y + 64 * j - 64 * (q * p') := by
    intro j
    have := G.it (q' * q) z (y + 64 * j)
    rw [e1, G.turG.itT, Nat.mul_comm, e2] at this
    rw [this, Int.mul_neg]
    constructor <;> intro h <;> lia
  generalize (q' : Int) * p = A at key
  generalize (q : Int) * p' = B at key
  have k1 := key (A + (z - y) / 64 + 1)
  have k2 := key (A + (z - y) / 64)
  lia

theorem Gal.same {f g : Int → Int} (G : Gal f g) {z y : Int} {q q' : Nat} {p p' : Int} (R : Round f z q p) (R' : Round g y q' (-p')) : q = q' ∧ p = p' := by
  have hc := G.cross R.per (by rw [R'.per]; lia : itI g q' y = y - 64 * p')
  have c1 := R.coprime G.turF
  have c2 := R'.coprime G.turG
  rw [Int.natAbs_neg] at c2
  have hn : q' * p.natAbs = q * p'.natAbs := by
    have := congrArg Int.natAbs hc
    rwa [Int.natAbs_mul, Int.natAbs_mul, Int.natAbs_natCast, Int.natAbs_natCast] at this
  have d1 : q ∣ q' := c1.dvd_of_dvd_mul_right ⟨_, hn⟩
  have d2 : q' ∣ q := c2.dvd_of_dvd_mul_right ⟨_, hn.symm⟩
  have e := Nat.dvd_antisymm d1 d2
  subst e
  refine ⟨rfl, ?_⟩
  have := R.pos
  exact Int.eq_of_mul_eq_mul_left (by lia) hc

/-- how many steps fit in a turn -/
theorem Gal.fit {f g : Int → Int} (G : Gal f g) {z : Int} {q : Nat} {p : Int} (R : Round f z q p) {k : Nat} {x : Int} (h : itI f k x ≤ x + 64) : (k : Int) * p ≤ q := by
  have T := G.turF
  have a1 := T.perLe (p := 1) (by lia) q (q := k) (z := x)
  have hz : itI f q (z + 64 * ((x - z) / 64)) = z + 64 * ((x - z) / 64) + 64 * p := by rw [T.itT, R.per]; lia
  have a2 := T.per hz k
  have a3 := T.itM (k * q) (show z + 64 * ((x - z) / 64) ≤ x by lia)
  rw [Nat.mul_comm] at a1
  generalize (k : Int) * p = A at *
  lia
theorem Gal.p_pos {f g : Int → Int} (G : Gal f g) {z : Int} {q : Nat} {p : Int} (R : Round f z q p) : 0 < p := by
  have hu : ∀ (k : Nat) (x : Int), x ≤ itI f k x := by
    intro k
    induction k with
    | zero => intro x; exact Int.le_refl _
    | succ k ih => intro x; have := ih (f x); have := G.up x; show x ≤ itI f k (f x); lia
  obtain ⟨q', rfl⟩ : ∃ q', q = q' + 1 := ⟨q - 1, by have := R.pos; lia⟩
  have h1 := R.per
  have h2 := hu q' (f z)
  have h3 := G.up z
  have : itI f (q' + 1) z = itI f q' (f z) := rfl
  lia
theorem Gal.upI {f g : Int → Int} (G : Gal f g) : ∀ (k : Nat) (x : Int), x ≤ itI f k x
  | 0, _ => Int.le_refl _
  | k + 1, x => Int.le_trans (Int.le_of_lt (G.up x)) (G.upI k (f x))
theorem Gal.upM {f g : Int → Int} (G : Gal f g) {k k' : Nat} (h : k ≤ k') (x : Int) : itI f k x ≤ itI f k' x := by
  obtain ⟨d, rfl⟩ : ∃ d, k' = d + k := ⟨k' - k, by lia⟩
  rw [itI_add]
  exact G.upI d _
/-- if the quotient allows it, k steps fit in a turn somewhere -/
theorem Gal.fits {f g : Int → Int} (G : Gal f g) {z : Int} {q : Nat} {p : Int} (R : Round f z q p) {k : Nat} (h : (k : Int) * p ≤ q) : ∃ x, itI f k x ≤ x + 64 := by
  refine Classical.byContradiction fun hn => ?_
  have hn : ∀ x, x + 64 < itI f k x := fun x => Int.not_le.mp fun h => hn ⟨x, h⟩
  have T := G.turF
  have hp := G.p_pos R
  obtain ⟨p1, rfl⟩ : ∃ p1 : Nat, p = ((p1 + 1 : Nat) : Int) := ⟨(p - 1).toNat, by lia⟩
  have key : ∀ m : Nat, z + 64 * ((m + 1 : Nat) : Int) < itI f ((m + 1) * k) z := by
    intro m
    induction m with
    | zero => have := hn z; simpa using this
    | succ m ih =>
      rw [itI_mulS]
      have := hn (itI f ((m + 1) * k) z)
      lia
  have h1 := key p1
  have h2 : (p1 + 1) * k ≤ q := by
    rw [Nat.mul_comm]
    exact Int.ofNat_le.mp (by rw [Int.natCast_mul]; exact h)
  have h3 := G.upM h2 z
  have h4 := R.per
  lia
/-- how many steps reach a turn -/
theorem Gal.reach {f g : Int → Int} (G : Gal f g) {z : Int} {q : Nat} {p : Int} (R : Round f z q p) {k : Nat} {x : Int} (h : x + 64 ≤ itI f k x) : (q : Int) ≤ k * p := by
  have T := G.turF
  have a1 := T.perGe (p := 1) (by lia) q (q := k) (z := x)
  have hz : itI f q (z + 64 * ((x - z + 63) / 64)) = z + 64 * ((x - z + 63) / 64) + 64 * p := by rw [T.itT, R.per]; lia
  have a2 := T.per hz k
  have a3 := T.itM (k * q) (show x ≤ z + 64 * ((x - z + 63) / 64) by lia)
  rw [Nat.mul_comm] at a1
  generalize (k : Int) * p = A at *
  lia
theorem Gal.reaches {f g : Int → Int} (G : Gal f g) {z : Int} {q : Nat} {p : Int} (R : Round f z q p) {k : Nat} (h : (q : Int) ≤ k * p) : ∃ x, x + 64 ≤ itI f k x := by
  refine Classical.byContradiction fun hn => ?_
  have hn : ∀ x, itI f k x < x + 64 := fun x => Int.not_le.mp fun h => hn ⟨x, h⟩
  have T := G.turF
  have hp := G.p_pos R
  obtain ⟨p1, rfl⟩ : ∃ p1 : Nat, p = ((p1 + 1 : Nat) : Int) := ⟨(p - 1).toNat, by lia⟩
  have key : ∀ m : Nat, itI f ((m + 1) * k) z < z + 64 * ((m + 1 : Nat) : Int) := by
    intro m
    induction m with
    | zero => have := hn z; simpa using this
    | succ m ih =>
      rw [itI_mulS]
      have := hn (itI f ((m + 1) * k) z)
      lia
  have h1 := key p1
  have h2 : q ≤ (p1 + 1) * k := by
    rw [Nat.mul_comm]
    exact Int.ofNat_le.mp (by rw [Int.natCast_mul]; exact h)
  have h3 := G.upM h2 z
  have h4 := R.per
  lia

-- M2
/-- arcs as the law draws them -/
structure ArcsOk (as : List P) : Prop where
  ne : as ≠ []
  ok : ∀ p ∈ as, 0 ≤ p.1 ∧ p.1 < 64 ∧ p.1 < p.2 ∧ p.2 ≤ p.1 + 32
/-- a copy of an arc, whole turns away -/
noncomputable def Cp (as : List P) (b e : Int) : Prop := ∃ p ∈ as, ∃ k : Int, b = p.1 + 64 * k ∧ e = p.2 + 64 * k
theorem Cp.shift {as : List P} {b e : Int} (h : Cp as b e) (j : Int) : Cp as (b + 64 * j) (e + 64 * j) := by
  obtain ⟨p, hp, k, rfl, rfl⟩ := h
  exact ⟨p, hp, k + j, by lia, by lia⟩
theorem Cp.len {as : List P} (A : ArcsOk as) {b e : Int} (h : Cp as b e) : b < e ∧ e ≤ b + 32 := by
  obtain ⟨p, hp, k, rfl, rfl⟩ := h
  have := A.ok p hp
  lia

/-- y is the least end of a copy that begins behind x -/
noncomputable def Nx (as : List P) (x y : Int) : Prop := (∃ b, Cp as b y ∧ x < b) ∧ ∀ b e, Cp as b e → x < b → y ≤ e
/-- z is the greatest begin of a copy that ends ahead of y -/
noncomputable def Pv (as : List P) (y z : Int) : Prop := (∃ e, Cp as z e ∧ e < y) ∧ ∀ b e, Cp as b e → e < y → b ≤ z
theorem Nx.uniq {as : List P} {x y y' : Int} (h : Nx as x y) (h' : Nx as x y') : y = y' := by
  obtain ⟨⟨b, c1, c2⟩, h1⟩ := h
  obtain ⟨⟨b', c1', c2'⟩, h1'⟩ := h'
  have := h1 _ _ c1' c2'
  have := h1' _ _ c1 c2
  lia
theorem Pv.uniq {as : List P} {x y y' : Int} (h : Pv as x y) (h' : Pv as x y') : y = y' := by
  obtain ⟨⟨b, c1, c2⟩, h1⟩ := h
  obtain ⟨⟨b', c1', c2'⟩, h1'⟩ := h'
  have := h1 _ _ c1' c2'
  have := h1' _ _ c1 c2
  lia
/-- the least of a list -/
theorem least {α : Type} (f : α → Int) : ∀ l : List α, l ≠ [] → ∃ a ∈ l, ∀ b ∈ l, f a ≤ f b
  | [a], _ => ⟨a, by simp, by simp⟩
  | a :: b :: l, _ => by
    obtain ⟨m, hm, h⟩ := least f (b :: l) (by simp)
    by_cases q : f a ≤ f m
    · refine ⟨a, by simp, fun c hc => ?_⟩
      rcases List.mem_cons.mp hc with rfl | hc
      · exact Int.le_refl _
      · exact Int.le_trans q (h c hc)
    · refine ⟨m, List.mem_cons_of_mem _ hm, fun c hc => ?_⟩
      rcases List.mem_cons.mp hc with rfl | hc
      · lia
      · exact h c hc
theorem nx_ex {as : List P} (A : ArcsOk as) (x : Int) : ∃ y, Nx as x y := by
  obtain ⟨p, hp, h⟩ := least (fun p : P => p.2 + 64 * ((x - p.1) / 64 + 1)) as A.ne
  refine ⟨p.2 + 64 * ((x - p.1) / 64 + 1), ⟨p.1 + 64 * ((x - p.1) / 64 + 1), ⟨p, hp, _, rfl, rfl⟩, by lia⟩, ?_⟩
  rintro b e ⟨q, hq, k, rfl, rfl⟩ hx
  have := h q hq
  lia
theorem pv_ex {as : List P} (A : ArcsOk as) (y : Int) : ∃ z, Pv as y z := by
  obtain ⟨p, hp, h⟩ := least (fun p : P => -(p.1 + 64 * ((y - 1 - p.2) / 64))) as A.ne
  refine ⟨p.1 + 64 * ((y - 1 - p.2) / 64), ⟨p.2 + 64 * ((y - 1 - p.2) / 64), ⟨p, hp, _, rfl, rfl⟩, by lia⟩, ?_⟩
  rintro b e ⟨q, hq, k, rfl, rfl⟩ hx
  have := h q hq
  lia

/-- the two maps -/
structure Maps (as : List P) (f g : Int → Int) : Prop where
  nx : ∀ x, Nx as x (f x)
  pv : ∀ y, Pv as y (g y)
theorem maps_ex {as : List P} (A : ArcsOk as) : ∃ f g, Maps as f g :=
  ⟨fun x => (nx_ex A x).choose, fun y => (pv_ex A y).choose, fun x => (nx_ex A x).choose_spec, fun y => (pv_ex A y).choose_spec⟩
theorem Maps.f_eq {as : List P} {f g : Int → Int} (M : Maps as f g) {x y : Int} (h : Nx as x y) : f x = y := (M.nx x).uniq h
theorem Maps.g_eq {as : List P} {f g : Int → Int} (M : Maps as f g) {x y : Int} (h : Pv as x y) : g x = y := (M.pv x).uniq h
theorem Nx.shift {as : List P} {x y : Int} (h : Nx as x y) (j : Int) : Nx as (x + 64 * j) (y + 64 * j) := by
  obtain ⟨⟨b, c1, c2⟩, h1⟩ := h
  refine ⟨⟨b + 64 * j, c1.shift j, by lia⟩, fun b' e' c h => ?_⟩
  have := h1 _ _ (c.shift (-j)) (by lia)
  lia
theorem Pv.shift {as : List P} {x y : Int} (h : Pv as x y) (j : Int) : Pv as (x + 64 * j) (y + 64 * j) := by
  obtain ⟨⟨b, c1, c2⟩, h1⟩ := h
  refine ⟨⟨b + 64 * j, c1.shift j, by lia⟩, fun b' e' c h => ?_⟩
  have := h1 _ _ (c.shift (-j)) (by lia)
  lia
theorem Maps.gal {as : List P} (A : ArcsOk as) {f g : Int → Int} (M : Maps as f g) : Gal f g where
  gal := fun x y => by
    obtain ⟨⟨b, c1, c2⟩, h1⟩ := M.nx x
    obtain ⟨⟨e, c3, c4⟩, h2⟩ := M.pv y
    constructor
    · intro h
      have := h2 _ _ c1 h
      lia
    · intro h
      have := h1 _ _ c3 h
      lia
  turn := fun x => M.f_eq (by have := (M.nx x).shift 1; simpa using this)
  up := fun x => by
    obtain ⟨⟨b, c1, c2⟩, h1⟩ := M.nx x
    have := c1.len A
    lia
/-- a step is not over 96 -/
theorem Maps.f_le {as : List P} (A : ArcsOk as) {f g : Int → Int} (M : Maps as f g) (x : Int) : f x ≤ x + 96 := by
  obtain ⟨⟨b, c1, c2⟩, h1⟩ := M.nx x
  obtain ⟨p, hp⟩ := List.exists_mem_of_ne_nil _ A.ne
  have := h1 _ _ ⟨p, hp, (x - p.1) / 64 + 1, rfl, rfl⟩ (by lia)
  have := A.ok p hp
  lia

/-- f's steps from x0, the first m -/
noncomputable def orb (f : Int → Int) (x0 : Int) (m : Nat) : List Int := (List.range m).map fun i => itI f i x0
theorem orb_succ (f : Int → Int) (x0 : Int) (m : Nat) : orb f x0 (m + 1) = orb f x0 m ++ [itI f m x0] := by
  unfold orb; rw [List.range_succ, List.map_append]; rfl
theorem orb_length (f : Int → Int) (x0 : Int) (m : Nat) : (orb f x0 m).length = m := by simp [orb]
theorem orb_getD (f : Int → Int) (x0 : Int) {m i : Nat} (h : i < m) (d : Int) : (orb f x0 m).getD i d = itI f i x0 := by
  simp [orb, h]
/-- no two of the first m have the same place -/
noncomputable def Apart (f : Int → Int) (x0 : Int) (m : Nat) : Prop := ∀ i j, i < j → j < m → itI f i x0 % 64 ≠ itI f j x0 % 64
theorem Apart.round {f : Int → Int} {x0 : Int} {m k : Nat} (A : Apart f x0 m) (hk : k < m) (h : itI f m x0 % 64 = itI f k x0 % 64) : Round f (itI f k x0) (m - k) ((itI f m x0 - itI f k x0) / 64) where
  pos := by lia
  per := by
    rw [← itI_add, show m - k + k = m by lia]
    lia
  fst := fun i h0 h1 => by
    rw [← itI_add]
    exact fun q => A k (i + k) (by lia) (by lia) q.symm

theorem subset_len {α : Type} [DecidableEq α] : ∀ (l m : List α), l.Nodup → (∀ x ∈ l, x ∈ m) → l.length ≤ m.length
  | [], _, _, _ => Nat.zero_le _
  | a :: l, m, hn, hs => by
    have h1 := hs a (by simp)
    have h2 := List.nodup_cons.mp hn
    have := subset_len l (m.erase a) h2.2 fun x hx => (List.mem_erase_of_ne (fun q : x = a => h2.1 (by rw [← q]; exact hx))).mpr (hs x (by simp [hx]))
    rw [List.length_erase_of_mem h1] at this
    have := List.length_pos_of_mem h1
    simp only [List.length_cons]
    lia
theorem Apart.le {f : Int → Int} {x0 : Int} {m : Nat} (A : Apart f x0 m) : m ≤ 64 := by
  have h := subset_len ((List.range m).map fun i => (itI f i x0 % 64).toNat) (List.range 64) ?_ ?_
  · simpa using h
  · refine (List.pairwise_map).mpr ?_
    have := List.pairwise_lt_range (n := m)
    refine List.Pairwise.imp_of_mem ?_ this
    intro i j hi hj hij
    have := A i j hij (List.mem_range.mp hj)
    lia
  · intro x hx
    obtain ⟨i, hi, rfl⟩ := List.mem_map.mp hx
    simp only [List.mem_range]
    lia
theorem Apart.succ {f : Int → Int} {x0 : Int} {m : Nat} (A : Apart f x0 m) (h : ∀ k < m, itI f m x0 % 64 ≠ itI f k x0 % 64) : Apart f x0 (m + 1) := by
  intro i j hij hj
  rcases Nat.lt_or_ge j m with q | q
  · exact A i j hij q
  · have : j = m := by lia
    subst this
    exact (h i hij).symm

-- M3
noncomputable def LeP (p q : P) : Prop := p.1 < q.1 ∨ (p.1 = q.1 ∧ p.2 ≤ q.2)
theorem LeP.trans {p q r : P} (h : LeP p q) (h' : LeP q r) : LeP p r := by unfold LeP at *; lia
theorem ltP_iff {p q : P} : ltP p q = true ↔ p.1 < q.1 ∨ (p.1 = q.1 ∧ p.2 < q.2) := by unfold ltP plt; simp
theorem leP_of_not {p q : P} (h : ltP p q = false) : LeP q p := by
  have : ¬ (p.1 < q.1 ∨ (p.1 = q.1 ∧ p.2 < q.2)) := fun x => by rw [ltP_iff.mpr x] at h; cases h
  unfold LeP; lia
theorem leP_of_lt {p q : P} (h : ltP p q = true) : LeP p q := by
  have := ltP_iff.mp h
  unfold LeP; lia
theorem not_lt_of_leP {p q : P} (h : LeP q p) : ltP p q = false := by
  cases e : ltP p q with
  | false => rfl
  | true => have := ltP_iff.mp e; unfold LeP at h; lia

abbrev gP (l : List P) (i : Nat) : P := l.getD i (0, 0)
theorem gP_set {l : List P} {i j : Nat} {x : P} : gP (l.set i x) j = if i = j ∧ i < l.length then x else gP l j := by
  unfold gP
  rw [List.getD_eq_getElem?_getD, List.getD_eq_getElem?_getD, List.getElem?_set]
  by_cases h : i = j
  · subst h
    by_cases h2 : i < l.length
    · simp [h2]
    · simp [h2]
  · simp [h]
theorem gP_ne {l : List P} {i j : Nat} {x : P} (h : i ≠ j) : gP (l.set i x) j = gP l j := by rw [gP_set, if_neg (by lia)]
theorem gP_eq {l : List P} {i : Nat} {x : P} (h : i < l.length) : gP (l.set i x) i = x := by rw [gP_set, if_pos ⟨rfl, h⟩]

-- what a list holds
noncomputable def Sm (μ : P → Nat) (l : List P) : Nat := (l.map μ).sum
noncomputable def Eqv (l l' : List P) : Prop := ∀ μ, Sm μ l = Sm μ l'
theorem Eqv.refl (l : List P) : Eqv l l := fun _ => rfl
theorem Eqv.trans {l l' l'' : List P} (h : Eqv l l') (h' : Eqv l' l'') : Eqv l l'' := fun μ => (h μ).trans (h' μ)
theorem Eqv.symm {l l' : List P} (h : Eqv l l') : Eqv l' l := fun μ => (h μ).symm
theorem Sm_set (μ : P → Nat) : ∀ (l : List P) (i : Nat) (x : P), i < l.length → Sm μ (l.set i x) + μ (gP l i) = Sm μ l + μ x
  | a :: l, 0, x, _ => by
    show (μ x + Sm μ l) + μ a = (μ a + Sm μ l) + μ x
    lia
  | a :: l, i + 1, x, h => by
    have := Sm_set μ l i x (by simpa using h)
    show (μ a + Sm μ (l.set i x)) + μ (gP l i) = (μ a + Sm μ l) + μ x
    lia
theorem Sm_mem {x : P} : ∀ l : List P, 0 < Sm (fun y => if y = x then 1 else 0) l ↔ x ∈ l
  | [] => by simp [Sm]
  | a :: l => by
    have := Sm_mem (x := x) l
    show 0 < (if a = x then 1 else 0) + Sm (fun y => if y = x then 1 else 0) l ↔ _
    rw [List.mem_cons, ← this]
    by_cases h : a = x
    · subst h; simp; lia
    · rw [if_neg h]
      have h' : ¬ x = a := fun q => h q.symm
      simp [h']
theorem Eqv.mem {l l' : List P} (h : Eqv l l') {x : P} : x ∈ l ↔ x ∈ l' := by rw [← Sm_mem, ← Sm_mem, h]
theorem Eqv.swap {l : List P} {p c : Nat} {x : P} (hp : p < l.length) (hc : c < l.length) (hne : p ≠ c) : Eqv ((l.set p (gP l c)).set c x) (l.set p x) := by
  intro μ
  have h1 := Sm_set μ (l.set p (gP l c)) c x (by simpa using hc)
  have h2 := Sm_set μ l p (gP l c) hp
  have h3 := Sm_set μ l p x hp
  rw [gP_ne hne] at h1
  lia
theorem Sm_cons (μ : P → Nat) (a : P) (l : List P) : Sm μ (a :: l) = μ a + Sm μ l := rfl
theorem Sm_append (μ : P → Nat) (l m : List P) : Sm μ (l ++ m) = Sm μ l + Sm μ m := by unfold Sm; rw [List.map_append, List.sum_append]

inductive Desc (s : Nat) : Nat → Prop where
  | top : Desc s s
  | l {p} : Desc s p → Desc s (2 * p + 1)
  | r {p} : Desc s p → Desc s (2 * p + 2)
theorem Desc.ge {s p : Nat} (d : Desc s p) : s ≤ p := by induction d <;> lia
theorem Desc.up {s p : Nat} (d : Desc s p) (h : s < p) : Desc s ((p - 1) / 2) := by
  cases d with
  | top => lia
  | l d => rename_i q; rw [show (2 * q + 1 - 1) / 2 = q by lia]; exact d
  | r d => rename_i q; rw [show (2 * q + 2 - 1) / 2 = q by lia]; exact d

/-- from s on, no child is below its parent -/
noncomputable def Hp (l : List P) (s : Nat) : Prop := ∀ i, s ≤ i → ∀ c, (c = 2 * i + 1 ∨ c = 2 * i + 2) → c < l.length → LeP (gP l i) (gP l c)
/-- the same with a hole at p -/
structure Hole (l : List P) (s p : Nat) : Prop where
  d : Desc s p
  lt : p < l.length
  i1 : ∀ i, s ≤ i → i ≠ p → ∀ c, (c = 2 * i + 1 ∨ c = 2 * i + 2) → c < l.length → c ≠ p → LeP (gP l i) (gP l c)
  i2 : s < p → ∀ c, (c = 2 * p + 1 ∨ c = 2 * p + 2) → c < l.length → LeP (gP l ((p - 1) / 2)) (gP l c)

theorem Hole.sd {s : Nat} {x : P} : ∀ (p : Nat) (l : List P), Hole l s p → (∀ c, (c = 2 * p + 1 ∨ c = 2 * p + 2) → c < l.length → LeP x (gP l c)) → Hp (sdF l s p x) s ∧ Eqv (sdF l s p x) (l.set p x) := by
  intro p
  induction p using Nat.strongRecOn with
  | _ p ih =>
    intro l H h3
    have done : (s < p → LeP (gP l ((p - 1) / 2)) x) → Hp (l.set p x) s := by
      intro hs i hi c hc hl
      rw [List.length_set] at hl
      by_cases e1 : p = i
      · subst e1
        rw [gP_eq H.lt, gP_ne (by lia)]
        exact h3 c hc hl
      · rw [gP_ne e1]
        by_cases e2 : p = c
        · subst e2
          rw [gP_eq H.lt]
          have := hs (by lia)
          rwa [show (p - 1) / 2 = i by lia] at this
        · rw [gP_ne e2]
          exact H.i1 i hi (Ne.symm e1) c hc hl (Ne.symm e2)
    rw [sdF]
    split
    · rename_i hsp
      have hpp : (p - 1) / 2 < p := by lia
      have hpl : (p - 1) / 2 < l.length := Nat.lt_trans hpp H.lt
      split
      · rename_i hlt
        have hsd := (H.d.up hsp).ge
        have hx := leP_of_lt hlt
        have H' : Hole (l.set p (gP l ((p - 1) / 2))) s ((p - 1) / 2) := by
          refine ⟨H.d.up hsp, by simpa using hpl, fun i hi hne c hc hl hcne => ?_, fun hs2 c hc hl => ?_⟩
          · rw [List.length_set] at hl
            by_cases e1 : p = i
            · subst e1
              rw [gP_eq H.lt, gP_ne (by lia)]
              exact H.i2 hsp c hc hl
            · rw [gP_ne e1]
              by_cases e2 : p = c
              · lia
              · rw [gP_ne e2]
                exact H.i1 i hi (Ne.symm e1) c hc hl (Ne.symm e2)
          · rw [List.length_set] at hl
            have hq := ((H.d.up hsp).up hs2).ge
            have g1 : LeP (gP l (((p - 1) / 2 - 1) / 2)) (gP l ((p - 1) / 2)) := H.i1 _ hq (by lia) _ (by lia) hpl (by lia)
            rw [gP_ne (by lia)]
            by_cases e2 : p = c
            · subst e2
              rw [gP_eq H.lt]; exact g1
            · rw [gP_ne e2]
              exact g1.trans (H.i1 _ hsd (by lia) c hc hl (Ne.symm e2))
        obtain ⟨r1, r2⟩ := ih _ hpp _ H' (fun c hc hl => by
          rw [List.length_set] at hl
          by_cases e2 : p = c
          · subst e2
            rw [gP_eq H.lt]; exact hx
          · rw [gP_ne e2]
            exact hx.trans (H.i1 _ hsd (by lia) c hc hl (Ne.symm e2)))
        exact ⟨r1, r2.trans (Eqv.swap H.lt hpl (by lia))⟩
      · rename_i hlt
        exact ⟨done fun _ => leP_of_not (by simpa using hlt), Eqv.refl _⟩
    · rename_i hsp
      exact ⟨done fun q => absurd q hsp, Eqv.refl _⟩

theorem chF_min {l : List P} {p : Nat} (h : 2 * p + 1 < l.length) : (chF l p = 2 * p + 1 ∨ chF l p = 2 * p + 2) ∧ chF l p < l.length ∧ ∀ c, (c = 2 * p + 1 ∨ c = 2 * p + 2) → c < l.length → LeP (gP l (chF l p)) (gP l c) := by
  unfold chF
  split
  · rename_i q
    refine ⟨.inr rfl, q.1, fun c hc hl => ?_⟩
    rcases hc with rfl | rfl
    · exact leP_of_not q.2
    · unfold LeP; lia
  · rename_i q
    refine ⟨.inl rfl, h, fun c hc hl => ?_⟩
    rcases hc with rfl | rfl
    · unfold LeP; lia
    · have : ltP (gP l (2 * p + 1)) (gP l (2 * p + 2)) = true := by
        cases e : ltP (gP l (2 * p + 1)) (gP l (2 * p + 2)) with
        | true => rfl
        | false => exact absurd ⟨hl, e⟩ q
      exact leP_of_lt this
theorem Hole.su {s : Nat} (x : P) : ∀ (k p : Nat) (l : List P), l.length - p = k → Hole l s p → Hole (suF l p).1 s (suF l p).2 ∧ ¬ 2 * (suF l p).2 + 1 < l.length ∧ (suF l p).1.length = l.length ∧ Eqv ((suF l p).1.set (suF l p).2 x) (l.set p x) := by
  intro k
  induction k using Nat.strongRecOn with
  | _ k ih =>
    intro p l hk H
    rw [suF]
    split
    · rename_i h
      obtain ⟨c1, c2, c3⟩ := chF_min h
      generalize chF l p = c at c1 c2 c3
      have hs := H.d.ge
      have H' : Hole (l.set p (gP l c)) s c := by
        refine ⟨?_, by simpa using c2, fun i hi hne d hd hl hdne => ?_, fun hs2 d hd hl => ?_⟩
        · rcases c1 with rfl | rfl
          · exact H.d.l
          · exact H.d.r
        · rw [List.length_set] at hl
          by_cases e1 : p = i
          · subst e1
            rw [gP_eq H.lt, gP_ne (by lia)]
            exact c3 d hd hl
          · rw [gP_ne e1]
            by_cases e2 : p = d
            · subst e2
              rw [gP_eq H.lt]
              have := H.i2 (by lia) c c1 c2
              rwa [show (p - 1) / 2 = i by lia] at this
            · rw [gP_ne e2]
              exact H.i1 i hi (Ne.symm e1) d hd hl (Ne.symm e2)
        · rw [List.length_set] at hl
          rw [show (c - 1) / 2 = p by lia, gP_eq H.lt, gP_ne (by lia)]
          exact H.i1 c (by lia) (by lia) d hd hl (by lia)
      obtain ⟨r1, r2, r3, r4⟩ := ih (l.length - c) (by lia) c _ (by simp) H'
      rw [List.length_set] at r2 r3
      exact ⟨r1, r2, r3, r4.trans (Eqv.swap H.lt c2 (by lia))⟩
    · rename_i h
      exact ⟨H, h, rfl, Eqv.refl _⟩
theorem siftup_ok {l : List P} {s : Nat} (hs : s < l.length) (H : Hp l (s + 1)) : Hp (siftupF l s) s ∧ Eqv (siftupF l s) l := by
  have H0 : Hole l s s := ⟨.top, hs, fun i hi hne c hc hl _ => H i (by lia) c hc hl, fun q => absurd q (Nat.lt_irrefl _)⟩
  obtain ⟨r1, r2, r3, r4⟩ := Hole.su (gP l s) _ s l rfl H0
  unfold siftupF
  show Hp (sdF ((suF l s).1.set (suF l s).2 (gP l s)) s (suF l s).2 (gP ((suF l s).1.set (suF l s).2 (gP l s)) (suF l s).2)) s ∧ Eqv (sdF ((suF l s).1.set (suF l s).2 (gP l s)) s (suF l s).2 (gP ((suF l s).1.set (suF l s).2 (gP l s)) (suF l s).2)) l
  generalize (suF l s).1 = L at *
  generalize (suF l s).2 = p at *
  rw [gP_eq r1.lt]
  generalize hx : gP l s = x at *
  have H1 : Hole (L.set p x) s p := by
    refine ⟨r1.d, by simpa using r1.lt, fun i hi hne c hc hl hcne => ?_, fun hs2 c hc hl => ?_⟩
    · rw [List.length_set] at hl
      rw [gP_ne (Ne.symm hne), gP_ne (Ne.symm hcne)]
      exact r1.i1 i hi hne c hc hl hcne
    · rw [List.length_set] at hl
      lia
  obtain ⟨a1, a2⟩ := H1.sd (x := x) p _ (fun c hc hl => by rw [List.length_set] at hl; lia)
  refine ⟨a1, a2.trans ?_⟩
  rw [List.set_set]
  refine r4.trans ?_
  rw [← hx]
  intro μ
  have := Sm_set μ l s (gP l s) hs
  lia
theorem hf_ok : ∀ (k : Nat) (l : List P), k ≤ l.length → Hp l k → Hp (hfF k l) 0 ∧ Eqv (hfF k l) l
  | 0, l, _, H => ⟨H, Eqv.refl _⟩
  | k + 1, l, hk, H => by
    obtain ⟨a, b⟩ := siftup_ok (by lia) H
    obtain ⟨c, d⟩ := hf_ok k (siftupF l k) (by rw [siftupF_length]; lia) a
    exact ⟨c, d.trans b⟩
theorem heapify_ok (l : List P) : Hp (hfF (l.length / 2) l) 0 ∧ Eqv (hfF (l.length / 2) l) l :=
  hf_ok _ l (by lia) fun i hi c hc hl => by lia
theorem replace_ok {q : List P} (H : Hp q 0) (h0 : 0 < q.length) (x : P) : Hp (siftupF (q.set 0 x) 0) 0 ∧ Eqv (siftupF (q.set 0 x) 0) (q.set 0 x) :=
  siftup_ok (by simpa using h0) fun i hi c hc hl => by
    rw [List.length_set] at hl
    rw [gP_ne (by lia), gP_ne (by lia)]
    exact H i (by lia) c hc hl
theorem Hp.root {l : List P} (H : Hp l 0) : ∀ j, j < l.length → LeP (gP l 0) (gP l j) := by
  intro j
  induction j using Nat.strongRecOn with
  | _ j ih =>
    intro hj
    rcases Nat.eq_zero_or_pos j with rfl | h
    · unfold LeP; lia
    · exact (ih ((j - 1) / 2) (by lia) (by lia)).trans (H _ (Nat.zero_le _) j (by lia) hj)
theorem Hp.min {l : List P} (H : Hp l 0) {x : P} (hx : x ∈ l) : LeP (gP l 0) x := by
  obtain ⟨j, hj, rfl⟩ := List.getElem_of_mem hx
  have := H.root j hj
  have e : gP l j = l[j] := by unfold gP; simp [hj]
  rwa [e] at this

-- M4
theorem gP_mem {q : List P} {i : Nat} (h : i < q.length) : gP q i ∈ q := by
  have e : gP q i = q[i] := by unfold gP; simp [h]
  rw [e]; exact List.getElem_mem h
theorem mem_set0 {q : List P} {x y : P} (hx : x ∈ q) (hne : x ≠ gP q 0) : x ∈ q.set 0 y := by
  cases q with
  | nil => cases hx
  | cons a t =>
    rcases List.mem_cons.mp hx with rfl | hx
    · exact absurd rfl hne
    · exact List.mem_cons_of_mem _ hx
theorem mem_set0' {q : List P} {y : P} (h : 0 < q.length) : y ∈ q.set 0 y := by
  cases q with
  | nil => simp at h
  | cons a t => exact List.mem_cons_self ..

structure FwdInv (as : List P) (f : Int → Int) (q : List P) (m : Nat) : Prop where
  hp : Hp q 0
  ne : 0 < q.length
  cp : ∀ x ∈ q, Cp as x.2 x.1
  wit : ∀ p ∈ as, ∃ k : Int, (p.2 + 64 * k, p.1 + 64 * k) ∈ q ∧ p.1 + 64 * (k - 1) ≤ itI f m (-1)
  ap : Apart f (f (-1)) m

theorem Maps.itB {as : List P} (A : ArcsOk as) {f g : Int → Int} (M : Maps as f g) : ∀ m : Nat, -1 ≤ itI f m (-1) ∧ itI f m (-1) ≤ -1 + 96 * m
  | 0 => by simp [itI]
  | m + 1 => by
    have h := M.itB A m
    rw [itI_succ]
    have h1 := M.f_le A (itI f m (-1))
    have h2 := (M.gal A).up (itI f m (-1))
    lia

theorem fwd_ok {as : List P} (A : ArcsOk as) {f g : Int → Int} (M : Maps as f g) : ∀ (n : Nat) (q : List P) (m : Nat), FwdInv as f q m → Sm (fun x => (9000 - x.2).toNat) q + (65 - m) < n →
    ∃ N k, k < N ∧ Apart f (f (-1)) N ∧ itI f N (f (-1)) % 64 = itI f k (f (-1)) % 64 ∧ fwdF n q (itI f m (-1)) (orb f (f (-1)) m) = some ((N : Int) - k, itI f N (f (-1)) - itI f k (f (-1))) := by
  intro n
  induction n with
  | zero => intro q m _ h; lia
  | succ n ih =>
    intro q m I hn
    have hm := I.ap.le
    have hB := M.itB A m
    have hroot := gP_mem I.ne
    have hmin := fun x hx => I.hp.min (x := x) hx
    have hg : q.getD 0 (0, 0) = gP q 0 := rfl
    have hcp0 := I.cp _ hroot
    unfold fwdF
    rw [hg]
    obtain ⟨e, b, hr⟩ : ∃ e b, gP q 0 = (e, b) := ⟨_, _, rfl⟩
    rw [hr] at hroot hmin hcp0
    rw [hr]
    simp only at hcp0 ⊢
    by_cases hbl : b ≤ itI f m (-1)
    · rw [if_pos hbl]
      obtain ⟨h1, h2⟩ := replace_ok I.hp I.ne (e + 64, b + 64)
      refine ih _ m ⟨h1, by rw [siftupF_length]; simpa using I.ne, fun x hx => ?_, fun p hp => ?_, I.ap⟩ ?_
      · rcases List.mem_or_eq_of_mem_set (h2.mem.mp hx) with q1 | q1
        · exact I.cp x q1
        · subst q1
          have := hcp0.shift 1
          simpa using this
      · obtain ⟨k, k1, k2⟩ := I.wit p hp
        by_cases he : (p.2 + 64 * k, p.1 + 64 * k) = gP q 0
        · rw [hr] at he
          have e1 := (Prod.mk.inj he).1
          have e2 := (Prod.mk.inj he).2
          refine ⟨k + 1, h2.mem.mpr ?_, by lia⟩
          rw [show p.2 + 64 * (k + 1) = e + 64 by lia, show p.1 + 64 * (k + 1) = b + 64 by lia]
          exact mem_set0' I.ne
        · exact ⟨k, h2.mem.mpr (mem_set0 k1 he), k2⟩
      · have h3 := Sm_set (fun x : P => (9000 - x.2).toNat) q 0 (e + 64, b + 64) I.ne
        rw [← h2, hr] at h3
        simp only at h3
        lia
    · rw [if_neg hbl]
      have hf : f (itI f m (-1)) = e := by
        refine M.f_eq ⟨⟨b, hcp0, by lia⟩, ?_⟩
        rintro b' e' ⟨p, hp, j, rfl, rfl⟩ hx
        obtain ⟨k, k1, k2⟩ := I.wit p hp
        have := hmin _ k1
        unfold LeP at this
        simp only at this
        lia
      have he : itI f m (f (-1)) = e := by
        have := itI_succ f m (-1)
        rw [hf] at this
        exact this
      have hB2 := M.itB A (m + 1)
      rw [itI_succ, hf] at hB2
      have hup := (M.gal A).up (itI f m (-1))
      rw [hf] at hup
      have hrange : 0 ≤ e ∧ e < 8000 := by lia
      rw [if_neg (fun q => q hrange)]
      split
      · rename_i ha
        obtain ⟨x, hx, hxe⟩ := List.any_eq_true.mp ha
        have hk : ((orb f (f (-1)) m).findIdx fun x => x % 64 == e % 64) < (orb f (f (-1)) m).length := List.findIdx_lt_length_of_exists ⟨x, hx, hxe⟩
        have hk1 := List.findIdx_getElem (w := hk)
        generalize ((orb f (f (-1)) m).findIdx fun x => x % 64 == e % 64) = k at hk hk1
        rw [orb_length] at hk
        have hkk : (orb f (f (-1)) m)[k]'(by rw [orb_length]; exact hk) = itI f k (f (-1)) := by simp [orb]
        rw [hkk] at hk1
        refine ⟨m, k, hk, I.ap, ?_, ?_⟩
        · rw [he]; exact (eq_of_beq hk1).symm
        · rw [orb_length, orb_getD _ _ hk, he]
      · rename_i ha
        have hap : Apart f (f (-1)) (m + 1) := I.ap.succ fun k hk => by
          rw [he]
          intro q
          apply ha
          refine List.any_eq_true.mpr ⟨itI f k (f (-1)), List.mem_map.mpr ⟨k, List.mem_range.mpr hk, rfl⟩, ?_⟩
          rw [q]; exact beq_self_eq_true _
        have hm1 := hap.le
        have := ih q (m + 1) ⟨I.hp, I.ne, I.cp, fun p hp => by
          obtain ⟨k, k1, k2⟩ := I.wit p hp
          refine ⟨k, k1, ?_⟩
          rw [itI_succ, hf]
          have := (M.gal A).up (itI f m (-1))
          lia, hap⟩ (by lia)
        rw [itI_succ, hf, orb_succ, he] at this
        exact this

theorem Sm_le (μ : P → Nat) (B : Nat) : ∀ l : List P, (∀ x ∈ l, μ x ≤ B) → Sm μ l ≤ B * l.length
  | [], _ => by simp [Sm]
  | a :: l, h => by
    have h1 := Sm_le μ B l fun x hx => h x (by simp [hx])
    have h2 := h a (by simp)
    rw [Sm_cons, List.length_cons, Nat.mul_succ]
    lia

/-- the forward round ends, and closes a round of f -/
theorem fwd_run {as : List P} (A : ArcsOk as) (hl : as.length ≤ 7) {f g : Int → Int} (M : Maps as f g) : ∃ (z : Int) (q : Nat) (p : Int), Round f z q p ∧ fwdF 70000 (hfF (as.length / 2) (as.map fun p => (p.2, p.1))) (-1) [] = some ((q : Int), 64 * p) := by
  obtain ⟨h1, h2⟩ := heapify_ok (as.map fun p => (p.2, p.1))
  rw [List.length_map] at h1 h2
  have hn : 0 < as.length := List.length_pos_iff.mpr A.ne
  have I : FwdInv as f (hfF (as.length / 2) (as.map fun p => (p.2, p.1))) 0 := by
    refine ⟨h1, by rw [hfF_length]; simpa using hn, fun x hx => ?_, fun p hp => ?_, fun i j _ h => absurd h (Nat.not_lt_zero _)⟩
    · obtain ⟨p, hp, rfl⟩ := List.mem_map.mp (h2.mem.mp hx)
      exact ⟨p, hp, 0, by simp, by simp⟩
    · refine ⟨0, h2.mem.mpr (List.mem_map.mpr ⟨p, hp, by simp⟩), ?_⟩
      have := A.ok p hp
      show _ ≤ (-1 : Int)
      lia
  have hS : Sm (fun x : P => (9000 - x.2).toNat) (hfF (as.length / 2) (as.map fun p => (p.2, p.1))) ≤ 9000 * as.length := by
    rw [h2]
    have := Sm_le (fun x : P => (9000 - x.2).toNat) 9000 (as.map fun p => (p.2, p.1)) fun x hx => by
      obtain ⟨p, hp, rfl⟩ := List.mem_map.mp hx
      have := A.ok p hp
      simp only
      lia
    simpa using this
  obtain ⟨N, k, hk, hap, he, hr⟩ := fwd_ok A M 70000 _ 0 I (by lia)
  have R := hap.round hk he
  refine ⟨_, _, _, R, ?_⟩
  have hr' : fwdF 70000 (hfF (as.length / 2) (as.map fun p => (p.2, p.1))) (-1) [] = _ := hr
  rw [hr']
  congr 2
  · lia
  · lia

-- M5
noncomputable def Srt (l : List P) : Prop := l.Pairwise LeP
theorem Srt.get {l : List P} (S : Srt l) {i j : Nat} (h : i < j) (hj : j < l.length) : LeP (gP l i) (gP l j) := by
  have := List.pairwise_iff_getElem.mp S i j (by lia) hj h
  have e1 : gP l i = l[i] := by unfold gP; simp [show i < l.length by lia]
  have e2 : gP l j = l[j] := by unfold gP; simp [hj]
  rw [e1, e2]; exact this
theorem br_ok {l : List P} (S : Srt l) (x : P) : ∀ (k lo hi : Nat), hi - lo = k → lo ≤ hi → hi ≤ l.length → (∀ i, i < lo → LeP (gP l i) x) → (∀ i, hi ≤ i → i < l.length → LeP x (gP l i)) →
    brF l x lo hi ≤ l.length ∧ (∀ i, i < brF l x lo hi → LeP (gP l i) x) ∧ (∀ i, brF l x lo hi ≤ i → i < l.length → LeP x (gP l i)) := by
  intro k
  induction k using Nat.strongRecOn with
  | _ k ih =>
    intro lo hi hk hle hlen h1 h2
    rw [brF]
    split
    · rename_i hlt
      have hm1 : lo ≤ (lo + hi) / 2 := by lia
      have hm2 : (lo + hi) / 2 < hi := by lia
      generalize (lo + hi) / 2 = mid at hm1 hm2
      split
      · rename_i hc
        refine ih (mid - lo) (by lia) lo mid rfl hm1 (by lia) h1 fun i hi1 hi2 => ?_
        rcases Nat.eq_or_lt_of_le hi1 with rfl | q
        · exact leP_of_lt hc
        · exact (leP_of_lt hc).trans (S.get q hi2)
      · rename_i hc
        have hx : LeP (gP l mid) x := leP_of_not (by simpa using hc)
        refine ih (hi - (mid + 1)) (by lia) (mid + 1) hi rfl (by lia) hlen (fun i hi1 => ?_) h2
        rcases Nat.lt_or_ge i mid with q | q
        · exact (S.get q (by lia)).trans hx
        · have : i = mid := by lia
          subst this; exact hx
    · have : lo = hi := by lia
      subst this
      exact ⟨hlen, h1, h2⟩
theorem bl_ok {l : List P} (S : Srt l) (x : Int) : ∀ (k lo hi : Nat), hi - lo = k → lo ≤ hi → hi ≤ l.length → (∀ i, i < lo → (gP l i).1 < x) → (∀ i, hi ≤ i → i < l.length → x ≤ (gP l i).1) →
    blF l x lo hi ≤ l.length ∧ (∀ i, i < blF l x lo hi → (gP l i).1 < x) ∧ (∀ i, blF l x lo hi ≤ i → i < l.length → x ≤ (gP l i).1) := by
  intro k
  induction k using Nat.strongRecOn with
  | _ k ih =>
    intro lo hi hk hle hlen h1 h2
    rw [blF]
    split
    · rename_i hlt
      have hm1 : lo ≤ (lo + hi) / 2 := by lia
      have hm2 : (lo + hi) / 2 < hi := by lia
      generalize (lo + hi) / 2 = mid at hm1 hm2
      split
      · rename_i hc
        have hc : (gP l mid).1 < x := hc
        refine ih (hi - (mid + 1)) (by lia) (mid + 1) hi rfl (by lia) hlen (fun i hi1 => ?_) h2
        rcases Nat.lt_or_ge i mid with q | q
        · have := S.get q (by lia)
          unfold LeP at this
          lia
        · have : i = mid := by lia
          subst this; exact hc
      · rename_i hc
        have hc : ¬ (gP l mid).1 < x := hc
        refine ih (mid - lo) (by lia) lo mid rfl hm1 (by lia) h1 fun i hi1 hi2 => ?_
        rcases Nat.eq_or_lt_of_le hi1 with rfl | q
        · lia
        · have := S.get q hi2
          unfold LeP at this
          lia
    · have : lo = hi := by lia
      subst this
      exact ⟨hlen, h1, h2⟩
theorem mem_idx {l : List P} {x : P} (h : x ∈ l) : ∃ i, i < l.length ∧ gP l i = x := by
  obtain ⟨i, hi, rfl⟩ := List.getElem_of_mem h
  exact ⟨i, hi, by unfold gP; simp [hi]⟩
theorem ins_mem {l : List P} {x y : P} : y ∈ insF l x ↔ y = x ∨ y ∈ l := by
  unfold insF
  rw [List.mem_append, List.mem_cons]
  have : y ∈ l ↔ y ∈ l.take (brF l x 0 l.length) ∨ y ∈ l.drop (brF l x 0 l.length) := by
    rw [← List.mem_append, List.take_append_drop]
  rw [this]
  constructor
  · rintro (h | h | h)
    · exact .inr (.inl h)
    · exact .inl h
    · exact .inr (.inr h)
  · rintro (h | h | h)
    · exact .inr (.inl h)
    · exact .inl h
    · exact .inr (.inr h)
theorem ins_srt {l : List P} (S : Srt l) (x : P) : Srt (insF l x) := by
  obtain ⟨b0, b1, b2⟩ := br_ok S x _ 0 l.length rfl (Nat.zero_le _) (Nat.le_refl _) (fun i h => absurd h (Nat.not_lt_zero _)) (fun i h h' => absurd h' (by lia))
  unfold insF
  generalize brF l x 0 l.length = k at *
  have t1 : ∀ a ∈ l.take k, LeP a x := fun a ha => by
    obtain ⟨i, hi, rfl⟩ := List.getElem_of_mem ha
    rw [List.length_take] at hi
    have := b1 i (by lia)
    have e : gP l i = (l.take k)[i]'(by rw [List.length_take]; exact hi) := by
      rw [List.getElem_take]; unfold gP; simp [show i < l.length by lia]
    rwa [e] at this
  have t2 : ∀ a ∈ l.drop k, LeP x a := fun a ha => by
    obtain ⟨i, hi, rfl⟩ := List.getElem_of_mem ha
    rw [List.length_drop] at hi
    have := b2 (k + i) (by lia) (by lia)
    have e : gP l (k + i) = (l.drop k)[i]'(by rw [List.length_drop]; exact hi) := by
      rw [List.getElem_drop]; unfold gP; simp [show k + i < l.length by lia]
    rwa [e] at this
  refine List.pairwise_append.mpr ⟨List.Pairwise.sublist (List.take_sublist _ _) S, List.pairwise_cons.mpr ⟨t2, List.Pairwise.sublist (List.drop_sublist _ _) S⟩, fun a ha b hb => ?_⟩
  rcases List.mem_cons.mp hb with rfl | hb
  · exact t1 a ha
  · exact (t1 a ha).trans (t2 b hb)

/-- the two entries of an arc -/
noncomputable def e0 (p : P) : P := (p.2 - (p.2 - p.2.fmod 64), p.1 - (p.2 - p.2.fmod 64))
noncomputable def e1 (p : P) : P := (p.2 - (p.2 - p.2.fmod 64) - 64, p.1 - (p.2 - p.2.fmod 64) - 64)
theorem row_gen : ∀ (as : List P) (row : List P), Srt row → Srt (rowF as row) ∧ ∀ y, y ∈ rowF as row ↔ y ∈ row ∨ ∃ p ∈ as, y = e0 p ∨ y = e1 p
  | [], row, S => ⟨S, fun y => by simp [rowF]⟩
  | p :: as, row, S => by
    obtain ⟨h1, h2⟩ := row_gen as _ (ins_srt (ins_srt S (e0 p)) (e1 p))
    refine ⟨h1, fun y => ?_⟩
    have : y ∈ rowF (p :: as) row ↔ y ∈ rowF as (insF (insF row (e0 p)) (e1 p)) := Iff.rfl
    rw [this, h2, ins_mem, ins_mem]
    constructor
    · rintro ((h | h | h) | ⟨p', hp', h⟩)
      · exact .inr ⟨p, by simp, .inr h⟩
      · exact .inr ⟨p, by simp, .inl h⟩
      · exact .inl h
      · exact .inr ⟨p', by simp [hp'], h⟩
    · rintro (h | ⟨p', hp', h⟩)
      · exact .inl (.inr (.inr h))
      · rcases List.mem_cons.mp hp' with rfl | hp'
        · rcases h with h | h
          · exact .inl (.inr (.inl h))
          · exact .inl (.inl h)
        · exact .inr ⟨p', hp', h⟩

noncomputable def LatOk (acc : List Int) (pre : List P) : Prop := acc.length = pre.length ∧ ∀ k, k < pre.length → (∃ i, i ≤ k ∧ acc.getD k 0 = (gP pre i).2) ∧ ∀ i, i ≤ k → (gP pre i).2 ≤ acc.getD k 0
theorem gP_app {l : List P} {x : P} {i : Nat} (h : i < l.length) : gP (l ++ [x]) i = gP l i := by
  unfold gP; rw [List.getD_eq_getElem?_getD, List.getD_eq_getElem?_getD, List.getElem?_append_left h]
theorem gP_end {l : List P} {x : P} : gP (l ++ [x]) l.length = x := by
  unfold gP; simp
noncomputable def latM (acc : List Int) (b : Int) : Int := match acc.getLast? with | some x => max x b | none => b
theorem lat_step {acc : List Int} {pre : List P} (h : LatOk acc pre) (p : P) : LatOk (latS acc p.2) (pre ++ [p]) := by
  obtain ⟨h1, h2⟩ := h
  have hS : latS acc p.2 = acc ++ [latM acc p.2] := rfl
  rw [hS]
  refine ⟨by simp [h1], fun k hk => ?_⟩
  rw [List.length_append, List.length_singleton] at hk
  rcases Nat.lt_or_ge k pre.length with q | q
  · obtain ⟨⟨i, i1, i2⟩, h3⟩ := h2 k q
    have e : (acc ++ [latM acc p.2]).getD k 0 = acc.getD k 0 := by
      rw [List.getD_eq_getElem?_getD, List.getD_eq_getElem?_getD, List.getElem?_append_left (by lia)]
    rw [e]
    refine ⟨⟨i, i1, by rw [gP_app (by lia)]; exact i2⟩, fun j hj => ?_⟩
    rw [gP_app (by lia)]
    exact h3 j hj
  · have hke : k = pre.length := by lia
    subst hke
    have e : (acc ++ [latM acc p.2]).getD pre.length 0 = latM acc p.2 := by
      rw [← h1]; simp
    rw [e]
    clear hS e
    rcases List.eq_nil_or_concat acc with rfl | ⟨L, y, rfl⟩
    · have hp : pre = [] := List.length_eq_zero_iff.mp (by simpa using h1.symm)
      subst hp
      refine ⟨⟨0, Nat.le_refl _, rfl⟩, fun i hi => ?_⟩
      have : i = 0 := by simpa using hi
      subst this
      exact Int.le_refl _
    · rw [List.concat_eq_append] at h1 h2 ⊢
      have hM : latM (L ++ [y]) p.2 = max y p.2 := by
        unfold latM; rw [List.getLast?_concat]
      rw [hM]
      have hl : pre.length = L.length + 1 := by rw [← h1]; simp
      obtain ⟨⟨i, i1, i2⟩, h3⟩ := h2 L.length (by lia)
      have ey : (L ++ [y]).getD L.length 0 = y := by simp
      rw [ey] at i2 h3
      constructor
      · by_cases q2 : y ≤ p.2
        · exact ⟨pre.length, Nat.le_refl _, by rw [gP_end]; lia⟩
        · exact ⟨i, by lia, by rw [gP_app (by lia), ← i2]; lia⟩
      · intro j hj
        rcases Nat.lt_or_ge j pre.length with q3 | q3
        · rw [gP_app q3]
          have := h3 j (by lia)
          lia
        · have : j = pre.length := by lia
          subst this
          rw [gP_end]; lia
theorem lat_gen : ∀ (row : List P) (acc : List Int) (pre : List P), LatOk acc pre → LatOk (row.foldl (fun acc p => latS acc p.2) acc) (pre ++ row)
  | [], acc, pre, h => by simpa using h
  | p :: row, acc, pre, h => by
    have := lat_gen row _ _ (lat_step h p)
    rw [List.append_assoc] at this
    exact this
theorem lat_ok (row : List P) : LatOk (latF row) row := by
  have := lat_gen row [] [] ⟨rfl, fun k h => absurd h (Nat.not_lt_zero _)⟩
  rw [List.nil_append] at this
  exact this

/-- what a look into the row tells -/
theorem look_ok {as : List P} (A : ArcsOk as) {y : Int} (h0 : 0 ≤ y) (h1 : y < 64) : ¬ (blF (rowF as []) y 0 (rowF as []).length = 0 ∨ (latF (rowF as [])).length < blF (rowF as []) y 0 (rowF as []).length) ∧
    Pv as y ((latF (rowF as [])).getD (blF (rowF as []) y 0 (rowF as []).length - 1) 0) := by
  obtain ⟨S, hmem⟩ := row_gen as [] List.Pairwise.nil
  generalize rowF as [] = row at *
  obtain ⟨l1, l2⟩ := lat_ok row
  generalize latF row = lat at *
  obtain ⟨b0, b1, b2⟩ := bl_ok S y _ 0 row.length rfl (Nat.zero_le _) (Nat.le_refl _) (fun i h => absurd h (Nat.not_lt_zero _)) (fun i h h' => absurd h' (by lia))
  generalize blF row y 0 row.length = k at *
  have hcp : ∀ x ∈ row, Cp as x.2 x.1 := fun x hx => by
    rcases (hmem x).mp hx with q | ⟨p, hp, q | q⟩
    · cases q
    · refine ⟨p, hp, -(p.2 / 64), ?_, ?_⟩ <;> rw [q] <;> unfold e0 <;> simp only <;> rw [Int.fmod_eq_emod_of_nonneg _ (by decide)] <;> lia
    · refine ⟨p, hp, -(p.2 / 64) - 1, ?_, ?_⟩ <;> rw [q] <;> unfold e1 <;> simp only <;> rw [Int.fmod_eq_emod_of_nonneg _ (by decide)] <;> lia
  -- the entry below a place
  have hent : ∀ p ∈ as, ∀ j : Int, p.2 + 64 * j < y → ∃ i, i < k ∧ p.1 + 64 * j ≤ (gP row i).2 := by
    intro p hp j hj
    by_cases hr : 0 ≤ p.2 + 64 * j
    · obtain ⟨i, hi, hi2⟩ := mem_idx ((hmem (e0 p)).mpr (.inr ⟨p, hp, .inl rfl⟩))
      have h4 : (e0 p).1 = p.2 + 64 * j ∧ (e0 p).2 = p.1 + 64 * j := by
        unfold e0; simp only; rw [Int.fmod_eq_emod_of_nonneg _ (by decide)]; lia
      refine ⟨i, ?_, by rw [hi2]; lia⟩
      refine Nat.lt_of_not_le fun q => ?_
      have := b2 i q hi
      rw [hi2] at this
      lia
    · obtain ⟨i, hi, hi2⟩ := mem_idx ((hmem (e1 p)).mpr (.inr ⟨p, hp, .inr rfl⟩))
      have h4 : (e1 p).1 < 0 ∧ p.1 + 64 * j ≤ (e1 p).2 := by
        unfold e1; simp only; rw [Int.fmod_eq_emod_of_nonneg _ (by decide)]; lia
      refine ⟨i, ?_, by rw [hi2]; lia⟩
      refine Nat.lt_of_not_le fun q => ?_
      have := b2 i q hi
      rw [hi2] at this
      lia
  have hk0 : 0 < k := by
    obtain ⟨p, hp⟩ := List.exists_mem_of_ne_nil _ A.ne
    obtain ⟨i, hi, _⟩ := hent p hp (-(p.2 / 64) - 1) (by lia)
    lia
  refine ⟨by lia, ?_⟩
  obtain ⟨⟨i, i1, i2⟩, h3⟩ := l2 (k - 1) (by lia)
  refine ⟨⟨(gP row i).1, ?_, b1 i (by lia)⟩, ?_⟩
  · rw [i2]
    exact hcp _ (gP_mem (by lia))
  · rintro b e ⟨p, hp, j, rfl, rfl⟩ he
    obtain ⟨i', j1, j2⟩ := hent p hp j he
    have := h3 i' (by lia)
    lia

theorem bwd_ok {as : List P} (A : ArcsOk as) {f g : Int → Int} (M : Maps as f g) : ∀ (n m : Nat), Apart g 64 m → 65 - m < n →
    ∃ N k, k < N ∧ Apart g 64 N ∧ itI g N 64 % 64 = itI g k 64 % 64 ∧ bwdF (rowF as []) (latF (rowF as [])) n (itI g m 64) (orb g 64 m) = some ((N : Int) - k, itI g k 64 - itI g N 64) := by
  intro n
  induction n with
  | zero => intro m _ h; lia
  | succ n ih =>
    intro m hap hn
    have hm := hap.le
    have hmod : ∀ x : Int, x.fmod 64 = x % 64 := fun x => Int.fmod_eq_emod_of_nonneg _ (by decide)
    unfold bwdF
    split
    · rename_i hin
      have hk : (((orb g 64 m).map (·.fmod 64)).idxOf ((itI g m 64).fmod 64)) < ((orb g 64 m).map (·.fmod 64)).length := List.idxOf_lt_length_of_mem hin
      have hk1 := List.getElem_idxOf hk
      generalize (((orb g 64 m).map (·.fmod 64)).idxOf ((itI g m 64).fmod 64)) = k at hk hk1
      rw [List.length_map, orb_length] at hk
      have hkk : ((orb g 64 m).map (·.fmod 64))[k]'(by rw [List.length_map, orb_length]; exact hk) = (itI g k 64).fmod 64 := by simp [orb]
      rw [hkk, hmod, hmod] at hk1
      refine ⟨m, k, hk, hap, hk1.symm, ?_⟩
      rw [orb_length, orb_getD _ _ hk]
    · rename_i hin
      have hy : 0 ≤ (itI g m 64).fmod 64 ∧ (itI g m 64).fmod 64 < 64 := by rw [hmod]; lia
      obtain ⟨c1, c2⟩ := look_ok A hy.1 hy.2
      simp only
      rw [if_neg c1]
      have hg : g (itI g m 64) = itI g m 64 - (itI g m 64).fmod 64 + (latF (rowF as [])).getD (blF (rowF as []) ((itI g m 64).fmod 64) 0 (rowF as []).length - 1) 0 := by
        have := c2.shift (itI g m 64 / 64)
        rw [show (itI g m 64).fmod 64 + 64 * (itI g m 64 / 64) = itI g m 64 by rw [hmod]; lia] at this
        rw [M.g_eq this, hmod]
        lia
      rw [← hg, ← itI_succ g m 64, ← orb_succ g 64 m]
      have hap2 : Apart g 64 (m + 1) := hap.succ fun k hk q => hin (List.mem_map.mpr ⟨itI g k 64, List.mem_map.mpr ⟨k, List.mem_range.mpr hk, rfl⟩, by rw [hmod, hmod]; exact q.symm⟩)
      have := hap2.le
      exact ih (m + 1) hap2 (by lia)
theorem bwd_run {as : List P} (A : ArcsOk as) {f g : Int → Int} (M : Maps as f g) : ∃ (z : Int) (q : Nat) (p : Int), Round g z q (-p) ∧ bwdF (rowF as []) (latF (rowF as [])) 100 64 [] = some ((q : Int), 64 * p) := by
  obtain ⟨N, k, hk, hap, he, hr⟩ := bwd_ok A M 100 0 (fun i j _ h => absurd h (Nat.not_lt_zero _)) (by lia)
  have R := hap.round hk he
  refine ⟨itI g k 64, N - k, (itI g k 64 - itI g N 64) / 64, ?_, ?_⟩
  · rw [show -((itI g k 64 - itI g N 64) / 64) = (itI g N 64 - itI g k 64) / 64 by lia]
    exact R
  · have hr' : bwdF (rowF as []) (latF (rowF as [])) 100 64 [] = _ := hr
    rw [hr']
    congr 2
    · lia
    · lia

-- M6
/-- of the list no two are lit by one another -/
noncomputable def Free (B : List (List Bool)) (S : List Nat) : Prop := ∀ i ∈ S, ∀ j ∈ S, i ≠ j → bg B i j = false
theorem most_ge {B : List (List Bool)} : ∀ (k : Nat) (left S : List Nat), left.length = k → S.Nodup → (∀ i ∈ S, i ∈ left) → Free B S → S.length ≤ mostF B left := by
  intro k
  induction k using Nat.strongRecOn with
  | _ k ih =>
    intro left S hk hn hs hf
    rcases left with _ | ⟨i, r⟩
    · rcases S with _ | ⟨a, S⟩
      · exact Nat.zero_le _
      · exact absurd (hs a (by simp)) (by simp)
    · rw [mostF]
      simp only [List.length_cons] at hk
      by_cases hi : i ∈ S
      · have hl := List.length_erase_of_mem hi
        have hp := List.length_pos_of_mem hi
        have := ih (apartF B i r).length (by have := List.length_filter_le (fun j => !bg B i j && !bg B j i) r; simp only [apartF]; lia) (apartF B i r) (S.erase i) rfl (hn.erase i) (fun j hj => by
          have hne : j ≠ i := fun q => by rw [q] at hj; exact (List.Nodup.not_mem_erase hn) hj
          have hj := List.mem_of_mem_erase hj
          have hr : j ∈ r := by
            rcases List.mem_cons.mp (hs j hj) with q | q
            · exact absurd q hne
            · exact q
          refine List.mem_filter.mpr ⟨hr, ?_⟩
          rw [hf i hi j hj (Ne.symm hne), hf j hj i hi hne]; rfl) (fun a ha b hb => hf a (List.mem_of_mem_erase ha) b (List.mem_of_mem_erase hb))
        lia
      · have := ih r.length (by lia) r S rfl hn (fun j hj => by
          rcases List.mem_cons.mp (hs j hj) with q | q
          · exact absurd (q ▸ hj) hi
          · exact q) hf
        lia
theorem most_ex {B : List (List Bool)} : ∀ (k : Nat) (left : List Nat), left.length = k → left.Nodup → ∃ S : List Nat, S.Nodup ∧ (∀ i ∈ S, i ∈ left) ∧ Free B S ∧ S.length = mostF B left := by
  intro k
  induction k using Nat.strongRecOn with
  | _ k ih =>
    intro left hk hn
    rcases left with _ | ⟨i, r⟩
    · exact ⟨[], List.nodup_nil, by simp, (by intro i hi; cases hi), by rw [mostF]; rfl⟩
    · rw [mostF]
      simp only [List.length_cons] at hk
      obtain ⟨n1, n2⟩ := List.nodup_cons.mp hn
      obtain ⟨S, s1, s2, s3, s4⟩ := ih r.length (by lia) r rfl n2
      have hap : (apartF B i r).length ≤ r.length := List.length_filter_le _ r
      obtain ⟨T, t1, t2, t3, t4⟩ := ih (apartF B i r).length (by lia) (apartF B i r) rfl (List.Pairwise.sublist List.filter_sublist n2)
      rcases Nat.le_total (1 + mostF B (apartF B i r)) (mostF B r) with q | q
      · exact ⟨S, s1, fun j hj => List.mem_cons_of_mem _ (s2 j hj), s3, by rw [Nat.max_eq_left q]; exact s4⟩
      · have hT : ∀ j ∈ T, j ∈ r ∧ bg B i j = false ∧ bg B j i = false := fun j hj => by
          obtain ⟨a, b⟩ := List.mem_filter.mp (t2 j hj)
          simp only [Bool.and_eq_true, Bool.not_eq_true'] at b
          exact ⟨a, b.1, b.2⟩
        refine ⟨i :: T, List.nodup_cons.mpr ⟨fun h => n1 (hT i h).1, t1⟩, fun j hj => ?_, fun a ha b hb hne => ?_, by rw [Nat.max_eq_right q, List.length_cons, t4, Nat.add_comm]⟩
        · rcases List.mem_cons.mp hj with rfl | hj
          · simp
          · exact List.mem_cons_of_mem _ (hT j hj).1
        · rcases List.mem_cons.mp ha with e1 | e1 <;> rcases List.mem_cons.mp hb with e2 | e2
          · exact absurd (e1.trans e2.symm) hne
          · rw [e1]; exact (hT b e2).2.1
          · rw [e2]; exact (hT a e1).2.2
          · exact t3 a e1 b e2 hne

/-- the matrix tells whose begin lies in whose arc -/
structure Lits (as : List P) (B : List (List Bool)) : Prop where
  len : B.length = as.length
  bg : ∀ i j, i < as.length → j < as.length → (bg B i j = true ↔ ((gP as i).1 - (gP as j).1) % 64 ≤ (gP as j).2 - (gP as j).1)
theorem Lits.no {as : List P} {B : List (List Bool)} (L : Lits as B) {i j : Nat} (hi : i < as.length) (hj : j < as.length) (h : Mine.bg B i j = false) : (gP as j).2 - (gP as j).1 < ((gP as i).1 - (gP as j).1) % 64 := by
  refine Int.not_le.mp fun q => ?_
  rw [(L.bg i j hi hj).mpr q] at h; cases h

theorem between (u : Nat → Int) (T : Int) : ∀ k : Nat, u 0 < T → T ≤ u k → ∃ j, j < k ∧ u j < T ∧ T ≤ u (j + 1)
  | 0, h, h' => by lia
  | k + 1, h, h' => by
    by_cases q : T ≤ u k
    · obtain ⟨j, a, b⟩ := between u T k h q
      exact ⟨j, by lia, b⟩
    · exact ⟨k, by lia, by lia, h'⟩
theorem choose_fn {α : Type} (S : List Nat) (d : α) {R : Nat → α → Prop} (h : ∀ i ∈ S, ∃ a, R i a) : ∃ φ : Nat → α, ∀ i ∈ S, R i (φ i) := by
  refine ⟨fun i => if q : i ∈ S then (h i q).choose else d, fun i hi => ?_⟩
  simp only [dif_pos hi]
  exact (h i hi).choose_spec

theorem gP_arc {as : List P} (A : ArcsOk as) {i : Nat} (h : i < as.length) : 0 ≤ (gP as i).1 ∧ (gP as i).1 < 64 ∧ (gP as i).1 < (gP as i).2 ∧ (gP as i).2 ≤ (gP as i).1 + 32 := A.ok _ (gP_mem h)
theorem Cp.idx {as : List P} {b e : Int} (h : Cp as b e) : ∃ i, i < as.length ∧ ∃ k : Int, b = (gP as i).1 + 64 * k ∧ e = (gP as i).2 + 64 * k := by
  obtain ⟨p, hp, k, h1, h2⟩ := h
  obtain ⟨i, hi, rfl⟩ := mem_idx hp
  exact ⟨i, hi, k, h1, h2⟩

theorem free_fit {as : List P} (A : ArcsOk as) {f g : Int → Int} (M : Maps as f g) {B : List (List Bool)} (L : Lits as B) {S : List Nat} (hn : S.Nodup) (hs : ∀ i ∈ S, i < as.length) (hf : Free B S) : ∃ x, itI f S.length x ≤ x + 64 := by
  have G := M.gal A
  rcases S with _ | ⟨i0, S'⟩
  · exact ⟨0, by show (0 : Int) ≤ _; lia⟩
  generalize hS : i0 :: S' = S at *
  have hi0 : i0 ∈ S := by rw [← hS]; simp
  clear hS
  have h0 := gP_arc A (hs i0 hi0)
  generalize hb0 : (gP as i0).1 = b0 at *
  refine ⟨b0 - 1, Int.not_lt.mp fun hc => ?_⟩
  have key : ∀ i ∈ S, ∃ j : Nat, j < S.length - 1 ∧ ∃ t : Int, t = itI f (j + 1) (b0 - 1) ∧ b0 + ((gP as i).1 - b0) % 64 ≤ t ∧ t ≤ b0 + ((gP as i).1 - b0) % 64 + ((gP as i).2 - (gP as i).1) := by
    intro i hi
    have hA := gP_arc A (hs i hi)
    have hE : b0 + ((gP as i).1 - b0) % 64 + ((gP as i).2 - (gP as i).1) < b0 + 64 := by
      by_cases q : i = i0
      · subst q; lia
      · have n1 := L.no (hs i hi) (hs i0 hi0) (hf i hi i0 hi0 q)
        have n2 := L.no (hs i0 hi0) (hs i hi) (hf i0 hi0 i hi (Ne.symm q))
        lia
    obtain ⟨j, j1, j2, j3⟩ := between (fun j => itI f j (b0 - 1)) (b0 + ((gP as i).1 - b0) % 64) S.length (by show b0 - 1 < _; lia) (by show _ ≤ itI f S.length (b0 - 1); lia)
    have hcp : Cp as (b0 + ((gP as i).1 - b0) % 64) (b0 + ((gP as i).1 - b0) % 64 + ((gP as i).2 - (gP as i).1)) := ⟨gP as i, gP_mem (hs i hi), (b0 + ((gP as i).1 - b0) % 64 - (gP as i).1) / 64, by lia, by lia⟩
    have hle := (M.nx (itI f j (b0 - 1))).2 _ _ hcp j2
    rw [← itI_succ f] at hle
    have : j + 1 ≠ S.length := fun q => by rw [q] at hle; lia
    exact ⟨j, by lia, _, rfl, j3, hle⟩
  obtain ⟨φ, hφ⟩ := choose_fn S 0 key
  have hlen := subset_len (S.map φ) (List.range (S.length - 1)) (by
    refine List.pairwise_map.mpr (List.Pairwise.imp_of_mem (R := fun a b => a ≠ b) ?_ hn)
    intro i j hi hj hne q
    obtain ⟨_, t, ht, a1, a2⟩ := hφ i hi
    obtain ⟨_, t', ht', c1, c2⟩ := hφ j hj
    rw [q] at ht
    rw [← ht'] at ht
    subst ht
    have n1 := L.no (hs i hi) (hs j hj) (hf i hi j hj hne)
    have n2 := L.no (hs j hj) (hs i hi) (hf j hj i hi (Ne.symm hne))
    lia) (fun x hx => by
      obtain ⟨i, hi, rfl⟩ := List.mem_map.mp hx
      exact List.mem_range.mpr (hφ i hi).1)
  rw [List.length_map, List.length_range] at hlen
  have := List.length_pos_of_mem hi0
  lia

theorem fit_free {as : List P} (A : ArcsOk as) {f g : Int → Int} (M : Maps as f g) {B : List (List Bool)} (L : Lits as B) {k : Nat} {x : Int} (h : itI f k x ≤ x + 64) : ∃ S : List Nat, S.Nodup ∧ (∀ i ∈ S, i < as.length) ∧ Free B S ∧ S.length = k := by
  have G := M.gal A
  have key : ∀ j ∈ List.range k, ∃ i : Nat, i < as.length ∧ ∃ κ : Int, itI f j x < (gP as i).1 + 64 * κ ∧ itI f (j + 1) x = (gP as i).2 + 64 * κ := by
    intro j hj
    obtain ⟨b, c1, c2⟩ := (M.nx (itI f j x)).1
    obtain ⟨i, hi, κ, e1, e2⟩ := c1.idx
    exact ⟨i, hi, κ, by lia, by rw [itI_succ]; exact e2⟩
  obtain ⟨φ, hφ⟩ := choose_fn (List.range k) 0 key
  have two : ∀ j j', j < j' → j' < k → φ j ≠ φ j' ∧ bg B (φ j) (φ j') = false ∧ bg B (φ j') (φ j) = false := by
    intro j j' h1 h2
    obtain ⟨i1, κ, a1, a2⟩ := hφ j (List.mem_range.mpr (by lia))
    obtain ⟨i2, κ', c1, c2⟩ := hφ j' (List.mem_range.mpr h2)
    have m1 := G.upM (show j + 1 ≤ j' by lia) x
    have m2 := G.upM (show j' + 1 ≤ k by lia) x
    have m3 := G.upM (Nat.zero_le j) x
    have m3 : x ≤ itI f j x := m3
    have g1 := gP_arc A i1
    have g2 := gP_arc A i2
    refine ⟨fun q => ?_, ?_, ?_⟩
    · rw [q] at a1 a2
      lia
    · cases e : bg B (φ j) (φ j') with
      | false => rfl
      | true => have := (L.bg _ _ i1 i2).mp e; lia
    · cases e : bg B (φ j') (φ j) with
      | false => rfl
      | true => have := (L.bg _ _ i2 i1).mp e; lia
  refine ⟨(List.range k).map φ, ?_, fun i hi => ?_, fun a ha b hb hne => ?_, by simp⟩
  · refine List.pairwise_map.mpr (List.Pairwise.imp_of_mem ?_ (List.pairwise_lt_range (n := k)))
    intro j j' hj hj' hlt
    exact (two j j' hlt (List.mem_range.mp hj')).1
  · obtain ⟨j, hj, rfl⟩ := List.mem_map.mp hi
    exact (hφ j hj).1
  · obtain ⟨j, hj, rfl⟩ := List.mem_map.mp ha
    obtain ⟨j', hj', rfl⟩ := List.mem_map.mp hb
    rw [List.mem_range] at hj hj'
    rcases Nat.lt_trichotomy j j' with q | q | q
    · exact (two j j' q hj').2.1
    · exact absurd (by rw [q]) hne
    · exact (two j' j q hj).2.2

theorem cov_reach {as : List P} (A : ArcsOk as) {f g : Int → Int} (M : Maps as f g) {B : List (List Bool)} (L : Lits as B) {N : Nat} (h : Cov B (List.range as.length) N) : ∃ x, x + 64 ≤ itI f N x := by
  have G := M.gal A
  obtain ⟨S, hS, hlt, hcov⟩ := h
  rw [L.len] at hlt
  have h0 : 0 < as.length := List.length_pos_iff.mpr A.ne
  obtain ⟨i0, hi0, _⟩ := hcov 0 (List.mem_range.mpr h0)
  refine ⟨(gP as i0).1, Int.not_lt.mp fun hc => ?_⟩
  generalize hl : (gP as i0).1 = l at *
  have key : ∀ j ∈ List.range N, ∃ i : Nat, i ∈ S ∧ ∃ s : Int, itI f j l < s ∧ s ≤ itI f (j + 1) l ∧ ((gP as i).1 - s) % 64 = 0 := by
    intro j hj
    obtain ⟨b, c1, c2⟩ := (M.nx (itI f j l)).1
    obtain ⟨a, ha, κ, e1, e2⟩ := c1.idx
    obtain ⟨i, hi, hb⟩ := hcov a (List.mem_range.mpr ha)
    have := (L.bg _ _ (hlt i hi) ha).mp hb
    exact ⟨i, hi, b + ((gP as i).1 - (gP as a).1) % 64, by lia, by rw [itI_succ]; lia, by lia⟩
  obtain ⟨φ, hφ⟩ := choose_fn (List.range N) 0 key
  have hlen := subset_len (i0 :: (List.range N).map φ) S (by
    refine List.nodup_cons.mpr ⟨fun hm => ?_, List.pairwise_map.mpr (List.Pairwise.imp_of_mem ?_ (List.pairwise_lt_range (n := N)))⟩
    · obtain ⟨j, hj, e⟩ := List.mem_map.mp hm
      obtain ⟨_, s, s1, s2, s3⟩ := hφ j hj
      rw [e, hl] at s3
      have m1 := G.upM (show j + 1 ≤ N from List.mem_range.mp hj) l
      have m2 : l ≤ itI f j l := G.upM (Nat.zero_le j) l
      lia
    · intro j j' hj hj' hlt2 e
      obtain ⟨_, s, s1, s2, s3⟩ := hφ j hj
      obtain ⟨_, s', s1', s2', s3'⟩ := hφ j' hj'
      rw [e] at s3
      have m1 := G.upM (show j' + 1 ≤ N from List.mem_range.mp hj') l
      have m2 : l ≤ itI f j l := G.upM (Nat.zero_le j) l
      have m3 := G.upM (show j + 1 ≤ j' by lia) l
      lia) (fun x hx => by
        rcases List.mem_cons.mp hx with rfl | hx
        · exact hi0
        · obtain ⟨j, hj, rfl⟩ := List.mem_map.mp hx
          exact (hφ j hj).1)
  rw [List.length_cons, List.length_map, List.length_range] at hlen
  lia

theorem reach_cov {as : List P} (A : ArcsOk as) {f g : Int → Int} (M : Maps as f g) {B : List (List Bool)} (L : Lits as B) {N : Nat} {x : Int} (h : x + 64 ≤ itI f N x) : Cov B (List.range as.length) N := by
  have G := M.gal A
  have hg : itI g N (x + 64) ≤ x := Int.not_lt.mp fun q => by have := (G.it N x (x + 64)).mpr q; lia
  generalize hy : x + 64 = y at hg
  have key : ∀ j ∈ List.range N, ∃ i : Nat, i < as.length ∧ ∃ κ : Int, itI g (j + 1) y = (gP as i).1 + 64 * κ := by
    intro j hj
    obtain ⟨e, c1, c2⟩ := (M.pv (itI g j y)).1
    obtain ⟨i, hi, κ, e1, e2⟩ := c1.idx
    exact ⟨i, hi, κ, by rw [itI_succ]; exact e1⟩
  obtain ⟨φ, hφ⟩ := choose_fn (List.range N) 0 key
  refine ⟨(List.range N).map φ, by simp, fun i hi => ?_, fun a ha => ?_⟩
  · obtain ⟨j, hj, rfl⟩ := List.mem_map.mp hi
    rw [L.len]; exact (hφ j hj).1
  · have ha := List.mem_range.mp ha
    have hA := gP_arc A ha
    obtain ⟨j, j1, j2, j3⟩ := between (fun j => -itI g j y) (-((gP as a).2 + 64 * ((y - 1 - (gP as a).2) / 64))) N (by show -y < _; lia) (by show _ ≤ -itI g N y; lia)
    have hcp : Cp as ((gP as a).1 + 64 * ((y - 1 - (gP as a).2) / 64)) ((gP as a).2 + 64 * ((y - 1 - (gP as a).2) / 64)) := ⟨gP as a, gP_mem ha, _, rfl, rfl⟩
    have hle := (M.pv (itI g j y)).2 _ _ hcp (by lia)
    rw [← itI_succ g] at hle
    obtain ⟨i1, κ, e⟩ := hφ j (List.mem_range.mpr j1)
    refine ⟨φ j, List.mem_map.mpr ⟨j, List.mem_range.mpr j1, rfl⟩, (L.bg _ _ i1 ha).mpr ?_⟩
    lia

/-- the most and the fewest, told by the round -/
theorem most_of {as : List P} (A : ArcsOk as) {f g : Int → Int} (M : Maps as f g) {B : List (List Bool)} (L : Lits as B) {z : Int} {q : Nat} {p : Int} (R : Round f z q p) : (mostF B (List.range as.length) : Int) = (64 * (q : Int)).fdiv (64 * p) := by
  have G := M.gal A
  have hp := G.p_pos R
  obtain ⟨S, s1, s2, s3, s4⟩ := most_ex (B := B) _ (List.range as.length) rfl List.nodup_range
  obtain ⟨x, hx⟩ := free_fit A M L s1 (fun i hi => List.mem_range.mp (s2 i hi)) s3
  have h1 := G.fit R hx
  rw [s4] at h1
  have h2 : (q : Int) < (mostF B (List.range as.length) + 1 : Nat) * p := by
    refine Int.not_le.mp fun hq => ?_
    obtain ⟨x', hx'⟩ := G.fits R hq
    obtain ⟨T, t1, t2, t3, t4⟩ := fit_free A M L hx'
    have := most_ge _ (List.range as.length) T rfl t1 (fun i hi => List.mem_range.mpr (t2 i hi)) t3
    lia
  generalize mostF B (List.range as.length) = m at *
  rw [Int.fdiv_eq_ediv_of_nonneg _ (by lia), Int.mul_ediv_mul_of_pos _ _ (by decide)]
  rw [Int.natCast_succ, Int.add_mul, Int.one_mul] at h2
  have e1 : (m : Int) ≤ (q : Int) / p := (Int.le_ediv_iff_mul_le hp).mpr h1
  have e2 : (q : Int) / p < (m : Int) + 1 := (Int.ediv_lt_iff_lt_mul hp).mpr (by rw [Int.add_mul, Int.one_mul]; exact h2)
  lia
theorem few_of {as : List P} (A : ArcsOk as) {f g : Int → Int} (M : Maps as f g) {B : List (List Bool)} (L : Lits as B) {z : Int} {q : Nat} {p : Int} (R : Round f z q p) {N : Nat} (F : IsFew B (List.range as.length) N) : (N : Int) = -((-64) * (q : Int)).fdiv (64 * p) := by
  have G := M.gal A
  have hp := G.p_pos R
  obtain ⟨x, hx⟩ := cov_reach A M L F.1
  have h1 := G.reach R hx
  have hq := R.pos
  rcases N with _ | n
  · rw [show ((0 : Nat) : Int) * p = 0 by simp] at h1
    lia
  have h2 : (n : Int) * p < q := by
    refine Int.not_le.mp fun hq => ?_
    obtain ⟨x', hx'⟩ := G.reaches R hq
    have := F.2 n (reach_cov A M L hx')
    lia
  rw [show (-64) * (q : Int) = 64 * (-(q : Int)) by lia, Int.fdiv_eq_ediv_of_nonneg _ (by lia), Int.mul_ediv_mul_of_pos _ _ (by decide)]
  rw [Int.natCast_succ, Int.add_mul, Int.one_mul] at h1
  have e1 : -((n : Int) + 1) ≤ (-(q : Int)) / p := (Int.le_ediv_iff_mul_le hp).mpr (by rw [Int.neg_mul, Int.add_mul, Int.one_mul]; lia)
  have e2 : (-(q : Int)) / p < -(n : Int) := (Int.ediv_lt_iff_lt_mul hp).mpr (by rw [Int.neg_mul]; lia)
  lia

-- M7
/-- the scale: a step is the 2^20th part of one -/
noncomputable def scF : Nat := 2 ^ 1054
theorem scF_pos : 0 < scF := Nat.two_pow_pos _
theorem scF_one : (2 : Nat) ^ 1074 = 1048576 * scF := by
  unfold scF
  rw [show (1074 : Nat) = 20 + 1054 from rfl, Nat.pow_add, show (2 : Nat) ^ 20 = 1048576 from rfl]
/-- x is just N steps -/
noncomputable def IsF (x : UInt64) (N : Int) : Prop := (∃ a m e, Float64.decode x = .fin a m e) ∧ Float64.val x = N * scF

theorem V_inj {t t' : Nat} (h : Float64.V t = Float64.V t') : t = t' := by
  rcases Nat.lt_trichotomy t t' with q | q | q
  · have := Float64.V_lt q; lia
  · exact q
  · have := Float64.V_lt q; lia
theorem exactF {r : UInt64} {neg : Bool} {W D t0 : Nat} (R : Float64.Right r neg W D) (hD : 0 < D) (ht : t0 < Float64.infMag) (hW : W = D * Float64.V t0) : r = Float64.pack neg t0 := by
  obtain ⟨t, e, hle, hov, hmin⟩ := R
  have hlt : t < Float64.infMag := by
    refine Nat.lt_of_le_of_ne hle fun q => ?_
    have h1 := hov.mp q
    rw [hW] at h1
    have h2 : Float64.V t0 ≤ Float64.V (2045 * 2 ^ 52 + (2 ^ 53 - 1)) := Float64.V_mono (by have : Float64.infMag = 2047 * 2 ^ 52 := rfl; lia)
    rw [Float64.V_at (by decide) (.inl (by decide))] at h2
    have h3 : D * ((2 ^ 54 - 1) * 2 ^ 2045) ≤ D * (2 * Float64.V t0) := by
      have e1 : 2 * (D * Float64.V t0) = D * (2 * Float64.V t0) := by rw [← Nat.mul_assoc, Nat.mul_comm 2 D, Nat.mul_assoc]
      rw [← e1]; exact h1
    have h4 := Nat.le_of_mul_le_mul_left h3 hD
    have hp : 0 < 2 ^ 2045 := Nat.two_pow_pos _
    generalize 2 ^ 2045 = K at *
    lia
  have h1 := (hmin hlt t0).1
  have h2 : Float64.dist W (D * Float64.V t0) = 0 := by unfold Float64.dist; lia
  have h3 : W = D * Float64.V t := by unfold Float64.dist at *; lia
  rw [h3] at hW
  rw [e, V_inj (Nat.eq_of_mul_eq_mul_left hD hW)]
theorem reprF {N : Nat} (h : N < 2 ^ 53) : ∃ t, t < Float64.infMag ∧ Float64.V t = N * scF := by
  have hi : Float64.infMag = 2047 * 2 ^ 52 := rfl
  rcases Nat.eq_zero_or_pos N with rfl | hp
  · exact ⟨0, by lia, by rw [Float64.V_zero]; simp⟩
  · have hl : N.log2 ≤ 52 := by
      have := (Nat.log2_lt (k := 53) (by lia : N ≠ 0)).mpr h
      lia
    have h1 : 2 ^ N.log2 ≤ N := Nat.log2_self_le (by lia)
    have h2 : N < 2 ^ (N.log2 + 1) := Nat.lt_log2_self
    have e1 : (2 : Nat) ^ (N.log2) * 2 ^ (52 - N.log2) = 2 ^ 52 := by rw [← Nat.pow_add]; congr 1; lia
    have e2 : (2 : Nat) ^ (N.log2 + 1) * 2 ^ (52 - N.log2) = 2 ^ 53 := by rw [← Nat.pow_add]; congr 1; lia
    have hj := Nat.two_pow_pos (52 - N.log2)
    have g1 := Nat.mul_le_mul_right (2 ^ (52 - N.log2)) h1
    have g2 := Nat.mul_lt_mul_of_pos_right h2 hj
    rw [e1] at g1
    rw [e2] at g2
    refine ⟨(1054 - (52 - N.log2)) * 2 ^ 52 + N * 2 ^ (52 - N.log2), by lia, ?_⟩
    rw [Float64.V_at (by lia) (.inl g1), Nat.mul_assoc, ← Nat.pow_add]
    unfold scF
    congr 2
    lia
theorem IsF.ofPack {neg : Bool} {t : Nat} {K : Nat} (h : t < Float64.infMag) (e : Float64.V t = K * scF) : IsF (Float64.pack neg t) (Float64.sgn neg K) := by
  obtain ⟨m, f, hd, _⟩ := Float64.decode_pack neg h
  refine ⟨⟨_, _, _, hd⟩, ?_⟩
  rw [Float64.val_pack neg h, e, Float64.sgn_mul]
theorem IsF.ofRight {r : UInt64} {neg : Bool} {W D K : Nat} (R : Float64.Right r neg W D) (hD : 0 < D) (hK : K < 2 ^ 53) (hW : W = D * (K * scF)) : IsF r (Float64.sgn neg K) := by
  obtain ⟨t, ht, hv⟩ := reprF hK
  rw [exactF R hD ht (by rw [hv]; exact hW)]
  exact .ofPack ht hv
theorem IsF.zero (b : Bool) : IsF (Float64.zero b) 0 := by
  have := IsF.ofPack (neg := b) (t := 0) (K := 0) (by decide) (by rw [Float64.V_zero]; simp)
  have e : Float64.sgn b 0 = 0 := by cases b <;> rfl
  rw [e] at this
  exact this
theorem scI_pos : (0 : Int) < (scF : Int) := Int.ofNat_lt.mpr scF_pos
theorem sgn_abs (S : Int) : Float64.sgn (decide (S < 0)) S.natAbs = S := by
  unfold Float64.sgn
  by_cases h : S < 0
  · rw [decide_eq_true h, if_pos rfl]; lia
  · rw [decide_eq_false h, if_neg (by decide)]; lia
theorem mul_neg_iff (S : Int) : S * scF < 0 ↔ S < 0 := by
  have := scI_pos
  constructor
  · intro h
    refine Int.not_le.mp fun q => ?_
    have := Int.mul_nonneg q (Int.le_of_lt scI_pos)
    lia
  · intro h
    exact Int.mul_neg_of_neg_of_pos h scI_pos
theorem natAbs_sc (S : Int) : (S * scF).natAbs = S.natAbs * scF := by rw [Int.natAbs_mul, Int.natAbs_natCast]

theorem IsF.add {x y : UInt64} {M N : Int} (hx : IsF x M) (hy : IsF y N) (h : (M + N).natAbs < 2 ^ 53) : IsF (Float64.add x y) (M + N) := by
  obtain ⟨⟨a, m, e, dx⟩, vx⟩ := hx
  obtain ⟨⟨b, k, f, dy⟩, vy⟩ := hy
  obtain ⟨h0, h1⟩ := Float64.add_right dx dy
  have hs : Float64.val x + Float64.val y = (M + N) * scF := by rw [vx, vy, Int.add_mul]
  rw [hs] at h0 h1
  by_cases hz : M + N = 0
  · rw [h0 (by rw [hz]; simp), hz]; exact .zero _
  · have R := h1 (fun q => by
      rcases Int.mul_eq_zero.mp q with q | q
      · exact hz q
      · have := scI_pos; lia)
    rw [natAbs_sc] at R
    have := IsF.ofRight R (by decide) h (by rw [Nat.one_mul])
    rw [show decide ((M + N) * (scF : Int) < 0) = decide (M + N < 0) from decide_eq_decide.mpr (mul_neg_iff _), sgn_abs] at this
    exact this
theorem IsF.neg {y : UInt64} {N : Int} (hy : IsF y N) : IsF (Float64.neg y) (-N) := by
  obtain ⟨⟨b, k, f, dy⟩, vy⟩ := hy
  exact ⟨⟨_, _, _, Float64.neg_decode dy⟩, by rw [Float64.neg_val dy, vy, Int.neg_mul]⟩
theorem IsF.sub {x y : UInt64} {M N : Int} (hx : IsF x M) (hy : IsF y N) (h : (M - N).natAbs < 2 ^ 53) : IsF (Float64.sub x y) (M - N) := by
  rw [Int.sub_eq_add_neg] at h ⊢
  unfold Float64.sub
  exact hx.add hy.neg h
/-- the sign bit of a number that is not zero -/
theorem IsF.bit {x : UInt64} {M : Int} (hv : Float64.val x = M * scF) {a : Bool} {m : Nat} {e : Int} (dx : Float64.decode x = .fin a m e) (h : M ≠ 0) : a = decide (M < 0) := by
  rw [Float64.val_eq dx] at hv
  have h1 := scI_pos
  cases a with
  | false =>
    have : 0 ≤ M * scF := by rw [← hv]; exact Int.natCast_nonneg _
    have : ¬ M < 0 := fun q => by have := (mul_neg_iff M).mpr q; lia
    rw [decide_eq_false this]
  | true =>
    have : M * scF ≤ 0 := by rw [← hv]; show -((m * 2 ^ (e + 1074).toNat : Nat) : Int) ≤ 0; lia
    have : M < 0 := by
      refine Int.not_le.mp fun q => ?_
      have : 0 < M * scF := Int.mul_pos (by lia) h1
      lia
    rw [decide_eq_true this]
theorem sgn_zero (b : Bool) : Float64.sgn b 0 = 0 := by cases b <;> rfl
theorem sgn_prod {a b : Bool} {M N K : Int} (ha : M ≠ 0 → a = decide (M < 0)) (hb : N ≠ 0 → b = decide (N < 0)) (hN : M * N = 0 → K = 0) (hs : 0 < M * N → 0 ≤ K) (hs' : M * N < 0 → K ≤ 0) : Float64.sgn (a != b) K.natAbs = K := by
  by_cases hM : M = 0
  · rw [hN (by rw [hM]; simp)]; exact sgn_zero _
  by_cases hN' : N = 0
  · rw [hN (by rw [hN']; simp)]; exact sgn_zero _
  rw [ha hM, hb hN']
  unfold Float64.sgn
  rcases Int.lt_or_gt_of_ne hM with h1 | h1 <;> rcases Int.lt_or_gt_of_ne hN' with h2 | h2
  · have := hs (Int.mul_pos_of_neg_of_neg h1 h2)
    rw [decide_eq_true h1, decide_eq_true h2, if_neg (by decide)]; lia
  · have := hs' (Int.mul_neg_of_neg_of_pos h1 h2)
    rw [decide_eq_true h1, decide_eq_false (by lia), if_pos (by decide)]; lia
  · have := hs' (Int.mul_neg_of_pos_of_neg h1 h2)
    rw [decide_eq_false (by lia), decide_eq_true h2, if_pos (by decide)]; lia
  · have := hs (Int.mul_pos h1 h2)
    rw [decide_eq_false (by lia), decide_eq_false (by lia), if_neg (by decide)]; lia
theorem IsF.mul {x y : UInt64} {M N K : Int} (hx : IsF x M) (hy : IsF y N) (hK : M * N = K * 1048576) (h : K.natAbs < 2 ^ 53) : IsF (Float64.mul x y) K := by
  obtain ⟨⟨a, m, e, dx⟩, vx⟩ := hx
  obtain ⟨⟨b, k, f, dy⟩, vy⟩ := hy
  have R := Float64.mul_right dx dy
  rw [vx, vy, natAbs_sc, natAbs_sc, scF_one] at R
  have hn : M.natAbs * N.natAbs = K.natAbs * 1048576 := by rw [← Int.natAbs_mul, hK, Int.natAbs_mul]; rfl
  have := IsF.ofRight R (Nat.mul_pos (by decide) scF_pos) h (by
    generalize scF = s
    calc M.natAbs * s * (N.natAbs * s) = (M.natAbs * N.natAbs) * (s * s) := by ac_rfl
      _ = K.natAbs * 1048576 * (s * s) := by rw [hn]
      _ = 1048576 * s * (K.natAbs * s) := by ac_rfl)
  rw [sgn_prod (M := M) (N := N) (IsF.bit vx dx) (IsF.bit vy dy) (by lia) (by lia) (by lia)] at this
  exact this
theorem IsF.div {x y : UInt64} {M N K : Int} (hx : IsF x M) (hy : IsF y N) (hN : N ≠ 0) (hK : M * 1048576 = K * N) (h : K.natAbs < 2 ^ 53) : IsF (Float64.div x y) K := by
  obtain ⟨⟨a, m, e, dx⟩, vx⟩ := hx
  obtain ⟨⟨b, k, f, dy⟩, vy⟩ := hy
  have hk : k ≠ 0 := by
    rintro rfl
    rw [Float64.val_eq dy, Nat.zero_mul, sgn_zero] at vy
    rcases Int.mul_eq_zero.mp vy.symm with q | q
    · exact hN q
    · have := scI_pos; lia
  have R := Float64.div_right dx dy hk
  rw [vx, vy, natAbs_sc, natAbs_sc, scF_one] at R
  have hn : M.natAbs * 1048576 = K.natAbs * N.natAbs := by rw [← Int.natAbs_mul, ← hK, Int.natAbs_mul]; rfl
  have hN0 : 0 < N.natAbs := by lia
  have := IsF.ofRight R (Nat.mul_pos hN0 scF_pos) h (by
    generalize scF = s
    calc M.natAbs * s * (1048576 * s) = (M.natAbs * 1048576) * (s * s) := by ac_rfl
      _ = K.natAbs * N.natAbs * (s * s) := by rw [hn]
      _ = N.natAbs * s * (K.natAbs * s) := by ac_rfl)
  have sg : Float64.sgn (a != b) K.natAbs = K := by
    refine sgn_prod (M := M) (N := N) (IsF.bit vx dx) (IsF.bit vy dy) (fun q => ?_) (fun q => ?_) (fun q => ?_)
    · rcases Int.mul_eq_zero.mp q with q | q
      · rw [q] at hK
        rcases Int.mul_eq_zero.mp (show K * N = 0 by lia) with q | q
        · exact q
        · exact absurd q hN
      · exact absurd q hN
    · refine Int.not_lt.mp fun hk => ?_
      rcases Int.lt_or_gt_of_ne hN with h2 | h2
      · have h3 := Int.mul_pos_of_neg_of_neg hk h2
        have h4 : 0 < M := by lia
        have := Int.mul_neg_of_pos_of_neg h4 h2
        lia
      · have h3 := Int.mul_neg_of_neg_of_pos hk h2
        have h4 : M < 0 := by lia
        have := Int.mul_neg_of_neg_of_pos h4 h2
        lia
    · refine Int.not_lt.mp fun hk => ?_
      rcases Int.lt_or_gt_of_ne hN with h2 | h2
      · have h3 := Int.mul_neg_of_pos_of_neg hk h2
        have h4 : M < 0 := by lia
        have := Int.mul_pos_of_neg_of_neg h4 h2
        lia
      · have h3 := Int.mul_pos hk h2
        have h4 : 0 < M := by lia
        have := Int.mul_pos h4 h2
        lia
  rw [sg] at this
  exact this
theorem IsF.ofFrac {neg : Bool} {n d K : Nat} (hd : 0 < d) (hK : n * 1048576 = K * d) (h : K < 2 ^ 53) : IsF (Float64.ofFrac neg n d) (Float64.sgn neg K) := by
  have R := Float64.ofFrac_right (neg := neg) (n := n) (d := d) (W := n * 2 ^ 1074) (D := d) hd rfl hd
  refine IsF.ofRight R hd h ?_
  rw [scF_one, ← Nat.mul_assoc, hK, Nat.mul_comm K d, Nat.mul_assoc]
theorem IsF.ofInt {i : Int} (h : i.natAbs * 1048576 < 2 ^ 53) : IsF (Float64.ofInt i) (i * 1048576) := by
  have := IsF.ofFrac (neg := decide (i < 0)) (n := i.natAbs) (d := 1) (K := i.natAbs * 1048576) (by decide) (by simp) h
  rw [Float64.sgn_mul, sgn_abs] at this
  unfold Float64.ofInt
  exact this
theorem cmp_sc (M N : Int) : compare (M * scF) (N * scF) = compare M N := by
  have hK := scI_pos
  rcases Int.lt_trichotomy M N with h | h | h
  · rw [Int.compare_eq_lt.mpr h, Int.compare_eq_lt.mpr (Int.mul_lt_mul_of_pos_right h hK)]
  · subst h; simp
  · rw [Int.compare_eq_gt.mpr h, Int.compare_eq_gt.mpr (Int.mul_lt_mul_of_pos_right h hK)]
theorem IsF.cmp {x y : UInt64} {M N : Int} (hx : IsF x M) (hy : IsF y N) : Float64.cmp x y = some (compare M N) := by
  obtain ⟨⟨a, m, e, dx⟩, vx⟩ := hx
  obtain ⟨⟨b, k, f, dy⟩, vy⟩ := hy
  rw [Float64.cmp_right dx dy, vx, vy, cmp_sc]
theorem IsF.cmpInt {x : UInt64} {M : Int} (hx : IsF x M) (i : Int) : Float64.cmpInt x i = some (compare M (i * 1048576)) := by
  obtain ⟨⟨a, m, e, dx⟩, vx⟩ := hx
  have e1 : i * 2 ^ 1074 = i * 1048576 * scF := by
    have : (2 : Int) ^ 1074 = ((1048576 * scF : Nat) : Int) := by rw [← scF_one]; simp
    rw [this, Int.natCast_mul, Int.mul_assoc]; rfl
  rw [Float64.cmpInt_right dx, vx, e1, cmp_sc]
theorem IsF.eq {x y : UInt64} {M N : Int} (hx : IsF x M) (hy : IsF y N) : (Float64.cmp x y == some .eq) = decide (M = N) := by
  rw [hx.cmp hy]
  by_cases h : M = N
  · subst h; simp
  · rw [decide_eq_false h]
    have : compare M N ≠ .eq := fun q => h (Int.compare_eq_eq.mp q)
    simp [this]
theorem IsF.lt {x y : UInt64} {M N : Int} (hx : IsF x M) (hy : IsF y N) : (Float64.cmp x y == some .lt) = decide (M < N) := by
  rw [hx.cmp hy]
  by_cases h : M < N
  · rw [Int.compare_eq_lt.mpr h, decide_eq_true h]; rfl
  · rw [decide_eq_false h]
    have : compare M N ≠ .lt := fun q => h (Int.compare_eq_lt.mp q)
    simp [this]
theorem IsF.gt {x y : UInt64} {M N : Int} (hx : IsF x M) (hy : IsF y N) : (Float64.cmp x y == some .gt) = decide (N < M) := by
  rw [hx.cmp hy]
  by_cases h : N < M
  · rw [Int.compare_eq_gt.mpr h, decide_eq_true h]; rfl
  · rw [decide_eq_false h]
    have : compare M N ≠ .gt := fun q => h (Int.compare_eq_gt.mp q)
    simp [this]
theorem IsF.isInf {x : UInt64} {M : Int} (hx : IsF x M) : Float64.isInf x = false := by
  obtain ⟨⟨a, m, e, dx⟩, _⟩ := hx
  unfold Float64.isInf; rw [dx]
theorem IsF.isZero {x : UInt64} {M : Int} (hx : IsF x M) : Float64.isZero x = decide (M = 0) := by
  obtain ⟨⟨a, m, e, dx⟩, vx⟩ := hx
  have hs := scI_pos
  unfold Float64.isZero
  rw [dx]
  rcases m with _ | m
  · rw [Float64.val_eq dx, Nat.zero_mul, sgn_zero] at vx
    have : M = 0 := by
      rcases Int.mul_eq_zero.mp vx.symm with q | q
      · exact q
      · lia
    simp [this]
  · have : M ≠ 0 := by
      rintro rfl
      have h := Float64.val_natAbs dx
      rw [vx] at h
      have h2 := Nat.mul_pos (Nat.succ_pos m) (Nat.two_pow_pos (e + 1074).toNat)
      rw [← h] at h2
      simp at h2
    simp [this]
theorem IsF.max2 {x y : UInt64} {M N : Int} (hx : IsF x M) (hy : IsF y N) : IsF (fmax2 x y) (max M N) := by
  unfold fmax2 fgt
  rw [hy.gt hx]
  by_cases h : M < N
  · rw [decide_eq_true h, if_pos rfl, Int.max_eq_right (by lia)]; exact hy
  · rw [decide_eq_false h, if_neg (by decide), Int.max_eq_left (by lia)]; exact hx
theorem IsF.min2 {x y : UInt64} {M N : Int} (hx : IsF x M) (hy : IsF y N) : IsF (fmin2 x y) (min M N) := by
  unfold fmin2 Mine.flt
  rw [hy.lt hx]
  by_cases h : N < M
  · rw [decide_eq_true h, if_pos rfl, Int.min_eq_right (by lia)]; exact hy
  · rw [decide_eq_false h, if_neg (by decide), Int.min_eq_left (by lia)]; exact hx
theorem IsF.val_abs {x : UInt64} {M : Int} (hx : IsF x M) {a : Bool} {m : Nat} {e : Int} (dx : Float64.decode x = .fin a m e) : m * 2 ^ (e + 1074).toNat = M.natAbs * scF := by
  rw [← Float64.val_natAbs dx, hx.2, natAbs_sc]
theorem IsF.whole {x : UInt64} {M : Int} (hx : IsF x M) (h : 0 ≤ M) : Whole x (M / 1048576) := by
  obtain ⟨⟨a, m, e, dx⟩, vx⟩ := hx
  have hv := IsF.val_abs ⟨⟨a, m, e, dx⟩, vx⟩ dx
  have he := Float64.decode_ge dx
  refine ⟨a, m, e, dx, ?_⟩
  -- the floor of the magnitude
  have hfl : Float64.floorOf false m e = M / 1048576 := by
    have hM : M / 1048576 = ((M.natAbs / 1048576 : Nat) : Int) := by lia
    rw [hM]
    have hq : M.natAbs / 1048576 = m * 2 ^ (e + 1074).toNat / 2 ^ 1074 := by
      rw [hv, scF_one, Nat.mul_div_mul_right _ _ scF_pos]
    rw [hq]
    have hsg : Float64.sgn false m = (m : Int) := rfl
    unfold Float64.floorOf
    rw [hsg]
    by_cases h0 : e ≥ 0
    · rw [if_pos h0]
      have e1 : (e + 1074).toNat = e.toNat + 1074 := by lia
      rw [e1, Nat.pow_add, ← Nat.mul_assoc, Nat.mul_div_cancel _ (Nat.two_pow_pos _)]
      simp
    · rw [if_neg h0, Int.fdiv_eq_ediv_of_nonneg _ (Int.le_of_lt (Int.pow_pos (by decide)))]
      have e1 : (2 : Nat) ^ 1074 = 2 ^ (-e).toNat * 2 ^ (e + 1074).toNat := by rw [← Nat.pow_add]; congr 1; lia
      rw [e1, Nat.mul_div_mul_right _ _ (Nat.two_pow_pos _)]
      simp
  unfold Float64.truncOf
  cases a with
  | false => rw [if_neg (by decide)]; exact hfl
  | true =>
    rw [if_pos rfl]
    by_cases hz : M = 0
    · subst hz
      have hm : m = 0 := by
        have : m * 2 ^ (e + 1074).toNat = 0 := by rw [hv]; simp
        rcases Nat.mul_eq_zero.mp this with q | q
        · exact q
        · have := Nat.two_pow_pos (e + 1074).toNat; lia
      subst hm
      unfold Float64.ceilOf Float64.floorOf
      rw [sgn_zero]
      split <;> simp
    · have := IsF.bit vx dx hz
      have : M < 0 := by simpa using this
      lia
theorem isF_k1 : IsF k1 1048576 := by
  have := IsF.ofPack (neg := false) (t := 1023 * 2 ^ 52) (K := 1048576) (by decide) (by
    have := Float64.V_at (k := 1022) (q := 2 ^ 52) (by decide) (.inl (Nat.le_refl _))
    rw [show 1022 * 2 ^ 52 + 2 ^ 52 = 1023 * 2 ^ 52 by decide] at this
    rw [this, ← scF_one, ← Nat.pow_add])
  exact this
theorem IsF.mod1 {x : UInt64} {M : Int} (hx : IsF x M) (h : M.natAbs < 2 ^ 52) : IsF (Float64.divmod x k1).2 (M % 1048576) := by
  obtain ⟨⟨a, m, e, dx⟩, vx⟩ := hx
  have hv := IsF.val_abs ⟨⟨a, m, e, dx⟩, vx⟩ dx
  have he := Float64.decode_ge dx
  have hd1 : Float64.decode k1 = .fin false (2 ^ 52) (-52) := by with_unfolding_all rfl
  have hf : IsF (Float64.fmod x k1) (Float64.sgn a (M.natAbs % 1048576)) := by
    have e1 : Float64.fmod x k1 = Float64.ofBin a ((m * 2 ^ (e - min e (-52)).toNat) % (2 ^ 52 * 2 ^ (-52 - min e (-52)).toNat)) (min e (-52)) := by
      unfold Float64.fmod
      rw [dx, hd1]
      rfl
    rw [e1]
    unfold Float64.ofBin
    generalize hQ : (m * 2 ^ (e - min e (-52)).toNat) % (2 ^ 52 * 2 ^ (-52 - min e (-52)).toNat) = Q
    have hs := Float64.shift_one Q (min e (-52)) 1074 (by lia)
    have R := Float64.ofFrac_right (neg := a) (n := (Float64.shift Q 1 (min e (-52))).1) (d := (Float64.shift Q 1 (min e (-52))).2) (W := Q * 2 ^ (min e (-52) + (1074 : Nat)).toNat) (D := 1) (Float64.shift_pos _ _ _ (by decide)) (by rw [Nat.mul_one]; exact hs) (by decide)
    refine IsF.ofRight R (by decide) (by have : M.natAbs % 1048576 < 1048576 := Nat.mod_lt _ (by decide); lia) ?_
    rw [Nat.one_mul, ← hQ, ← Nat.mul_mod_mul_right]
    have g1 : m * 2 ^ (e - min e (-52)).toNat * 2 ^ (min e (-52) + (1074 : Nat)).toNat = M.natAbs * scF := by
      have e2 : (e - min e (-52)).toNat + (min e (-52) + (1074 : Nat)).toNat = (e + 1074).toNat := by lia
      rw [← hv, Nat.mul_assoc, ← Nat.pow_add, e2]
    have g2 : 2 ^ 52 * 2 ^ (-52 - min e (-52)).toNat * 2 ^ (min e (-52) + (1074 : Nat)).toNat = 1048576 * scF := by
      have e2 : 52 + (-52 - min e (-52)).toNat + (min e (-52) + (1074 : Nat)).toNat = 1074 := by lia
      rw [← scF_one, ← Nat.pow_add, ← Nat.pow_add, e2]
    rw [g1, g2, Nat.mul_mod_mul_right]
  have hsg : M.natAbs % 1048576 ≠ 0 → a = decide (M < 0) := fun q => IsF.bit vx dx (by lia)
  have hz := hf.isZero
  have hlt := hf.lt (IsF.zero false)
  unfold Float64.divmod
  simp only
  by_cases h0 : M.natAbs % 1048576 = 0
  · rw [h0, sgn_zero] at hz
    rw [hz, if_pos (by decide)]
    have : M % 1048576 = 0 := by lia
    rw [this]
    show IsF (Float64.copysign (Float64.zero false) k1) 0
    have e3 : Float64.copysign (Float64.zero false) k1 = Float64.zero false := by with_unfolding_all rfl
    rw [e3]
    exact IsF.zero false
  · have hza : a = decide (M < 0) := hsg h0
    have hnz : Float64.sgn a (M.natAbs % 1048576) ≠ 0 := by
      intro q
      have := Float64.sgn_natAbs a (M.natAbs % 1048576)
      rw [q] at this
      exact h0 this.symm
    rw [hz, decide_eq_false hnz, if_neg (by decide)]
    have hl1 : Float64.lt k1 (Float64.zero false) = false := by
      have := isF_k1.lt (IsF.zero false)
      unfold Float64.lt; rw [this]; decide
    have hl2 : Float64.lt (Float64.fmod x k1) (Float64.zero false) = decide (M < 0) := by
      unfold Float64.lt; rw [hlt, hza]
      unfold Float64.sgn
      by_cases q : M < 0
      · rw [decide_eq_true q, if_pos rfl, decide_eq_true (by lia)]
      · rw [decide_eq_false q, if_neg (by decide), decide_eq_false (by lia)]
    rw [hl1, hl2]
    rw [hza] at hf
    by_cases q : M < 0
    · rw [decide_eq_true q, if_pos (by decide)]
      rw [decide_eq_true q] at hf
      have h1 := hf.add isF_k1 (by unfold Float64.sgn; rw [if_pos rfl]; lia)
      have e2 : Float64.sgn true (M.natAbs % 1048576) + 1048576 = M % 1048576 := by unfold Float64.sgn; rw [if_pos rfl]; lia
      rw [e2] at h1
      exact h1
    · rw [decide_eq_false q, if_neg (by decide)]
      rw [decide_eq_false q] at hf
      have e2 : Float64.sgn false (M.natAbs % 1048576) = M % 1048576 := by unfold Float64.sgn; rw [if_neg (by decide)]; lia
      rw [e2] at hf
      exact hf

-- M8
theorem isF_k2 : IsF k2 2097152 := by
  have e : k2 = Float64.ofInt 2 := by decide +kernel
  rw [e]; exact IsF.ofInt (by decide)
theorem isF_k4 : IsF k4 4194304 := by
  have e : k4 = Float64.ofInt 4 := by decide +kernel
  rw [e]; exact IsF.ofInt (by decide)
theorem isF_k6 : IsF k6 6291456 := by
  have e : k6 = Float64.ofInt 6 := by decide +kernel
  rw [e]; exact IsF.ofInt (by decide)
theorem isF_k64 : IsF k64 67108864 := by
  unfold k64; exact IsF.ofInt (by decide)
theorem isF_k0 : IsF k0 0 := by
  have e : k0 = Float64.zero false := by decide +kernel
  rw [e]; exact IsF.zero _

noncomputable def IsF3 (c : Col) (r : Int × Int × Int) : Prop := IsF c.1 r.1 ∧ IsF c.2.1 r.2.1 ∧ IsF c.2.2 r.2.2
noncomputable def mxI (r : Int × Int × Int) : Int := max (max r.1 r.2.1) r.2.2
noncomputable def mnI (r : Int × Int × Int) : Int := min (min r.1 r.2.1) r.2.2
theorem IsF3.mx {c : Col} {r : Int × Int × Int} (h : IsF3 c r) : IsF (fmax3 c.1 c.2.1 c.2.2) (mxI r) := (h.1.max2 h.2.1).max2 h.2.2
theorem IsF3.mn {c : Col} {r : Int × Int × Int} (h : IsF3 c r) : IsF (fmin3 c.1 c.2.1 c.2.2) (mnI r) := (h.1.min2 h.2.1).min2 h.2.2

/-- the hue, told with its parts -/
theorem hue_sym {c : Col} {r : Int × Int × Int} (hc : IsF3 c r) {mx rg rc gc bc w : Int} (hmx : mxI r = mx) (hmn : mnI r = mx - rg) (h0 : 0 < rg) (h1 : rg ≤ mx) (h2 : mx ≤ 1048576) (q1 : 0 ≤ r.1) (q2 : 0 ≤ r.2.1) (q3 : 0 ≤ r.2.2)
    (e1 : (mx - r.1) * 1048576 = rc * rg) (e2 : (mx - r.2.1) * 1048576 = gc * rg) (e3 : (mx - r.2.2) * 1048576 = bc * rg) (b1 : 0 ≤ rc ∧ rc ≤ 1048576) (b2 : 0 ≤ gc ∧ gc ≤ 1048576) (b3 : 0 ≤ bc ∧ bc ≤ 1048576)
    (hw : (if r.1 = mx then bc - gc else if r.2.1 = mx then 2097152 + rc - bc else 4194304 + gc - rc) = 6 * w) : IsF (hsvF c.1 c.2.1 c.2.2).1 (w % 1048576) ∧ IsF (hsvF c.1 c.2.1 c.2.2).2.2 mx ∧ hsvOk c.1 c.2.1 c.2.2 := by
  have X := hc.mx
  have N := hc.mn
  rw [hmx] at X
  rw [hmn] at N
  have l1 : r.1 ≤ mx := by rw [← hmx]; unfold mxI; lia
  have l2 : r.2.1 ≤ mx := by rw [← hmx]; unfold mxI; lia
  have l3 : r.2.2 ≤ mx := by rw [← hmx]; unfold mxI; lia
  have R := X.sub N (by lia)
  rw [show mx - (mx - rg) = rg by lia] at R
  have RC := (X.sub hc.1 (by lia)).div R (by lia) e1 (by lia)
  have GC := (X.sub hc.2.1 (by lia)).div R (by lia) e2 (by lia)
  have BC := (X.sub hc.2.2 (by lia)).div R (by lia) e3 (by lia)
  have hne : fcmpEq (fmin3 c.1 c.2.1 c.2.2) (fmax3 c.1 c.2.1 c.2.2) = false := by
    unfold fcmpEq; rw [N.eq X, decide_eq_false (by lia)]
  have e1 : fcmpEq c.1 (fmax3 c.1 c.2.1 c.2.2) = decide (r.1 = mx) := hc.1.eq X
  have e2 : fcmpEq c.2.1 (fmax3 c.1 c.2.1 c.2.2) = decide (r.2.1 = mx) := hc.2.1.eq X
  refine ⟨?_, ?_, fun _ => ⟨?_, ?_⟩⟩
  · unfold hsvF
    simp only
    rw [hne, if_neg (by decide)]
    simp only
    unfold hueF
    simp only
    rw [e1, e2]
    have key : IsF (if decide (r.1 = mx) = true then Float64.sub (Float64.div (Float64.sub (fmax3 c.1 c.2.1 c.2.2) c.2.2) (Float64.sub (fmax3 c.1 c.2.1 c.2.2) (fmin3 c.1 c.2.1 c.2.2))) (Float64.div (Float64.sub (fmax3 c.1 c.2.1 c.2.2) c.2.1) (Float64.sub (fmax3 c.1 c.2.1 c.2.2) (fmin3 c.1 c.2.1 c.2.2)))
        else if decide (r.2.1 = mx) = true then Float64.sub (Float64.add k2 (Float64.div (Float64.sub (fmax3 c.1 c.2.1 c.2.2) c.1) (Float64.sub (fmax3 c.1 c.2.1 c.2.2) (fmin3 c.1 c.2.1 c.2.2)))) (Float64.div (Float64.sub (fmax3 c.1 c.2.1 c.2.2) c.2.2) (Float64.sub (fmax3 c.1 c.2.1 c.2.2) (fmin3 c.1 c.2.1 c.2.2)))
        else Float64.sub (Float64.add k4 (Float64.div (Float64.sub (fmax3 c.1 c.2.1 c.2.2) c.2.1) (Float64.sub (fmax3 c.1 c.2.1 c.2.2) (fmin3 c.1 c.2.1 c.2.2)))) (Float64.div (Float64.sub (fmax3 c.1 c.2.1 c.2.2) c.1) (Float64.sub (fmax3 c.1 c.2.1 c.2.2) (fmin3 c.1 c.2.1 c.2.2)))) (6 * w) := by
      rw [← hw]
      by_cases q1 : r.1 = mx
      · rw [if_pos (decide_eq_true q1), if_pos q1]
        exact BC.sub GC (by lia)
      · rw [if_neg (by simpa using q1), if_neg q1]
        by_cases q2 : r.2.1 = mx
        · rw [if_pos (decide_eq_true q2), if_pos q2]
          exact (isF_k2.add RC (by lia)).sub BC (by lia)
        · rw [if_neg (by simpa using q2), if_neg q2]
          exact (isF_k4.add GC (by lia)).sub RC (by lia)
    have hwb : -10000000 < w ∧ w < 10000000 := by
      split at hw
      · lia
      · split at hw <;> lia
    have D := key.div (K := w) isF_k6 (by decide) (by lia) (by lia)
    exact D.mod1 (by lia)
  · unfold hsvF
    simp only
    rw [hne, if_neg (by decide)]
    exact X
  · rw [X.isZero, decide_eq_false (by lia)]
  · rw [R.isZero, decide_eq_false (by lia)]
theorem lit_sym {c : Col} {r : Int × Int × Int} (hc : IsF3 c r) {mx rg l : Int} (hmx : mxI r = mx) (hmn : mnI r = mx - rg) (h0 : 0 < rg) (h1 : rg ≤ mx) (h2 : mx ≤ 1048576) (hl : 2 * mx - rg = 2 * l) : IsF (hlsL c.1 c.2.1 c.2.2) l ∧ hlsOk c.1 c.2.1 c.2.2 := by
  have X := hc.mx
  have N := hc.mn
  rw [hmx] at X
  rw [hmn] at N
  have a1 := X.sub N (by lia)
  have a2 := X.add N (by lia)
  have a3 := (isF_k2.sub X (by lia)).sub N (by lia)
  exact ⟨a2.div isF_k2 (by decide) (by lia) (by lia), fun _ => ⟨by rw [a1.isZero, decide_eq_false (by lia)], by rw [a2.isZero, decide_eq_false (by lia)], by rw [a3.isZero, decide_eq_false (by lia)]⟩⟩

theorem isF_frac {n : Int} {d k : Nat} (hn : 0 ≤ n) (hd : 0 < d) (hk : k * d = 1048576) (h : n.natAbs * k < 2 ^ 53) : IsF (frac n d) (n * k) := by
  have := IsF.ofFrac (neg := decide (n < 0) != decide ((d : Int) < 0)) (n := n.natAbs) (d := d) (K := n.natAbs * k) hd (by rw [Nat.mul_assoc, hk]) h
  rw [decide_eq_false (show ¬ n < 0 by lia), decide_eq_false (show ¬ (d : Int) < 0 by lia)] at this
  unfold frac
  rw [decide_eq_false (show ¬ n < 0 by lia), decide_eq_false (show ¬ (d : Int) < 0 by lia), Int.natAbs_natCast]
  have e : Float64.sgn (false != false) (n.natAbs * k) = n * k := by
    show ((n.natAbs * k : Nat) : Int) = _
    rw [Int.natCast_mul]
    congr 1
    lia
  rw [e] at this
  exact this

theorem mm1 {a b c : Int} (h : c ≤ b) (h' : b ≤ a) : mxI (a, b, c) = a ∧ mnI (a, b, c) = c := by
  unfold mxI mnI; dsimp only
  rw [Int.max_eq_left h', Int.max_eq_left (Int.le_trans h h'), Int.min_eq_right h', Int.min_eq_right h]; exact ⟨rfl, rfl⟩
theorem mm2 {a b c : Int} (h : c ≤ b) (h' : b ≤ a) : mxI (b, a, c) = a ∧ mnI (b, a, c) = c := by
  unfold mxI mnI; dsimp only
  rw [Int.max_eq_right h', Int.max_eq_left (Int.le_trans h h'), Int.min_eq_left h', Int.min_eq_right h]; exact ⟨rfl, rfl⟩
theorem mm3 {a b c : Int} (h : c ≤ b) (h' : b ≤ a) : mxI (c, a, b) = a ∧ mnI (c, a, b) = c := by
  unfold mxI mnI; dsimp only
  rw [Int.max_eq_right (Int.le_trans h h'), Int.max_eq_left h', Int.min_eq_left (Int.le_trans h h'), Int.min_eq_left h]; exact ⟨rfl, rfl⟩
theorem mm4 {a b c : Int} (h : c ≤ b) (h' : b ≤ a) : mxI (c, b, a) = a ∧ mnI (c, b, a) = c := by
  unfold mxI mnI; dsimp only
  rw [Int.max_eq_right h, Int.max_eq_right h', Int.min_eq_left h, Int.min_eq_left (Int.le_trans h h')]; exact ⟨rfl, rfl⟩
theorem mm5 {a b c : Int} (h : c ≤ b) (h' : b ≤ a) : mxI (b, c, a) = a ∧ mnI (b, c, a) = c := by
  unfold mxI mnI; dsimp only
  rw [Int.max_eq_left h, Int.max_eq_right h', Int.min_eq_right h, Int.min_eq_left (Int.le_trans h h')]; exact ⟨rfl, rfl⟩
theorem mm6 {a b c : Int} (h : c ≤ b) (h' : b ≤ a) : mxI (a, c, b) = a ∧ mnI (a, c, b) = c := by
  unfold mxI mnI; dsimp only
  rw [Int.max_eq_left (Int.le_trans h h'), Int.max_eq_left h', Int.min_eq_right (Int.le_trans h h'), Int.min_eq_left h]; exact ⟨rfl, rfl⟩

/-- a colour's parts -/
theorem rgb_sym {hf sf vf : UInt64} {h s v i j k : Int} (H6 : IsF (Float64.mul hf k6) (i * 1048576 + k * 16384)) (S : IsF sf (s * 262144)) (Vv : IsF vf (v * 131072)) (hh : 0 ≤ h ∧ h < 64) (hs : 1 ≤ s ∧ s < 5) (hv : 1 ≤ v ∧ v < 9) (hk : 0 ≤ k ∧ k < 64) (hib : i.natAbs < 1000) (hm : i.fmod 6 = j) (hi : 0 ≤ j ∧ j < 6) (he : 6 * h = 64 * j + k) :
    IsF (hsvF (rgbF hf sf vf i).1 (rgbF hf sf vf i).2.1 (rgbF hf sf vf i).2.2).1 (h * 16384) ∧ IsF (hsvF (rgbF hf sf vf i).1 (rgbF hf sf vf i).2.1 (rgbF hf sf vf i).2.2).2.2 (v * 131072) ∧ IsF (hlsL (rgbF hf sf vf i).1 (rgbF hf sf vf i).2.1 (rgbF hf sf vf i).2.2) (v * 131072 - v * s * 16384) ∧ ColOk (rgbF hf sf vf i) := by
  have F := H6.sub (IsF.ofInt (i := i) (by lia)) (by lia)
  rw [show i * 1048576 + k * 16384 - i * 1048576 = k * 16384 by lia] at F
  -- the products
  have m1 : v ≤ v * s ∧ v * s ≤ v * 4 := by
    have a := Int.mul_le_mul_of_nonneg_left hs.1 (show 0 ≤ v by lia)
    have b := Int.mul_le_mul_of_nonneg_left (show s ≤ 4 by lia) (show 0 ≤ v by lia)
    lia
  have m2 : 0 ≤ s * k ∧ s * k ≤ s * 63 := by
    have a := Int.mul_nonneg (show 0 ≤ s by lia) hk.1
    have b := Int.mul_le_mul_of_nonneg_left (show k ≤ 63 by lia) (show 0 ≤ s by lia)
    lia
  have m3 : 0 ≤ v * s * k ∧ v * s * k ≤ v * s * 63 := by
    have a := Int.mul_nonneg (show 0 ≤ v * s by lia) hk.1
    have b := Int.mul_le_mul_of_nonneg_left (show k ≤ 63 by lia) (show 0 ≤ v * s by lia)
    lia
  have m4 : 0 < k → v * s ≤ v * s * k := fun q => by
    have b := Int.mul_le_mul_of_nonneg_left (show 1 ≤ k by lia) (show 0 ≤ v * s by lia)
    lia
  have m5 : k = 0 → v * s * k = 0 := fun q => by rw [q]; simp
  have hp := Vv.mul (K := v * 131072 - v * s * 32768) (isF_k1.sub S (by lia)) (by grind) (by lia)
  have hq := Vv.mul (K := v * 131072 - v * s * k * 512) (isF_k1.sub (S.mul (K := s * k * 4096) F (by grind) (by lia)) (by lia)) (by grind) (by lia)
  have ht := Vv.mul (K := v * 131072 - v * s * 32768 + v * s * k * 512) (isF_k1.sub (S.mul (K := s * 262144 - s * k * 4096) (isF_k1.sub F (by lia)) (by grind) (by lia)) (by lia)) (by grind) (by lia)
  have hz : fcmpEq sf k0 = false := by
    unfold fcmpEq; rw [S.eq isF_k0, decide_eq_false (by lia)]
  have hC : ∃ r, IsF3 (rgbF hf sf vf i) r ∧ mxI r = v * 131072 ∧ mnI r = v * 131072 - v * s * 32768 ∧ 0 ≤ r.1 ∧ 0 ≤ r.2.1 ∧ 0 ≤ r.2.2 ∧
      ∃ rc gc bc w, (v * 131072 - r.1) * 1048576 = rc * (v * s * 32768) ∧ (v * 131072 - r.2.1) * 1048576 = gc * (v * s * 32768) ∧ (v * 131072 - r.2.2) * 1048576 = bc * (v * s * 32768) ∧ (0 ≤ rc ∧ rc ≤ 1048576) ∧ (0 ≤ gc ∧ gc ≤ 1048576) ∧ (0 ≤ bc ∧ bc ≤ 1048576) ∧
      (if r.1 = v * 131072 then bc - gc else if r.2.1 = v * 131072 then 2097152 + rc - bc else 4194304 + gc - rc) = 6 * w ∧ w % 1048576 = h * 16384 := by
    unfold rgbF
    rw [hz, if_neg (by decide)]
    simp only
    rw [hm]
    have zz : (v * 131072 - v * 131072) * 1048576 = 0 * (v * s * 32768) := by simp
    have zp : (v * 131072 - (v * 131072 - v * s * 32768)) * 1048576 = 1048576 * (v * s * 32768) := by grind
    have zq : (v * 131072 - (v * 131072 - v * s * k * 512)) * 1048576 = k * 16384 * (v * s * 32768) := by grind
    have zt : (v * 131072 - (v * 131072 - v * s * 32768 + v * s * k * 512)) * 1048576 = (1048576 - k * 16384) * (v * s * 32768) := by grind
    have hcases : j = 0 ∨ j = 1 ∨ j = 2 ∨ j = 3 ∨ j = 4 ∨ j = 5 := by lia
    have o1 : (0 : Int) ≤ 0 ∧ (0 : Int) ≤ 1048576 := by decide
    have o2 : (0 : Int) ≤ 1048576 ∧ (1048576 : Int) ≤ 1048576 := by decide
    have o3 : 0 ≤ k * 16384 ∧ k * 16384 ≤ 1048576 := by lia
    have o4 : 0 ≤ 1048576 - k * 16384 ∧ 1048576 - k * 16384 ≤ 1048576 := by lia
    have o5 : h * 16384 % 1048576 = h * 16384 := by lia
    have f1 : v * s * k = 0 ∨ 0 < k := by
      rcases Int.lt_or_eq_of_le hk.1 with q | q
      · exact .inr q
      · exact .inl (m5 q.symm)
    have e0 : 0 ≤ v * 131072 - v * s * 32768 := by lia
    have e1 : v * 131072 - v * s * 32768 ≤ v * 131072 - v * s * k * 512 := by lia
    have e2 : v * 131072 - v * s * 32768 ≤ v * 131072 - v * s * 32768 + v * s * k * 512 := by lia
    have e3 : v * 131072 - v * s * k * 512 ≤ v * 131072 := by lia
    have e4 : v * 131072 - v * s * 32768 + v * s * k * 512 < v * 131072 := by lia
    have e5 : v * 131072 - v * s * 32768 < v * 131072 := by lia
    have e6 : 0 < k → v * 131072 - v * s * k * 512 ≠ v * 131072 := fun q => by have := m4 q; lia
    have e7 : k = 0 → v * 131072 - v * s * k * 512 = v * 131072 := fun q => by rw [m5 q]; simp
    clear m1 m2 m3 m4 m5 f1
    generalize v * 131072 - v * s * 32768 + v * s * k * 512 = t at *
    generalize v * 131072 - v * s * k * 512 = q at *
    generalize hpp : v * 131072 - v * s * 32768 = p at *
    generalize v * 131072 = V at *
    have n1 := Int.le_trans e0 e1
    have n2 := Int.le_trans e0 e2
    have n3 := Int.le_trans e0 (Int.le_of_lt e5)
    have e4' := Int.le_of_lt e4
    rcases hcases with rfl | rfl | rfl | rfl | rfl | rfl
    · refine ⟨(_, _, _), ⟨Vv, ht, hp⟩, (mm1 e2 e4').1, (mm1 e2 e4').2, n3, n2, e0, _, _, _, h * 16384, zz, zt, zp, o1, o4, o2, ?_, o5⟩
      dsimp only
      rw [if_pos rfl]; lia
    · refine ⟨(_, _, _), ⟨hq, Vv, hp⟩, (mm2 e1 e3).1, (mm2 e1 e3).2, n1, n3, e0, _, _, _, h * 16384, zq, zz, zp, o3, o1, o2, ?_, o5⟩
      dsimp only
      by_cases k0 : k = 0
      · rw [if_pos (e7 k0)]; lia
      · rw [if_neg (e6 (by lia)), if_pos rfl]; lia
    · refine ⟨(_, _, _), ⟨hp, Vv, ht⟩, (mm3 e2 e4').1, (mm3 e2 e4').2, e0, n3, n2, _, _, _, h * 16384, zp, zz, zt, o2, o1, o4, ?_, o5⟩
      dsimp only
      rw [if_neg (Int.ne_of_lt e5), if_pos rfl]; lia
    · refine ⟨(_, _, _), ⟨hp, hq, Vv⟩, (mm4 e1 e3).1, (mm4 e1 e3).2, e0, n1, n3, _, _, _, h * 16384, zp, zq, zz, o2, o3, o1, ?_, o5⟩
      dsimp only
      rw [if_neg (Int.ne_of_lt e5)]
      by_cases k0 : k = 0
      · rw [if_pos (e7 k0)]; lia
      · rw [if_neg (e6 (by lia))]; lia
    · refine ⟨(_, _, _), ⟨ht, hp, Vv⟩, (mm5 e2 e4').1, (mm5 e2 e4').2, n2, e0, n3, _, _, _, h * 16384, zt, zp, zz, o4, o2, o1, ?_, o5⟩
      dsimp only
      rw [if_neg (Int.ne_of_lt e4), if_neg (Int.ne_of_lt e5)]; lia
    · refine ⟨(_, _, _), ⟨Vv, hp, hq⟩, (mm6 e1 e3).1, (mm6 e1 e3).2, n3, e0, n1, _, _, _, h * 16384 - 1048576, zz, zp, zq, o1, o2, o3, ?_, by lia⟩
      dsimp only
      rw [if_pos rfl]; lia
  obtain ⟨r, C, hmx, hmn, p1, p2, p3, rc, gc, bc, w, e1, e2, e3, b1, b2, b3, hw, hwm⟩ := hC
  obtain ⟨d1, d2, d3⟩ := hue_sym C hmx hmn (by lia) (by lia) (by lia) p1 p2 p3 e1 e2 e3 b1 b2 b3 hw
  obtain ⟨d4, d5⟩ := lit_sym (l := v * 131072 - v * s * 16384) C hmx hmn (by lia) (by lia) (by lia) (by lia)
  rw [hwm] at d1
  exact ⟨d1, d2, d4, ⟨d3, d5⟩⟩

theorem col_sym {h s v i k : Int} (hh : 0 ≤ h ∧ h < 64) (hs : 1 ≤ s ∧ s < 5) (hv : 1 ≤ v ∧ v < 9) (hk : 0 ≤ k ∧ k < 64) (hi : 0 ≤ i ∧ i < 6) (he : 6 * h = 64 * i + k) :
    IsF (hsvF (colF h s v).1 (colF h s v).2.1 (colF h s v).2.2).1 (h * 16384) ∧ IsF (hsvF (colF h s v).1 (colF h s v).2.1 (colF h s v).2.2).2.2 (v * 131072) ∧ IsF (hlsL (colF h s v).1 (colF h s v).2.1 (colF h s v).2.2) (v * 131072 - v * s * 16384) ∧ ColOk (colF h s v) ∧
    Whole (Float64.mul (frac h 64) k6) i := by
  have H : IsF (frac h 64) (h * 16384) := isF_frac (d := 64) (k := 16384) hh.1 (by decide) (by decide) (by lia)
  have S : IsF (frac s 4) (s * 262144) := isF_frac (d := 4) (k := 262144) (by lia) (by decide) (by decide) (by lia)
  have Vv : IsF (frac v 8) (v * 131072) := isF_frac (d := 8) (k := 131072) (by lia) (by decide) (by decide) (by lia)
  have H6 : IsF (Float64.mul (frac h 64) k6) (h * 98304) := H.mul isF_k6 (by lia) (by lia)
  have W := H6.whole (by lia)
  rw [show h * 98304 / 1048576 = i by lia] at W
  have We := W.eq
  obtain ⟨d1, d2, d4, d5⟩ := rgb_sym (i := i) (j := i) (k := k) (h := h) (by rw [show i * 1048576 + k * 16384 = h * 98304 by lia]; exact H6) S Vv hh hs hv hk (by lia) (by rw [Int.fmod_eq_emod_of_nonneg _ (by decide)]; lia) hi he
  unfold colF
  rw [We]
  exact ⟨d1, d2, d4, d5, W⟩

theorem drawOk {x : Int} (h0 : 0 ≤ x) (h1 : x < 2048) : DrawOk x := by
  have b1 : 0 ≤ hI x ∧ hI x < 64 := ⟨Int.fmod_nonneg_of_pos _ (by decide), Int.fmod_lt_of_pos _ (by decide)⟩
  have b2 : 1 ≤ sI x ∧ sI x < 5 := by
    have g1 := Int.fmod_nonneg_of_pos (x.fdiv 64) (b := 4) (by decide)
    have g2 := Int.fmod_lt_of_pos (x.fdiv 64) (b := 4) (by decide)
    unfold sI; lia
  have b3 : 1 ≤ vI x ∧ vI x < 9 := by
    unfold vI
    rw [Int.fdiv_eq_ediv_of_nonneg _ (by decide)]
    lia
  have arc1 : (arcI x).1 = hI x := rfl
  have arc2 : (arcI x).2 = hI x + sI x * vI x := rfl
  obtain ⟨d1, d2, d4, d5, W⟩ := col_sym (h := hI x) (s := sI x) (v := vI x) (i := 6 * hI x / 64) (k := 6 * hI x % 64) b1 b2 b3 (by lia) (by lia) (by lia)
  have We := W.eq
  have hcol : colF (hI x) (sI x) (vI x) = colD x := rfl
  rw [hcol] at d1 d2 d4 d5
  have m1 : vI x ≤ vI x * sI x ∧ vI x * sI x ≤ vI x * 4 := by
    have a := Int.mul_le_mul_of_nonneg_left b2.1 (show 0 ≤ vI x by lia)
    have b := Int.mul_le_mul_of_nonneg_left (show sI x ≤ 4 by lia) (show 0 ≤ vI x by lia)
    lia
  have mc : sI x * vI x = vI x * sI x := Int.mul_comm _ _
  have A1 : IsF (arcF (colD x)).1 (hI x * 1048576) := isF_k64.mul d1 (by lia) (by lia)
  have A2 : IsF (arcF (colD x)).2 ((hI x + sI x * vI x) * 1048576) := isF_k64.mul (d1.add (d2.sub d4 (by lia)) (by lia)) (by lia) (by lia)
  have w1 := A1.whole (by lia)
  have w2 := A2.whole (by lia)
  rw [Int.mul_ediv_cancel _ (by decide)] at w1 w2
  exact {
    h := (isF_frac (d := 64) (k := 16384) b1.1 (by decide) (by decide) (by lia)).isInf
    s := (isF_frac (d := 4) (k := 262144) (by lia) (by decide) (by decide) (by lia)).isInf
    v := (isF_frac (d := 8) (k := 131072) (by lia) (by decide) (by decide) (by lia)).isInf
    w := by rw [We]; exact W
    i := by rw [We]; lia
    col := d5
    b := by rw [A1.cmpInt, arc1]; simp
    e := by rw [A2.cmpInt, arc2]; simp
    wb := by rw [arc1]; exact w1
    we := by rw [arc2]; exact w2
    pos := by lia }

noncomputable def lampHu (e : Int) : UInt64 :=
  let i := e * 98304 / 1048576
  (hsvF (rgbF (lampH e) k1 k1 i).1 (rgbF (lampH e) k1 k1 i).2.1 (rgbF (lampH e) k1 k1 i).2.2).1
theorem lamp_ok {e : Int} (h0 : 0 ≤ e) (h1 : e < 8000) : LampOk e (lampHu e) ∧ IsF (lampHu e) (e % 64 * 16384) := by
  have H : IsF (lampH e) (e * 16384) := isF_frac (d := 64) (k := 16384) h0 (by decide) (by decide) (by lia)
  have H6 : IsF (Float64.mul (lampH e) k6) (e * 98304) := H.mul isF_k6 (by lia) (by lia)
  have W := H6.whole (by lia)
  obtain ⟨d1, _, _, d3, _⟩ := rgb_sym (hf := lampH e) (i := e * 98304 / 1048576) (j := e * 98304 / 1048576 % 6) (k := 6 * e % 64) (h := e % 64) (s := 4) (v := 8) (by rw [show e * 98304 / 1048576 * 1048576 + 6 * e % 64 * 16384 = e * 98304 by lia]; exact H6) isF_k1 isF_k1 (by lia) (by decide) (by decide) (by lia) (by lia) (by rw [Int.fmod_eq_emod_of_nonneg _ (by decide)]) (by lia) (by lia)
  refine ⟨⟨H.isInf, _, W, by lia, d3, rfl, ?_⟩, d1⟩
  have A : IsF (Float64.mul k64 (lampHu e)) (e % 64 * 1048576) := isF_k64.mul (K := e % 64 * 1048576) d1 (by lia) (by lia)
  show Float64.cmpInt (Float64.mul k64 (lampHu e)) _ = _
  rw [A.cmpInt, Int.fmod_eq_emod_of_nonneg _ (by decide)]
  simp
theorem lamps_ok : LampsOk lampHu where
  ok := fun e h0 h1 => (lamp_ok h0 h1).1
  eq := fun e e' h0 h1 h2 h3 => by
    have := (lamp_ok h0 h1).2.eq (lamp_ok h2 h3).2
    unfold feq
    rw [this]
    apply Bool.eq_iff_iff.mpr
    simp
    lia

-- M9
theorem draws_mem {ns : List Int} {x : Int} (h : x ∈ drawsF ns) : 0 ≤ x ∧ x < 2048 := by
  unfold drawsF at h
  rcases List.mem_append.mp h with h | h
  · obtain ⟨y, _, rfl⟩ := List.mem_map.mp h
    exact ⟨Int.fmod_nonneg_of_pos _ (by decide), Int.fmod_lt_of_pos _ (by decide)⟩
  · have h := List.mem_of_mem_drop h
    have : ∀ y ∈ spare, 0 ≤ y ∧ y < 2048 := by decide
    exact this x h
theorem draws_len (ns : List Int) : 5 ≤ (drawsF ns).length ∧ (drawsF ns).length ≤ 7 := by
  unfold drawsF
  rw [List.length_append, List.length_drop, List.length_map, List.length_take]
  have : spare.length = 5 := rfl
  lia
theorem arcI_ok {x : Int} (h0 : 0 ≤ x) (h1 : x < 2048) : 0 ≤ (arcI x).1 ∧ (arcI x).1 < 64 ∧ (arcI x).1 < (arcI x).2 ∧ (arcI x).2 ≤ (arcI x).1 + 32 := by
  have b1 : 0 ≤ hI x ∧ hI x < 64 := ⟨Int.fmod_nonneg_of_pos _ (by decide), Int.fmod_lt_of_pos _ (by decide)⟩
  have b2 : 1 ≤ sI x ∧ sI x < 5 := by
    have g1 := Int.fmod_nonneg_of_pos (x.fdiv 64) (b := 4) (by decide)
    have g2 := Int.fmod_lt_of_pos (x.fdiv 64) (b := 4) (by decide)
    unfold sI; lia
  have b3 : 1 ≤ vI x ∧ vI x < 9 := by
    unfold vI
    rw [Int.fdiv_eq_ediv_of_nonneg _ (by decide)]
    lia
  have a := Int.mul_le_mul_of_nonneg_left b3.1 (show 0 ≤ sI x by lia)
  have b := Int.mul_le_mul_of_nonneg_left (show vI x ≤ 8 by lia) (show 0 ≤ sI x by lia)
  show 0 ≤ hI x ∧ hI x < 64 ∧ hI x < hI x + sI x * vI x ∧ hI x + sI x * vI x ≤ hI x + 32
  lia
theorem lits_of (D : List Int) : Lits (D.map arcI) (litF D) where
  len := by simp [litF]
  bg := fun i j hi hj => by
    rw [List.length_map] at hi hj
    have e1 : gP (D.map arcI) i = arcI D[i] := by unfold gP; simp [hi]
    have e2 : gP (D.map arcI) j = arcI D[j] := by unfold gP; simp [hj]
    have e3 : bg (litF D) i j = decide ((hI D[i] - (arcI D[j]).1).fmod 64 ≤ (arcI D[j]).2 - (arcI D[j]).1) := by
      unfold bg litF
      simp [hi, hj]
    rw [e1, e2, e3, decide_eq_true_iff, Int.fmod_eq_emod_of_nonneg _ (by decide)]
    exact Iff.rfl

theorem Round.small {f : Int → Int} {z : Int} {q : Nat} {p : Int} {as : List P} (A : ArcsOk as) {g : Int → Int} (M : Maps as f g) (R : Round f z q p) : q ≤ 64 ∧ p < 100 := by
  have hap : Apart f z q := fun i j hij hj h => by
    -- the same place again: f's steps from there come back early
    have G := M.gal A
    have h1 : itI f j z = itI f i z + 64 * ((itI f j z - itI f i z) / 64) := by lia
    generalize (itI f j z - itI f i z) / 64 = c at h1
    have h2 : itI f (q - j) (itI f j z) = z + 64 * p := by rw [← itI_add, show q - j + j = q by lia]; exact R.per
    rw [h1, G.turF.itT, ← itI_add] at h2
    have := R.fst (q - j + i) (by lia) (by lia)
    lia
  have hq := hap.le
  refine ⟨hq, ?_⟩
  have hb : ∀ m : Nat, itI f m z ≤ z + 96 * m := by
    intro m
    induction m with
    | zero => show z ≤ _; lia
    | succ m ih =>
      rw [itI_succ]
      have := M.f_le A (itI f m z)
      lia
  have h1 := hb q
  rw [R.per] at h1
  lia

theorem law_facts (ns : List Int) : LawFacts (drawsF ns) := by
  obtain ⟨l1, l2⟩ := draws_len ns
  have hD := fun x hx => draws_mem (ns := ns) (x := x) hx
  generalize drawsF ns = D at *
  have A : ArcsOk (D.map arcI) := by
    refine ⟨fun q => ?_, fun p hp => ?_⟩
    · have := congrArg List.length q
      rw [List.length_map] at this
      simp at this
      subst this
      simp at l1
    · obtain ⟨x, hx, rfl⟩ := List.mem_map.mp hp
      exact arcI_ok (hD x hx).1 (hD x hx).2
  obtain ⟨f, g, M⟩ := maps_ex A
  have G := M.gal A
  have hlen : (D.map arcI).length = D.length := List.length_map _
  obtain ⟨z, q, p, R, hr⟩ := fwd_run A (by lia) M
  obtain ⟨y, q', p', R', hr'⟩ := bwd_run A M
  obtain ⟨rfl, rfl⟩ := G.same R R'
  have hp := G.p_pos R
  obtain ⟨s1, s2⟩ := R.small A M
  have L := lits_of D
  refine ⟨⟨l1, l2⟩, fun x hx => drawOk (hD x hx).1 (hD x hx).2, ⟨_, lamps_ok⟩, ((q : Int), 64 * p), 70000, 100, by decide, by decide, hr, hr', by show 0 < 64 * p; lia, ?_, by show (64 * p).natAbs < _; lia, by show (q : Int).natAbs < _; lia, ?_, fun N hN => ?_⟩
  · show (64 * p).fmod 64 = 0
    rw [Int.fmod_eq_emod_of_nonneg _ (by decide)]
    lia
  · have := most_of A M L R
    rw [hlen] at this
    exact this
  · refine few_of A M L R ?_
    rw [hlen]; exact hN

end Mine

namespace Mine

-- Head
/-- the text's view: the defs without defaults -/
noncomputable def vw : Program := { prg with main := { prg.main with body := [stm 5, stm 6, stm 7, stm 9, stm 10, stm 11, stm 12, stm 14, stm 15, stm 16, stm 17, stm 18, stm 19, stm 20] } }
noncomputable def lse : List Str := ["insort_right", "bisect_right", "bisect_left"]
abbrev rwr : RowW := OpenRow.toRowW Challenge.rw_pg0215_01.row
-- printed by wip/frag.py
noncomputable def KH (p : Params) : Frag :=
  (@Prod.mk Nat Obj (nat_lit 2) (Obj.mk Value.none (@Option.none Nat) (Data.dict (@List.toArray DictEntry []) 0) (@List.toArray (Option Value) []))) ::
  (@Prod.mk Nat Obj (nat_lit 3) (Obj.mk (Value.type "dict") (@Option.none Nat) (Data.dict (@List.toArray DictEntry [(DictEntry.mk (PyData.keyHash p (Str.ofString "__name__")) (Value.str (Str.ofString "__name__") 165) (Value.str (Str.ofString "law_pg0215_01") 328)), (DictEntry.mk (PyData.keyHash p (Str.ofString "__doc__")) (Value.str (Str.ofString "__doc__") 166) Value.none), (DictEntry.mk (PyData.keyHash p (Str.ofString "__package__")) (Value.str (Str.ofString "__package__") 167) Value.none), (DictEntry.mk (PyData.keyHash p (Str.ofString "__loader__")) (Value.str (Str.ofString "__loader__") 168) (Value.builtin "__main__.__loader__#opaque")), (DictEntry.mk (PyData.keyHash p (Str.ofString "__spec__")) (Value.str (Str.ofString "__spec__") 169) Value.none), (DictEntry.mk (PyData.keyHash p (Str.ofString "__annotations__")) (Value.str (Str.ofString "__annotations__") 170) (Value.ref 6)), (DictEntry.mk (PyData.keyHash p (Str.ofString "__builtins__")) (Value.str (Str.ofString "__builtins__") 171) (Value.ref 4)), (DictEntry.mk (PyData.keyHash p (Str.ofString "__file__")) (Value.str (Str.ofString "__file__") 173) (Value.str (Str.ofString "/claim/cut.py") 172)), (DictEntry.mk (PyData.keyHash p (Str.ofString "__cached__")) (Value.str (Str.ofString "__cached__") 174) Value.none), (DictEntry.mk (PyData.keyHash p (Str.ofString "insort_right")) (Value.str (Str.ofString "insort_right") 201) (Value.ref 23)), (DictEntry.mk (PyData.keyHash p (Str.ofString "bisect_right")) (Value.str (Str.ofString "bisect_right") 215) (Value.ref 32)), (DictEntry.mk (PyData.keyHash p (Str.ofString "bisect_left")) (Value.str (Str.ofString "bisect_left") 229) (Value.ref 41)), (DictEntry.mk (PyData.keyHash p (Str.ofString "rgb_to_hls")) (Value.str (Str.ofString "rgb_to_hls") 250) (Value.ref 48)), (DictEntry.mk (PyData.keyHash p (Str.ofString "rgb_to_hsv")) (Value.str (Str.ofString "rgb_to_hsv") 268) (Value.ref 55)), (DictEntry.mk (PyData.keyHash p (Str.ofString "hsv_to_rgb")) (Value.str (Str.ofString "hsv_to_rgb") 282) (Value.ref 62)), (DictEntry.mk (PyData.keyHash p (Str.ofString "heapreplace")) (Value.str (Str.ofString "heapreplace") 293) (Value.ref 69)), (DictEntry.mk (PyData.keyHash p (Str.ofString "heapify")) (Value.str (Str.ofString "heapify") 302) (Value.ref 76)), (DictEntry.mk (PyData.keyHash p (Str.ofString "_siftdown")) (Value.str (Str.ofString "_siftdown") 314) (Value.ref 83)), (DictEntry.mk (PyData.keyHash p (Str.ofString "_siftup")) (Value.str (Str.ofString "_siftup") 327) (Value.ref 90)), (DictEntry.mk (PyData.keyHash p (Str.ofString "_law_draws")) (Value.str (Str.ofString "_law_draws") 335) (Value.ref 95)), (DictEntry.mk (PyData.keyHash p (Str.ofString "_law_arcs")) (Value.str (Str.ofString "_law_arcs") 350) (Value.ref 102)), (DictEntry.mk (PyData.keyHash p (Str.ofString "_law_forward")) (Value.str (Str.ofString "_law_forward") 356) (Value.ref 107)), (DictEntry.mk (PyData.keyHash p (Str.ofString "_law_backward")) (Value.str (Str.ofString "_law_backward") 373) (Value.ref 114)), (DictEntry.mk (PyData.keyHash p (Str.ofString "_law_most")) (Value.str (Str.ofString "_law_most") 379) (Value.ref 119)), (DictEntry.mk (PyData.keyHash p (Str.ofString "_law_fewest")) (Value.str (Str.ofString "_law_fewest") 385) (Value.ref 124)), (DictEntry.mk (PyData.keyHash p (Str.ofString "law")) (Value.str (Str.ofString "law") 391) (Value.ref 129))]) 26) (@List.toArray (Option Value) []))) ::
  (@Prod.mk Nat Obj (nat_lit 15) (Obj.mk (Value.type "tuple") (@Option.none Nat) (Data.seq (@List.toArray Value [(Value.int 0 189), Value.none]) 0) (@List.toArray (Option Value) []))) ::
  (@Prod.mk Nat Obj (nat_lit 16) (Obj.mk (Value.type "dict") (@Option.none Nat) (Data.dict (@List.toArray DictEntry [(DictEntry.mk (PyData.keyHash p (Str.ofString "key")) (Value.str (Str.ofString "key") 190) Value.none)]) 1) (@List.toArray (Option Value) []))) ::
  (@Prod.mk Nat Obj (nat_lit 22) (Obj.mk (Value.type "code") (@Option.none Nat) (Data.fields (@List.toArray Value [(Value.str (Str.ofString "insort_right") 191), (Value.str (Str.ofString "insort_right") 192), (Value.str (Str.ofString "/claim/cut.py") 193), (Value.int 2 0), (Value.int 4 0), (Value.int 0 0), (Value.int 1 0), (Value.int 3 0), (Value.ref 17), (Value.bool Bool.true), (Value.int 181 0), (Value.ref 18), Value.none, (Value.ref 19), (Value.ref 20), (Value.ref 21), (Value.int 199 0), (Value.int 2 0), (Value.str (Str.ofString "/claim/cut.py") 200)])) (@List.toArray (Option Value) []))) ::
  (@Prod.mk Nat Obj (nat_lit 23) (Obj.mk (Value.type "function") (@Option.none Nat) (Data.func (FuncData.mk (Str.ofString "insort_right") (Str.ofString "insort_right") (argsOf (stm 1)) (FuncBody.stmts (bodyOf (stm 1))) (scopeOf (stm 1)) 3 [] (Value.ref 15) (Value.ref 16) Value.none (Value.str (Str.ofString "cpy313.bisect") 187) (@Option.none Nat) (Value.ref 22) Value.none 0)) (@List.toArray (Option Value) []))) ::
  (@Prod.mk Nat Obj (nat_lit 24) (Obj.mk (Value.type "tuple") (@Option.none Nat) (Data.seq (@List.toArray Value [(Value.int 0 202), Value.none]) 0) (@List.toArray (Option Value) []))) ::
  (@Prod.mk Nat Obj (nat_lit 25) (Obj.mk (Value.type "dict") (@Option.none Nat) (Data.dict (@List.toArray DictEntry [(DictEntry.mk (PyData.keyHash p (Str.ofString "key")) (Value.str (Str.ofString "key") 203) Value.none)]) 1) (@List.toArray (Option Value) []))) ::
  (@Prod.mk Nat Obj (nat_lit 31) (Obj.mk (Value.type "code") (@Option.none Nat) (Data.fields (@List.toArray Value [(Value.str (Str.ofString "bisect_right") 204), (Value.str (Str.ofString "bisect_right") 205), (Value.str (Str.ofString "/claim/cut.py") 206), (Value.int 8 0), (Value.int 4 0), (Value.int 0 0), (Value.int 1 0), (Value.int 3 0), (Value.ref 26), (Value.bool Bool.true), (Value.int 181 0), (Value.ref 27), Value.none, (Value.ref 28), (Value.ref 29), (Value.ref 30), (Value.int 213 0), (Value.int 8 0), (Value.str (Str.ofString "/claim/cut.py") 214)])) (@List.toArray (Option Value) []))) ::
  (@Prod.mk Nat Obj (nat_lit 32) (Obj.mk (Value.type "function") (@Option.none Nat) (Data.func (FuncData.mk (Str.ofString "bisect_right") (Str.ofString "bisect_right") (argsOf (stm 2)) (FuncBody.stmts (bodyOf (stm 2))) (scopeOf (stm 2)) 3 [] (Value.ref 24) (Value.ref 25) Value.none (Value.str (Str.ofString "cpy313.bisect") 187) (@Option.none Nat) (Value.ref 31) Value.none 0)) (@List.toArray (Option Value) []))) ::
  (@Prod.mk Nat Obj (nat_lit 33) (Obj.mk (Value.type "tuple") (@Option.none Nat) (Data.seq (@List.toArray Value [(Value.int 0 216), Value.none]) 0) (@List.toArray (Option Value) []))) ::
  (@Prod.mk Nat Obj (nat_lit 34) (Obj.mk (Value.type "dict") (@Option.none Nat) (Data.dict (@List.toArray DictEntry [(DictEntry.mk (PyData.keyHash p (Str.ofString "key")) (Value.str (Str.ofString "key") 217) Value.none)]) 1) (@List.toArray (Option Value) []))) ::
  (@Prod.mk Nat Obj (nat_lit 40) (Obj.mk (Value.type "code") (@Option.none Nat) (Data.fields (@List.toArray Value [(Value.str (Str.ofString "bisect_left") 218), (Value.str (Str.ofString "bisect_left") 219), (Value.str (Str.ofString "/claim/cut.py") 220), (Value.int 28 0), (Value.int 4 0), (Value.int 0 0), (Value.int 1 0), (Value.int 3 0), (Value.ref 35), (Value.bool Bool.true), (Value.int 181 0), (Value.ref 36), Value.none, (Value.ref 37), (Value.ref 38), (Value.ref 39), (Value.int 227 0), (Value.int 28 0), (Value.str (Str.ofString "/claim/cut.py") 228)])) (@List.toArray (Option Value) []))) ::
  (@Prod.mk Nat Obj (nat_lit 41) (Obj.mk (Value.type "function") (@Option.none Nat) (Data.func (FuncData.mk (Str.ofString "bisect_left") (Str.ofString "bisect_left") (argsOf (stm 3)) (FuncBody.stmts (bodyOf (stm 3))) (scopeOf (stm 3)) 3 [] (Value.ref 33) (Value.ref 34) Value.none (Value.str (Str.ofString "cpy313.bisect") 187) (@Option.none Nat) (Value.ref 40) Value.none 0)) (@List.toArray (Option Value) []))) ::
  (@Prod.mk Nat Obj (nat_lit 47) (Obj.mk (Value.type "code") (@Option.none Nat) (Data.fields (@List.toArray Value [(Value.str (Str.ofString "rgb_to_hls") 232), (Value.str (Str.ofString "rgb_to_hls") 233), (Value.str (Str.ofString "/claim/cut.py") 234), (Value.int 49 0), (Value.int 3 0), (Value.int 0 0), (Value.int 0 0), (Value.int 3 0), (Value.ref 42), (Value.bool Bool.true), (Value.int 181 0), (Value.ref 43), Value.none, (Value.ref 44), (Value.ref 45), (Value.ref 46), (Value.int 248 0), (Value.int 49 0), (Value.str (Str.ofString "/claim/cut.py") 249)])) (@List.toArray (Option Value) []))) ::
  (@Prod.mk Nat Obj (nat_lit 48) (Obj.mk (Value.type "function") (@Option.none Nat) (Data.func (FuncData.mk (Str.ofString "rgb_to_hls") (Str.ofString "rgb_to_hls") (argsOf (stm 5)) (FuncBody.stmts (bodyOf (stm 5))) (scopeOf (stm 5)) 3 [] Value.none Value.none Value.none (Value.str (Str.ofString "cpy313.colorsys") 230) (@Option.none Nat) (Value.ref 47) Value.none 0)) (@List.toArray (Option Value) []))) ::
  (@Prod.mk Nat Obj (nat_lit 54) (Obj.mk (Value.type "code") (@Option.none Nat) (Data.fields (@List.toArray Value [(Value.str (Str.ofString "rgb_to_hsv") 251), (Value.str (Str.ofString "rgb_to_hsv") 252), (Value.str (Str.ofString "/claim/cut.py") 253), (Value.int 72 0), (Value.int 3 0), (Value.int 0 0), (Value.int 0 0), (Value.int 3 0), (Value.ref 49), (Value.bool Bool.true), (Value.int 181 0), (Value.ref 50), Value.none, (Value.ref 51), (Value.ref 52), (Value.ref 53), (Value.int 266 0), (Value.int 72 0), (Value.str (Str.ofString "/claim/cut.py") 267)])) (@List.toArray (Option Value) []))) ::
  (@Prod.mk Nat Obj (nat_lit 55) (Obj.mk (Value.type "function") (@Option.none Nat) (Data.func (FuncData.mk (Str.ofString "rgb_to_hsv") (Str.ofString "rgb_to_hsv") (argsOf (stm 6)) (FuncBody.stmts (bodyOf (stm 6))) (scopeOf (stm 6)) 3 [] Value.none Value.none Value.none (Value.str (Str.ofString "cpy313.colorsys") 230) (@Option.none Nat) (Value.ref 54) Value.none 0)) (@List.toArray (Option Value) []))) ::
  (@Prod.mk Nat Obj (nat_lit 61) (Obj.mk (Value.type "code") (@Option.none Nat) (Data.fields (@List.toArray Value [(Value.str (Str.ofString "hsv_to_rgb") 269), (Value.str (Str.ofString "hsv_to_rgb") 270), (Value.str (Str.ofString "/claim/cut.py") 271), (Value.int 91 0), (Value.int 3 0), (Value.int 0 0), (Value.int 0 0), (Value.int 3 0), (Value.ref 56), (Value.bool Bool.true), (Value.int 181 0), (Value.ref 57), Value.none, (Value.ref 58), (Value.ref 59), (Value.ref 60), (Value.int 280 0), (Value.int 91 0), (Value.str (Str.ofString "/claim/cut.py") 281)])) (@List.toArray (Option Value) []))) ::
  (@Prod.mk Nat Obj (nat_lit 62) (Obj.mk (Value.type "function") (@Option.none Nat) (Data.func (FuncData.mk (Str.ofString "hsv_to_rgb") (Str.ofString "hsv_to_rgb") (argsOf (stm 7)) (FuncBody.stmts (bodyOf (stm 7))) (scopeOf (stm 7)) 3 [] Value.none Value.none Value.none (Value.str (Str.ofString "cpy313.colorsys") 230) (@Option.none Nat) (Value.ref 61) Value.none 0)) (@List.toArray (Option Value) []))) ::
  (@Prod.mk Nat Obj (nat_lit 68) (Obj.mk (Value.type "code") (@Option.none Nat) (Data.fields (@List.toArray Value [(Value.str (Str.ofString "heapreplace") 285), (Value.str (Str.ofString "heapreplace") 286), (Value.str (Str.ofString "/claim/cut.py") 287), (Value.int 113 0), (Value.int 2 0), (Value.int 0 0), (Value.int 0 0), (Value.int 3 0), (Value.ref 63), (Value.bool Bool.true), (Value.int 181 0), (Value.ref 64), Value.none, (Value.ref 65), (Value.ref 66), (Value.ref 67), (Value.int 291 0), (Value.int 113 0), (Value.str (Str.ofString "/claim/cut.py") 292)])) (@List.toArray (Option Value) []))) ::
  (@Prod.mk Nat Obj (nat_lit 69) (Obj.mk (Value.type "function") (@Option.none Nat) (Data.func (FuncData.mk (Str.ofString "heapreplace") (Str.ofString "heapreplace") (argsOf (stm 9)) (FuncBody.stmts (bodyOf (stm 9))) (scopeOf (stm 9)) 3 [] Value.none Value.none Value.none (Value.str (Str.ofString "cpy313.heapq") 283) (@Option.none Nat) (Value.ref 68) Value.none 0)) (@List.toArray (Option Value) []))) ::
  (@Prod.mk Nat Obj (nat_lit 75) (Obj.mk (Value.type "code") (@Option.none Nat) (Data.fields (@List.toArray Value [(Value.str (Str.ofString "heapify") 294), (Value.str (Str.ofString "heapify") 295), (Value.str (Str.ofString "/claim/cut.py") 296), (Value.int 118 0), (Value.int 1 0), (Value.int 0 0), (Value.int 0 0), (Value.int 3 0), (Value.ref 70), (Value.bool Bool.true), (Value.int 181 0), (Value.ref 71), Value.none, (Value.ref 72), (Value.ref 73), (Value.ref 74), (Value.int 300 0), (Value.int 118 0), (Value.str (Str.ofString "/claim/cut.py") 301)])) (@List.toArray (Option Value) []))) ::
  (@Prod.mk Nat Obj (nat_lit 76) (Obj.mk (Value.type "function") (@Option.none Nat) (Data.func (FuncData.mk (Str.ofString "heapify") (Str.ofString "heapify") (argsOf (stm 10)) (FuncBody.stmts (bodyOf (stm 10))) (scopeOf (stm 10)) 3 [] Value.none Value.none Value.none (Value.str (Str.ofString "cpy313.heapq") 283) (@Option.none Nat) (Value.ref 75) Value.none 0)) (@List.toArray (Option Value) []))) ::
  (@Prod.mk Nat Obj (nat_lit 82) (Obj.mk (Value.type "code") (@Option.none Nat) (Data.fields (@List.toArray Value [(Value.str (Str.ofString "_siftdown") 303), (Value.str (Str.ofString "_siftdown") 304), (Value.str (Str.ofString "/claim/cut.py") 305), (Value.int 122 0), (Value.int 3 0), (Value.int 0 0), (Value.int 0 0), (Value.int 3 0), (Value.ref 77), (Value.bool Bool.true), (Value.int 181 0), (Value.ref 78), Value.none, (Value.ref 79), (Value.ref 80), (Value.ref 81), (Value.int 312 0), (Value.int 122 0), (Value.str (Str.ofString "/claim/cut.py") 313)])) (@List.toArray (Option Value) []))) ::
  (@Prod.mk Nat Obj (nat_lit 83) (Obj.mk (Value.type "function") (@Option.none Nat) (Data.func (FuncData.mk (Str.ofString "_siftdown") (Str.ofString "_siftdown") (argsOf (stm 11)) (FuncBody.stmts (bodyOf (stm 11))) (scopeOf (stm 11)) 3 [] Value.none Value.none Value.none (Value.str (Str.ofString "cpy313.heapq") 283) (@Option.none Nat) (Value.ref 82) Value.none 0)) (@List.toArray (Option Value) []))) ::
  (@Prod.mk Nat Obj (nat_lit 89) (Obj.mk (Value.type "code") (@Option.none Nat) (Data.fields (@List.toArray Value [(Value.str (Str.ofString "_siftup") 315), (Value.str (Str.ofString "_siftup") 316), (Value.str (Str.ofString "/claim/cut.py") 317), (Value.int 133 0), (Value.int 2 0), (Value.int 0 0), (Value.int 0 0), (Value.int 3 0), (Value.ref 84), (Value.bool Bool.true), (Value.int 181 0), (Value.ref 85), Value.none, (Value.ref 86), (Value.ref 87), (Value.ref 88), (Value.int 325 0), (Value.int 133 0), (Value.str (Str.ofString "/claim/cut.py") 326)])) (@List.toArray (Option Value) []))) ::
  (@Prod.mk Nat Obj (nat_lit 90) (Obj.mk (Value.type "function") (@Option.none Nat) (Data.func (FuncData.mk (Str.ofString "_siftup") (Str.ofString "_siftup") (argsOf (stm 12)) (FuncBody.stmts (bodyOf (stm 12))) (scopeOf (stm 12)) 3 [] Value.none Value.none Value.none (Value.str (Str.ofString "cpy313.heapq") 283) (@Option.none Nat) (Value.ref 89) Value.none 0)) (@List.toArray (Option Value) []))) ::
  (@Prod.mk Nat Obj (nat_lit 94) (Obj.mk (Value.type "code") (@Option.none Nat) (Data.fields (@List.toArray Value [(Value.str (Str.ofString "_law_draws") 330), (Value.str (Str.ofString "_law_draws") 331), (Value.str (Str.ofString "/claim/cut.py") 332), (Value.int 148 0), (Value.int 1 0), (Value.int 0 0), (Value.int 0 0), (Value.int 3 0), (Value.ref 91), (Value.bool Bool.true), (Value.int 181 0), (Value.ref 92), Value.none, Value.none, Value.none, (Value.ref 93), (Value.int 333 0), (Value.int 148 0), (Value.str (Str.ofString "/claim/cut.py") 334)])) (@List.toArray (Option Value) []))) ::
  (@Prod.mk Nat Obj (nat_lit 95) (Obj.mk (Value.type "function") (@Option.none Nat) (Data.func (FuncData.mk (Str.ofString "_law_draws") (Str.ofString "_law_draws") (argsOf (stm 14)) (FuncBody.stmts (bodyOf (stm 14))) (scopeOf (stm 14)) 3 [] Value.none Value.none Value.none (Value.str (Str.ofString "law_pg0215_01") 328) (@Option.none Nat) (Value.ref 94) Value.none 0)) (@List.toArray (Option Value) []))) ::
  (@Prod.mk Nat Obj (nat_lit 101) (Obj.mk (Value.type "code") (@Option.none Nat) (Data.fields (@List.toArray Value [(Value.str (Str.ofString "_law_arcs") 336), (Value.str (Str.ofString "_law_arcs") 337), (Value.str (Str.ofString "/claim/cut.py") 338), (Value.int 152 0), (Value.int 1 0), (Value.int 0 0), (Value.int 0 0), (Value.int 3 0), (Value.ref 96), (Value.bool Bool.true), (Value.int 181 0), (Value.ref 97), Value.none, (Value.ref 98), (Value.ref 99), (Value.ref 100), (Value.int 348 0), (Value.int 152 0), (Value.str (Str.ofString "/claim/cut.py") 349)])) (@List.toArray (Option Value) []))) ::
  (@Prod.mk Nat Obj (nat_lit 102) (Obj.mk (Value.type "function") (@Option.none Nat) (Data.func (FuncData.mk (Str.ofString "_law_arcs") (Str.ofString "_law_arcs") (argsOf (stm 15)) (FuncBody.stmts (bodyOf (stm 15))) (scopeOf (stm 15)) 3 [] Value.none Value.none Value.none (Value.str (Str.ofString "law_pg0215_01") 328) (@Option.none Nat) (Value.ref 101) Value.none 0)) (@List.toArray (Option Value) []))) ::
  (@Prod.mk Nat Obj (nat_lit 106) (Obj.mk (Value.type "code") (@Option.none Nat) (Data.fields (@List.toArray Value [(Value.str (Str.ofString "_law_forward") 351), (Value.str (Str.ofString "_law_forward") 352), (Value.str (Str.ofString "/claim/cut.py") 353), (Value.int 159 0), (Value.int 1 0), (Value.int 0 0), (Value.int 0 0), (Value.int 3 0), (Value.ref 103), (Value.bool Bool.true), (Value.int 181 0), (Value.ref 104), Value.none, Value.none, Value.none, (Value.ref 105), (Value.int 354 0), (Value.int 159 0), (Value.str (Str.ofString "/claim/cut.py") 355)])) (@List.toArray (Option Value) []))) ::
  (@Prod.mk Nat Obj (nat_lit 107) (Obj.mk (Value.type "function") (@Option.none Nat) (Data.func (FuncData.mk (Str.ofString "_law_forward") (Str.ofString "_law_forward") (argsOf (stm 16)) (FuncBody.stmts (bodyOf (stm 16))) (scopeOf (stm 16)) 3 [] Value.none Value.none Value.none (Value.str (Str.ofString "law_pg0215_01") 328) (@Option.none Nat) (Value.ref 106) Value.none 0)) (@List.toArray (Option Value) []))) ::
  (@Prod.mk Nat Obj (nat_lit 113) (Obj.mk (Value.type "code") (@Option.none Nat) (Data.fields (@List.toArray Value [(Value.str (Str.ofString "_law_backward") 357), (Value.str (Str.ofString "_law_backward") 358), (Value.str (Str.ofString "/claim/cut.py") 359), (Value.int 181 0), (Value.int 1 0), (Value.int 0 0), (Value.int 0 0), (Value.int 3 0), (Value.ref 108), (Value.bool Bool.true), (Value.int 181 0), (Value.ref 109), Value.none, (Value.ref 110), (Value.ref 111), (Value.ref 112), (Value.int 371 0), (Value.int 181 0), (Value.str (Str.ofString "/claim/cut.py") 372)])) (@List.toArray (Option Value) []))) ::
  (@Prod.mk Nat Obj (nat_lit 114) (Obj.mk (Value.type "function") (@Option.none Nat) (Data.func (FuncData.mk (Str.ofString "_law_backward") (Str.ofString "_law_backward") (argsOf (stm 17)) (FuncBody.stmts (bodyOf (stm 17))) (scopeOf (stm 17)) 3 [] Value.none Value.none Value.none (Value.str (Str.ofString "law_pg0215_01") 328) (@Option.none Nat) (Value.ref 113) Value.none 0)) (@List.toArray (Option Value) []))) ::
  (@Prod.mk Nat Obj (nat_lit 118) (Obj.mk (Value.type "code") (@Option.none Nat) (Data.fields (@List.toArray Value [(Value.str (Str.ofString "_law_most") 374), (Value.str (Str.ofString "_law_most") 375), (Value.str (Str.ofString "/claim/cut.py") 376), (Value.int 200 0), (Value.int 2 0), (Value.int 0 0), (Value.int 0 0), (Value.int 3 0), (Value.ref 115), (Value.bool Bool.true), (Value.int 181 0), (Value.ref 116), Value.none, Value.none, Value.none, (Value.ref 117), (Value.int 377 0), (Value.int 200 0), (Value.str (Str.ofString "/claim/cut.py") 378)])) (@List.toArray (Option Value) []))) ::
  (@Prod.mk Nat Obj (nat_lit 119) (Obj.mk (Value.type "function") (@Option.none Nat) (Data.func (FuncData.mk (Str.ofString "_law_most") (Str.ofString "_law_most") (argsOf (stm 18)) (FuncBody.stmts (bodyOf (stm 18))) (scopeOf (stm 18)) 3 [] Value.none Value.none Value.none (Value.str (Str.ofString "law_pg0215_01") 328) (@Option.none Nat) (Value.ref 118) Value.none 0)) (@List.toArray (Option Value) []))) ::
  (@Prod.mk Nat Obj (nat_lit 123) (Obj.mk (Value.type "code") (@Option.none Nat) (Data.fields (@List.toArray Value [(Value.str (Str.ofString "_law_fewest") 380), (Value.str (Str.ofString "_law_fewest") 381), (Value.str (Str.ofString "/claim/cut.py") 382), (Value.int 206 0), (Value.int 2 0), (Value.int 0 0), (Value.int 0 0), (Value.int 3 0), (Value.ref 120), (Value.bool Bool.true), (Value.int 181 0), (Value.ref 121), Value.none, Value.none, Value.none, (Value.ref 122), (Value.int 383 0), (Value.int 206 0), (Value.str (Str.ofString "/claim/cut.py") 384)])) (@List.toArray (Option Value) []))) ::
  (@Prod.mk Nat Obj (nat_lit 124) (Obj.mk (Value.type "function") (@Option.none Nat) (Data.func (FuncData.mk (Str.ofString "_law_fewest") (Str.ofString "_law_fewest") (argsOf (stm 19)) (FuncBody.stmts (bodyOf (stm 19))) (scopeOf (stm 19)) 3 [] Value.none Value.none Value.none (Value.str (Str.ofString "law_pg0215_01") 328) (@Option.none Nat) (Value.ref 123) Value.none 0)) (@List.toArray (Option Value) []))) ::
  (@Prod.mk Nat Obj (nat_lit 128) (Obj.mk (Value.type "code") (@Option.none Nat) (Data.fields (@List.toArray Value [(Value.str (Str.ofString "law") 386), (Value.str (Str.ofString "law") 387), (Value.str (Str.ofString "/claim/cut.py") 388), (Value.int 214 0), (Value.int 1 0), (Value.int 0 0), (Value.int 0 0), (Value.int 3 0), (Value.ref 125), (Value.bool Bool.true), (Value.int 181 0), (Value.ref 126), Value.none, Value.none, Value.none, (Value.ref 127), (Value.int 389 0), (Value.int 214 0), (Value.str (Str.ofString "/claim/cut.py") 390)])) (@List.toArray (Option Value) []))) ::
  (@Prod.mk Nat Obj (nat_lit 129) (Obj.mk (Value.type "function") (@Option.none Nat) (Data.func (FuncData.mk (Str.ofString "law") (Str.ofString "law") (argsOf (stm 20)) (FuncBody.stmts (bodyOf (stm 20))) (scopeOf (stm 20)) 3 [] Value.none Value.none Value.none (Value.str (Str.ofString "law_pg0215_01") 328) (@Option.none Nat) (Value.ref 128) Value.none 0)) (@List.toArray (Option Value) []))) ::
  []
noncomputable def asH : List Addr := [2, 3, 15, 16, 22, 23, 24, 25, 31, 32, 33, 34, 40, 41, 47, 48, 54, 55, 61, 62, 68, 69, 75, 76, 82, 83, 89, 90, 94, 95, 101, 102, 106, 107, 113, 114, 118, 119, 123, 124, 128, 129]
theorem asH_ok : ∀ p, asH = (KH p).map (·.1) := fun _ => by kernel_rfl
set_option maxRecDepth 100000 in
set_option maxHeartbeats 8000000 in
theorem hl_ok : LeftO Challenge.rw_pg0215_01.row.prog vw lse (fun s => xlAt vw [] s && recOk (RowW.records rwr) s) (Hook.obs (kHook KH asH asH_ok)) (Hook.val (kHook KH asH asH_ok)) 1350 := fun w => by kernel_rfl
theorem said_ok : OpenLaw.wellSaid Challenge.rw_pg0215_01 = true := by kernel_rfl

-- W20
theorem In.start {w : World} {h₀ h₁ : Heap} {mg mb mf : Str → Option Value} {sb : Shared} {L Pt sa : Addr} {tk : Nat} (F : Fr h₀ L h₁ mf) (hc : ∃ o, h₁.get? (L + 1) = some o ∧ o.data = .cell none) (ht : h₁.get? Pt = some (tabObj #[]))
    (hl : Pt < L) (hg1 : h₀.get? (L + 1) = none) (hg2 : h₀.get? Pt = none) (hm : mf "script" = some (.ref sa)) :
    In ⟨⟨w, h₀, mg, mb, sb⟩, h₀, [Pt], L, 100, 0⟩ [("script", .ref sa)] [(L + 1, .cel none), (Pt, .obj (tabObj #[]))] [] { sb with heap := h₁, toks := tk } where
  ns := ⟨mf, F.ns, fun x v e => by
    simp only [List.lookup] at e
    split at e
    · rename_i h
      have hx := eq_of_beq h
      subst hx
      cases e
      exact ⟨_, hm, rfl⟩
    · cases e⟩
  ents := fun p hp => by
    rcases List.mem_cons.mp hp with rfl | hp
    · exact hc
    · rcases List.mem_cons.mp hp with rfl | hp
      · exact ⟨_, ht, rfl, show Value.none ≠ .type "tuple" by decide, Obj.isFreed_of_fields rfl⟩
      · cases hp
  apart := fun p hp => by
    rcases List.mem_cons.mp hp with rfl | hp
    · exact ⟨Nat.ne_of_gt (Nat.lt_succ_self _), hg1, .inl (Nat.le_succ_of_le F.above)⟩
    · rcases List.mem_cons.mp hp with rfl | hp
      · exact ⟨Nat.ne_of_lt hl, hg2, .inr (by simp)⟩
      · cases hp
  nodup := by
    have : L + 1 ≠ Pt := fun h => absurd hl (by rw [← h]; exact Nat.not_lt.mpr (Nat.le_succ L))
    simp [this]
  tms := fun p hp => by cases hp
  stat := F.keep
  keep := fun b o g _ => F.keep b o g
  sizes := ⟨F.above, Nat.le_refl _⟩
  rest := ⟨h₁, tk, rfl⟩
  clk := Nat.zero_le _

/-- the whole walk: from the frame that the head lays to the end -/
theorem walk {w : World} {h₀ h₁ : Heap} {mg mb mf : Str → Option Value} {sb : Shared} {L Pt sa cc : Addr} {tk : Nat} {env : Env} {A : Around} (G : ProgB ⟨w, h₀, mg, mb, sb⟩) (F : Fr h₀ L h₁ mf) (hc : ∃ o, h₁.get? (L + 1) = some o ∧ o.data = .cell none) (ht : h₁.get? Pt = some (tabObj #[]))
    (hl : Pt < L) (hg1 : h₀.get? (L + 1) = none) (hg2 : h₀.get? Pt = none) (hm : mf "script" = some (.ref sa)) (hA : A.handled = none ∧ A.depth + 100 < 900 ∧ A.units + 900 < 9900)
    (K : env.locals = L ∧ env.globals = mainGlobals ∧ env.builtins = builtinsNs ∧ env.scope.kind = .function) (hsc : env.scope = scopeOf (stm 20)) (hcs : env.cells = ([("arcs", L + 1)] : List (Str × Addr)))
    {vs : List Value} {ns : List Int} (hL : h₀.IsList sa vs.toArray) (hIA : IntsAre vs ns) (hsz : ns.length < 1000) (hcodeB : ∀ a fd, Def ⟨w, h₀, mg, mb, sb⟩ "_law_backward" 17 a fd → fd.code = .ref cc) (C : CodeHd h₀ cc Pt) (hb : h₀.BuiltinsAt mg Pt) (FF : LawFacts (drawsF ns))
    {P : Flow → Shared → Prop} {E : Value → Shared → Prop} (hP : ∀ s', (∃ h t, s' = { sb with heap := h, toks := t }) → (∀ b o, h₀.get? b = some o → s'.heap.get? b = some o) → (∃ mc, s'.heap.Ns L mc) → (∃ ps, s'.heap.get? Pt = some (tabObj ps)) → P (.ret (.bool true)) s') :
    wpAny (model prg w) A (execs (bodyOf (stm 20)) env) P E { sb with heap := h₁, toks := tk } := by
  have S := In.start (w := w) (mg := mg) (mb := mb) (sb := sb) (tk := tk) F hc ht hl hg1 hg2 hm
  refine law_body ⟨⟨w, h₀, mg, mb, sb⟩, h₀, [Pt], L, 100, 0⟩ env G (show 20 < 100 by decide) ⟨K.1, K.2.1, K.2.2.1, K.2.2.2⟩ hsc hcs hL hIA hsz hcodeB C hb FF A _ [] P E ⟨hA.1, hA.2.1, by have := hA.2.2; show A.units + 8 * 100 + 100 < 9900; omega⟩ S fun f fl m' st' s' S' r q => ?_
  obtain ⟨e, ps, hps⟩ := q
  subst e
  obtain ⟨cv, e, r⟩ := r
  subst e
  have e : cv = .bool true := r
  subst e
  exact hP s' S'.rest S'.stat ⟨_, S'.ns.choose_spec.1⟩ ⟨ps, S'.obj_at hps⟩

-- W21
set_option maxRecDepth 100000

theorem defK {p : Params} {B : Base} (X : (KH p).In B.g0) (G : B.g0.Ns mainGlobals B.mg) {n : Str} {i : Nat} {a : Addr} {cls : Value} {od : Option Addr} {fd : FuncData} {sl : Array (Option Value)}
    (e1 : nsIn (KH p) mainGlobals n = some (some (.ref a))) (e2 : (KH p).lookup a = some ⟨cls, od, .func fd, sl⟩) (e3 : fd.body = .stmts (bodyOf (stm i))) (e4 : codeIn (KH p) fd.code fd.qualname = true)
    (e5 : fd.globals = mainGlobals ∧ fd.builtins = builtinsNs ∧ fd.scope = scopeOf (stm i) ∧ fd.params = argsOf (stm i) ∧ fd.defaults = .none ∧ fd.kwdefaults = .none ∧ fd.closure = []) (e6 : (scopeOf (stm i)).kind = .function ∧ (scopeOf (stm i)).isCoroutine = false ∧ (scopeOf (stm i)).isGenerator = false) : HasDef B n i :=
  ⟨a, fd, mg_of X G e1, ⟨⟨_, X _ _ e2, rfl⟩, e3, codeRec_of X e4, e5.1, e5.2.1, by rw [e5.2.2.1]; exact e6.1, by rw [e5.2.2.1]; exact e6.2.1, by rw [e5.2.2.1]; exact e6.2.2⟩, e5.2.2.1, e5.2.2.2.1, e5.2.2.2.2.1, e5.2.2.2.2.2.1, e5.2.2.2.2.2.2⟩

theorem progK {p : Params} {B : Base} {loose : List Str} {mean : ExcName → Option Value} (X : (KH p).In B.g0) (T : Top topProg loose mean B.mg B.mb B.g0) : Prog B where
  g := T.g
  b := T.b
  builtins := T.builtins
  nolimit := T.nolimit
  booked := by
    obtain ⟨mc, h, _⟩ := T.nodigits
    refine ⟨mc, h, ?_⟩
    obtain ⟨o, es, ep, ho, hdd, hk, hf⟩ := h
    have e := X cStatics _ rfl
    rw [ho] at e
    cases e
    cases hdd
    rw [← hf]
    rfl
  hls := defK (a := 48) X T.g rfl rfl rfl rfl ⟨rfl, rfl, rfl, rfl, rfl, rfl, rfl⟩ ⟨rfl, rfl, rfl⟩
  hsv := defK (a := 55) X T.g rfl rfl rfl rfl ⟨rfl, rfl, rfl, rfl, rfl, rfl, rfl⟩ ⟨rfl, rfl, rfl⟩
  rgb := defK (a := 62) X T.g rfl rfl rfl rfl ⟨rfl, rfl, rfl, rfl, rfl, rfl, rfl⟩ ⟨rfl, rfl, rfl⟩
  heapreplace := defK (a := 69) X T.g rfl rfl rfl rfl ⟨rfl, rfl, rfl, rfl, rfl, rfl, rfl⟩ ⟨rfl, rfl, rfl⟩
  heapify := defK (a := 76) X T.g rfl rfl rfl rfl ⟨rfl, rfl, rfl, rfl, rfl, rfl, rfl⟩ ⟨rfl, rfl, rfl⟩
  siftdown := defK (a := 83) X T.g rfl rfl rfl rfl ⟨rfl, rfl, rfl, rfl, rfl, rfl, rfl⟩ ⟨rfl, rfl, rfl⟩
  siftup := defK (a := 90) X T.g rfl rfl rfl rfl ⟨rfl, rfl, rfl, rfl, rfl, rfl, rfl⟩ ⟨rfl, rfl, rfl⟩
  draws := defK (a := 95) X T.g rfl rfl rfl rfl ⟨rfl, rfl, rfl, rfl, rfl, rfl, rfl⟩ ⟨rfl, rfl, rfl⟩
  arcs := defK (a := 102) X T.g rfl rfl rfl rfl ⟨rfl, rfl, rfl, rfl, rfl, rfl, rfl⟩ ⟨rfl, rfl, rfl⟩
  forward := defK (a := 107) X T.g rfl rfl rfl rfl ⟨rfl, rfl, rfl, rfl, rfl, rfl, rfl⟩ ⟨rfl, rfl, rfl⟩
  backward := defK (a := 114) X T.g rfl rfl rfl rfl ⟨rfl, rfl, rfl, rfl, rfl, rfl, rfl⟩ ⟨rfl, rfl, rfl⟩
  most := defK (a := 119) X T.g rfl rfl rfl rfl ⟨rfl, rfl, rfl, rfl, rfl, rfl, rfl⟩ ⟨rfl, rfl, rfl⟩
  fewest := defK (a := 124) X T.g rfl rfl rfl rfl ⟨rfl, rfl, rfl, rfl, rfl, rfl, rfl⟩ ⟨rfl, rfl, rfl⟩
  len := mg_none_of X T.g rfl
  range := mg_none_of X T.g rfl
  reversed := mg_none_of X T.g rfl
  int := mg_none_of X T.g rfl
  max := mg_none_of X T.g rfl
  min := mg_none_of X T.g rfl
  list := mg_none_of X T.g rfl

theorem defBK {p : Params} {B : Base} (X : (KH p).In B.g0) (G : B.g0.Ns mainGlobals B.mg) {n : Str} {i : Nat} {a T D : Addr} {cls : Value} {od : Option Addr} {fd : FuncData} {sl : Array (Option Value)} {o1 o2 : Obj} {t : Tok} {k k2 : Nat} {es : Array DictEntry}
    (e1 : nsIn (KH p) mainGlobals n = some (some (.ref a))) (e2 : (KH p).lookup a = some ⟨cls, od, .func fd, sl⟩) (e3 : fd.body = .stmts (bodyOf (stm i))) (e4 : codeIn (KH p) fd.code fd.qualname = true)
    (e5 : fd.globals = mainGlobals ∧ fd.builtins = builtinsNs ∧ fd.scope = scopeOf (stm i) ∧ fd.params = argsOf (stm i) ∧ fd.defaults = .ref T ∧ fd.kwdefaults = .ref D) (e6 : (scopeOf (stm i)).kind = .function ∧ (scopeOf (stm i)).isCoroutine = false ∧ (scopeOf (stm i)).isGenerator = false)
    (e7 : (KH p).lookup T = some o1) (e8 : o1.data = .seq #[.int 0 t, .none] k) (e9 : (KH p).lookup D = some o2) (e10 : o2.data = .dict es k2) (e11 : nsFind es "key" = some .none) (e12 : StrKeys es) : ∃ a fd, DefB B n i a fd :=
  ⟨a, fd, mg_of X G e1, ⟨⟨_, X _ _ e2, rfl⟩, e3, codeRec_of X e4, e5.1, e5.2.1, by rw [e5.2.2.1]; exact e6.1, by rw [e5.2.2.1]; exact e6.2.1, by rw [e5.2.2.1]; exact e6.2.2⟩, e5.2.2.1, e5.2.2.2.1, ⟨T, o1, t, k, e5.2.2.2.2.1, X _ _ e7, e8⟩,
    ⟨D, nsFind es, e5.2.2.2.2.2, ⟨o2, es, k2, X _ _ e9, e10, e12, fun _ => rfl⟩, e11⟩⟩

theorem progBK {p : Params} {B : Base} {loose : List Str} {mean : ExcName → Option Value} (X : (KH p).In B.g0) (T : Top topProg loose mean B.mg B.mb B.g0) : ProgB B where
  toProg := progK X T
  insort := defBK (a := 23) (T := 15) (D := 16) X T.g rfl rfl rfl rfl ⟨rfl, rfl, rfl, rfl, rfl, rfl⟩ ⟨rfl, rfl, rfl⟩ rfl rfl rfl rfl rfl (by intro e he; simp at he; subst he; exact ⟨_, _, rfl⟩)
  right := defBK (a := 32) (T := 24) (D := 25) X T.g rfl rfl rfl rfl ⟨rfl, rfl, rfl, rfl, rfl, rfl⟩ ⟨rfl, rfl, rfl⟩ rfl rfl rfl rfl rfl (by intro e he; simp at he; subst he; exact ⟨_, _, rfl⟩)
  left := defBK (a := 41) (T := 33) (D := 34) X T.g rfl rfl rfl rfl ⟨rfl, rfl, rfl, rfl, rfl, rfl⟩ ⟨rfl, rfl, rfl⟩ rfl rfl rfl rfl rfl (by intro e he; simp at he; subst he; exact ⟨_, _, rfl⟩)

theorem backCode {p : Params} {B : Base} (X : (KH p).In B.g0) (G : B.g0.Ns mainGlobals B.mg) : ∀ a fd, Def B "_law_backward" 17 a fd → fd.code = .ref 113 := by
  intro a fd D
  have e := mg_of X G (n := "_law_backward") (v := .ref 114) rfl
  have e2 := D.glob
  rw [e] at e2
  cases e2
  obtain ⟨o, ho, hd⟩ := D.fn.obj
  have e3 := X 114 _ rfl
  rw [ho] at e3
  cases e3
  cases hd
  rfl

-- W22
theorem roomA (env : Env) : (callerA.deeper env).handled = none ∧ (callerA.deeper env).depth + 100 < 900 ∧ (callerA.deeper env).units + 900 < 9900 := by
  refine ⟨rfl, ?_, ?_⟩ <;> simp [Around.deeper, callerA, claimMargin]
set_option maxRecDepth 100000 in
set_option maxHeartbeats 8000000 in
theorem join (FF : ∀ ns : List Int, ns.length ≤ 63 → LawFacts (drawsF ns)) : PySem.Challenge.rw_pg0215_01.Holds := by
  w_on
  refine holds_law said_ok fun said => ?_
  refine holds_open (q := vw) (loose := lse) (Xt := fun s => xlAt vw [] s && recOk (RowW.records rwr) s) (XP := XL vw []) (Yf := Hook.obs (kHook KH asH asH_ok)) (Ya := Hook.val (kHook KH asH asH_ok)) (YP := Hook.says (kHook KH asH asH_ok)) (N := 1350) hl_ok (Hook.of (kHook KH asH asH_ok)) (Hook.keeps (kHook KH asH asH_ok)) (fun s e => xl_of s (Bool.and_eq_true_iff.mp e).1) XL.keeps (by rfl) (by rfl) (by rfl) (fun s e => recFacts_of (Bool.and_eq_true_iff.mp e).2) (by rfl) ?e ?f ?g ?hw ?hc
  case e => first | assumption | decide +kernel
  case f => decide +kernel
  case g => exact ⟨rfl, rfl, rfl, rfl, rfl, by decide +kernel⟩
  case hw => w_witness2
  k_go0
  have X := ‹(KH _).In _›
  have T := ‹Top topProg _ _ _ _ _›
  have F := ‹Fr _ _ _ _›
  have N := ‹News _ _ _ _›
  have hI := ‹IntsAre _ _›
  have hlen := ‹¬ ((63 : Nat) : Int) < _›
  have hC := ‹CellsAre _ _ _›
  have hgens := ‹_ = #[]›
  have l0 := ‹109 < _›
  obtain ⟨bm, ob, b1, b2, b3, b4, b5, b6⟩ := T.bmain
  refine walk (Pt := 109) (cc := 113) (progBK X T) F ?hcell (N _ (.tail _ (.head _))).1 l0 (N _ (.head _)).2.2 (N _ (.tail _ (.head _))).2.2 rfl (roomA _) ⟨rfl, rfl, rfl, rfl⟩ rfl rfl lifted hI (by omega) (backCode X T.g) codeHd ?hb (FF _ (by omega)) ?hP
  case hcell => exact ⟨_, (N _ (.head _)).1, by assumption⟩
  case hb =>
    refine ⟨bm, ob, b1, b2, fun q => ?_, fun q => ?_, b3, b4, b5, b6⟩
    · obtain ⟨o, es, ep, e, hd, _⟩ := T.g
      rw [q, e] at b3
      cases b3
      rw [hd] at b6
      cases b6
    · have e := (N _ (.tail _ (.head _))).2.2
      rw [q] at b3
      rw [b3] at e
      cases e
  case hP =>
    rintro s' ⟨h, t, rfl⟩ hk ⟨mc, hn⟩ ⟨ps, hps⟩
    refine ⟨goodW_bool ⟨hn, hk, F.above⟩ hgens (raisesW_false ?_) ?_, ⟨ps, hps⟩, trivial⟩
    · wrow_none_raised
    · first | wrow_post | kc_post

end Mine

theorem PySem.Challenge.cw_pg0215_01_holds : PySem.Challenge.rw_pg0215_01.Holds :=
  Mine.join fun ns _ => Mine.law_facts ns
