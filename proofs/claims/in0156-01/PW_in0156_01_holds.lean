import PyProof.Rows.All
import Wide.All
import OpenK.AllK
import Wide.FinOn
import PySem.Challenge.RW_in0156_01
set_option Elab.async false
set_option linter.all false
section
open PySem PySem.Spec PySem.Calls PyProof.Rows PySem.W
namespace Mine

/-- a height in the heap: frames above it may be made ready for a trace, and are turned by that -/
structure Base where
  n : Nat
  bm : Addr
variable [Inhabited Base]
/-- the module of the built-ins -/
noncomputable def bmA : Addr := (default : Base).bm
noncomputable def fbase : Nat := (default : Base).n
noncomputable def IsD (o : Obj) : Prop := ∃ es ep, o.data = .dict es ep
noncomputable def Firm (b : Addr) (o : Obj) : Prop := IsD o → b < fbase
theorem notD_seq {o : Obj} {vs : Array Value} {n : Nat} (h : o.data = .seq vs n) : ¬ IsD o := fun ⟨_, _, e⟩ => by rw [h] at e; cases e
theorem notD_fields {o : Obj} {vs : Array Value} (h : o.data = .fields vs) : ¬ IsD o := fun ⟨_, _, e⟩ => by rw [h] at e; cases e
/-- a list's append, bound to it -/
noncomputable def appObj (a : Addr) : Obj := { cls := .type "builtin_function_or_method", data := .fields #[.builtin "list.append", .ref a] }
theorem isD_slots {o : Obj} {sl : Array (Option Value)} (h : IsD o) : IsD { o with slots := sl } := h
theorem Firm.of {b : Addr} {o : Obj} (h : ¬ IsD o) : Firm b o := fun e => absurd e h
theorem type_ne {a b : String} (h : a ≠ b) : (Value.type a) ≠ .type b := fun e => by injection e with e; exact h e

/-- the code table may grow, nothing else that stood changes, but for what a trace notes down in a frame -/
structure Grow (P : Addr) (s s' : Shared) : Prop where
  keep : ∀ b o, b ≠ P → Firm b o → s.heap.get? b = some o → s'.heap.get? b = some o
  frm : ∀ b o, b ≠ P → s.heap.get? b = some o → ∃ sl, s'.heap.get? b = some { o with slots := sl }
  tab : ∀ ps, s.heap.get? P = some (tabObj ps) → TriplesOk ps.toList → ∃ more, s'.heap.get? P = some (tabObj (ps ++ more)) ∧ TriplesOk (ps ++ more).toList
  os : s'.os = s.os
  gens : AllBare s.gens → AllBare s'.gens
  size : s.heap.objs.size ≤ s'.heap.objs.size
  tks : s.toks ≤ s'.toks

section
variable {P : Addr} {s s' s'' : Shared}
theorem Grow.refl : Grow P s s := ⟨fun _ _ _ _ e => e, fun _ o _ e => ⟨o.slots, e⟩, fun ps e t => ⟨#[], by simpa using e, by simpa using t⟩, rfl, fun h => h, Nat.le_refl _, Nat.le_refl _⟩
theorem Grow.trans (a : Grow P s s') (b : Grow P s' s'') : Grow P s s'' :=
  ⟨fun c o h f e => b.keep c o h f (a.keep c o h f e), fun c o h e => by
    obtain ⟨sl, h1⟩ := a.frm c o h e
    obtain ⟨sl', h2⟩ := b.frm c _ h h1
    exact ⟨sl', h2⟩, fun ps e t => by
    obtain ⟨m1, e1, t1⟩ := a.tab ps e t
    obtain ⟨m2, e2, t2⟩ := b.tab _ e1 t1
    exact ⟨m1 ++ m2, by rw [← Array.append_assoc]; exact e2, by rw [← Array.append_assoc]; exact t2⟩,
    b.os.trans a.os, fun h => b.gens (a.gens h), Nat.le_trans a.size b.size, Nat.le_trans a.tks b.tks⟩
theorem Grow.of_keep {h' : Heap} {tk : Nat} (k : ∀ b o, s.heap.get? b = some o → h'.get? b = some o) (hs : s.heap.objs.size ≤ h'.objs.size) (ht : s.toks ≤ tk := by first | exact Nat.le_refl _ | exact Nat.le_succ _ | omega | (dsimp only; omega)) : Grow P s { s with heap := h', toks := tk } :=
  ⟨fun b o _ _ e => k b o e, fun b o _ e => ⟨o.slots, k b o e⟩, fun ps e t => ⟨#[], by simpa using k _ _ e, by simpa using t⟩, rfl, fun h => h, hs, ht⟩
theorem Grow.toks (tk : Nat) (ht : s.toks ≤ tk := by first | exact Nat.le_refl _ | exact Nat.le_succ _ | omega | (dsimp only; omega)) : Grow P s { s with toks := tk } := Grow.of_keep (fun _ _ e => e) (Nat.le_refl _) ht
theorem Grow.push {o : Obj} : Grow P s { s with heap := s.heap.push o } := Grow.of_keep (fun _ _ e => Heap.get?_push_of_some _ e) (by rw [Heap.size_push]; omega) (Nat.le_refl _)
end

mutual
/-- v bears the datum d in h, by lists and tuples that are none of O -/
noncomputable def Rep (O : List Addr) (h : Heap) : PyData → Value → Prop
  | .none, v => v = .none
  | .bool b, v => v = .bool b
  | .int i, v => ∃ t, v = .int i t
  | .str x, v => ∃ t, v = .str x t
  | .list ps, v => ∃ a vs, v = .ref a ∧ a ∉ O ∧ h.IsList a vs ∧ Reps O h ps vs.toList
  | .tuple ps, v => ∃ a vs, v = .ref a ∧ a ∉ O ∧ h.IsTuple a vs ∧ Reps O h ps vs.toList
  | .dict _, _ => False
noncomputable def Reps (O : List Addr) (h : Heap) : List PyData → List Value → Prop
  | [], vs => vs = []
  | p :: ps, vs => ∃ v r, vs = v :: r ∧ Rep O h p v ∧ Reps O h ps r
end

theorem isTuple_lt {h : Heap} {a : Addr} {vs : Array Value} (x : h.IsTuple a vs) : a < h.objs.size := by obtain ⟨o, ho, _⟩ := x; exact Heap.lt_size ho
theorem isList_lt {h : Heap} {a : Addr} {vs : Array Value} (x : h.IsList a vs) : a < h.objs.size := by obtain ⟨o, ho, _⟩ := x; exact Heap.lt_size ho
theorem isList_at {h h' : Heap} {a : Addr} {vs : Array Value} (x : h.IsList a vs) (e : ∀ o, ¬ IsD o → h.get? a = some o → h'.get? a = some o) : h'.IsList a vs :=
  let ⟨o, ho, hc, n, r⟩ := x; ⟨o, e _ (notD_seq r) ho, hc, n, r⟩
theorem isTuple_at {h h' : Heap} {a : Addr} {vs : Array Value} (x : h.IsTuple a vs) (e : ∀ o, ¬ IsD o → h.get? a = some o → h'.get? a = some o) : h'.IsTuple a vs :=
  let ⟨o, ho, hc, n, r⟩ := x; ⟨o, e _ (notD_seq r) ho, hc, n, r⟩
theorem plain_at {h h' : Heap} {a : Addr} {vs : Array Value} (x : h.PlainList a vs) (e : ∀ o, ¬ IsD o → h.get? a = some o → h'.get? a = some o) : h'.PlainList a vs :=
  let ⟨n, ho⟩ := x; ⟨n, e _ (notD_seq rfl) ho⟩
theorem isCell_at {h h' : Heap} {c : Addr} {v : Option Value} (x : h.IsCell c v) (e : ∀ o, h.get? c = some o → ∃ sl, h'.get? c = some { o with slots := sl }) : h'.IsCell c v :=
  let ⟨o, ho, hd⟩ := x; let ⟨_, hs⟩ := e o ho; ⟨_, hs, hd⟩
theorem ns_at {h h' : Heap} {a : Addr} {m : Str → Option Value} (x : h.Ns a m) (e : ∀ o, h.get? a = some o → ∃ sl, h'.get? a = some { o with slots := sl }) : h'.Ns a m :=
  let ⟨o, es, ep, ho, hd, r⟩ := x; let ⟨_, hs⟩ := e o ho; ⟨_, es, ep, hs, hd, r⟩
/-- what stays as it is stays so up to a trace's notes -/
theorem frm_of {h h' : Heap} {a : Addr} (e : ∀ o, h.get? a = some o → h'.get? a = some o) : ∀ o, h.get? a = some o → ∃ sl, h'.get? a = some { o with slots := sl } := fun o ho => ⟨o.slots, e o ho⟩

mutual
theorem Rep.mono {O O' : List Addr} {h h' : Heap} (k : ∀ b o, b ∉ O → ¬ IsD o → h.get? b = some o → h'.get? b = some o) (ho : ∀ a, a ∉ O → a < h.objs.size → a ∉ O') : ∀ (d : PyData) (v : Value), Rep O h d v → Rep O' h' d v
  | .none, _, x => x
  | .bool _, _, x => x
  | .int _, _, x => x
  | .str _, _, x => x
  | .list ps, v, x => by
    unfold Rep at x ⊢
    obtain ⟨a, vs, e, ha, hl, hr⟩ := x
    exact ⟨a, vs, e, ho a ha (isList_lt hl), isList_at hl fun o hf e' => k a o ha hf e', Reps.mono k ho ps _ hr⟩
  | .tuple ps, v, x => by
    unfold Rep at x ⊢
    obtain ⟨a, vs, e, ha, hl, hr⟩ := x
    exact ⟨a, vs, e, ho a ha (isTuple_lt hl), isTuple_at hl fun o hf e' => k a o ha hf e', Reps.mono k ho ps _ hr⟩
  | .dict _, _, x => x
theorem Reps.mono {O O' : List Addr} {h h' : Heap} (k : ∀ b o, b ∉ O → ¬ IsD o → h.get? b = some o → h'.get? b = some o) (ho : ∀ a, a ∉ O → a < h.objs.size → a ∉ O') : ∀ (ds : List PyData) (vs : List Value), Reps O h ds vs → Reps O' h' ds vs
  | [], _, x => x
  | d :: ds, vs, x => by
    unfold Reps at x ⊢
    obtain ⟨v, r, e, h1, h2⟩ := x
    exact ⟨v, r, e, Rep.mono k ho d v h1, Reps.mono k ho ds r h2⟩
end

/-- a growth keeps what is borne (P is among O) -/
theorem Rep.grow {P : Addr} {O : List Addr} {s s' : Shared} (hP : P ∈ O) (g : Grow P s s') {d : PyData} {v : Value} (x : Rep O s.heap d v) : Rep O s'.heap d v :=
  Rep.mono (fun b o hb hf e => g.keep b o (fun q => hb (q ▸ hP)) (Firm.of hf) e) (fun _ h _ => h) d v x
theorem Reps.grow {P : Addr} {O : List Addr} {s s' : Shared} (hP : P ∈ O) (g : Grow P s s') {d : List PyData} {v : List Value} (x : Reps O s.heap d v) : Reps O s'.heap d v :=
  Reps.mono (fun b o hb hf e => g.keep b o (fun q => hb (q ▸ hP)) (Firm.of hf) e) (fun _ h _ => h) d v x
/-- fewer addresses to keep off -/
theorem Rep.less {O O' : List Addr} {h : Heap} (hs : ∀ a, a ∈ O' → a ∈ O) {d : PyData} {v : Value} (x : Rep O h d v) : Rep O' h d v :=
  Rep.mono (fun _ _ _ _ e => e) (fun a ha _ q => ha (hs a q)) d v x
theorem Reps.less {O O' : List Addr} {h : Heap} (hs : ∀ a, a ∈ O' → a ∈ O) {d : List PyData} {v : List Value} (x : Reps O h d v) : Reps O' h d v :=
  Reps.mono (fun _ _ _ _ e => e) (fun a ha _ q => ha (hs a q)) d v x
/-- new addresses are off what is borne already -/
theorem Rep.more {O O' : List Addr} {h : Heap} (hs : ∀ a, a ∈ O' → a ∈ O ∨ h.objs.size ≤ a) {d : PyData} {v : Value} (x : Rep O h d v) : Rep O' h d v :=
  Rep.mono (fun _ _ _ _ e => e) (fun a ha hl q => (hs a q).elim ha fun h => Nat.not_le.mpr hl h) d v x
theorem Reps.more {O O' : List Addr} {h : Heap} (hs : ∀ a, a ∈ O' → a ∈ O ∨ h.objs.size ≤ a) {d : List PyData} {v : List Value} (x : Reps O h d v) : Reps O' h d v :=
  Reps.mono (fun _ _ _ _ e => e) (fun a ha hl q => (hs a q).elim ha fun h => Nat.not_le.mpr hl h) d v x

mutual
theorem Rep.reads {O : List Addr} {h : Heap} : ∀ (d : PyData) (v : Value), Rep O h d v → ∃ as, Reads h v d as
  | .none, _, x => by unfold Rep at x; subst x; exact ⟨_, .none⟩
  | .bool _, _, x => by unfold Rep at x; subst x; exact ⟨_, .bool _⟩
  | .int _, _, x => by unfold Rep at x; obtain ⟨t, rfl⟩ := x; exact ⟨_, .int _ _⟩
  | .str _, _, x => by unfold Rep at x; obtain ⟨t, rfl⟩ := x; exact ⟨_, .str _ _⟩
  | .list ps, _, x => by
    unfold Rep at x
    obtain ⟨a, vs, rfl, _, ⟨o, h1, h2, n, h3⟩, hr⟩ := x
    obtain ⟨as, hr⟩ := Reps.reads ps _ hr
    exact ⟨_, .list h1 h2 h3 hr⟩
  | .tuple ps, _, x => by
    unfold Rep at x
    obtain ⟨a, vs, rfl, _, ⟨o, h1, h2, n, h3⟩, hr⟩ := x
    obtain ⟨as, hr⟩ := Reps.reads ps _ hr
    exact ⟨_, .tuple h1 h2 h3 hr⟩
  | .dict _, _, x => by unfold Rep at x; exact x.elim
theorem Reps.reads {O : List Addr} {h : Heap} : ∀ (ds : List PyData) (vs : List Value), Reps O h ds vs → ∃ as, ReadsAll h vs ds as
  | [], _, x => by unfold Reps at x; subst x; exact ⟨_, .nil⟩
  | d :: ds, _, x => by
    unfold Reps at x
    obtain ⟨v, r, rfl, h1, h2⟩ := x
    obtain ⟨as, h1⟩ := Rep.reads d v h1
    obtain ⟨bs, h2⟩ := Reps.reads ds r h2
    exact ⟨_, .cons h1 h2⟩
end
theorem Reps.nil {O : List Addr} {h : Heap} : Reps O h [] [] := by unfold Reps; rfl
theorem Reps.cons {O : List Addr} {h : Heap} {d : PyData} {v : Value} {ds : List PyData} {vs : List Value} (x : Rep O h d v) (y : Reps O h ds vs) : Reps O h (d :: ds) (v :: vs) := by unfold Reps; exact ⟨v, vs, rfl, x, y⟩
theorem Reps.append {O : List Addr} {h : Heap} : ∀ {ds : List PyData} {vs : List Value} {es : List PyData} {ws : List Value}, Reps O h ds vs → Reps O h es ws → Reps O h (ds ++ es) (vs ++ ws)
  | [], _, _, _, x, y => by unfold Reps at x; subst x; exact y
  | d :: ds, _, _, _, x, y => by
    unfold Reps at x
    obtain ⟨v, r, rfl, h1, h2⟩ := x
    exact Reps.cons h1 (Reps.append h2 y)
theorem Reps.length {O : List Addr} {h : Heap} : ∀ {ds : List PyData} {vs : List Value}, Reps O h ds vs → vs.length = ds.length
  | [], _, x => by unfold Reps at x; subst x; rfl
  | d :: ds, _, x => by
    unfold Reps at x
    obtain ⟨v, r, rfl, h1, h2⟩ := x
    simp [Reps.length h2]
theorem Reps.get {O : List Addr} {h : Heap} : ∀ {ds : List PyData} {vs : List Value}, Reps O h ds vs → ∀ {i : Nat} {d : PyData}, ds[i]? = some d → ∃ v, vs[i]? = some v ∧ Rep O h d v
  | [], _, x, i, d, e => by simp at e
  | d :: ds, _, x, i, d', e => by
    unfold Reps at x
    obtain ⟨v, r, rfl, h1, h2⟩ := x
    cases i with
    | zero => simp at e; subst e; exact ⟨v, by simp, h1⟩
    | succ i => simp at e; obtain ⟨w, hw, hr⟩ := Reps.get h2 e; exact ⟨w, by simpa using hw, hr⟩
theorem Reps.getV {O : List Addr} {h : Heap} : ∀ {ds : List PyData} {vs : List Value}, Reps O h ds vs → ∀ {i : Nat} {v : Value}, vs[i]? = some v → ∃ d, ds[i]? = some d ∧ Rep O h d v
  | [], _, x, i, d, e => by unfold Reps at x; subst x; simp at e
  | d :: ds, _, x, i, d', e => by
    unfold Reps at x
    obtain ⟨v, r, rfl, h1, h2⟩ := x
    cases i with
    | zero => simp at e; subst e; exact ⟨d, by simp, h1⟩
    | succ i => simp at e; obtain ⟨w, hw, hr⟩ := Reps.getV h2 e; exact ⟨w, by simpa using hw, hr⟩
theorem Reps.set {O : List Addr} {h : Heap} : ∀ {ds : List PyData} {vs : List Value}, Reps O h ds vs → ∀ {i : Nat} {d : PyData} {v : Value}, Rep O h d v → Reps O h (ds.set i d) (vs.set i v)
  | [], _, x, i, d, v, e => by unfold Reps at x; subst x; simpa using Reps.nil
  | d :: ds, _, x, i, d', v', e => by
    unfold Reps at x
    obtain ⟨v, r, rfl, h1, h2⟩ := x
    cases i with
    | zero => simpa using Reps.cons e h2
    | succ i => simpa using Reps.cons h1 (Reps.set h2 e)

/-- room for k more calls, one inside the other -/
structure RoomW (Λ : List Addr) (k : Nat) (A : Around) : Prop where
  frames : ∃ l, A.frames = some l ∧ ∀ e ∈ l, e.scope.kind ≠ .module ∧ ∃ L, e.frame = some L ∧ L ∈ Λ
  depth : A.depth + k ≤ 900
  units : A.units + 10 * k ≤ 9000
/-- and no exception at hand -/
structure Room (Λ : List Addr) (k : Nat) (A : Around) : Prop extends RoomW Λ k A where
  handled : A.handled = none
section
variable {Λ Λ' : List Addr} {k j : Nat} {A : Around}
theorem RoomW.more (h : RoomW Λ k A) (hs : ∀ a ∈ Λ, a ∈ Λ') : RoomW Λ' k A := ⟨let ⟨l, h1, h2⟩ := h.frames; ⟨l, h1, fun e he => ⟨(h2 e he).1, let ⟨L, h3, h4⟩ := (h2 e he).2; ⟨L, h3, hs L h4⟩⟩⟩, h.depth, h.units⟩
theorem Room.more (h : Room Λ k A) (hs : ∀ a ∈ Λ, a ∈ Λ') : Room Λ' k A := ⟨h.toRoomW.more hs, h.handled⟩
theorem RoomW.le (h : RoomW Λ k A) (hj : j ≤ k) : RoomW Λ j A := ⟨h.frames, by have := h.depth; omega, by have := h.units; omega⟩
theorem Room.le (h : Room Λ k A) (hj : j ≤ k) : Room Λ j A := ⟨h.toRoomW.le hj, h.handled⟩
theorem RoomW.mark (h : RoomW Λ k A) (e : Option Value) : RoomW Λ k (A.mark e) := ⟨h.frames, h.depth, h.units⟩
theorem Room.in1 (h : Room Λ (k + 1) A) : Room Λ k A.in1 := ⟨⟨h.frames, by have := h.depth; show A.depth + k ≤ 900; omega, by have := h.units; show A.units + 1 + 10 * k ≤ 9000; omega⟩, h.handled⟩
theorem RoomW.deeper (h : RoomW Λ (k + 1) A) (env : Env) (hk : env.scope.kind ≠ .module) {L : Addr} (hf : env.frame = some L) : RoomW (L :: Λ) k (A.deeper env) := ⟨by
    obtain ⟨l, h1, h2⟩ := h.frames
    refine ⟨env :: l, by show A.frames.map (env :: ·) = _; rw [h1]; rfl, fun e he => ?_⟩
    rcases List.mem_cons.mp he with rfl | he
    · exact ⟨hk, L, hf, List.mem_cons_self⟩
    · obtain ⟨h3, L', h4, h5⟩ := h2 e he
      exact ⟨h3, L', h4, List.mem_cons_of_mem _ h5⟩, by have := h.depth; show A.depth + 1 + k ≤ 900; omega, by have := h.units; show A.units + 3 + 10 * k ≤ 9000; omega⟩
theorem Room.deeper (h : Room Λ (k + 1) A) (env : Env) (hk : env.scope.kind ≠ .module) {L : Addr} (hf : env.frame = some L) : Room (L :: Λ) k (A.deeper env) := ⟨h.toRoomW.deeper env hk hf, h.handled⟩
theorem RoomW.line (h : RoomW Λ k A) : A.units + 65 < cLine := by have := h.units; show A.units + 65 < 9900; omega
theorem RoomW.dep (h : RoomW Λ k A) : A.depth < recursionLimit := by have := h.depth; show A.depth < 1000; omega
end
end Mine
end
section
open PySem PySem.Spec PySem.Calls PyProof.Rows PySem.W
namespace Mine
noncomputable abbrev NK := List (Str × NameKind)
/-- what a name stands for: a datum that nothing turns, or a list of the def's own -/
inductive B where
  | val (d : PyData)
  | own (xs : List PyData)
  | app (x : Str)
noncomputable abbrev En := List (Str × B)
noncomputable abbrev Orc := Str → List PyData → Option PyData

/-- a text as one number, so that two of them are told apart fast -/
noncomputable def codeL : List Nat → Nat
  | [] => 1
  | c :: r => Nat.add (Nat.mul (codeL r) 2097152) c
noncomputable def okL : List Nat → Bool
  | [] => true
  | c :: r => match Nat.ble 2097152 c with
    | true => false
    | false => okL r
noncomputable def codeS (a : Str) : Nat := codeL a.cps.toList
noncomputable def okS (a : Str) : Bool := okL a.cps.toList
noncomputable def natsEq : List Nat → List Nat → Bool
  | [], [] => true
  | x :: xs, y :: ys => match Nat.beq x y with
    | true => natsEq xs ys
    | false => false
  | _, _ => false
noncomputable def nameEq (a b : Str) : Bool := match Nat.beq (codeS a) (codeS b) with
  | false => false
  | true => match okS a with
    | false => natsEq a.cps.toList b.cps.toList
    | true => match okS b with
      | false => natsEq a.cps.toList b.cps.toList
      | true => true
noncomputable def getK : NK → Str → Option NameKind
  | [], _ => none
  | (k, v) :: r, x => match nameEq x k with
    | true => some v
    | false => getK r x
noncomputable def getB : En → Str → Option B
  | [], _ => none
  | (k, v) :: r, x => match nameEq x k with
    | true => some v
    | false => getB r x
noncomputable def putB : En → Str → B → En
  | [], x, b => [(x, b)]
  | (k, v) :: r, x, b => match nameEq x k with
    | true => (k, b) :: r
    | false => (k, v) :: putB r x b

noncomputable def nameOk (x : Str) : Bool := !(nameEq x "__debug__") && !(nameEq x "__classdict__")
noncomputable def namesOk (nm : NK) : Bool := nm.all fun p => nameOk p.1

noncomputable def bind1 (a : Option PyData) (f : PyData → Option PyData) : Option PyData := match a with
  | some x => f x
  | none => none
noncomputable def bind2 (a b : Option PyData) (f : PyData → PyData → Option PyData) : Option PyData := match a with
  | some x => match b with
    | some y => f x y
    | none => none
  | none => none
noncomputable def guard' (b : Bool) (x : Option PyData) : Option PyData := match b with
  | true => x
  | false => none

/-- the kinds of expressions that are looked at -/
inductive EV where
  | name (x : Str) (p : Pos)
  | call (g : Expr) (as : List Expr) (ks : List Keyword) (p : Pos)
  | attr (o : Expr) (m : Str) (p : Pos)
  | const (c : Const) (k : Nat) (p : Pos)
  | sub (o i : Expr) (p : Pos)
  | tup (es : List Expr) (k : Nat) (p : Pos)
  | other
noncomputable def eK : Expr → EV
  | .Name x p => .name x p
  | .Call g as ks p => .call g as ks p
  | .Attribute o m p => .attr o m p
  | .Constant c k p => .const c k p
  | .Subscript o i p => .sub o i p
  | .Tuple es k p => .tup es k p
  | _ => .other
section
variable {α β : Type}
/-! one look each: what is no such thing gives none -/
noncomputable def onName (e : Expr) (f : Str → Pos → Option β) : Option β := match eK e with | .name x p => f x p | _ => none
noncomputable def onCall (e : Expr) (f : Expr → List Expr → List Keyword → Pos → Option β) : Option β := match eK e with | .call g as ks p => f g as ks p | _ => none
noncomputable def onAttr (e : Expr) (f : Expr → Str → Pos → Option β) : Option β := match eK e with | .attr o m p => f o m p | _ => none
noncomputable def onConst (e : Expr) (f : Const → Nat → Pos → Option β) : Option β := match eK e with | .const c k p => f c k p | _ => none
noncomputable def onSub (e : Expr) (f : Expr → Expr → Pos → Option β) : Option β := match eK e with | .sub o i p => f o i p | _ => none
noncomputable def onTup (e : Expr) (f : List Expr → Nat → Pos → Option β) : Option β := match eK e with | .tup es k p => f es k p | _ => none
noncomputable def onStr (c : Const) (f : Str → Option β) : Option β := match c with | .str x => f x | _ => none
noncomputable def onInt (c : Const) (f : Int → Option β) : Option β := match c with | .int x => f x | _ => none
noncomputable def on0 (l : List α) (x : Option β) : Option β := match l with | [] => x | _ :: _ => none
noncomputable def onC (l : List α) (f : α → List α → Option β) : Option β := match l with | [] => none | a :: r => f a r
noncomputable def on1 (l : List α) (f : α → Option β) : Option β := onC l fun a r => on0 r (f a)
noncomputable def on2 (l : List α) (f : α → α → Option β) : Option β := onC l fun a r => on1 r (f a)
noncomputable def onO (o : Option α) (f : α → Option β) : Option β := match o with | some a => f a | none => none
noncomputable def onT (b : Bool) (x : Option β) : Option β := match b with | true => x | false => none
noncomputable def dInt (d : PyData) (f : Int → Option β) : Option β := match d with | .int i => f i | _ => none
noncomputable def dStr (d : PyData) (f : Str → Option β) : Option β := match d with | .str i => f i | _ => none
noncomputable def dList (d : PyData) (f : List PyData → Option β) : Option β := match d with | .list i => f i | _ => none
noncomputable def dTup (d : PyData) (f : List PyData → Option β) : Option β := match d with | .tuple i => f i | _ => none
noncomputable def onNat (i : Int) (f : Nat → Option β) : Option β := match i with | .ofNat n => f n | .negSucc _ => none
noncomputable def onSucc (n : Nat) (f : Nat → Option β) : Option β := match n with | 0 => none | n + 1 => f n
noncomputable def isZ (i : Int) : Bool := match i with | .ofNat n => Nat.beq n 0 | .negSucc _ => false
noncomputable def isM1 (i : Int) : Bool := match i with | .ofNat _ => false | .negSucc n => Nat.beq n 0
end
noncomputable def constF : Const → Option PyData
  | .none => some .none
  | .bool b => some (.bool b)
  | .int i => some (.int i)
  | .str s => some (.str s)
  | _ => none

noncomputable def strFit (x : Str) : Bool := Nat.ble x.cps.size 100000
noncomputable def smallInt (a : Int) : Bool := Nat.ble a.natAbs 4294967296
noncomputable def onInts (a b : PyData) (f : Int → Int → Option PyData) : Option PyData := dInt a fun x => dInt b fun y => f x y
noncomputable def addF (a b : PyData) : Option PyData := match a with
  | .int x => dInt b fun y => some (.int (x + y))
  | .str x => dStr b fun y => guard' (strFit x && strFit y) (some (.str (x ++ y)))
  | _ => none
noncomputable def binF (op : Operator) (a b : PyData) : Option PyData := match op with
  | .Add => addF a b
  | .Sub => onInts a b fun x y => some (.int (x - y))
  | .Mod => onInts a b fun x y => onNat y fun m => onSucc m fun n => some (.int (x.fmod ((n + 1 : Nat) : Int)))
  | .FloorDiv => onInts a b fun x y => onNat y fun m => onSucc m fun n => guard' (Nat.ble x.natAbs 100000 && Nat.ble n 100000) (some (.int (x.fdiv ((n + 1 : Nat) : Int))))
  | .BitAnd => onInts a b fun x y => some (.int (Builtin.bitAnd x y))
  | .BitOr => onInts a b fun x y => some (.int (Builtin.bitOr x y))
  | .LShift => onInts a b fun x y => onNat y fun n => guard' (smallInt x && Nat.ble n 100) (some (.int (x * 2 ^ n)))
  | .RShift => onInts a b fun x y => onNat y fun n => some (.int (x.fdiv (2 ^ n)))
  | _ => none

noncomputable def shapedB (d : PyData) : Bool := SeqAt.shaped d
noncomputable def ltF (a b : PyData) : Option Bool := match a with
  | .int x => dInt b fun y => some (decide (x < y))
  | .str x => dStr b fun y => some (decide (x.cps.toList < y.cps.toList))
  | _ => none
noncomputable def gtF (a b : PyData) : Option Bool := match a with
  | .int x => dInt b fun y => some (decide (y < x))
  | .str x => dStr b fun y => some (decide (y.cps.toList < x.cps.toList))
  | _ => none
noncomputable def leF (a b : PyData) : Option Bool := match a with
  | .int x => dInt b fun y => some (decide (x ≤ y))
  | .str x => dStr b fun y => some (!decide (y.cps.toList < x.cps.toList))
  | _ => none
noncomputable def geF (a b : PyData) : Option Bool := dInt a fun x => dInt b fun y => some (decide (y ≤ x))
noncomputable def inF (a b : PyData) : Option Bool := match b with
  | .list xs => onT (shapedB (.list xs) && shapedB a) (some (xs.any fun y => PyData.eqv y a))
  | .tuple xs => onT (shapedB (.tuple xs) && shapedB a) (some (xs.any fun y => PyData.eqv y a))
  | .str x => dStr a fun y => some (Txt.contains x y)
  | _ => none
noncomputable def notInF (a b : PyData) : Option Bool := match b with
  | .list xs => onT (shapedB (.list xs) && shapedB a) (some (!xs.any fun y => PyData.eqv y a))
  | .str x => dStr a fun y => some (!Txt.contains x y)
  | _ => none
/-- one comparison; a truth value -/
noncomputable def cmpF (op : CmpOp) (a b : PyData) : Option Bool := match op with
  | .Eq => onT (shapedB a && shapedB b) (some (PyData.eqv a b))
  | .NotEq => onT (shapedB a && shapedB b) (some (!PyData.eqv a b))
  | .Lt => ltF a b
  | .Gt => gtF a b
  | .GtE => geF a b
  | .LtE => leF a b
  | .In => inF a b
  | .NotIn => notInF a b
  | _ => none

noncomputable def truthF : PyData → Option Bool
  | .bool b => some b
  | .int i => some (i != 0)
  | .str x => match strFit x with
    | true => some (!(x.length == 0))
    | false => none
  | .list xs => match Nat.ble xs.length 100000 with
    | true => some (!xs.isEmpty)
    | false => none
  | _ => none

/-- the place of an index -/
noncomputable def placeF (i : Int) (n : Nat) : Option Nat := match i with
  | .ofNat k => match Nat.blt k n with
    | true => some k
    | false => none
  | .negSucc k => match Nat.blt k n with
    | true => some (n - 1 - k)
    | false => none
noncomputable def itemF (o i : PyData) : Option PyData := match i with
  | .int k => match smallInt k with
    | true => match o with
      | .list xs => match placeF k xs.length with
        | some j => xs[j]?
        | none => none
      | .tuple xs => match placeF k xs.length with
        | some j => xs[j]?
        | none => none
      | .str x => match placeF k x.cps.size with
        | some j => match x.cps[j]? with
          | some c => some (.str ⟨#[c]⟩)
          | none => none
        | none => none
      | _ => none
    | false => none
  | _ => none
noncomputable def sliceF (o : PyData) (l u : Option Int) : Option PyData := match o with
  | .str x => guard' (strFit x) (some (.str (Txt.slice x l u)))
  | .list xs => match l, u with
    | none, some (.ofNat k) => guard' (Nat.ble k 1000 && Nat.ble xs.length 2097152) (some (.list (xs.take k)))
    | _, _ => none
  | _ => none

noncomputable def shortStr (x : Str) : Bool := Nat.ble x.cps.size 100
noncomputable def strsOf : List PyData → Option (List Str)
  | [] => some []
  | .str y :: r => match strsOf r with
    | some l => some (y :: l)
    | none => none
  | _ :: _ => none
noncomputable def joinM (x : Str) (args : List PyData) : Option PyData := on1 args fun a => dList a fun xs => onO (strsOf xs) fun ts => guard' (shortStr x && Nat.ble ts.length 1000 && ts.all shortStr) (some (.str (Txt.join x ts)))
noncomputable def replM (x : Str) (args : List PyData) : Option PyData := on2 args fun a b => dStr a fun y => dStr b fun _ => guard' (shortStr x && (Builtin.Str.occurrences x y 0 x.length (x.length + 1)).isEmpty) (some (.str x))
noncomputable def findM (x : Str) (args : List PyData) : Option PyData := onC args fun a r => on2 r fun b c => dStr a fun y => dInt b fun i => dInt c fun j => onNat i fun i => onNat j fun j =>
  guard' (Nat.ble i x.cps.size && Nat.ble j x.cps.size) (some (.int (match Builtin.Str.occurrences x y i j 1 with | k :: _ => (k : Int) | [] => -1)))
noncomputable def methF (m : Str) (o : PyData) (args : List PyData) : Option PyData := match o with
  | .str x => match nameEq m "join" with
    | true => joinM x args
    | false => match nameEq m "replace" with
      | true => replM x args
      | false => match nameEq m "find" with
        | true => findM x args
        | false => none
  | _ => none

noncomputable def lineEq (a b : Pos) : Bool := Nat.beq a.endLine b.line
noncomputable def isAttr : Expr → Bool
  | .Attribute .. => true
  | _ => false
noncomputable def plainBase : Expr → Bool
  | .Name .. => true
  | .Constant .. => true
  | .Call f as ks _ => isAttr f && !as.isEmpty && ks.isEmpty
  | _ => false
noncomputable def noStar : Expr → Bool
  | .Starred .. => false
  | _ => true
noncomputable def noSet : Expr → Bool
  | .Set .. => false
  | _ => true

/-- the items that a loop takes -/
noncomputable def itemsF : PyData → Option (List PyData)
  | .list xs => some xs
  | .tuple xs => some xs
  | .str x => some (x.cps.toList.map fun c => .str ⟨#[c]⟩)
  | _ => none
noncomputable def upTo (n : Nat) : Option (List PyData) := onT (Nat.ble n 64) (some ((List.range n).map fun (i : Nat) => .int (i : Int)))
noncomputable def downFrom (n : Nat) : Option (List PyData) := onT (Nat.ble n 64) (some ((List.range n).map fun (i : Nat) => .int ((n : Int) - (i : Int))))
noncomputable def rangeF (ds : List PyData) : Option (List PyData) := onC ds fun a r => dInt a fun i => onNat i fun n => match r with
  | [] => upTo n
  | b :: r => on1 r fun c => dInt b fun z => dInt c fun m => onT (isZ z && isM1 m) (downFrom n)

noncomputable def storeB (nm : NK) (ρ : En) (x : Str) (b : B) : Option En := match getK nm x with
  | some .local => some (putB ρ x b)
  | some .cell => some (putB ρ x b)
  | _ => none
section
variable (rec : NK → En → Expr → Option PyData)
noncomputable def pevs (nm : NK) (ρ : En) : List Expr → Option (List PyData)
  | [] => some []
  | e :: r => match noStar e with
    | true => match rec nm ρ e with
      | some d => match pevs nm ρ r with
        | some ds => some (d :: ds)
        | none => none
      | none => none
    | false => none
/-- a comparison of two or of three -/
noncomputable def pcmp1 (nm : NK) (ρ : En) (l : Expr) (op : CmpOp) (r : Expr) : Option Bool := match noSet r with
    | true => match rec nm ρ l with
      | some a => match rec nm ρ r with
        | some b => cmpF op a b
        | none => none
      | none => none
    | false => none
noncomputable def pcmp2 (nm : NK) (ρ : En) (l : Expr) (op op2 : CmpOp) (r q : Expr) : Option Bool := match noSet q with
    | true => match rec nm ρ l with
      | some a => match rec nm ρ r with
        | some b => match cmpF op a b with
          | some true => match rec nm ρ q with
            | some c => cmpF op2 b c
            | none => none
          | some false => some false
          | none => none
        | none => none
      | none => none
    | false => none
noncomputable def pcompare (nm : NK) (ρ : En) (l : Expr) (ops : List CmpOp) (rs : List Expr) : Option Bool := onC ops fun op os => onC rs fun r qs => match os with
  | [] => on0 qs (pcmp1 rec nm ρ l op r)
  | op2 :: os => on0 os (on1 qs fun q => pcmp2 rec nm ρ l op op2 r q)
noncomputable def bindT (a : Option PyData) (f : PyData → Option Bool) : Option Bool := match a with
    | some x => f x
    | none => none
noncomputable def notO (a : Option Bool) : Option Bool := match a with
  | some b => some (!b)
  | none => none
noncomputable def andO (a b : Option Bool) : Option Bool := match a with
  | some true => b
  | some false => some false
  | none => none
noncomputable def orO (a b : Option Bool) : Option Bool := match a with
  | some true => some true
  | some false => b
  | none => none
noncomputable def boolO (op : BoolOp) (a b : Option Bool) : Option Bool := match op with
  | .And => andO a b
  | .Or => orO a b
noncomputable def notOp (op : UnaryOp) (a : Option Bool) : Option Bool := match op with
  | .Not => notO a
  | _ => none
noncomputable def isTrueC (c : Const) : Bool := match c with
  | .bool b => b
  | _ => false
/-- a test -/
noncomputable def ptest1 (nm : NK) (ρ : En) (t : Expr → Option Bool) (e : Expr) : Option Bool := match e with
  | .UnaryOp op x _ => notOp op (t x)
  | .BoolOp op es _ => on2 es fun x y => boolO op (t x) (t y)
  | .Compare l ops rs _ => on1 ops fun op => on1 rs fun r => pcmp1 rec nm ρ l op r
  | .Name x p => bindT (rec nm ρ (.Name x p)) truthF
  | .Call f as ks p => bindT (rec nm ρ (.Call f as ks p)) truthF
  | .Constant c _ _ => onT (isTrueC c) (some true)
  | _ => none
noncomputable def ptest (nm : NK) (ρ : En) : Nat → Expr → Option Bool
  | 0, _ => none
  | n + 1, e => ptest1 rec nm ρ (ptest nm ρ n) e
noncomputable def ptests (nm : NK) (ρ : En) : List Expr → Option Bool
  | [] => some true
  | c :: r => match ptest rec nm ρ 6 c with
    | some true => ptests nm ρ r
    | some false => some false
    | none => none
/-- binding a loop's target -/
noncomputable def bindTwo (nm : NK) (ρ : En) (x y : Str) (a b : PyData) : Option En := match storeB nm ρ x (.val a) with
  | some ρ' => storeB nm ρ' y (.val b)
  | none => none
noncomputable def bindTo (nm : NK) (ρ : En) (t : Expr) (d : PyData) : Option En := match t with
  | .Name x _ => storeB nm ρ x (.val d)
  | .Tuple es _ _ => on2 es fun t1 t2 => onName t1 fun x _ => onName t2 fun y _ => dTup d fun ds => on2 ds fun a b => bindTwo nm ρ x y a b
  | _ => none
/-- a call of range by its name -/
noncomputable def isRange (e : Expr) : Option (Str × List Expr) := onCall e fun g args ks _ => on0 ks (onName g fun f _ => onT (nameEq f "range") (some (f, args)))
noncomputable def isNone? {α : Type} (b : Option α) : Bool := match b with
  | none => true
  | some _ => false
noncomputable def isGlob (k : Option NameKind) : Bool := match k with
  | some k => (match k with
    | .globalImplicit => true
    | _ => false)
  | none => false
noncomputable def prange (nm : NK) (ρ : En) (f : Str) (args : List Expr) : Option (List PyData) := onT (isNone? (getB ρ f) && isGlob (getK nm f)) (onO (pevs rec nm ρ args) rangeF)
noncomputable def piter (nm : NK) (ρ : En) (e : Expr) : Option (List PyData) := match isRange e with
  | some x => prange rec nm ρ x.1 x.2
  | none => onT (noSet e) (onO (rec nm ρ e) itemsF)
/-- the items that clauses (behind the first one's source) and the element give -/
noncomputable def pturns (nm : NK) (ρ : En) (target : Expr) (ifs : List Expr) (inner : En → Option (List PyData)) : List PyData → Option (List PyData)
  | [] => some []
  | d :: r => match bindTo nm ρ target d with
    | some ρ' => match ptests rec nm ρ' ifs with
      | some true => match inner ρ' with
        | some xs => match pturns nm ρ target ifs inner r with
          | some ys => some (xs ++ ys)
          | none => none
        | none => none
      | some false => pturns nm ρ target ifs inner r
      | none => none
    | none => none
noncomputable def pelt (nm : NK) (elt : Expr) (ρ : En) : Option (List PyData) := match rec nm ρ elt with
  | some d => some [d]
  | none => none
/-- a target that is not bound yet -/
noncomputable def unbound (ρ : En) (x : Str) : Bool := match getB ρ x with
  | none => true
  | some _ => false
noncomputable def isTrue? (o : Option Unit) : Bool := match o with
  | some _ => true
  | none => false
noncomputable def yes (b : Bool) : Option Unit := onT b (some ())
noncomputable def freshT (ρ : En) : Expr → Bool
  | .Name x _ => unbound ρ x
  | .Tuple es _ _ => isTrue? (on2 es fun t1 t2 => onName t1 fun x _ => onName t2 fun y _ => yes (unbound ρ x && unbound ρ y))
  | _ => false
noncomputable def pgens (nm : NK) (elt : Expr) : List Comprehension → En → Option (List PyData)
  | [], ρ => pelt rec nm elt ρ
  | g :: gs, ρ => onT (isZ g.is_async && freshT ρ g.target) (onO (piter rec nm ρ g.iter) fun items => pturns rec nm ρ g.target g.ifs (pgens nm elt gs) items)
/-- what a block sees of the names around it: those that it closes over -/
noncomputable def closed (ρ : En) : NK → Option En
  | [] => some []
  | (x, .free) :: r => match getB ρ x with
    | some (.val d) => match closed ρ r with
      | some l => some ((x, .val d) :: l)
      | none => none
    | _ => none
  | _ :: r => closed ρ r
/-- no name twice; the free ones are cells or free ones around -/
noncomputable def blockOk (nm inner : NK) : Bool := namesOk inner && apart inner && inner.all fun p => match p.2 with
  | .free => match getK nm p.1 with
    | some .cell => true
    | some .free => true
    | _ => false
  | .local => true
  | .cell => true
  | .globalImplicit => true
  | _ => false
where
  apart : NK → Bool
  | [] => true
  | (x, _) :: r => (match getK r x with | none => true | some _ => false) && apart r
noncomputable def isFunK : ScopeKind → Bool
  | .function => true
  | _ => false
/-- a block's turns over its first clause -/
noncomputable def pblock (nm : NK) (ρ : En) (g : Comprehension) (scope : Scope) (inner : En → Option (List PyData)) : Option PyData :=
  onT (isZ g.is_async && (blockOk nm scope.names && isFunK scope.kind)) (onO (piter rec nm ρ g.iter) fun items => onO (closed ρ scope.names) fun ρ' => onT (freshT ρ' g.target) (onO (pturns rec scope.names ρ' g.target g.ifs inner items) fun xs => guard' (Nat.ble xs.length 1000) (some (.list xs))))
/-- one clause or two -/
noncomputable def pcomp (nm : NK) (ρ : En) (elt : Expr) (gens : List Comprehension) (scope : Scope) : Option PyData := onC gens fun g gs => match gs with
  | [] => pblock rec nm ρ g scope (pelt rec scope.names elt)
  | g2 :: r => on0 r (onT (isZ g2.is_async) (pblock rec nm ρ g scope (pgens rec scope.names elt [g2])))
/-- the base of an item or a slice: a list of one's own may stand there -/
noncomputable def pbase (nm : NK) (ρ : En) (e : Expr) : Option PyData := match e with
  | .Name x p => match getB ρ x with
    | some (.own xs) => some (.list xs)
    | _ => rec nm ρ (.Name x p)
  | e => rec nm ρ e
noncomputable def optInt (nm : NK) (ρ : En) : Option Expr → Option (Option Int)
  | none => some none
  | some e => match rec nm ρ e with
    | some (.int i) => some (some i)
    | _ => none
noncomputable def isNoConv (k : Int) (sp : Option Expr) : Bool := isM1 k && isNone? sp
noncomputable def pjoin (nm : NK) (ρ : En) : Str → List Expr → Option Str
  | acc, [] => some acc
  | acc, e :: r => match e with
    | .Constant c _ _ => onStr c fun s => onT (strFit (acc ++ s)) (pjoin nm ρ (acc ++ s) r)
    | .FormattedValue e k sp _ => onT (isNoConv k sp) (onO (rec nm ρ e) fun d => dStr d fun s => onT (strFit s && strFit (acc ++ s)) (pjoin nm ρ (acc ++ s) r))
    | _ => none
end

noncomputable def tempOk : Expr → Bool
  | .Name .. => true
  | _ => false
noncomputable def litInt (e : Expr) : Option Int := onConst e fun c _ _ => onInt c some

/-- the place of a sign in a text, as indexOf tells it -/
noncomputable def idxIn : List Nat → Nat → Nat → Option PyData
  | [], _, _ => none
  | c :: r, x, i => match Nat.beq c x with
    | true => some (.int (Int.ofNat i))
    | false => idxIn r x (i + 1)
noncomputable def idxAll (a b : Str) : Option PyData := on1 b.cps.toList fun x => guard' (Nat.ble a.cps.size 10) (idxIn a.cps.toList x 0)
noncomputable def itemOfName (ρ : En) (x : Str) (i : Int) : Option PyData := match getB ρ x with
  | some (.val d) => dStr d fun y => itemF (.str y) (.int i)
  | _ => none
noncomputable def idxArgs (ρ : En) (args : List Expr) : Option PyData := on2 args fun a b => onConst a fun a _ _ => onStr a fun a => onSub b fun v i _ => onName v fun x _ => onConst i fun i _ _ => onInt i fun i => onO (itemOfName ρ x i) fun d => dStr d fun b => idxAll a b
/-- a call of indexOf asks whether two texts are one object: their makes must be known -/
noncomputable def idxCase (ρ : En) (f : Str) (args : List Expr) : Option (Option PyData) := match nameEq f "indexOf" with
  | false => none
  | true => some (idxArgs ρ args)
noncomputable def orPhi (c : Option (Option PyData)) (d : Option PyData) : Option PyData := match c with
  | some r => r
  | none => d
section
variable (Φ : Orc) (rec : NK → En → Expr → Option PyData) (nm : NK) (ρ : En)
noncomputable def pneg (op : UnaryOp) (x : Expr) : Option PyData := match op with
  | .USub => onO (litInt x) fun i => some (.int (-i))
  | _ => none
noncomputable def pif (t b o : Expr) : Option PyData := match ptest rec nm ρ 6 t with
    | some true => rec nm ρ b
    | some false => rec nm ρ o
    | none => none
noncomputable def por (x y : Expr) : Option PyData := match rec nm ρ x with
    | some d => match truthF d with
      | some true => some d
      | some false => rec nm ρ y
      | none => none
    | none => none
noncomputable def pbool (op : BoolOp) (es : List Expr) : Option PyData := match op with
  | .Or => on2 es fun x y => por rec nm ρ x y
  | .And => none
noncomputable def psub (v s : Expr) : Option PyData := match pbase rec nm ρ v with
    | some o => match s with
      | .Slice lo hi st _ => onT (isNone? st) (onO (optInt rec nm ρ lo) fun l => onO (optInt rec nm ρ hi) fun u => sliceF o l u)
      | s => match rec nm ρ s with
        | some i => itemF o i
        | none => none
    | none => none
noncomputable def plen (x : Str) : Option PyData := match getB ρ x with
        | some (.own xs) => guard' (Nat.ble xs.length 100000) (some (.int xs.length))
        | some (.val d) => Φ "len" [d]
        | some (.app _) => none
        | none => none
/-- the one name that len is asked of -/
noncomputable def lenArg (f : Str) (args : List Expr) : Option Str := onT (nameEq f "len") (on1 args fun a => onName a fun x _ => some x)
noncomputable def pcallN (f : Str) (args : List Expr) : Option PyData := match lenArg f args with
  | some x => plen Φ ρ x
  | none => onO (pevs rec nm ρ args) fun ds => guard' (Nat.ble args.length 10) (orPhi (idxCase ρ f args) (Φ f ds))
noncomputable def pcallM (o : Expr) (m : Str) (ap p : Pos) (args : List Expr) : Option PyData := onT (plainBase o && lineEq ap p) (onO (rec nm ρ o) fun d => onO (pevs rec nm ρ args) fun ds => guard' (Nat.ble args.length 10) (methF m d ds))
noncomputable def pcall (g : Expr) (args : List Expr) (ks : List Keyword) (p : Pos) : Option PyData := on0 ks (match g with
  | .Name f _ => onT (isNone? (getB ρ f) && isGlob (getK nm f)) (pcallN Φ rec nm ρ f args)
  | .Attribute o m ap => pcallM rec nm ρ o m ap p args
  | _ => none)
noncomputable def pjoined (vs : List Expr) : Option PyData := onC vs fun _ r => onC r fun _ _ => onO (pjoin rec nm ρ Str.empty vs) fun s => guard' (strFit s) (some (.str s))
noncomputable def pnew (es : List Expr) (f : List PyData → PyData) : Option PyData := onO (pevs rec nm ρ es) fun ds => guard' (Nat.ble ds.length 1000) (some (f ds))
noncomputable def valB (b : Option B) : Option PyData := match b with
    | some (.val d) => some d
    | _ => none
noncomputable def pstep (e : Expr) : Option PyData := match e with
  | .Constant c _ _ => constF c
  | .Name x _ => valB (getB ρ x)
  | .BinOp l op r _ => bind2 (rec nm ρ l) (rec nm ρ r) (binF op)
  | .UnaryOp op x _ => pneg op x
  | .Compare l ops rs _ => onO (pcompare rec nm ρ l ops rs) fun b => some (.bool b)
  | .IfExp t b o _ => pif rec nm ρ t b o
  | .BoolOp op es _ => pbool rec nm ρ op es
  | .List es _ => pnew rec nm ρ es .list
  | .Tuple es _ _ => pnew rec nm ρ es .tuple
  | .Subscript v s _ => psub rec nm ρ v s
  | .ListComp elt gens scope _ => pcomp rec nm ρ elt gens scope
  | .Call g args ks p => pcall Φ rec nm ρ g args ks p
  | .JoinedStr vs _ => pjoined rec nm ρ vs
  | _ => none
end
noncomputable def pev (Φ : Orc) : Nat → NK → En → Expr → Option PyData
  | 0, _, _, _ => none
  | n + 1, nm, ρ, e => pstep Φ (pev Φ n) nm ρ e

/-- how a statement ends -/
inductive Fl where
  | next (ρ : En)
  | ret (d : PyData)
  | brk (ρ : En)

/-- behind a return nothing is turned any more -/
noncomputable def frozen : En → En
  | [] => []
  | (x, .own xs) :: r => (x, .val (.list xs)) :: frozen r
  | p :: r => p :: frozen r
section
variable (rec : NK → En → Expr → Option PyData) (xs : NK → En → List Stmt → Option Fl)
noncomputable def pfor (nm : NK) (t : Expr) (body : List Stmt) : List PyData → En → Option Fl
  | [], ρ => some (.next ρ)
  | d :: r, ρ => match bindTo nm ρ t d with
    | some ρ' => match xs nm ρ' body with
      | some (.next ρ'') => pfor nm t body r ρ''
      | some (.brk ρ'') => some (.next ρ'')
      | some (.ret d) => some (.ret d)
      | none => none
    | none => none
noncomputable def pwhile (nm : NK) (t : Expr) (body : List Stmt) : Nat → En → Option Fl
  | 0, _ => none
  | n + 1, ρ => match ptest rec nm ρ 6 t with
    | some true => match xs nm ρ body with
      | some (.next ρ') => pwhile nm t body n ρ'
      | some (.brk ρ') => some (.next ρ')
      | some (.ret d) => some (.ret d)
      | none => none
    | some false => some (.next ρ)
    | none => none
end
/-- no name stands for this list's append -/
noncomputable def appFree (ρ : En) (x : Str) : Bool := ρ.all fun p => match p.2 with
  | .app y => !nameEq y x
  | _ => true
/-- the names of the one def that makes lambdas and generators -/
noncomputable def marked (nm : NK) : Bool := match getK nm "QUESTION_MARK" with
  | some .local => true
  | _ => false
/-- the texts that _twin_re_1.sub meets: none holds a sign that it seeks -/
noncomputable def subTexts : List (List Nat) := [[33, 97, 45, 99], [33, 48, 45, 51], [33, 97], [33, 98], [33, 99], [33, 48], [33, 49], [33, 50], [33, 51], [48, 49], [48, 50], [48, 51], [49, 50], [49, 51], [50, 51]]
noncomputable def subF (d : PyData) : Option PyData := dStr d fun x => guard' (subTexts.any fun l => natsEq x.cps.toList l) (some (.str x))
noncomputable def strC (e : Expr) : Option Str := onConst e fun c _ _ => onStr c some
/-- the generator's element: its text twice through replace -/
noncomputable def replE (e : Expr) (f : Expr → Str → Str → Option Str) : Option Str := onCall e fun g as ks p => on0 ks (on2 as fun a1 a2 => onAttr g fun o m ap => onO (strC a1) fun a => onO (strC a2) fun b => onT (nameEq m "replace" && lineEq ap p) (f o a b))
noncomputable def replOk (x a b : Str) (r : Option Str) : Option Str := onO (replM x [.str a, .str b]) fun _ => r
noncomputable def genElt (z x : Str) (e : Expr) : Option Str := replE e fun o b b' => replE o fun y a a' => onName y fun y _ => onT (nameEq y z) (replOk x a a' (replOk x b b' (some x)))
noncomputable def genElts (z : Str) (elt : Expr) : List Str → Option (List Str)
  | [] => some []
  | x :: r => match genElt z x elt with
    | some y => match genElts z elt r with
      | some l => some (y :: l)
      | none => none
    | none => none
noncomputable def isLoc (k : Option NameKind) : Bool := match k with
  | some k => (match k with
    | .local => true
    | _ => false)
  | none => false
noncomputable def genScope (z : Str) (n : NK) : Bool := isTrue? (on2 n fun a b => yes (isLoc (some a.2) && isLoc (some b.2) && (nameEq a.1 ".0" && nameEq b.1 z && !nameEq a.1 b.1 && !nameEq z "__debug__")))
noncomputable def lamScope (n : NK) : Bool := isTrue? (on1 n fun a => yes (isLoc (some a.2)))
noncomputable def lamArgs (a : Arguments) : Bool := a.posonlyargs.isEmpty && a.kwonlyargs.isEmpty && a.kw_defaults.isEmpty && a.defaults.isEmpty && a.vararg.isNone && a.kwarg.isNone
noncomputable def ownB (b : Option B) : Option (List PyData) := match b with
  | some (.own xs) => some xs
  | _ => none
/-- a text of one's list through a generator, joined -/
noncomputable def joinGenF (ρ : En) (nm : NK) (sep m : Str) (ap p : Pos) (elt : Expr) (z c : Str) (sc : Scope) : Option PyData :=
  onT (nameEq m "join" && lineEq ap p && marked nm && genScope z sc.names && isFunK sc.kind && !sc.isCoroutine) (onO (ownB (getB ρ c)) fun xs => onO (strsOf xs) fun ts => onO (genElts z elt ts) fun us =>
    guard' (shortStr sep && Nat.ble us.length 1000 && us.all shortStr) (some (.str (Txt.join sep us))))
noncomputable def subSpec (ρ : En) (nm : NK) (g m : Str) (ap p : Pos) (la : Arguments) (ls : Scope) (d : Option PyData) : Option PyData :=
  onT (nameEq g "_twin_re_1" && nameEq m "sub" && lineEq ap p && isNone? (getB ρ g) && isGlob (getK nm g) && marked nm && lamScope ls.names && isFunK ls.kind && !ls.isCoroutine && !ls.isGenerator && lamArgs la) (onO d subF)
section
variable (n : Nat) (rec : NK → En → Expr → Option PyData) (xs : NK → En → List Stmt → Option Fl) (nm : NK) (ρ : En)
noncomputable def storeO (x : Str) (b : B) : Option Fl := onO (storeB nm ρ x b) fun ρ' => some (.next ρ')
noncomputable def storeV (x : Str) (d : Option PyData) : Option Fl := onO d fun d => storeO nm ρ x (.val d)
/-- what makes a text of a generator -/
noncomputable def joinCall (e : Expr) : Option PyData := onCall e fun g as ks p => on0 ks (on1 as fun a => onAttr g fun o m ap => onO (strC o) fun sep => match a with
  | .GeneratorExp elt gens sc _ => on1 gens fun c => onName c.target fun z _ => onName c.iter fun y _ => onT (c.ifs.isEmpty && isZ c.is_async) (joinGenF ρ nm sep m ap p elt z y sc)
  | _ => none)
/-- what calls a pattern's sub with a lambda -/
noncomputable def subCall (e : Expr) : Option PyData := onCall e fun g as ks p => on0 ks (on2 as fun a b => onAttr g fun o m ap => onName o fun f _ => onName b fun y py => match a with
  | .Lambda la _ ls _ => subSpec ρ nm f m ap p la ls (rec nm ρ (.Name y py))
  | _ => none)
/-- a call whose value is stored: three kinds -/
inductive CallK where
  | plain
  | join
  | sub
noncomputable def isGen : Expr → Bool
  | .GeneratorExp .. => true
  | _ => false
noncomputable def isLam : Expr → Bool
  | .Lambda .. => true
  | _ => false
noncomputable def callK (as : List Expr) : CallK := match as with
  | [] => .plain
  | a :: _ => match isGen a with
    | true => .join
    | false => match isLam a with
      | true => .sub
      | false => .plain
noncomputable def pasgName (x : Str) (v : Expr) : Option Fl := match v with
    | .List es _ => onO (pevs rec nm ρ es) fun ds => onT (Nat.ble ds.length 1000 && appFree ρ x) (storeO nm ρ x (.own ds))
    | .ListComp elt gens scope _ => storeV nm ρ x (pcomp rec nm ρ elt gens scope)
    | .SetComp .. => none
    | .DictComp .. => none
    | .Attribute o m _ => onName o fun y _ => onT (nameEq m "append" && !isNone? (ownB (getB ρ y))) (storeO nm ρ x (.app y))
    | .Call f as ks p => match callK as with
      | .plain => storeV nm ρ x (rec nm ρ (.Call f as ks p))
      | .join => storeV nm ρ x (joinCall nm ρ (.Call f as ks p))
      | .sub => storeV nm ρ x (subCall rec nm ρ (.Call f as ks p))
    | v => storeV nm ρ x (rec nm ρ v)
/-- i, n = (0, f(..)) -/
noncomputable def twoOk (nm : NK) (x y : Str) (px py : Pos) : Bool := !nameEq x y && !nameEq y x && isLoc (getK nm x) && isLoc (getK nm y) && Nat.beq px.line py.line
noncomputable def isCall : Expr → Bool
  | .Call .. => true
  | _ => false
noncomputable def isIntC (e : Expr) : Bool := match litInt e with
  | some _ => true
  | none => false
noncomputable def pasgTwo (x y : Str) (px py : Pos) (v : Expr) : Option Fl := onTup v fun vs _ _ => on2 vs fun c f => onT (isIntC c && isCall f && twoOk nm x y px py) (onO (rec nm ρ v) fun d => dTup d fun ds => on2 ds fun a b =>
  onO (storeB nm ρ y (.val b)) fun ρ' => storeO nm ρ' x (.val a))
noncomputable def pasgItem (x : Str) (i v : Expr) : Option Fl := onO (rec nm ρ v) fun d => onO (ownB (getB ρ x)) fun ys => onO (rec nm ρ i) fun k => dInt k fun k => onNat k fun j => onT (Nat.blt j ys.length && Nat.ble ys.length 1000) (some (.next (putB ρ x (.own (ys.set j d)))))
noncomputable def pasg1 (t v : Expr) : Option Fl := match t with
  | .Name x _ => pasgName rec nm ρ x v
  | .Tuple es _ _ => on2 es fun t1 t2 => onName t1 fun x px => onName t2 fun y py => pasgTwo rec nm ρ x y px py v
  | .Subscript o i _ => onName o fun x _ => pasgItem rec nm ρ x i v
  | _ => none
noncomputable def paug (t : Expr) (op : Operator) (v : Expr) : Option Fl := onName t fun x _ => match op with
  | .Add => onO (valB (getB ρ x)) fun a => onO (rec nm ρ v) fun b => dInt a fun i => dInt b fun j => storeO nm ρ x (.val (.int (i + j)))
  | _ => none
noncomputable def pput (x : Str) (e : Expr) : Option Fl := onT (noStar e) (onO (ownB (getB ρ x)) fun ys => onO (rec nm ρ e) fun d => onT (Nat.ble ys.length 1000) (some (.next (putB ρ x (.own (ys ++ [d]))))))
noncomputable def appB (b : Option B) : Option Str := match b with
  | some (.app y) => some y
  | _ => none
noncomputable def pexpr (e : Expr) : Option Fl := onCall e fun g as ks p => on0 ks (on1 as fun a => match g with
  | .Attribute o m ap => onName o fun x _ => onT (nameEq m "append" && lineEq ap p) (pput rec nm ρ x a)
  | .Name f _ => onO (appB (getB ρ f)) fun y => pput rec nm ρ y a
  | _ => none)
noncomputable def pifS (t : Expr) (b o : List Stmt) : Option Fl := match ptest rec nm ρ 6 t with
    | some true => xs nm ρ b
    | some false => xs nm ρ o
    | none => none
noncomputable def passert (t : Expr) : Option Fl := match ptest rec nm ρ 6 t with
    | some true => some (.next ρ)
    | some false => none
    | none => none
noncomputable def pexec1 (st : Stmt) : Option Fl := match st with
  | .Return e _ => onO e fun e => onO (rec nm (frozen ρ) e) fun d => some (.ret d)
  | .Assign ts v _ => on1 ts fun t => pasg1 rec nm ρ t v
  | .AugAssign t op v _ => paug rec nm ρ t op v
  | .Expr e _ => pexpr rec nm ρ e
  | .If t b o _ => pifS rec xs nm ρ t b o
  | .For t it body els _ => on0 els (onO (piter rec nm ρ it) fun items => pfor xs nm t body items ρ)
  | .While t body els _ => on0 els (pwhile rec xs nm t body n ρ)
  | .Break _ => some (.brk ρ)
  | .Pass _ => some (.next ρ)
  | .Assert t _ _ => passert rec nm ρ t
  | _ => none
end
noncomputable def pexecs (one : NK → En → Stmt → Option Fl) (nm : NK) : En → List Stmt → Option Fl
  | ρ, [] => some (.next ρ)
  | ρ, s :: r => match one nm ρ s with
    | some (.next ρ') => pexecs one nm ρ' r
    | x => x
noncomputable def pexec (Φ : Orc) : Nat → NK → En → Stmt → Option Fl
  | 0, _, _, _ => none
  | n + 1, nm, ρ, st => pexec1 40 (pev Φ 12) (fun nm ρ b => pexecs (pexec Φ n) nm ρ b) nm ρ st
/-- a def's call -/
noncomputable def params (a : Arguments) : List Str := a.args.map (·.arg)
noncomputable def bindPs : List Str → List PyData → Option En
  | [], [] => some []
  | x :: xs, d :: ds => match bindPs xs ds with
    | some r => some ((x, .val d) :: r)
    | none => none
  | _, _ => none
noncomputable def callN (Φ : Orc) (n : Nat) (p : Program) (f : Str) (args : List PyData) : Option PyData := match p.theDef f with
  | some (a, body, sc) => match bindPs (params a) args with
    | some ρ => match pexecs (pexec Φ n) sc.names ρ body with
      | some (.ret d) => some d
      | some (.next _) => some .none
      | _ => none
    | none => none
  | none => none
noncomputable def callF (Φ : Orc) (p : Program) (f : Str) (args : List PyData) : Option PyData := callN Φ 8 p f args
end Mine
end
section
open PySem PySem.Spec PySem.Calls PyProof.Rows PySem.W
namespace Mine
theorem guard'_some {b : Bool} {x : Option PyData} {d : PyData} (h : guard' b x = some d) : b = true ∧ x = some d := by
  cases b <;> simp [guard'] at h ⊢; exact h
theorem no {α : Type} {r : α} {C : Prop} (h : (none : Option α) = some r) : C := nomatch h
theorem noB {C : Prop} (h : false = true) : C := nomatch h
noncomputable def EIs (e : Expr) : EV → Prop
  | .name x p => e = .Name x p
  | .call g as ks p => e = .Call g as ks p
  | .attr o m p => e = .Attribute o m p
  | .const c k p => e = .Constant c k p
  | .sub o i p => e = .Subscript o i p
  | .tup es k p => e = .Tuple es k p
  | .other => True
theorem eK_is (e : Expr) : EIs e (eK e) := by cases e <;> first | exact rfl | exact True.intro
section
variable {α β : Type} {e : Expr} {r : β}
theorem onName_some {f : Str → Pos → Option β} (h : onName e f = some r) : ∃ x p, e = .Name x p ∧ f x p = some r := by
  have k := eK_is e
  unfold onName at h
  generalize eK e = v at h k
  cases v <;> first | exact ⟨_, _, k, h⟩ | exact no h
theorem onCall_some {f : Expr → List Expr → List Keyword → Pos → Option β} (h : onCall e f = some r) : ∃ g as ks p, e = .Call g as ks p ∧ f g as ks p = some r := by
  have k := eK_is e
  unfold onCall at h
  generalize eK e = v at h k
  cases v <;> first | exact ⟨_, _, _, _, k, h⟩ | exact no h
theorem onAttr_some {f : Expr → Str → Pos → Option β} (h : onAttr e f = some r) : ∃ o m p, e = .Attribute o m p ∧ f o m p = some r := by
  have k := eK_is e
  unfold onAttr at h
  generalize eK e = v at h k
  cases v <;> first | exact ⟨_, _, _, k, h⟩ | exact no h
theorem onConst_some {f : Const → Nat → Pos → Option β} (h : onConst e f = some r) : ∃ c n p, e = .Constant c n p ∧ f c n p = some r := by
  have k := eK_is e
  unfold onConst at h
  generalize eK e = v at h k
  cases v <;> first | exact ⟨_, _, _, k, h⟩ | exact no h
theorem onSub_some {f : Expr → Expr → Pos → Option β} (h : onSub e f = some r) : ∃ o i p, e = .Subscript o i p ∧ f o i p = some r := by
  have k := eK_is e
  unfold onSub at h
  generalize eK e = v at h k
  cases v <;> first | exact ⟨_, _, _, k, h⟩ | exact no h
theorem onTup_some {f : List Expr → Nat → Pos → Option β} (h : onTup e f = some r) : ∃ es n p, e = .Tuple es n p ∧ f es n p = some r := by
  have k := eK_is e
  unfold onTup at h
  generalize eK e = v at h k
  cases v <;> first | exact ⟨_, _, _, k, h⟩ | exact no h
theorem onStr_some {c : Const} {f : Str → Option β} (h : onStr c f = some r) : ∃ x, c = .str x ∧ f x = some r := by cases c <;> first | exact ⟨_, rfl, h⟩ | exact no h
theorem onInt_some {c : Const} {f : Int → Option β} (h : onInt c f = some r) : ∃ x, c = .int x ∧ f x = some r := by cases c <;> first | exact ⟨_, rfl, h⟩ | exact no h
theorem on0_some {l : List α} {x : Option β} (h : on0 l x = some r) : l = [] ∧ x = some r := by cases l <;> first | exact ⟨rfl, h⟩ | exact no h
theorem onC_some {l : List α} {f : α → List α → Option β} (h : onC l f = some r) : ∃ a q, l = a :: q ∧ f a q = some r := by cases l <;> first | exact ⟨_, _, rfl, h⟩ | exact no h
theorem on1_some {l : List α} {f : α → Option β} (h : on1 l f = some r) : ∃ a, l = [a] ∧ f a = some r := by
  obtain ⟨a, q, e, h1⟩ := onC_some h
  obtain ⟨e1, h2⟩ := on0_some h1
  exact ⟨a, by rw [e, e1], h2⟩
theorem on2_some {l : List α} {f : α → α → Option β} (h : on2 l f = some r) : ∃ a b, l = [a, b] ∧ f a b = some r := by
  obtain ⟨a, q, e, h1⟩ := onC_some h
  obtain ⟨b, e1, h2⟩ := on1_some h1
  exact ⟨a, b, by rw [e, e1], h2⟩
theorem onO_some {o : Option α} {f : α → Option β} (h : onO o f = some r) : ∃ a, o = some a ∧ f a = some r := by cases o <;> first | exact ⟨_, rfl, h⟩ | exact no h
theorem onT_some {b : Bool} {x : Option β} (h : onT b x = some r) : b = true ∧ x = some r := by cases b <;> first | exact ⟨rfl, h⟩ | exact no h
theorem dInt_some {d : PyData} {f : Int → Option β} (h : dInt d f = some r) : ∃ x, d = .int x ∧ f x = some r := by cases d <;> first | exact ⟨_, rfl, h⟩ | exact no h
theorem dStr_some {d : PyData} {f : Str → Option β} (h : dStr d f = some r) : ∃ x, d = .str x ∧ f x = some r := by cases d <;> first | exact ⟨_, rfl, h⟩ | exact no h
theorem dList_some {d : PyData} {f : List PyData → Option β} (h : dList d f = some r) : ∃ x, d = .list x ∧ f x = some r := by cases d <;> first | exact ⟨_, rfl, h⟩ | exact no h
theorem dTup_some {d : PyData} {f : List PyData → Option β} (h : dTup d f = some r) : ∃ x, d = .tuple x ∧ f x = some r := by cases d <;> first | exact ⟨_, rfl, h⟩ | exact no h
theorem onNat_some {i : Int} {f : Nat → Option β} (h : onNat i f = some r) : ∃ n, i = Int.ofNat n ∧ f n = some r := by cases i <;> first | exact ⟨_, rfl, h⟩ | exact no h
theorem onSucc_some {n : Nat} {f : Nat → Option β} (h : onSucc n f = some r) : ∃ m, n = m + 1 ∧ f m = some r := by cases n <;> first | exact ⟨_, rfl, h⟩ | exact no h
end
theorem onInts_some {a b d : PyData} {f : Int → Int → Option PyData} (h : onInts a b f = some d) : ∃ x y, a = .int x ∧ b = .int y ∧ f x y = some d := by
  obtain ⟨x, ea, h1⟩ := dInt_some h
  obtain ⟨y, eb, h2⟩ := dInt_some h1
  exact ⟨x, y, ea, eb, h2⟩
theorem isZ_eq {i : Int} (h : isZ i = true) : i = .ofNat 0 := by
  cases i with
  | ofNat n => rw [Nat.eq_of_beq_eq_true h]
  | negSucc n => exact noB h
theorem isM1_eq {i : Int} (h : isM1 i = true) : i = .negSucc 0 := by
  cases i with
  | ofNat n => exact noB h
  | negSucc n => rw [Nat.eq_of_beq_eq_true h]
theorem isNone?_eq {α : Type} {o : Option α} (h : isNone? o = true) : o = none := by cases o with | none => rfl | some a => exact noB h
theorem isGlob_eq {k : Option NameKind} (h : isGlob k = true) : k = some .globalImplicit := by
  cases k with
  | none => exact noB h
  | some k => cases k <;> first | rfl | exact noB h
theorem isLoc_some {k : Option NameKind} (h : isLoc k = true) : k = some .local := by
  cases k with
  | none => exact noB h
  | some k => cases k <;> first | rfl | exact noB h
theorem isFunK_eq {k : ScopeKind} (h : isFunK k = true) : k = .function := by cases k <;> first | rfl | exact noB h
theorem isTrue?_eq {o : Option Unit} (h : isTrue? o = true) : o = some () := by cases o with | none => exact noB h | some u => rfl
theorem yes_some {b : Bool} {u : Unit} (h : yes b = some u) : b = true := (onT_some h).1
theorem valB_some {b : Option B} {d : PyData} (h : valB b = some d) : b = some (.val d) := by
  cases b with
  | none => exact no h
  | some b => cases b <;> first | exact no h | (rw [Option.some.inj h])
theorem ownB_some {b : Option B} {d : List PyData} (h : ownB b = some d) : b = some (.own d) := by
  cases b with
  | none => exact no h
  | some b => cases b <;> first | exact no h | (rw [Option.some.inj h])
theorem appB_some {b : Option B} {d : Str} (h : appB b = some d) : b = some (.app d) := by
  cases b with
  | none => exact no h
  | some b => cases b <;> first | exact no h | (rw [Option.some.inj h])
theorem idxCase_none {ρ : En} {f : Str} {args : List Expr} (h : nameEq f "indexOf" = false) : idxCase ρ f args = none := by unfold idxCase; rw [h]
theorem natsEq_iff : ∀ (a b : List Nat), natsEq a b = true ↔ a = b
  | [], [] => by simp [natsEq]
  | [], _ :: _ => by simp [natsEq]
  | _ :: _, [] => by simp [natsEq]
  | x :: xs, y :: ys => by
    unfold natsEq
    cases h : Nat.beq x y with
    | true => have := Nat.eq_of_beq_eq_true h; simp [natsEq_iff xs ys, this]
    | false => have := Nat.ne_of_beq_eq_false h; simp [this]
theorem codeL_pos : ∀ (a : List Nat), 1 ≤ codeL a
  | [] => Nat.le_refl _
  | c :: r => by
    have := codeL_pos r
    show 1 ≤ codeL r * 2097152 + c
    omega
theorem codeL_inj : ∀ (a b : List Nat), okL a = true → okL b = true → codeL a = codeL b → a = b
  | [], [], _, _, _ => rfl
  | [], d :: r, _, _, h => by
    have := codeL_pos r
    have h' : 1 = codeL r * 2097152 + d := h
    omega
  | c :: r, [], _, _, h => by
    have := codeL_pos r
    have h' : codeL r * 2097152 + c = 1 := h
    omega
  | c :: r, d :: q, ha, hb, h => by
    unfold okL at ha hb
    split at ha
    · cases ha
    · rename_i h1
      split at hb
      · cases hb
      · rename_i h2
        have h1 : ¬ 2097152 ≤ c := fun q => by rw [Nat.ble_eq_true_of_le q] at h1; cases h1
        have h2 : ¬ 2097152 ≤ d := fun q => by rw [Nat.ble_eq_true_of_le q] at h2; cases h2
        have h' : codeL r * 2097152 + c = codeL q * 2097152 + d := h
        have e1 : c = d := by omega
        have e2 : codeL r = codeL q := by omega
        rw [e1, codeL_inj r q ha hb e2]
theorem nameEq_iff (a b : Str) : nameEq a b = true ↔ a = b := by
  have ext : ∀ {a b : Str}, a.cps.toList = b.cps.toList → a = b := fun {a b} h => by cases a; cases b; simp only at h; congr 1; exact Array.ext' h
  constructor
  · intro h
    unfold nameEq at h
    split at h
    · cases h
    · rename_i hc
      have hc := Nat.eq_of_beq_eq_true hc
      split at h
      · exact ext ((natsEq_iff _ _).mp h)
      · rename_i ha
        split at h
        · exact ext ((natsEq_iff _ _).mp h)
        · rename_i hb
          exact ext (codeL_inj _ _ ha hb hc)
  · rintro rfl
    unfold nameEq
    rw [Nat.beq_refl]
    have := (natsEq_iff a.cps.toList a.cps.toList).mpr rfl
    dsimp only
    split
    · exact this
    · first | rfl | (split <;> first | exact this | rfl)
theorem nameEq_eq (a b : Str) : nameEq a b = (a == b) := by
  cases h : nameEq a b with
  | true => rw [(nameEq_iff a b).mp h]; simp
  | false =>
    symm; apply beq_eq_false_iff_ne.mpr
    intro e; rw [(nameEq_iff a b).mpr e] at h; cases h
theorem getK_eq : ∀ (nm : NK) (x : Str), getK nm x = nm.lookup x
  | [], _ => rfl
  | (k, v) :: r, x => by
    unfold getK
    rw [nameEq_eq, List.lookup_cons, getK_eq r x]
    cases x == k <;> rfl
theorem getB_put (ρ : En) (x : Str) (b : B) (y : Str) : getB (putB ρ x b) y = if y = x then some b else getB ρ y := by
  induction ρ with
  | nil =>
    unfold putB getB
    cases h : nameEq y x with
    | true => simp [(nameEq_iff y x).mp h]
    | false => have : y ≠ x := fun e => by rw [(nameEq_iff y x).mpr e] at h; cases h
               simp [this, getB]
  | cons p r ih =>
    obtain ⟨k, v⟩ := p
    unfold putB
    cases hx : nameEq x k with
    | true =>
      have hxk := (nameEq_iff x k).mp hx
      subst hxk
      simp only
      unfold getB
      cases hy : nameEq y x with
      | true => simp [(nameEq_iff y x).mp hy]
      | false => have : y ≠ x := fun e => by rw [(nameEq_iff y x).mpr e] at hy; cases hy
                 simp [this]
    | false =>
      have hxk : x ≠ k := fun e => by rw [(nameEq_iff x k).mpr e] at hx; cases hx
      simp only
      unfold getB
      cases hy : nameEq y k with
      | true =>
        have := (nameEq_iff y k).mp hy
        subst this
        simp [Ne.symm hxk]
      | false => simpa using ih

end Mine
end
section
open PySem PySem.Spec PySem.Calls PyProof.Rows PySem.W
namespace Mine
variable [Inhabited Base]
theorem Rep.none' {O : List Addr} {h : Heap} : Rep O h .none .none := by unfold Rep; rfl
theorem Rep.bool' {O : List Addr} {h : Heap} {b : Bool} : Rep O h (.bool b) (.bool b) := by unfold Rep; rfl
theorem Rep.int' {O : List Addr} {h : Heap} {i : Int} {t : Tok} : Rep O h (.int i) (.int i t) := by unfold Rep; exact ⟨t, rfl⟩
theorem Rep.str' {O : List Addr} {h : Heap} {i : Str} {t : Tok} : Rep O h (.str i) (.str i t) := by unfold Rep; exact ⟨t, rfl⟩
theorem Rep.list' {O : List Addr} {h : Heap} {a : Addr} {vs : Array Value} {ds : List PyData} (ha : a ∉ O) (hl : h.IsList a vs) (hr : Reps O h ds vs.toList) : Rep O h (.list ds) (.ref a) := by unfold Rep; exact ⟨a, vs, rfl, ha, hl, hr⟩
theorem Rep.tuple' {O : List Addr} {h : Heap} {a : Addr} {vs : Array Value} {ds : List PyData} (ha : a ∉ O) (hl : h.IsTuple a vs) (hr : Reps O h ds vs.toList) : Rep O h (.tuple ds) (.ref a) := by unfold Rep; exact ⟨a, vs, rfl, ha, hl, hr⟩
theorem Rep.int_inv {O : List Addr} {h : Heap} {i : Int} {v : Value} (x : Rep O h (.int i) v) : ∃ t, v = .int i t := by unfold Rep at x; exact x
theorem Rep.str_inv {O : List Addr} {h : Heap} {i : Str} {v : Value} (x : Rep O h (.str i) v) : ∃ t, v = .str i t := by unfold Rep at x; exact x
theorem Rep.bool_inv {O : List Addr} {h : Heap} {i : Bool} {v : Value} (x : Rep O h (.bool i) v) : v = .bool i := by unfold Rep at x; exact x
theorem Rep.none_inv {O : List Addr} {h : Heap} {v : Value} (x : Rep O h .none v) : v = .none := by unfold Rep at x; exact x
theorem Rep.list_inv {O : List Addr} {h : Heap} {ds : List PyData} {v : Value} (x : Rep O h (.list ds) v) : ∃ a vs, v = .ref a ∧ a ∉ O ∧ h.IsList a vs ∧ Reps O h ds vs.toList := by unfold Rep at x; exact x
theorem Rep.tuple_inv {O : List Addr} {h : Heap} {ds : List PyData} {v : Value} (x : Rep O h (.tuple ds) v) : ∃ a vs, v = .ref a ∧ a ∉ O ∧ h.IsTuple a vs ∧ Reps O h ds vs.toList := by unfold Rep at x; exact x

theorem canLayL {xs : List PyData} (h : shapedB (.list xs) = true) : PyData.canLayAll0 xs = true := by have := SeqAt.canLay_of_shaped h; simpa [PyData.canLay0] using this
theorem canLayT {xs : List PyData} (h : shapedB (.tuple xs) = true) : PyData.canLayAll0 xs = true := by have := SeqAt.canLay_of_shaped h; simpa [PyData.canLay0] using this
theorem smallInt_lt {a : Int} (h : smallInt a = true) : a.natAbs ≤ 4294967296 := Nat.le_of_ble_eq_true h
theorem strFit_le {x : Str} (h : strFit x = true) : x.length ≤ 100000 := Nat.le_of_ble_eq_true h

section
variable {prog : Program} {w : World} {A : Around} {E : Value → Shared → Prop} {s : Shared} {Tb : Addr} {O : List Addr} {Q : Value → Shared → Prop} {a b d : PyData} {va vb : Value}
theorem ints_wp {op : Operator} {f : Int → Int → Option PyData} (h : onInts a b f = some d) (ra : Rep O s.heap a va) (rb : Rep O s.heap b vb) (k : ∀ x y t u, f x y = some d → wpAny (model prog w) A (binaryOp op (.int x t) (.int y u)) Q E s) : wpAny (model prog w) A (binaryOp op va vb) Q E s := by
  obtain ⟨x, y, ea, eb, h1⟩ := onInts_some h
  clear h
  subst ea eb
  obtain ⟨t, e1⟩ := ra.int_inv
  obtain ⟨u, e2⟩ := rb.int_inv
  rw [e1, e2]
  exact k x y t u h1
theorem int_done {op : Operator} {x y z : Int} {t u : Tok} (h : some (PyData.int z) = some d) (k : Q (.int z s.toks) { s with toks := s.toks + 1 } → wpAny (model prog w) A (binaryOp op (.int x t) (.int y u)) Q E s) (hQ : ∀ v s', Grow Tb s s' → Rep O s'.heap d v → Q v s') :
    wpAny (model prog w) A (binaryOp op (.int x t) (.int y u)) Q E s := by
  rw [← Option.some.inj h] at hQ
  exact k (hQ _ _ (Grow.toks _) Rep.int')
theorem two_ble {a b : Bool} (h : (a && b) = true) : a = true ∧ b = true := Bool.and_eq_true_iff.mp h
theorem addF_sound (h : addF a b = some d) (ra : Rep O s.heap a va) (rb : Rep O s.heap b vb) (hQ : ∀ v s', Grow Tb s s' → Rep O s'.heap d v → Q v s') : wpAny (model prog w) A (binaryOp .Add va vb) Q E s := by
  cases a with
  | int x =>
    obtain ⟨y, eb, h1⟩ := dInt_some h
    clear h
    subst eb
    obtain ⟨t, e1⟩ := ra.int_inv
    obtain ⟨u, e2⟩ := rb.int_inv
    rw [e1, e2]
    exact int_done h1 add_int hQ
  | str x =>
    obtain ⟨y, eb, h1⟩ := dStr_some h
    clear h
    subst eb
    obtain ⟨hg, h2⟩ := guard'_some h1
    clear h1
    obtain ⟨t, e1⟩ := ra.str_inv
    obtain ⟨u, e2⟩ := rb.str_inv
    rw [← Option.some.inj h2] at hQ
    rw [e1, e2]
    have h1 := strFit_le (two_ble hg).1
    have h2 := strFit_le (two_ble hg).2
    refine wpAny_with_toks (Nat.le_refl _) (add_str (fun t' tk ht => hQ _ _ (Grow.toks _ ht) Rep.str') ?_)
    show _ ≤ 2 ^ 24
    omega
  | _ => exact no h
theorem binF_sound {op : Operator} (h : binF op a b = some d) (ra : Rep O s.heap a va) (rb : Rep O s.heap b vb) (hQ : ∀ v s', Grow Tb s s' → Rep O s'.heap d v → Q v s') :
    wpAny (model prog w) A (binaryOp op va vb) Q E s := by
  cases op with
  | Add => exact addF_sound h ra rb hQ
  | Sub => exact ints_wp (f := fun x y => some (.int (x - y))) h ra rb fun x y t u h => int_done h sub_int hQ
  | Mod =>
    refine ints_wp (f := fun x y => onNat y fun m => onSucc m fun n => some (.int (x.fmod ((n + 1 : Nat) : Int)))) h ra rb fun x y t u h => ?_
    obtain ⟨m, e, h1⟩ := onNat_some h
    obtain ⟨n, e1, h2⟩ := onSucc_some h1
    clear h h1
    subst e e1
    exact int_done h2 (mod_int (by show ((_ : Nat) : Int) ≠ 0; omega)) hQ
  | FloorDiv =>
    refine ints_wp (f := fun x y => onNat y fun m => onSucc m fun n => guard' (Nat.ble x.natAbs 100000 && Nat.ble n 100000) (some (.int (x.fdiv ((n + 1 : Nat) : Int))))) h ra rb fun x y t u h => ?_
    obtain ⟨m, e, h1⟩ := onNat_some h
    obtain ⟨n, e1, h2⟩ := onSucc_some h1
    obtain ⟨hg, h3⟩ := guard'_some h2
    clear h h1 h2
    subst e e1
    have h1 : x.natAbs ≤ 100000 := Nat.le_of_ble_eq_true (two_ble hg).1
    have h2 : n ≤ 100000 := Nat.le_of_ble_eq_true (two_ble hg).2
    refine int_done h3 (fun q => floordiv_int (by show ((_ : Nat) : Int) ≠ 0; omega) q (Or.inl (PyProof.noPylong_small ?_))) hQ
    all_goals (simp only [Int.ofNat_eq_natCast]; omega)
  | BitAnd => dsimp only [binF] at h; refine ints_wp h ra rb fun x y t u h => ?_; rw [← Option.some.inj h] at hQ; exact and_int (hQ _ _ (Grow.toks _) Rep.int')
  | BitOr => dsimp only [binF] at h; refine ints_wp h ra rb fun x y t u h => ?_; rw [← Option.some.inj h] at hQ; exact or_int (hQ _ _ (Grow.toks _) Rep.int')
  | LShift =>
    refine ints_wp (f := fun x y => onNat y fun n => guard' (smallInt x && Nat.ble n 100) (some (.int (x * 2 ^ n)))) h ra rb fun x y t u h => ?_
    obtain ⟨n, e, h1⟩ := onNat_some h
    obtain ⟨hg, h2⟩ := guard'_some h1
    clear h h1
    subst e
    have h3 := smallInt_lt (two_ble hg).1
    have h4 : n ≤ 100 := Nat.le_of_ble_eq_true (two_ble hg).2
    have h5 : Builtin.Int.intBits x ≤ 64 := intBits_le_64 (by omega) (by omega)
    rw [← Option.some.inj h2] at hQ
    refine lshift_int (Int.natCast_nonneg n) ?_ (hQ _ _ (Grow.toks _) Rep.int')
    simp only [Int.ofNat_eq_natCast]; omega
  | RShift =>
    refine ints_wp (f := fun x y => onNat y fun n => some (.int (x.fdiv (2 ^ n)))) h ra rb fun x y t u h => ?_
    obtain ⟨n, e, h1⟩ := onNat_some h
    clear h
    subst e
    rw [← Option.some.inj h1] at hQ
    exact rshift_int (Int.natCast_nonneg n) (hQ _ _ (Grow.toks _) Rep.int')
  | _ => exact no h

/-! two ints, two texts -/
theorem cmp_ints {op : CmpOp} {c : Bool} {f : Int → Option Bool} {x : Int} (h : dInt b f = some c) (ra : Rep O s.heap (.int x) va) (rb : Rep O s.heap b vb) (k : ∀ y t u, f y = some c → wpAny (model prog w) A (compareOp op (.int x t) (.int y u)) Q E s) : wpAny (model prog w) A (compareOp op va vb) Q E s := by
  obtain ⟨y, eb, h1⟩ := dInt_some h
  clear h
  subst eb
  obtain ⟨t, e1⟩ := ra.int_inv
  obtain ⟨u, e2⟩ := rb.int_inv
  rw [e1, e2]
  exact k y t u h1
theorem cmp_strs {op : CmpOp} {c : Bool} {f : Str → Option Bool} {x : Str} (h : dStr b f = some c) (ra : Rep O s.heap (.str x) va) (rb : Rep O s.heap b vb) (k : ∀ y t u, f y = some c → wpAny (model prog w) A (compareOp op (.str x t) (.str y u)) Q E s) : wpAny (model prog w) A (compareOp op va vb) Q E s := by
  obtain ⟨y, eb, h1⟩ := dStr_some h
  clear h
  subst eb
  obtain ⟨t, e1⟩ := ra.str_inv
  obtain ⟨u, e2⟩ := rb.str_inv
  rw [e1, e2]
  exact k y t u h1
theorem okB {c c' : Bool} (h : some c' = some c) (hQ : Q (.bool c) s) : Q (.bool c') s := by rw [Option.some.inj h]; exact hQ
theorem ltF_sound {c : Bool} (h : ltF a b = some c) (ra : Rep O s.heap a va) (rb : Rep O s.heap b vb) (hQ : Q (.bool c) s) : wpAny (model prog w) A (compareOp .Lt va vb) Q E s := by
  cases a with
  | int x => exact cmp_ints h ra rb fun y t u h => lt_int (okB h hQ)
  | str x => exact cmp_strs h ra rb fun y t u h => lt_str (okB h hQ)
  | _ => exact no h
theorem gtF_sound {c : Bool} (h : gtF a b = some c) (ra : Rep O s.heap a va) (rb : Rep O s.heap b vb) (hQ : Q (.bool c) s) : wpAny (model prog w) A (compareOp .Gt va vb) Q E s := by
  cases a with
  | int x => exact cmp_ints h ra rb fun y t u h => gt_int (okB h hQ)
  | str x => exact cmp_strs h ra rb fun y t u h => P.gt_str (okB h hQ)
  | _ => exact no h
theorem leF_sound {c : Bool} (h : leF a b = some c) (ra : Rep O s.heap a va) (rb : Rep O s.heap b vb) (hQ : Q (.bool c) s) : wpAny (model prog w) A (compareOp .LtE va vb) Q E s := by
  cases a with
  | int x => exact cmp_ints h ra rb fun y t u h => PyProof.Rows.le_int (okB h hQ)
  | str x => exact cmp_strs h ra rb fun y t u h => P.le_str (okB h hQ)
  | _ => exact no h
theorem geF_sound {c : Bool} (h : geF a b = some c) (ra : Rep O s.heap a va) (rb : Rep O s.heap b vb) (hQ : Q (.bool c) s) : wpAny (model prog w) A (compareOp .GtE va vb) Q E s := by
  cases a with
  | int x => exact cmp_ints (f := fun y => some (decide (y ≤ x))) h ra rb fun y t u h => PyProof.Rows.ge_int (okB h hQ)
  | _ => exact no h
theorem inF_sound {c : Bool} {k : Nat} (room : RoomW Λ k A) (h : inF a b = some c) (ra : Rep O s.heap a va) (rb : Rep O s.heap b vb) (hQ : Q (.bool c) s) : wpAny (model prog w) A (compareOp .In va vb) Q E s := by
  have hu := room.line
  cases b with
  | list xs =>
    obtain ⟨hs, h1⟩ := onT_some h
    obtain ⟨_, r1⟩ := ra.reads; obtain ⟨_, r2⟩ := rb.reads
    exact SeqAt.in_list_reads r2 r1 (canLayL (two_ble hs).1) (SeqAt.canLay_of_shaped (two_ble hs).2) (by have := SeqAt.depth_of_shaped (two_ble hs).2; omega) (okB h1 hQ)
  | tuple xs =>
    obtain ⟨hs, h1⟩ := onT_some h
    obtain ⟨_, r1⟩ := ra.reads; obtain ⟨_, r2⟩ := rb.reads
    exact SeqAt.in_tuple_reads r2 r1 (canLayT (two_ble hs).1) (SeqAt.canLay_of_shaped (two_ble hs).2) (by have := SeqAt.depth_of_shaped (two_ble hs).2; omega) (okB h1 hQ)
  | str x =>
    obtain ⟨y, ea, h1⟩ := dStr_some h
    clear h
    subst ea
    obtain ⟨t, e1⟩ := ra.str_inv
    obtain ⟨u, e2⟩ := rb.str_inv
    rw [e1, e2]
    exact SB.contains (okB h1 hQ)
  | _ => exact no h
theorem notInF_sound {c : Bool} {k : Nat} (room : RoomW Λ k A) (h : notInF a b = some c) (ra : Rep O s.heap a va) (rb : Rep O s.heap b vb) (hQ : Q (.bool c) s) : wpAny (model prog w) A (compareOp .NotIn va vb) Q E s := by
  have hu := room.line
  cases b with
  | list xs =>
    obtain ⟨hs, h1⟩ := onT_some h
    obtain ⟨_, r1⟩ := ra.reads; obtain ⟨_, r2⟩ := rb.reads
    exact SeqAt.notIn_list_reads r2 r1 (canLayL (two_ble hs).1) (SeqAt.canLay_of_shaped (two_ble hs).2) (by have := SeqAt.depth_of_shaped (two_ble hs).2; omega) (okB h1 hQ)
  | str x =>
    obtain ⟨y, ea, h1⟩ := dStr_some h
    clear h
    subst ea
    obtain ⟨t, e1⟩ := ra.str_inv
    obtain ⟨u, e2⟩ := rb.str_inv
    rw [e1, e2]
    exact SB.notContains (okB h1 hQ)
  | _ => exact no h
theorem cmpF_sound {op : CmpOp} {c : Bool} {k : Nat} (room : RoomW Λ k A) (h : cmpF op a b = some c) (ra : Rep O s.heap a va) (rb : Rep O s.heap b vb) (hQ : Q (.bool c) s) :
    wpAny (model prog w) A (compareOp op va vb) Q E s := by
  have hu := room.line
  cases op with
  | Eq =>
    obtain ⟨hs, h1⟩ := onT_some h
    obtain ⟨_, r1⟩ := ra.reads; obtain ⟨_, r2⟩ := rb.reads
    exact SeqAt.compareEq_shaped r1 r2 (two_ble hs).1 (two_ble hs).2 (by omega) (okB h1 hQ)
  | NotEq =>
    obtain ⟨hs, h1⟩ := onT_some h
    obtain ⟨_, r1⟩ := ra.reads; obtain ⟨_, r2⟩ := rb.reads
    exact SeqAt.compareNe_shaped r1 r2 (two_ble hs).1 (two_ble hs).2 (by omega) (okB h1 hQ)
  | Lt => exact ltF_sound h ra rb hQ
  | Gt => exact gtF_sound h ra rb hQ
  | LtE => exact leF_sound h ra rb hQ
  | GtE => exact geF_sound h ra rb hQ
  | In => exact inF_sound room h ra rb hQ
  | NotIn => exact notInF_sound room h ra rb hQ
  | _ => exact no h

theorem truthF_sound {c : Bool} (h : truthF a = some c) (ra : Rep O s.heap a va) {Q : Bool → Shared → Prop} (hQ : ∀ s', Grow Tb s s' → Q c s') :
    wpAny (model prog w) A (truthy va) Q E s := by
  unfold truthF at h
  split at h
  · cases h; rw [ra.bool_inv]; exact wpAny_truthy_bool (hQ _ Grow.refl)
  · cases h; obtain ⟨t, rfl⟩ := ra.int_inv; exact P.truthy_int (hQ _ Grow.refl)
  · split at h
    · rename_i x _ hx
      cases h; obtain ⟨t, rfl⟩ := ra.str_inv
      have h1 := strFit_le hx
      refine P.truthy_str (by omega) ?_
      have : ((x.length : Int) != 0) = !(x.length == 0) := by
        cases hh : x.length <;> simp <;> omega
      rw [this]; exact hQ _ (Grow.toks _)
    · cases h
  · split at h
    · rename_i xs _ hx
      cases h; obtain ⟨l, vs, rfl, _, hl', hr⟩ := ra.list_inv
      have hlen := hr.length
      have h1 : xs.length ≤ 100000 := Nat.le_of_ble_eq_true hx
      simp only [Array.length_toList] at hlen
      refine wpAny_truthy_list hl' (by omega) ?_
      have : vs.isEmpty = xs.isEmpty := by
        show decide (vs.size = 0) = _
        cases xs with
        | nil => simp only [List.length_nil] at hlen; rw [hlen]; rfl
        | cons x r => simp only [List.length_cons] at hlen; rw [hlen]; simp
      rw [this]; exact hQ _ (Grow.toks _)
    · cases h
  · cases h

theorem placeF_seq {k : Int} {n j : Nat} (h : placeF k n = some j) : seqIndex? k n = some j ∧ j < n ∧ (0 ≤ k → k = j) ∧ -(n : Int) ≤ k ∧ k < n := by
  unfold placeF at h
  split at h
  · split at h
    · rename_i hb
      cases h
      have hk : j < n := Nat.le_of_ble_eq_true hb
      refine ⟨?_, hk, fun _ => rfl, ?_, ?_⟩
      · unfold seqIndex?
        have h1 : ¬ ((Int.ofNat j) < 0) := by simp only [Int.ofNat_eq_natCast]; omega
        simp only [h1, if_false]
        rw [if_pos (by simp only [Int.ofNat_eq_natCast, Bool.and_eq_true, decide_eq_true_eq]; omega)]
        rfl
      · simp only [Int.ofNat_eq_natCast]; omega
      · simp only [Int.ofNat_eq_natCast]; omega
    · cases h
  · rename_i k
    split at h
    · rename_i hb
      cases h
      have hk : k < n := Nat.le_of_ble_eq_true hb
      refine ⟨?_, by omega, fun hn => by omega, by omega, by omega⟩
      unfold seqIndex?
      have h1 : (Int.negSucc k) < 0 := by omega
      simp only [h1, if_true]
      rw [if_pos (by simp only [Bool.and_eq_true, decide_eq_true_eq]; omega)]
      congr 1; omega
    · cases h

/-- an item of a list that stands in the heap, whoever owns it -/
theorem itemList_sound {xs : List PyData} {k : Int} {u : Tok} {l : Addr} {vs : Array Value} (h : itemF (.list xs) (.int k) = some d) (hl : s.heap.IsList l vs) (hr : Reps O s.heap xs vs.toList) (hQ : ∀ v s', Grow Tb s s' → Rep O s'.heap d v → Q v s') :
    wpAny (model prog w) A (getItem (.ref l) (.int k u)) Q E s := by
  simp only [itemF] at h
  split at h
  · rename_i hk
    have hk := smallInt_lt hk
    split at h
    · rename_i j hj
      have hlen := hr.length
      simp only [Array.length_toList] at hlen
      obtain ⟨h1, h2, h3, h4, h5⟩ := placeF_seq hj
      obtain ⟨v, hv, rv⟩ := hr.get h
      have hv' : vs[j]? = some v := by simpa using hv
      by_cases h0 : 0 ≤ k
      · have := h3 h0; subst this
        exact wpAny_getItem_list hl h0 (by omega) (by simpa using hv') (hQ _ _ Grow.refl rv)
      · have h6 := seqIndex_neg (k := k) (n := xs.length) (by omega) h4
        rw [h1] at h6
        have h7 : j = (k + (vs.size : Int)).toNat := by rw [hlen]; exact Option.some.inj h6
        exact wpAny_getItem_list_neg hl (by omega) (by omega) (by omega) (by rw [← h7]; exact hv') (hQ _ _ Grow.refl rv)
    · cases h
  · cases h

theorem itemF_sound (h : itemF a b = some d) (ra : Rep O s.heap a va) (rb : Rep O s.heap b vb) (hQ : ∀ v s', Grow Tb s s' → Rep O s'.heap d v → Q v s') :
    wpAny (model prog w) A (getItem va vb) Q E s := by
  have h' := h
  unfold itemF at h
  split at h
  · rename_i k
    obtain ⟨u, rfl⟩ := rb.int_inv
    split at h
    · rename_i hk
      have hk := smallInt_lt hk
      split at h
      · obtain ⟨l, vs, rfl, _, hl, hr⟩ := ra.list_inv
        exact itemList_sound h' hl hr hQ
      · obtain ⟨l, vs, rfl, _, hl, hr⟩ := ra.tuple_inv
        split at h
        · rename_i j hj
          have hlen := hr.length
          simp only [Array.length_toList] at hlen
          obtain ⟨h1, h2, h3, h4, h5⟩ := placeF_seq hj
          obtain ⟨v, hv, rv⟩ := hr.get h
          exact PyProof.Rows.getItem_tuple hl (by omega) (by omega) (by rw [hlen]; exact h1) (by simpa using hv) (hQ _ _ Grow.refl rv)
        · cases h
      · obtain ⟨t, rfl⟩ := ra.str_inv
        rename_i x
        split at h
        · rename_i j hj
          split at h
          · rename_i c hc
            cases h
            obtain ⟨h1, h2, h3, h4, h5⟩ := placeF_seq hj
            refine P.getItem_str (c := c) ?_ (by show (seqIndex? k x.cps.size).bind _ = _; rw [h1]; exact hc) (hQ _ _ (Grow.toks _) Rep.str')
            simp only [Bool.or_eq_false_iff, decide_eq_false_iff_not]
            omega
          · cases h
        · cases h
      · cases h
    · cases h
  · cases h
end
end Mine
end
section
open PySem PySem.Spec PySem.Calls PyProof.Rows PySem.W
namespace Mine
variable [Inhabited Base]

theorem ns_ne {h : Heap} {a P : Addr} {m : Str → Option Value} {ps : Array Value} (n : h.Ns a m) (e : h.get? P = some (tabObj ps)) : a ≠ P := by
  rintro rfl
  obtain ⟨o, es, ep, ho, hd, _⟩ := n
  rw [e] at ho; cases ho; cases hd

section
variable {P : Addr}
noncomputable def BMod' (P : Addr) (h : Heap) : Prop := ∃ mg ob, h.Ns mainGlobals mg ∧ mg "__builtins__" = some (.ref bmA) ∧ bmA ≠ builtinsNs ∧ bmA ≠ mainGlobals ∧ bmA ≠ P ∧ h.get? bmA = some ob ∧ ob.cls = .type "module" ∧ ob.dict = some builtinsNs ∧ ob.data = .plain
theorem notD_plain {o : Obj} (h : o.data = .plain) : ¬ IsD o := fun ⟨_, _, e⟩ => by rw [h] at e; cases e
theorem BMod'.at {h h' : Heap} (x : BMod' P h) (kg : ∀ m, h.Ns mainGlobals m → mainGlobals ≠ P → h'.Ns mainGlobals m) (hg : mainGlobals ≠ P) (kb : ∀ o, ¬ IsD o → bmA ≠ P → h.get? bmA = some o → h'.get? bmA = some o) : BMod' P h' :=
  let ⟨mg, ob, h1, h2, h3, h4, h5, h6, h7, h8, h9⟩ := x
  ⟨mg, ob, kg mg h1 hg, h2, h3, h4, h5, kb ob (notD_plain h9) h5 h6, h7, h8, h9⟩
end
/-- what stands around a call: the written part, the globals, the table -/
structure WF (K : Frag) (P : Addr) (G : Str → Option Value) (Λ : List Addr) (h : Heap) : Prop where
  X : K.In h
  PK : ∀ a o, K.lookup a = some o → a ≠ P
  KF : ∀ a o, K.lookup a = some o → a < fbase
  PB : P < fbase
  BMlt : bmA < fbase
  bmod : BMod' P h
  base : fbase ≤ h.objs.size
  fr : ∀ L ∈ Λ, fbase ≤ L ∧ ∃ o, h.get? L = some o ∧ IsD o
  glob : ∃ mg mb, h.Ns mainGlobals mg ∧ h.Ns builtinsNs mb ∧ ∀ x v, G x = some v → mg x = some v ∨ (mg x = none ∧ mb x = some v)
  nolimit : h.NoLimit
  tab : ∃ ps, h.get? P = some (tabObj ps) ∧ TriplesOk ps.toList
variable {K : Frag} {P : Addr} {G : Str → Option Value} {Λ : List Addr}
theorem ns_grow {s s' : Shared} {a : Addr} {m : Str → Option Value} (n : s.heap.Ns a m) (ha : a ≠ P) (g : Grow P s s') : s'.heap.Ns a m := ns_at n fun o e => g.frm a o ha e
theorem WF.grow {s s' : Shared} (x : WF K P G Λ s.heap) (g : Grow P s s') : WF K P G Λ s'.heap := by
  obtain ⟨ps, hp, ht⟩ := x.tab
  refine ⟨fun a o e => g.keep a o (x.PK a o e) (fun _ => x.KF a o e) (x.X a o e), x.PK, x.KF, x.PB, x.BMlt, x.bmod.at (fun m n hP => ns_grow n hP g) (by obtain ⟨_, _, h1, _⟩ := x.bmod; obtain ⟨_, hp, _⟩ := x.tab; exact ns_ne h1 hp) (fun o hf hP e => g.keep _ o hP (Firm.of hf) e), Nat.le_trans x.base g.size, fun L hL => ⟨(x.fr L hL).1, ?_⟩, ?_, ?_, ?_⟩
  · obtain ⟨h1, o, h2, h3⟩ := x.fr L hL
    obtain ⟨sl, h4⟩ := g.frm L o (fun q => Nat.lt_irrefl _ (Nat.lt_of_lt_of_le x.PB (q ▸ h1))) h2
    exact ⟨_, h4, h3⟩
  · obtain ⟨mg, mb, h1, h2, h3⟩ := x.glob
    exact ⟨mg, mb, ns_grow h1 (ns_ne h1 hp) g, ns_grow h2 (ns_ne h2 hp) g, h3⟩
  · obtain ⟨mc, h1, h2⟩ := x.nolimit
    exact ⟨mc, ns_grow h1 (ns_ne h1 hp) g, h2⟩
  · obtain ⟨more, h1, h2⟩ := g.tab ps hp ht
    exact ⟨_, h1, h2⟩

/-- the name's value, as it lies in the frame or in a cell -/
noncomputable def CanLoad (P : Addr) (env : Env) (h : Heap) (x : Str) (v : Value) : Prop :=
  (env.kindOf x = some .local ∧ env.locals ≠ P ∧ ∃ m, h.Ns env.locals m ∧ m x = some v) ∨
  ((env.kindOf x = some .cell ∨ env.kindOf x = some .free) ∧ ∃ c, env.cells.lookup x = some c ∧ c ≠ P ∧ h.IsCell c (some v))
noncomputable def BRep (P : Addr) (O : List Addr) (h : Heap) : B → Value → Prop
  | .val d, v => Rep O h d v
  | .own xs, v => ∃ a vs, v = .ref a ∧ a ≠ P ∧ h.IsList a vs ∧ Reps O h xs vs.toList
  | .app _, _ => True
noncomputable def Sees (P : Addr) (O : List Addr) (env : Env) (h : Heap) (ρ : En) : Prop := ∀ x b, getB ρ x = some b → ∃ v, CanLoad P env h x v ∧ BRep P O h b v

theorem CanLoad.grow {env : Env} {s s' : Shared} {x : Str} {v : Value} (c : CanLoad P env s.heap x v) (g : Grow P s s') : CanLoad P env s'.heap x v := by
  rcases c with ⟨h1, h2, m, h3, h4⟩ | ⟨h1, c, h2, h3, h4⟩
  · exact .inl ⟨h1, h2, m, ns_grow h3 h2 g, h4⟩
  · exact .inr ⟨h1, c, h2, h3, isCell_at h4 fun o e => g.frm c o h3 e⟩
theorem BRep.grow {O : List Addr} {s s' : Shared} {b : B} {v : Value} (hP : P ∈ O) (x : BRep P O s.heap b v) (g : Grow P s s') : BRep P O s'.heap b v := by
  cases b with
  | app y => trivial
  | val d => exact Rep.grow hP g x
  | own xs =>
    obtain ⟨a, vs, e, ha, hl, hr⟩ := x
    exact ⟨a, vs, e, ha, isList_at hl fun o hf e' => g.keep a o ha (Firm.of hf) e', Reps.grow hP g hr⟩
theorem Sees.grow {O : List Addr} {env : Env} {s s' : Shared} {ρ : En} (hP : P ∈ O) (x : Sees P O env s.heap ρ) (g : Grow P s s') : Sees P O env s'.heap ρ := fun y b e => by
  obtain ⟨v, h1, h2⟩ := x y b e
  exact ⟨v, h1.grow g, h2.grow hP g⟩

/-- a kind of a name, as the evaluator has it and as the frame has it -/
noncomputable def KindOk (a b : Option NameKind) : Prop := match a with
  | some .free => b = some .free ∨ b = some .cell
  | a => b = a
structure HereW (K : Frag) (P : Addr) (G : Str → Option Value) (Λ : List Addr) (k : Nat) (A : Around) (O : List Addr) (env : Env) (nm : NK) (ρ : En) (s : Shared) : Prop where
  roomW : RoomW Λ k A
  tk : 0 < s.toks
  kind : env.scope.kind = .function
  glb : env.globals = mainGlobals
  blt : env.builtins = builtinsNs
  names : ∀ x, KindOk (getK nm x) (env.kindOf x)
  nok : namesOk nm = true
  hP : P ∈ O
  lt : ∀ a ∈ O, a < s.heap.objs.size
  wf : WF K P G Λ s.heap
  sees : Sees P O env s.heap ρ
structure Here (K : Frag) (P : Addr) (G : Str → Option Value) (Λ : List Addr) (k : Nat) (A : Around) (O : List Addr) (env : Env) (nm : NK) (ρ : En) (s : Shared) : Prop extends HereW K P G Λ k A O env nm ρ s where
  handled : A.handled = none
theorem Here.room {k : Nat} {A : Around} {O : List Addr} {env : Env} {nm : NK} {ρ : En} {s : Shared} (x : Here K P G Λ k A O env nm ρ s) : Room Λ k A := ⟨x.roomW, x.handled⟩
theorem HereW.grow {k : Nat} {A : Around} {O : List Addr} {env : Env} {nm : NK} {ρ : En} {s s' : Shared} (x : HereW K P G Λ k A O env nm ρ s) (g : Grow P s s') : HereW K P G Λ k A O env nm ρ s' :=
  ⟨x.roomW, Nat.lt_of_lt_of_le x.tk g.tks, x.kind, x.glb, x.blt, x.names, x.nok, x.hP, fun a ha => Nat.lt_of_lt_of_le (x.lt a ha) g.size, x.wf.grow g, x.sees.grow x.hP g⟩
theorem Here.grow {k : Nat} {A : Around} {O : List Addr} {env : Env} {nm : NK} {ρ : En} {s s' : Shared} (x : Here K P G Λ k A O env nm ρ s) (g : Grow P s s') : Here K P G Λ k A O env nm ρ s' :=
  ⟨x.toHereW.grow g, x.handled⟩
theorem HereW.kindBack {k : Nat} {A : Around} {O : List Addr} {env : Env} {nm : NK} {ρ : En} {s : Shared} (x : HereW K P G Λ k A O env nm ρ s) {y : Str} {kd : NameKind} (h : env.kindOf y = some kd) : ∃ kd', getK nm y = some kd' := by
  have := x.names y
  cases hk : getK nm y with
  | some a => exact ⟨a, rfl⟩
  | none => rw [hk] at this; rw [h] at this; cases this
theorem namesOk_of {nm : NK} (h : namesOk nm = true) {x : Str} {kd : NameKind} (hk : getK nm x = some kd) : (x == ("__debug__" : Str)) = false ∧ (x == ("__classdict__" : Str)) = false := by
  rw [getK_eq] at hk
  have hm := mem_of_lookup hk
  have := List.all_eq_true.mp h _ hm
  simp only [nameOk, Bool.and_eq_true, Bool.not_eq_true', nameEq_eq] at this
  exact this

/-- what a call may be made of -/
inductive Callee (K : Frag) : Value → Prop
  | fn {a : Addr} {o : Obj} {fd : FuncData} : K.lookup a = some o → o.data = .func fd → Callee K (.ref a)
  | bi (id : String) : Callee K (.builtin id)
  | ty (T : String) : Callee K (.type T)

noncomputable def CallOk (prog : Program) (w : World) (K : Frag) (P : Addr) (G : Str → Option Value) (k : Nat) (fv : Value) (ds : List PyData) (d : PyData) : Prop :=
  ∀ {Λ : List Addr} (A : Around) (O : List Addr) (s : Shared) (vs : List Value) (Q : Value → Shared → Prop) (E : Value → Shared → Prop), Room Λ k A → 0 < s.toks → P ∈ O → (∀ a ∈ O, a < s.heap.objs.size) → WF K P G Λ s.heap → Reps O s.heap ds vs →
    (∀ v s', Grow P s s' → Rep O s'.heap d v → Q v s') → wpAny (model prog w) A (call fv vs) Q E s
/-- indexOf upon two texts whose makes are known -/
noncomputable def IdxOk (prog : Program) (w : World) (K : Frag) (P : Addr) (G : Str → Option Value) (k : Nat) : Prop :=
  ∃ fv, G "indexOf" = some fv ∧ Callee K fv ∧ ∀ {Λ : List Addr} (A : Around) (O : List Addr) (s : Shared) (a b : Str) (t u : Tok) (d : PyData) (Q : Value → Shared → Prop) (E : Value → Shared → Prop), Room Λ k A → 0 < s.toks → P ∈ O → (∀ a ∈ O, a < s.heap.objs.size) → WF K P G Λ s.heap → t ≠ 0 → u ≠ 0 → u < s.toks →
    idxAll a b = some d → (∀ v s', Grow P s s' → Rep O s'.heap d v → Q v s') → wpAny (model prog w) A (call fv [.str a t, .str b u]) Q E s
structure CallsOk (prog : Program) (w : World) (K : Frag) (P : Addr) (G : Str → Option Value) (k : Nat) (Φ : Orc) : Prop where
  calls : ∀ f ds d, Φ f ds = some d → ∃ fv, G f = some fv ∧ Callee K fv ∧ CallOk prog w K P G k fv ds d
  idx : IdxOk prog w K P G k

noncomputable def ESound (prog : Program) (w : World) (K : Frag) (P : Addr) (G : Str → Option Value) (k : Nat) (rec : NK → En → Expr → Option PyData) : Prop :=
  ∀ nm ρ e d, rec nm ρ e = some d → ∀ {Λ : List Addr} (A : Around) (O : List Addr) (env : Env) (s : Shared) (Q : Value → Shared → Prop) (E : Value → Shared → Prop), Here K P G Λ k A O env nm ρ s →
    (∀ v s', Grow P s s' → Rep O s'.heap d v → Q v s') → wpAny (model prog w) A (eval e env) Q E s

section
variable {prog : Program} {w : World} {k : Nat} {A : Around} {E : Value → Shared → Prop} {O : List Addr} {env : Env} {nm : NK} {ρ : En} {s : Shared} {rec : NK → En → Expr → Option PyData}

theorem load_sound {x : Str} {v : Value} {pos : Pos} {Q : Value → Shared → Prop} (H : HereW K P G Λ k A O env nm ρ s) (c : CanLoad P env s.heap x v) (hQ : Q v s) : wpAny (model prog w) A (eval (.Name x pos) env) Q E s := by
  rcases c with ⟨h1, _, m, h3, h4⟩ | ⟨h1, c, h2, _, h4⟩
  · exact wpAny_Name (wpAny_loadName_local H.kind h1 h3 h4 hQ) (namesOk_of H.nok (H.kindBack h1).choose_spec).1
  · rcases h1 with h1 | h1
    · exact wpAny_Name (wpAny_loadName_cell H.kind h1 h2 h4 hQ) (namesOk_of H.nok (H.kindBack h1).choose_spec).1
    · exact wpAny_Name (wpAny_loadName_free H.kind h1 h2 h4 hQ (namesOk_of H.nok (H.kindBack h1).choose_spec).2) (namesOk_of H.nok (H.kindBack h1).choose_spec).1

theorem global_sound {x : Str} {v : Value} {pos : Pos} {Q : Value → Shared → Prop} (H : HereW K P G Λ k A O env nm ρ s) (hk : getK nm x = some .globalImplicit) (hv : G x = some v) (hQ : Q v s) : wpAny (model prog w) A (eval (.Name x pos) env) Q E s := by
  obtain ⟨mg, mb, h1, h2, h3⟩ := H.wf.glob
  have hx : env.kindOf x = some .globalImplicit := by have := H.names x; rw [hk] at this; exact this
  have hd := (namesOk_of H.nok hk).1
  rcases h3 x v hv with h4 | ⟨h4, h5⟩
  · exact Name_function_global H.kind hx (loadGlobal_global (by rw [H.glb]; exact h1) h4 hQ) hd
  · exact Name_function_global H.kind hx (loadGlobal_builtin (by rw [H.glb]; exact h1) h4 (by rw [H.blt]; exact h2) h5 hQ) hd

theorem starEach_cons {e : Expr} {r : List Expr} (h : noStar e = true) : starEach (e :: r) env = (false, eval e env) :: starEach r env := by
  cases e <;> first | rfl | cases h
theorem starEach_plain {pos : Pos} : ∀ {es : List Expr}, (∀ e ∈ es, noStar e = true) → (backTo pos (starEach es env)).any (·.1) = false
  | [], _ => rfl
  | e :: r, h => by
    rw [starEach_cons (h e List.mem_cons_self)]
    show (false || (backTo pos (starEach r env)).any (·.1)) = false
    rw [starEach_plain fun e he => h e (List.mem_cons_of_mem _ he)]; rfl
theorem pevs_plain : ∀ {es : List Expr} {ds : List PyData}, pevs rec nm ρ es = some ds → ∀ e ∈ es, noStar e = true
  | [], _, _, e, he => by cases he
  | x :: r, ds, h, e, he => by
    unfold pevs at h
    split at h
    · rename_i hx
      split at h
      · split at h
        · rename_i hr
          rcases List.mem_cons.mp he with rfl | he
          · exact hx
          · exact pevs_plain hr e he
        · cases h
      · cases h
    · cases h

theorem pevs_sound (S : ESound prog w K P G k rec) {pos : Pos} : ∀ {es : List Expr} {ds : List PyData} {s : Shared} {Q : List Value → Shared → Prop}, pevs rec nm ρ es = some ds → Here K P G Λ k A O env nm ρ s →
    (∀ vs s', Grow P s s' → Reps O s'.heap ds vs → Q vs s') → wpAny (model prog w) A (spliced (backTo pos (starEach es env))) Q E s
  | [], ds, s, Q, h, H, hQ => by
    unfold pevs at h; cases h
    exact spliced_nil (hQ _ _ Grow.refl Reps.nil)
  | e :: r, ds, s, Q, h, H, hQ => by
    unfold pevs at h
    split at h
    · rename_i hx
      split at h
      · rename_i d hd
        split at h
        · rename_i ds' hr
          cases h
          rw [starEach_cons hx]
          refine spliced_cons (S _ _ _ _ hd A O env s _ E H fun v s₁ g₁ r₁ => ?_)
          refine pevs_sound S hr (H.grow g₁) fun vs s₂ g₂ r₂ => ?_
          exact hQ _ _ (g₁.trans g₂) (Reps.cons (Rep.grow H.hP g₂ r₁) r₂)
        · cases h
      · cases h
    · cases h

theorem noSet_marks {op : CmpOp} {r : Expr} (hn : noSet r = true) : behindInMarks op r = false := by cases r <;> first | rfl | cases hn
theorem wpAny_release' {M : Model} {vs keep : List Value} {Q : Unit → Shared → Prop} (h : Q () s) : wpAny M A (release vs keep) Q E s := fun Γ p _ => by rw [Sem.wp_release]; exact h
theorem wpAny_operate' {M : Model} {vs : List Value} {m : Sem Value} {Q : Value → Shared → Prop} (h : wpAny M A m Q E s) : wpAny M A (operate vs m) Q E s := fun Γ p hΓ => by rw [Sem.wp_operate]; exact h Γ p hΓ
theorem pcmp1_sound (S : ESound prog w K P G k rec) {l r : Expr} {op : CmpOp} {c : Bool} (h : pcmp1 rec nm ρ l op r = some c) (H : Here K P G Λ k A O env nm ρ s) {Q : Value → Shared → Prop} (hQ : ∀ s', Grow P s s' → Q (.bool c) s') :
    behindInMarks op r = false ∧ wpAny (model prog w) A (eval l env) (fun a s₁ => wpAny (model prog w) A (eval r env) (fun b s₂ => wpAny (model prog w) A (compareOp op a b) Q E s₂) E s₁) E s := by
  unfold pcmp1 at h
  split at h
  · rename_i hn
    refine ⟨noSet_marks hn, ?_⟩
    split at h
    · rename_i a ha
      split at h
      · rename_i b hb
        refine S _ _ _ _ ha A O env s _ E H fun va s₁ g₁ r₁ => ?_
        refine S _ _ _ _ hb A O env s₁ _ E (H.grow g₁) fun vb s₂ g₂ r₂ => ?_
        exact cmpF_sound (O := O) H.roomW h (Rep.grow H.hP g₂ r₁) r₂ (hQ _ (g₁.trans g₂))
      · exact no h
    · exact no h
  · exact no h
theorem chain_tail (S : ESound prog w K P G k rec) {q : Expr} {op op2 : CmpOp} {a b : PyData} {va vb : Value} {c c1 : Bool} {pos : Pos} (h1 : cmpF op a b = some c1) (ht : c1 = true → ∃ d, rec nm ρ q = some d ∧ cmpF op2 b d = some c) (hf : c1 = false → c = false) (H : Here K P G Λ k A O env nm ρ s) (ra : Rep O s.heap a va) (rb : Rep O s.heap b vb) {Q : Value → Shared → Prop} (hQ : ∀ s', Grow P s s' → Q (.bool c) s') :
    wpAny (model prog w) A (do
      let c ← holding [va, vb] (compareOp op va vb)
      release [va, vb] [c]
      if ← holding [c, vb] (truthy c) then compareChain pos vb [op2] [eval q env] else pure c) Q E s := by
  refine wpAny_bind (wpAny_holding (cmpF_sound (O := O) H.roomW h1 ra rb ?_))
  refine wpAny_bind (wpAny_release' ?_)
  refine wpAny_bind (wpAny_holding (wpAny_truthy_bool ?_))
  cases c1 with
  | true =>
    obtain ⟨d, hd1, hd2⟩ := ht rfl
    simp only [if_true]
    unfold compareChain
    refine wpAny_bind (wpAny_holding (S _ _ _ _ hd1 A O env s _ E H fun vd s₃ g₃ r₃ => ?_))
    refine wpAny_bind (wpAny_standAt ?_)
    exact wpAny_operate' (cmpF_sound (O := O) H.roomW hd2 (Rep.grow H.hP g₃ rb) r₃ (hQ _ g₃))
  | false =>
    rw [hf rfl] at hQ
    simp only [Bool.false_eq_true, if_false]
    exact wpAny_pure (hQ _ Grow.refl)
theorem pcmp2_sound (S : ESound prog w K P G k rec) {l r q : Expr} {op op2 : CmpOp} {c : Bool} {pos : Pos} (h : pcmp2 rec nm ρ l op op2 r q = some c) (H : Here K P G Λ k A O env nm ρ s) {Q : Value → Shared → Prop} (hQ : ∀ s', Grow P s s' → Q (.bool c) s') :
    wpAny (model prog w) A (eval (.Compare l [op, op2] [r, q] pos) env) Q E s := by
  unfold pcmp2 at h
  split at h
  · rename_i hn
    split at h
    · rename_i a ha
      split at h
      · rename_i b hb
        show wpAny (model prog w) A (do compareChain _ (← eval l env) [op, op2] [eval r env, markedBehindIn op2 q (eval q env)]) Q E s
        rw [markedBehindIn_of_false (noSet_marks hn)]
        refine wpAny_bind (S _ _ _ _ ha A O env s _ E H fun va s₁ g₁ r₁ => ?_)
        unfold compareChain
        refine wpAny_bind (wpAny_holding (S _ _ _ _ hb A O env s₁ _ E (H.grow g₁) fun vb s₂ g₂ r₂ => ?_))
        refine wpAny_bind (wpAny_standAt ?_)
        have fin := fun c1 h1 ht hf => chain_tail (E := E) (op := op) (pos := pos) (c := c) (c1 := c1) (q := q) (op2 := op2) S h1 ht hf (H.grow (g₁.trans g₂)) (Rep.grow H.hP g₂ r₁) r₂ fun s₃ g₃ => hQ s₃ ((g₁.trans g₂).trans g₃)
        split at h
        · rename_i hc
          split at h
          · rename_i d hd
            exact fin true hc (fun _ => ⟨d, hd, h⟩) nofun
          · exact no h
        · rename_i hc
          exact fin false hc nofun (fun _ => (Option.some.inj h).symm)
        · exact no h
      · exact no h
    · exact no h
  · exact no h
theorem compare_val (S : ESound prog w K P G k rec) {l : Expr} {ops : List CmpOp} {rs : List Expr} {c : Bool} {pos : Pos} (h : pcompare rec nm ρ l ops rs = some c) (H : Here K P G Λ k A O env nm ρ s) {Q : Value → Shared → Prop} (hQ : ∀ s', Grow P s s' → Q (.bool c) s') :
    wpAny (model prog w) A (eval (.Compare l ops rs pos) env) Q E s := by
  obtain ⟨op, os, e1, h1⟩ := onC_some h
  obtain ⟨r, qs, e2, h2⟩ := onC_some h1
  clear h h1
  subst e1 e2
  cases os with
  | nil =>
    obtain ⟨e3, h3⟩ := on0_some h2
    clear h2
    subst e3
    obtain ⟨h4, h5⟩ := pcmp1_sound (E := E) S h3 H hQ
    exact wpAny_Compare1 h5 h4
  | cons op2 os =>
    obtain ⟨e3, h3⟩ := on0_some h2
    obtain ⟨q, e4, h4⟩ := on1_some h3
    clear h2 h3
    subst e3 e4
    exact pcmp2_sound S h4 H hQ
end
end Mine
end
section
open PySem PySem.Spec PySem.Calls PyProof.Rows PySem.W
namespace Mine
variable [Inhabited Base]
variable {K : Frag} {P : Addr} {G : Str → Option Value} {Λ : List Addr}
section
variable {prog : Program} {w : World} {k : Nat} {A : Around} {E : Value → Shared → Prop} {O : List Addr} {env : Env} {nm : NK} {ρ : En} {s : Shared} {rec : NK → En → Expr → Option PyData}

theorem truth_val (S : ESound prog w K P G k rec) {e : Expr} {c : Bool} (h : bindT (rec nm ρ e) truthF = some c) (H : Here K P G Λ k A O env nm ρ s) {Q : Bool → Shared → Prop} (hQ : ∀ s', Grow P s s' → Q c s') (p : Pos) :
    wpAny (model prog w) A (do let v ← eval e env; standAt p; holding [v] (truthy v)) Q E s := by
  unfold bindT at h
  split at h
  · rename_i d hd
    refine wpAny_bind (S _ _ _ _ hd A O env s _ E H fun v s₁ g₁ r₁ => wpAny_bind (wpAny_standAt (wpAny_holding ?_)))
    exact truthF_sound h r₁ fun s₂ g₂ => hQ _ (g₁.trans g₂)
  · exact no h
/-- a test's test -/
noncomputable def TSound (prog : Program) (w : World) (K : Frag) (P : Addr) (G : Str → Option Value) (k : Nat) (nm : NK) (ρ : En) (t : Expr → Option Bool) : Prop :=
  ∀ {e : Expr} {c : Bool}, t e = some c → ∀ {Λ : List Addr} {A : Around} {O : List Addr} {env : Env} {s : Shared} {Q : Bool → Shared → Prop} {E : Value → Shared → Prop}, Here K P G Λ k A O env nm ρ s → (∀ s', Grow P s s' → Q c s') → wpAny (model prog w) A (isTrue e env (eval e env)) Q E s
theorem pair_and {t : Expr → Option Bool} (T : TSound prog w K P G k nm ρ t) {x y : Expr} {c : Bool} (h : andO (t x) (t y) = some c) (H : Here K P G Λ k A O env nm ρ s) {Q : Bool → Shared → Prop} (hQ : ∀ s', Grow P s s' → Q c s') (p : Pos) : wpAny (model prog w) A (isTrue (.BoolOp .And [x, y] p) env (eval (.BoolOp .And [x, y] p) env)) Q E s := by
  show wpAny (model prog w) A (do match BoolOp.And, ← isTrue x env (eval x env) with | BoolOp.And, false => pure false | BoolOp.Or, true => pure true | _, _ => (do match BoolOp.And, ← isTrue y env (eval y env) with | BoolOp.And, false => pure false | BoolOp.Or, true => pure true | _, _ => pure true)) Q E s
  unfold andO at h
  split at h
  · rename_i hb
    refine wpAny_bind (T hb H fun s₁ g₁ => wpAny_bind (T h (H.grow g₁) fun s₂ g₂ => ?_))
    cases c
    · exact wpAny_pure (hQ _ (g₁.trans g₂))
    · exact wpAny_pure (hQ _ (g₁.trans g₂))
  · rename_i hb
    rw [← Option.some.inj h] at hQ
    exact wpAny_bind (T hb H fun s₁ g₁ => wpAny_pure (hQ _ g₁))
  · exact no h
theorem pair_or {t : Expr → Option Bool} (T : TSound prog w K P G k nm ρ t) {x y : Expr} {c : Bool} (h : orO (t x) (t y) = some c) (H : Here K P G Λ k A O env nm ρ s) {Q : Bool → Shared → Prop} (hQ : ∀ s', Grow P s s' → Q c s') (p : Pos) : wpAny (model prog w) A (isTrue (.BoolOp .Or [x, y] p) env (eval (.BoolOp .Or [x, y] p) env)) Q E s := by
  show wpAny (model prog w) A (do match BoolOp.Or, ← isTrue x env (eval x env) with | BoolOp.And, false => pure false | BoolOp.Or, true => pure true | _, _ => (do match BoolOp.Or, ← isTrue y env (eval y env) with | BoolOp.And, false => pure false | BoolOp.Or, true => pure true | _, _ => pure false)) Q E s
  unfold orO at h
  split at h
  · rename_i hb
    rw [← Option.some.inj h] at hQ
    exact wpAny_bind (T hb H fun s₁ g₁ => wpAny_pure (hQ _ g₁))
  · rename_i hb
    refine wpAny_bind (T hb H fun s₁ g₁ => wpAny_bind (T h (H.grow g₁) fun s₂ g₂ => ?_))
    cases c
    · exact wpAny_pure (hQ _ (g₁.trans g₂))
    · exact wpAny_pure (hQ _ (g₁.trans g₂))
  · exact no h
theorem not_one {t : Expr → Option Bool} (T : TSound prog w K P G k nm ρ t) {op : UnaryOp} {x : Expr} {c : Bool} (h : notOp op (t x) = some c) (H : Here K P G Λ k A O env nm ρ s) {Q : Bool → Shared → Prop} (hQ : ∀ s', Grow P s s' → Q c s') (p : Pos) : wpAny (model prog w) A (isTrue (.UnaryOp op x p) env (eval (.UnaryOp op x p) env)) Q E s := by
  cases op with
  | Not =>
    have h : notO (t x) = some c := h
    unfold notO at h
    split at h
    · rename_i b hb
      rw [← Option.some.inj h] at hQ
      show wpAny (model prog w) A (do return !(← isTrue x env (eval x env))) Q E s
      exact wpAny_bind (T hb H fun s' g => wpAny_pure (hQ s' g))
    · exact no h
  | _ => exact no h
theorem const_true {c : Const} {b : Bool} {kk : Nat} {p : Pos} (h : onT (isTrueC c) (some true) = some b) (H : Here K P G Λ k A O env nm ρ s) {Q : Bool → Shared → Prop} (hQ : ∀ s', Grow P s s' → Q b s') : wpAny (model prog w) A (isTrue (.Constant c kk p) env (eval (.Constant c kk p) env)) Q E s := by
  obtain ⟨hc, h1⟩ := onT_some h
  rw [← Option.some.inj h1] at hQ
  cases c with
  | bool v =>
    have hv : v = true := hc
    subst hv
    show wpAny (model prog w) A (do let v ← eval (.Constant (.bool true) kk p) env; standAt _; holding [v] (truthy v)) Q E s
    rw [eval_Constant]
    exact wpAny_bind (wpAny_pure (wpAny_bind (wpAny_standAt (wpAny_holding (wpAny_truthy_bool (hQ _ Grow.refl))))))
  | _ => exact noB hc
theorem ptest1_sound (S : ESound prog w K P G k rec) {t : Expr → Option Bool} (T : TSound prog w K P G k nm ρ t) : TSound prog w K P G k nm ρ (ptest1 rec nm ρ t) := by
  intro e c h Λ A O env s Q E H hQ
  cases e with
  | UnaryOp op x p => exact not_one T h H hQ p
  | BoolOp op es p =>
    obtain ⟨x, y, e, h1⟩ := on2_some (f := fun x y => boolO op (t x) (t y)) h
    clear h
    subst e
    cases op with
    | And => exact pair_and T h1 H hQ p
    | Or => exact pair_or T h1 H hQ p
  | Compare l ops rs p =>
    obtain ⟨op, e, h1⟩ := on1_some (f := fun op => on1 rs fun r => pcmp1 rec nm ρ l op r) h
    obtain ⟨r, e1, h2⟩ := on1_some h1
    clear h h1
    subst e e1
    obtain ⟨h3, h4⟩ := pcmp1_sound (E := E) (Q := fun v s' => wpAny (model prog w) A (truthy v) Q E s') S h2 H fun s' g => wpAny_truthy_bool (hQ s' g)
    exact wpAny_isTrue_Compare1 h4 h3
  | Name x p => exact truth_val S h H hQ _
  | Call f as ks p => exact truth_val S h H hQ _
  | Constant c kk p => exact const_true h H hQ
  | _ => exact no h
theorem ptest_sound (S : ESound prog w K P G k rec) : ∀ (n : Nat) {e : Expr} {c : Bool} {s : Shared} {Q : Bool → Shared → Prop}, ptest rec nm ρ n e = some c → Here K P G Λ k A O env nm ρ s →
    (∀ s', Grow P s s' → Q c s') → wpAny (model prog w) A (isTrue e env (eval e env)) Q E s := by
  have key : ∀ n : Nat, TSound prog w K P G k nm ρ (ptest rec nm ρ n) := fun n => by
    induction n with
    | zero => intro e c h; exact no h
    | succ n ih => exact ptest1_sound S ih
  intro n e c s Q h H hQ
  exact key n h H hQ

/-- a call by a global name, whatever the arguments bear -/
theorem callName_gen {f : Str} {fv : Value} {fp pos : Pos} {args : List Expr} {Pv : List Value → Shared → Prop} {Q : Value → Shared → Prop}
    (H : Here K P G Λ k A O env nm ρ s) (hk : getK nm f = some .globalImplicit) (hg : G f = some fv) (hc : Callee K fv) (hpl : ∀ e ∈ args, noStar e = true)
    (hev : ∀ (Q' : List Value → Shared → Prop), (∀ vs s', Grow P s s' → Pv vs s' → Q' vs s') → wpAny (model prog w) A (spliced (backTo pos (starEach args env))) Q' E s)
    (hnil : args = [] → Pv [] s)
    (hcall : ∀ vs s', Grow P s s' → Pv vs s' → wpAny (model prog w) A (call fv vs) Q E s') : wpAny (model prog w) A (eval (.Call (.Name f fp) args [] pos) env) Q E s := by
  refine wpAny_Call_Name_kw (global_sound H.toHereW hk hg ?_)
  show wpAny (model prog w) A (callWith pos fv [] (backTo pos (starEach args env)) []) Q E s
  have key : ∀ (Q' : Args → Shared → Prop), (∀ vs s', Grow P s s' → Pv vs s' → Q' ⟨vs, []⟩ s') → wpAny (model prog w) A (evalArgs fv true (backTo pos (starEach args env)) []) Q' E s := by
    intro Q' h'
    cases args with
    | nil => exact PySem.evalArgs_none (h' _ _ Grow.refl (hnil rfl))
    | cons e r =>
      have hx := hpl e List.mem_cons_self
      have e1 := starEach_cons (env := env) (r := r) hx
      have := hev (fun vs s' => Q' ⟨vs, []⟩ s') h'
      rw [e1] at this ⊢
      exact evalArgs_plain this
  cases hc with
  | @fn a o fd h1 h2 =>
    refine Calls.callWith_function (o := o) (fd := fd) (key (fun x s₁ => (s₁.heap.get? a = some o ∧ o.data = Data.func fd) ∧ wpAny (model prog w) A (call (.ref a) ([] ++ x.pos) x.kw) Q E s₁) fun vs s₁ g₁ r₁ => ?_)
    exact ⟨⟨(H.wf.grow g₁).X _ _ h1, h2⟩, hcall vs s₁ g₁ r₁⟩
  | bi id => exact Calls.callWith_builtin (starEach_plain hpl) (key _ fun vs s₁ g₁ r₁ => hcall vs s₁ g₁ r₁)
  | ty T => exact PySem.callWith_type (starEach_plain hpl) (key _ fun vs s₁ g₁ r₁ => hcall vs s₁ g₁ r₁)
/-- a call by a global name -/
theorem callName_raw (S : ESound prog w K P G k rec) {f : Str} {fv : Value} {fp pos : Pos} {args : List Expr} {ds : List PyData} {Q : Value → Shared → Prop}
    (H : Here K P G Λ k A O env nm ρ s) (hk : getK nm f = some .globalImplicit) (hg : G f = some fv) (hc : Callee K fv) (ha : pevs rec nm ρ args = some ds)
    (hcall : ∀ vs s', Grow P s s' → Reps O s'.heap ds vs → wpAny (model prog w) A (call fv vs) Q E s') : wpAny (model prog w) A (eval (.Call (.Name f fp) args [] pos) env) Q E s :=
  callName_gen H hk hg hc (pevs_plain ha) (Pv := fun vs s' => Reps O s'.heap ds vs) (fun Q' h => pevs_sound S ha H h) (fun e => by subst e; unfold pevs at ha; cases ha; exact Reps.nil) hcall
theorem callName_sound {Φ : Orc} (S : ESound prog w K P G k rec) (C : CallsOk prog w K P G k Φ) {f : Str} {fp pos : Pos} {args : List Expr} {ds : List PyData} {d : PyData} {Q : Value → Shared → Prop}
    (H : Here K P G Λ k A O env nm ρ s) (hk : getK nm f = some .globalImplicit) (ha : pevs rec nm ρ args = some ds) (hd : Φ f ds = some d)
    (hQ : ∀ v s', Grow P s s' → Rep O s'.heap d v → Q v s') : wpAny (model prog w) A (eval (.Call (.Name f fp) args [] pos) env) Q E s := by
  obtain ⟨fv, hg, hc, hok⟩ := C.calls f ds d hd
  exact callName_raw S H hk hg hc ha fun vs s₁ g₁ r₁ => hok A O s₁ vs Q E H.room (H.grow g₁).tk H.hP (H.grow g₁).lt (H.wf.grow g₁) r₁ fun v s₂ g₂ r₂ => hQ v s₂ (g₁.trans g₂) r₂
end
end Mine
end
section
open PySem PySem.Spec PySem.Calls PyProof.Rows PySem.W
namespace Mine
variable [Inhabited Base]
variable {K : Frag} {P : Addr} {G : Str → Option Value} {Λ : List Addr}
section
variable {prog : Program} {w : World} {k : Nat} {A : Around} {E : Value → Shared → Prop} {O : List Addr} {env : Env} {nm : NK} {ρ : En} {s : Shared} {rec : NK → En → Expr → Option PyData}

theorem strsOf_vals {h : Heap} : ∀ {xs : List PyData} {ts : List Str} {vs : List Value}, strsOf xs = some ts → Reps O h xs vs → ∃ l : List (Str × Tok), vs = strValues l ∧ l.map (·.1) = ts
  | [], ts, vs, e, r => by unfold strsOf at e; cases e; unfold Reps at r; subst r; exact ⟨[], rfl, rfl⟩
  | d :: xs, ts, vs, e, r => by
    unfold strsOf at e
    split at e
    · rename_i he; cases he
    · rename_i y r' he
      injection he with h1 h2
      subst h1 h2
      split at e
      · rename_i l hl
        cases e
        unfold Reps at r
        obtain ⟨v, rr, rfl, h1, h2⟩ := r
        obtain ⟨t, rfl⟩ := h1.str_inv
        obtain ⟨l', rfl, rfl⟩ := strsOf_vals hl h2
        exact ⟨(y, t) :: l', rfl, rfl⟩
      · cases e
    · cases e

theorem sum_foldl (c : Nat) : ∀ (ts : List Str) (a : Nat), (∀ x ∈ ts, x.length ≤ 100) → List.foldl (fun n x => n + x.length + c) a ts ≤ a + ts.length * (100 + c)
  | [], a, _ => by simp
  | x :: r, a, h => by
    have := sum_foldl c r (a + x.length + c) fun y hy => h y (List.mem_cons_of_mem _ hy)
    have hx := h x List.mem_cons_self
    simp only [List.foldl_cons, List.length_cons, Nat.succ_mul]
    omega
theorem shortStr_le {x : Str} (h : shortStr x = true) : x.length ≤ 100 := Nat.le_of_ble_eq_true h
theorem joinOk_of {x : Str} {ts : List Str} (h : (shortStr x && Nat.ble ts.length 1000 && ts.all shortStr) = true) : JoinOk x ts = true := by
  simp only [Bool.and_eq_true, List.all_eq_true] at h
  unfold JoinOk
  rw [Bool.not_eq_true']
  unfold Builtin.Str.tooLong
  refine decide_eq_false ?_
  have h1 := shortStr_le h.1.1
  have h2 : ts.length ≤ 1000 := Nat.le_of_ble_eq_true h.1.2
  have h3 := sum_foldl x.length ts 0 fun y hy => shortStr_le (h.2 y hy)
  have h4 : ts.length * (100 + x.length) ≤ 1000 * 200 := Nat.mul_le_mul h2 (by omega)
  rw [List.foldl_toArray]
  have h5 : sizeLine = 16777216 := by decide
  omega

theorem gives_find4 (x y : Str) (t u a b : Tok) (i j : Nat) (hi : i ≤ x.cps.size) (hj : j ≤ x.cps.size) :
    Gives (Builtin.«str.find» ⟨[.str x t, .str y u, .int i a, .int j b], []⟩) (.int (match Builtin.Str.occurrences x y i j 1 with | k :: _ => (k : Int) | [] => -1)) := by
  show Gives (match Builtin.Str.occurrences x y (max 0 (if (i : Int) < 0 then (i : Int) + x.length else i)).toNat (min (max 0 (if (j : Int) < 0 then (j : Int) + x.length else j)).toNat x.length) 1 with | i :: _ => retInt i | [] => (do rule "str.find.not-found"; retInt (-1))) _
  have e1 : (max 0 (if (i : Int) < 0 then (i : Int) + x.length else i)).toNat = i := by
    rw [if_neg (by omega)]; omega
  have hj' : j ≤ x.length := hj
  have e2 : min (max 0 (if (j : Int) < 0 then (j : Int) + x.length else j)).toNat x.length = j := by
    rw [if_neg (by omega)]; omega
  rw [e1, e2]
  cases Builtin.Str.occurrences x y i j 1 with
  | nil => exact .rule (.of_eq rfl)
  | cons i _ => exact .of_eq rfl


theorem Reps.one {h : Heap} {a : PyData} {vs : List Value} (r : Reps O h [a] vs) : ∃ v, vs = [v] ∧ Rep O h a v := by
  unfold Reps at r
  obtain ⟨v, q, e, r1, r2⟩ := r
  unfold Reps at r2
  exact ⟨v, by rw [e, r2], r1⟩
theorem Reps.two {h : Heap} {a b : PyData} {vs : List Value} (r : Reps O h [a, b] vs) : ∃ v u, vs = [v, u] ∧ Rep O h a v ∧ Rep O h b u := by
  unfold Reps at r
  obtain ⟨v, q, e, r1, r2⟩ := r
  obtain ⟨u, e2, r3⟩ := r2.one
  exact ⟨v, u, by rw [e, e2], r1, r3⟩
theorem Reps.three {h : Heap} {a b c : PyData} {vs : List Value} (r : Reps O h [a, b, c] vs) : ∃ v u x, vs = [v, u, x] ∧ Rep O h a v ∧ Rep O h b u ∧ Rep O h c x := by
  unfold Reps at r
  obtain ⟨v, q, e, r1, r2⟩ := r
  obtain ⟨u, x, e2, r3, r4⟩ := r2.two
  exact ⟨v, u, x, by rw [e, e2], r1, r3, r4⟩
theorem joinM_sound {x : Str} {t : Tok} {ds : List PyData} {vs : List Value} {d : PyData} {Q : Value → Shared → Prop} (h : joinM x ds = some d) (rs : Reps O s.heap ds vs) (hQ : ∀ v s', Grow P s s' → Rep O s'.heap d v → Q v s') :
    wpAny (model prog w) A (call (.builtin "str.join") (.str x t :: vs)) Q E s := by
  obtain ⟨a, e1, h1⟩ := on1_some h
  obtain ⟨xs, e2, h2⟩ := dList_some h1
  obtain ⟨ts, hts, h3⟩ := onO_some h2
  obtain ⟨hg, h4⟩ := guard'_some h3
  clear h h1 h2 h3
  rw [← Option.some.inj h4] at hQ
  subst e1 e2
  obtain ⟨v, e3, r1⟩ := rs.one
  obtain ⟨D, its, e4, _, hl, hr⟩ := r1.list_inv
  obtain ⟨l, hl1, hl2⟩ := strsOf_vals hts hr
  clear rs r1 hr hts
  subst hl2
  have hits : its = (strValues l).toArray := by apply Array.ext'; simpa using hl1
  rw [hits] at hl
  have hok := joinOk_of hg
  unfold JoinOk at hok
  rw [Bool.not_eq_true'] at hok
  rw [e3, e4]
  exact wpAny_with_toks (Nat.le_refl _) (call_meets F.slot_str_join (typeIs_str _ _ _) F.entry_str_join (F.args_str_join_2 _ _) (meets_str_join_list x t D l hok) ⟨hl, post_join l ⟨joinFit_length hok, fun t' k ht => hQ _ _ (Grow.toks _ ht) Rep.str'⟩⟩)
theorem replM_some {x : Str} {ds : List PyData} {d : PyData} (h : replM x ds = some d) : ∃ y z, ds = [.str y, .str z] ∧ d = .str x ∧ (Builtin.Str.occurrences x y 0 x.length (x.length + 1)).isEmpty = true := by
  obtain ⟨a, b, e1, h1⟩ := on2_some h
  obtain ⟨y, e2, h2⟩ := dStr_some h1
  obtain ⟨z, e3, h3⟩ := dStr_some h2
  obtain ⟨hg, h4⟩ := guard'_some h3
  exact ⟨y, z, by rw [e1, e2, e3], (Option.some.inj h4).symm, (two_ble hg).2⟩
theorem replM_sound {x : Str} {t : Tok} {ds : List PyData} {vs : List Value} {d : PyData} {Q : Value → Shared → Prop} (h : replM x ds = some d) (rs : Reps O s.heap ds vs) (hQ : ∀ v s', Grow P s s' → Rep O s'.heap d v → Q v s') :
    wpAny (model prog w) A (call (.builtin "str.replace") (.str x t :: vs)) Q E s := by
  obtain ⟨y, z, e1, e2, he⟩ := replM_some h
  clear h
  subst e1 e2
  obtain ⟨v, v2, e3, r1, r2⟩ := rs.two
  obtain ⟨u, e4⟩ := r1.str_inv
  obtain ⟨u2, e5⟩ := r2.str_inv
  rw [e3, e4, e5]
  refine call_gives F.slot_str_replace (typeIs_str _ _ _) F.entry_str_replace (F.args_str_replace_3 _ _ _) (gives_str_replace x y z t u u2 fun e => by rw [he] at e; exact noB e.symm) ?_
  rw [he]
  simp only [Bool.true_or, if_true]
  exact hQ _ _ Grow.refl Rep.str'
theorem findM_sound {x : Str} {t : Tok} {ds : List PyData} {vs : List Value} {d : PyData} {Q : Value → Shared → Prop} (h : findM x ds = some d) (rs : Reps O s.heap ds vs) (hQ : ∀ v s', Grow P s s' → Rep O s'.heap d v → Q v s') :
    wpAny (model prog w) A (call (.builtin "str.find") (.str x t :: vs)) Q E s := by
  obtain ⟨a, r, e1, h1⟩ := onC_some h
  obtain ⟨b, c, e2, h2⟩ := on2_some h1
  obtain ⟨y, e3, h3⟩ := dStr_some h2
  obtain ⟨i', e4, h4⟩ := dInt_some h3
  obtain ⟨j', e5, h5⟩ := dInt_some h4
  obtain ⟨i, e6, h6⟩ := onNat_some h5
  obtain ⟨j, e7, h7⟩ := onNat_some h6
  obtain ⟨hg, h8⟩ := guard'_some h7
  clear h h1 h2 h3 h4 h5 h6 h7
  rw [← Option.some.inj h8] at hQ
  clear h8
  subst e1 e2 e3 e4 e5 e6 e7
  obtain ⟨v, v2, v3, e3, r1, r2, r3⟩ := rs.three
  obtain ⟨u, e4⟩ := r1.str_inv
  obtain ⟨u2, e5⟩ := r2.int_inv
  obtain ⟨u3, e6⟩ := r3.int_inv
  rw [e3, e4, e5, e6]
  exact call_gives F.slot_str_find (typeIs_str _ _ _) F.entry_str_find (F.args_str_find_4 _ _ _ _) (gives_find4 x y t u u2 u3 i j (Nat.le_of_ble_eq_true (two_ble hg).1) (Nat.le_of_ble_eq_true (two_ble hg).2)) (hQ _ _ (Grow.toks _) Rep.int')

/-- the call of a text's method on its arguments -/
theorem methF_sound {m : Str} {o d : PyData} {ds : List PyData} (h : methF m o ds = some d) :
    ∃ x id, o = .str x ∧ Slot "str" m id ∧ typeOf (.builtin id) = pure (.type "method_descriptor") ∧ ∀ {Q : Value → Shared → Prop} {s : Shared} {vs : List Value} {t : Tok}, Reps O s.heap ds vs → (∀ v s', Grow P s s' → Rep O s'.heap d v → Q v s') → wpAny (model prog w) A (call (.builtin id) (.str x t :: vs)) Q E s := by
  unfold methF at h
  split at h
  · rename_i x
    split at h
    · rename_i hm
      have hm := (nameEq_iff _ _).mp hm
      subst hm
      exact ⟨x, _, rfl, F.slot_str_join, F.type_str_join, fun rs hQ => joinM_sound h rs hQ⟩
    · split at h
      · rename_i hm
        have hm := (nameEq_iff _ _).mp hm
        subst hm
        exact ⟨x, _, rfl, F.slot_str_replace, F.type_str_replace, fun rs hQ => replM_sound h rs hQ⟩
      · split at h
        · rename_i hm
          have hm := (nameEq_iff _ _).mp hm
          subst hm
          exact ⟨x, _, rfl, F.slot_str_find, F.type_str_find, fun rs hQ => findM_sound h rs hQ⟩
        · cases h
  · cases h

theorem isAttr_eq {f : Expr} (h : isAttr f = true) : ∃ o m p, f = .Attribute o m p := by cases f <;> first | exact ⟨_, _, _, rfl⟩ | exact noB h
theorem plainBase_eq {o : Expr} {m : Str} {t : Sem Value} (h : plainBase o = true) : attributeBase o m env t = t := by
  cases o with
  | Name => rfl
  | Constant => rfl
  | Call f as ks p =>
    have h : (isAttr f && !as.isEmpty && ks.isEmpty) = true := h
    obtain ⟨h1, h2⟩ := two_ble h
    obtain ⟨h3, h4⟩ := two_ble h1
    obtain ⟨o', m', p', e⟩ := isAttr_eq h3
    clear h h1 h3
    subst e
    cases as with
    | nil => exact noB h4
    | cons a r => cases ks with
      | nil => rfl
      | cons k q => exact noB h2
  | _ => exact noB h

theorem callMeth_sound (S : ESound prog w K P G k rec) {o : Expr} {m : Str} {ap pos : Pos} {args : List Expr} {ds : List PyData} {od d : PyData} {Q : Value → Shared → Prop}
    (H : Here K P G Λ k A O env nm ρ s) (hb : plainBase o = true) (hl : lineEq ap pos = true) (ho : rec nm ρ o = some od) (ha : pevs rec nm ρ args = some ds) (hn : args.length ≤ 10) (hm : methF m od ds = some d)
    (hQ : ∀ v s', Grow P s s' → Rep O s'.heap d v → Q v s') : wpAny (model prog w) A (eval (.Call (.Attribute o m ap) args [] pos) env) Q E s := by
  obtain ⟨x, id, rfl, slot, hty, hok⟩ := methF_sound (prog := prog) (w := w) (A := A) (E := E) (P := P) (O := O) hm
  have hpl := starEach_plain (env := env) (pos := pos) (pevs_plain ha)
  refine wpAny_Call_method_lateS (plainBase_eq hb) ?_ ?_ (S _ _ _ _ ho A O env s _ E H fun ov s₁ g₁ r₁ => ?_)
  · simp only [Bool.and_eq_true, decide_eq_true_eq]
    refine ⟨⟨?_, rfl⟩, by simp; omega⟩
    rw [List.all_eq_true]
    intro y hy
    have := List.any_eq_false.mp hpl y hy
    simpa using this
  · exact beq_iff_eq.mpr (Nat.eq_of_beq_eq_true hl)
  · obtain ⟨t, rfl⟩ := r₁.str_inv
    refine ⟨"str", id, F.plainAttrs_str, slot, hty, typeIs_str _ _ _, (fun a e => nomatch e), ?_⟩
    have H₁ := H.grow g₁
    have key : ∀ (Q' : Args → Shared → Prop), (∀ vs s', Grow P s₁ s' → Reps O s'.heap ds vs → Q' ⟨vs, []⟩ s') → wpAny (model prog w) A (evalArgs (.builtin id) true (backTo pos (starEach args env)) []) Q' E s₁ := by
      intro Q' h'
      cases args with
      | nil =>
        unfold pevs at ha; cases ha
        exact PySem.evalArgs_none (h' _ _ Grow.refl Reps.nil)
      | cons e r =>
        have hx := pevs_plain ha e List.mem_cons_self
        have e1 := starEach_cons (env := env) (r := r) hx
        have := pevs_sound (A := A) (E := E) (pos := pos) S (Q := fun vs s' => Q' ⟨vs, []⟩ s') ha H₁ h'
        rw [e1] at this ⊢
        exact evalArgs_plain this
    exact Calls.callWith_builtin hpl (key _ fun vs s₂ g₂ r₂ => hok r₂ fun v s₃ g₃ r₃ => hQ v s₃ ((g₁.trans g₂).trans g₃) r₃)
end
end Mine
end
section
open PySem PySem.Spec PySem.Calls PyProof.Rows PySem.W
namespace Mine
variable [Inhabited Base]
variable {K : Frag} {P : Addr} {G : Str → Option Value} {Λ : List Addr}
section
variable {prog : Program} {w : World} {k : Nat} {A : Around} {E : Value → Shared → Prop} {O : List Addr} {env : Env} {nm : NK} {ρ : En} {s : Shared} {rec : NK → En → Expr → Option PyData}

theorem line_big : sizeLine = 16777216 := by decide
theorem constF_sound {c : Const} {d : PyData} {kk : Nat} {pos : Pos} {Q : Value → Shared → Prop} (h : constF c = some d) (hQ : ∀ v s', Grow P s s' → Rep O s'.heap d v → Q v s') : wpAny (model prog w) A (eval (.Constant c kk pos) env) Q E s := by
  rw [eval_Constant]
  unfold constF at h
  split at h
  · cases h; exact wpAny_pure (hQ _ _ Grow.refl Rep.none')
  · cases h; exact wpAny_pure (hQ _ _ Grow.refl Rep.bool')
  · cases h; exact wpAny_mkInt (hQ _ _ (Grow.toks _) Rep.int')
  · cases h; exact wpAny_mkText (hQ _ _ (Grow.toks _) Rep.str')
  · cases h

/-- an object that is made anew -/
theorem new_list {vs : List Value} {ds : List PyData} {Q : Value → Shared → Prop} (hlt : ∀ a ∈ O, a < s.heap.objs.size) (hP : P ∈ O) (r : Reps O s.heap ds vs) (hn : vs.length ≤ 100000) (hQ : ∀ v s', Grow P s s' → Rep O s'.heap (.list ds) v → Q v s') :
    wpAny (model prog w) A (newList vs) Q E s := by
  have g : Grow P s { s with heap := s.heap.push { cls := .type "list", data := .seq vs.toArray } } := Grow.push
  refine wpAny_newObj_type (hQ _ _ g (Rep.list' (fun hm => Nat.lt_irrefl _ (hlt _ hm)) ⟨_, Heap.get?_push_size _ rfl, rfl, _, rfl⟩ (Reps.grow hP g r))) ?_
  show vs.toArray.size ≤ sizeLine
  rw [List.size_toArray, line_big]; omega
theorem new_tuple {vs : List Value} {ds : List PyData} {Q : Value → Shared → Prop} (hlt : ∀ a ∈ O, a < s.heap.objs.size) (hP : P ∈ O) (r : Reps O s.heap ds vs) (hn : vs.length ≤ 100000) (hQ : ∀ v s', Grow P s s' → Rep O s'.heap (.tuple ds) v → Q v s') :
    wpAny (model prog w) A (newTuple vs) Q E s := by
  have g : Grow P s { s with heap := s.heap.push { cls := .type "tuple", data := .seq vs.toArray } } := Grow.push
  refine wpAny_newObj_type (hQ _ _ g (Rep.tuple' (fun hm => Nat.lt_irrefl _ (hlt _ hm)) ⟨_, Heap.get?_push_size _ rfl, rfl, _, rfl⟩ (Reps.grow hP g r))) ?_
  show vs.toArray.size ≤ sizeLine
  rw [List.size_toArray, line_big]; omega

/-- the base of an item: borne, or a list of the def's own -/
noncomputable def BaseRep (P : Addr) (O : List Addr) (h : Heap) (d : PyData) (v : Value) : Prop := Rep O h d v ∨ ∃ xs, d = .list xs ∧ BRep P O h (.own xs) v
theorem BaseRep.grow {s s' : Shared} {d : PyData} {v : Value} (hP : P ∈ O) (x : BaseRep P O s.heap d v) (g : Grow P s s') : BaseRep P O s'.heap d v := by
  rcases x with x | ⟨xs, e, x⟩
  · exact .inl (Rep.grow hP g x)
  · exact .inr ⟨xs, e, x.grow hP g⟩
theorem BaseRep.ofList {h : Heap} {xs : List PyData} {v : Value} (hP : P ∈ O) (x : BaseRep P O h (.list xs) v) : ∃ a vs, v = .ref a ∧ a ≠ P ∧ h.IsList a vs ∧ Reps O h xs vs.toList := by
  rcases x with x | ⟨ys, e, x⟩
  · obtain ⟨a, vs, e, ha, h1, h2⟩ := x.list_inv
    exact ⟨a, vs, e, fun q => ha (q ▸ hP), h1, h2⟩
  · cases e; exact x
theorem pbase_sound (S : ESound prog w K P G k rec) {e : Expr} {d : PyData} {Q : Value → Shared → Prop} (h : pbase rec nm ρ e = some d) (H : Here K P G Λ k A O env nm ρ s) (hQ : ∀ v s', Grow P s s' → BaseRep P O s'.heap d v → Q v s') : wpAny (model prog w) A (eval e env) Q E s := by
  unfold pbase at h
  split at h
  · rename_i x p
    split at h
    · rename_i xs hb
      cases h
      obtain ⟨v, h1, h2⟩ := H.sees x _ hb
      exact load_sound H.toHereW h1 (hQ _ _ Grow.refl (.inr ⟨xs, rfl, h2⟩))
    · exact S _ _ _ _ h A O env s _ E H fun v s' g r => hQ v s' g (.inl r)
  · exact S _ _ _ _ h A O env s _ E H fun v s' g r => hQ v s' g (.inl r)

theorem subscripted_ops (slice : Expr) (o i : Value) : ∃ ops, subscripted slice false o i = operate ops (getItem o i) := by
  unfold subscripted
  split
  · exact ⟨_, rfl⟩
  · rename_i h; cases h
  · exact ⟨_, rfl⟩

/-- the tail of an item's read -/
theorem tail_sound {value slice : Expr} {ov iv : Value} {T id : String} {Q : Value → Shared → Prop} (hT : s.TypeIs ov T) (hl : typeLookup (.type T) "__getitem__" = pure (some (.builtin id))) (hg : wpAny (model prog w) A (getItem ov iv) Q E s) : wpAny (model prog w) A (subscriptTail value slice ov iv) Q E s := by
  obtain ⟨ops, e⟩ := subscripted_ops slice ov iv
  exact PyProof.Rows.tail_any hT hl hg e
theorem item_tail {value slice : Expr} {o i d : PyData} {ov iv : Value} {Q : Value → Shared → Prop} (hP : P ∈ O) (h : itemF o i = some d) (ro : BaseRep P O s.heap o ov) (ri : Rep O s.heap i iv) (hQ : ∀ v s', Grow P s s' → Rep O s'.heap d v → Q v s') : wpAny (model prog w) A (subscriptTail value slice ov iv) Q E s := by
  have h' := h
  unfold itemF at h
  split at h
  · rename_i k
    obtain ⟨u, rfl⟩ := ri.int_inv
    split at h
    · split at h
      · obtain ⟨a, vs, rfl, _, hl, hr⟩ := ro.ofList hP
        exact tail_sound hl.typeIs slot_list_getitem.lookup (itemList_sound h' hl hr hQ)
      · rcases ro with ro | ⟨xs, e, _⟩
        · obtain ⟨a, vs, rfl, _, hl, hr⟩ := ro.tuple_inv
          exact tail_sound (T := "tuple") (let ⟨o, ho, hc, _⟩ := hl; ⟨o, ho, hc⟩) slot_tuple_getitem.lookup (itemF_sound h' ro ri hQ)
        · cases e
      · rcases ro with ro | ⟨xs, e, _⟩
        · obtain ⟨t, rfl⟩ := ro.str_inv
          exact tail_sound (typeIs_str _ _ _) F.slot_str_getitem.lookup (itemF_sound h' ro ri hQ)
        · cases e
      · cases h
    · cases h
  · cases h

inductive PartIs : Value → Option Int → Prop
  | none : PartIs .none none
  | int (i : Int) (t : Tok) : PartIs (.int i t) (some i)
theorem optInt_sound (S : ESound prog w K P G k rec) {e : Option Expr} {l : Option Int} {Q : Value → Shared → Prop} (h : optInt rec nm ρ e = some l) (H : Here K P G Λ k A O env nm ρ s) (hQ : ∀ v s', Grow P s s' → PartIs v l → Q v s') : wpAny (model prog w) A (evalPart e env) Q E s := by
  unfold optInt at h
  split at h
  · cases h; exact wpAny_pure (hQ _ _ Grow.refl .none)
  · split at h
    · rename_i e i hi
      cases h
      refine S _ _ _ _ hi A O env s _ E H fun v s' g r => ?_
      obtain ⟨t, rfl⟩ := r.int_inv
      exact hQ _ _ g (.int _ _)
    · cases h

theorem slicePick_take (items : Array Value) (k : Nat) : slicePick items none (some (k : Int)) none = (items.toList.take k).toArray := by
  have e : slicePick items none (some (k : Int)) none = slicePick items (some ((0 : Nat) : Int)) (some ((min k items.size : Nat) : Int)) none := by
    have e1 : sliceBounds none (some (k : Int)) none items.size = sliceBounds (some ((0 : Nat) : Int)) (some ((min k items.size : Nat) : Int)) none items.size := by
      have h1 : ¬ ((k : Int) < 0) := by omega
      have h2 : ¬ (((min k items.size : Nat) : Int) < 0) := by omega
      have h3 : (1 : Int) > 0 := by decide
      simp only [sliceBounds, Option.getD_none, h1, h2, h3, if_true, if_false, Prod.mk.injEq, and_true]
      refine ⟨?_, ?_⟩
      · simp; omega
      · omega
    unfold slicePick
    rw [e1]
  rw [e, slicePick_run items 0 (min k items.size) (Nat.min_le_right _ _) (Nat.zero_le _)]
  simp only [List.drop_zero, Nat.sub_zero]
  congr 1
  rw [Nat.min_def]
  split
  · rfl
  · rename_i h
    have : items.toList.length = items.size := by simp
    rw [List.take_of_length_le (by omega), List.take_of_length_le (by omega)]
theorem Reps.take {h : Heap} : ∀ {ds : List PyData} {vs : List Value} (n : Nat), Reps O h ds vs → Reps O h (ds.take n) (vs.take n)
  | _, _, 0, _ => by simpa using Reps.nil
  | [], vs, n + 1, x => by unfold Reps at x; subst x; simpa using Reps.nil
  | d :: ds, vs, n + 1, x => by
    unfold Reps at x
    obtain ⟨v, r, rfl, h1, h2⟩ := x
    simpa using Reps.cons h1 (Reps.take n h2)

theorem slice_sound (S : ESound prog w K P G k rec) {v : Expr} {lo hi : Option Expr} {sp pos : Pos} {o d : PyData} {l u : Option Int} {Q : Value → Shared → Prop} (hb : pbase rec nm ρ v = some o) (h1 : optInt rec nm ρ lo = some l) (h2 : optInt rec nm ρ hi = some u) (h : sliceF o l u = some d)
    (H : Here K P G Λ k A O env nm ρ s) (hQ : ∀ v s', Grow P s s' → Rep O s'.heap d v → Q v s') : wpAny (model prog w) A (eval (.Subscript v (.Slice lo hi none sp) pos) env) Q E s := by
  refine Subscript_ (pbase_sound S hb H fun ov s₁ g₁ r₁ => wpAny_Slice (optInt_sound S h1 (H.grow g₁) fun vl s₂ g₂ p₁ => optInt_sound S h2 (H.grow (g₁.trans g₂)) fun vu s₃ g₃ p₂ => wpAny_pure ?_))
  have g₄ : Grow P s₃ { s₃ with heap := s₃.heap.push { cls := .type "slice", data := .fields #[vl, vu, .none] } } := Grow.push
  have H₃ := H.grow ((g₁.trans g₂).trans g₃)
  have r₃ := BaseRep.grow H.hP r₁ ((g₂.trans g₃).trans g₄)
  unfold sliceF at h
  split at h
  · rename_i x
    obtain ⟨hg, h⟩ := guard'_some h
    cases h
    have hz := strFit_le hg
    have hz' : x.length ≤ sizeLine := by rw [line_big]; omega
    rcases r₃ with ro | ⟨xs, e, _⟩
    · obtain ⟨t, rfl⟩ := ro.str_inv
      refine wpAny_with_toks (Nat.le_refl _) ?_
      generalize hQ' : (fun (a : Value) (s' : Shared) => s₃.toks ≤ s'.toks → Q a s') = Q'
      generalize (fun (e : Value) (s' : Shared) => s₃.toks ≤ s'.toks → E e s') = E'
      have fin : ∀ h' t' k, (∀ b o, s₃.heap.get? b = some o → h'.get? b = some o) ∧ s₃.heap.objs.size ≤ h'.objs.size → Q' (.str (Txt.slice x l u) t') { s₃ with heap := h', toks := k } := fun h' t' k hk => hQ' ▸ fun ht =>
        hQ _ _ (((g₁.trans g₂).trans g₃).trans (Grow.of_keep hk.1 hk.2 ht)) Rep.str'
      have hk : KeptH (fun h' : Heap => (∀ b o, s₃.heap.get? b = some o → h'.get? b = some o) ∧ s₃.heap.objs.size ≤ h'.objs.size) := fun h' ob hh => ⟨fun b o e => Heap.get?_push_of_some _ (hh.1 b o e), by rw [Heap.size_push]; have := hh.2; omega⟩
      have hI : (fun h' : Heap => (∀ b o, s₃.heap.get? b = some o → h'.get? b = some o) ∧ s₃.heap.objs.size ≤ h'.objs.size) s₃.heap := ⟨fun _ _ e => e, Nat.le_refl _⟩
      cases p₁ with
      | none => cases p₂ with
        | none => obtain ⟨T, id, a, b, c⟩ := SBH.sliceItem_nn (prog := prog) (w := w) (A := A) (E := E') (Q := Q') (t := t) hk hI fin hz'; exact tail_sound b a c
        | int j u => obtain ⟨T, id, a, b, c⟩ := SBH.sliceItem_ns (prog := prog) (w := w) (A := A) (E := E') (Q := Q') (t := t) (uj := u) hk hI fin hz'; exact tail_sound b a c
      | int i ui => cases p₂ with
        | none => obtain ⟨T, id, a, b, c⟩ := SBH.sliceItem_sn (prog := prog) (w := w) (A := A) (E := E') (Q := Q') (t := t) (ui := ui) hk hI fin hz'; exact tail_sound b a c
        | int j u => obtain ⟨T, id, a, b, c⟩ := SBH.sliceItem_ss (prog := prog) (w := w) (A := A) (E := E') (Q := Q') (t := t) (ui := ui) (uj := u) hk hI fin hz'; exact tail_sound b a c
    · cases e
  · rename_i xs
    split at h
    · rename_i k
      obtain ⟨hg, h⟩ := guard'_some h
      cases h
      obtain ⟨a, vs, rfl, _, hl, hr⟩ := r₃.ofList H.hP
      have hlen := hr.length
      simp only [Array.length_toList] at hlen
      have hx : xs.length ≤ 2097152 := Nat.le_of_ble_eq_true (Bool.and_eq_true_iff.mp hg).2
      cases p₁
      cases p₂ with
      | int _ u =>
      refine tail_sound hl.typeIs slot_list_getitem.lookup (wpAny_getItem_list_slice hl (Heap.IsSliceOf.new _ _ _ _) .none (.int _ _) .none (by intro e; cases e) ?_ (by rw [line_big, hlen]; omega))
      have g₅ : Grow P { s₃ with heap := s₃.heap.push { cls := .type "slice", data := .fields #[.none, .int (Int.ofNat k) u, .none] } } _ := Grow.push (o := { cls := .type "list", data := .seq (slicePick vs none (some (Int.ofNat k)) none) })
      refine hQ _ _ ((((g₁.trans g₂).trans g₃).trans g₄).trans g₅) ?_
      refine Rep.list' (fun hm => ?_) ⟨_, Heap.get?_push_size _ rfl, rfl, _, rfl⟩ (Reps.grow H.hP g₅ ?_)
      · exact Nat.lt_irrefl _ ((H₃.grow g₄).lt _ hm)
      · show Reps O _ _ (slicePick vs none (some (k : Int)) none).toList
        rw [slicePick_take]
        exact Reps.take k hr
    · cases h
  · cases h
end
end Mine
end
section
open PySem PySem.Spec PySem.Calls PyProof.Rows PySem.W
namespace Mine
variable [Inhabited Base]
variable {K : Frag} {P : Addr} {G : Str → Option Value} {Λ : List Addr}

/-- all that stood stays, but what is in N (and the table, that may grow) -/
structure GrowB (P : Addr) (N : List Addr) (s s' : Shared) : Prop where
  keep : ∀ b o, b ≠ P → b ∉ N → Firm b o → s.heap.get? b = some o → s'.heap.get? b = some o
  frm : ∀ b o, b ≠ P → b ∉ N → s.heap.get? b = some o → ∃ sl, s'.heap.get? b = some { o with slots := sl }
  tab : ∀ ps, s.heap.get? P = some (tabObj ps) → TriplesOk ps.toList → ∃ more, s'.heap.get? P = some (tabObj (ps ++ more)) ∧ TriplesOk (ps ++ more).toList
  os : s'.os = s.os
  gens : AllBare s.gens → AllBare s'.gens
  size : s.heap.objs.size ≤ s'.heap.objs.size
  tks : s.toks ≤ s'.toks
section
variable {N N' : List Addr} {s s' s'' : Shared}
theorem GrowB.of (g : Grow P s s') : GrowB P N s s' := ⟨fun b o h _ f e => g.keep b o h f e, fun b o h _ e => g.frm b o h e, g.tab, g.os, g.gens, g.size, g.tks⟩
theorem GrowB.refl : GrowB P N s s := GrowB.of Grow.refl
theorem GrowB.trans (a : GrowB P N s s') (b : GrowB P N s' s'') : GrowB P N s s'' :=
  ⟨fun c o h hn f e => b.keep c o h hn f (a.keep c o h hn f e), fun c o h hn e => by
    obtain ⟨sl, h1⟩ := a.frm c o h hn e
    obtain ⟨sl', h2⟩ := b.frm c _ h hn h1
    exact ⟨sl', h2⟩, fun ps e t => by
    obtain ⟨m1, e1, t1⟩ := a.tab ps e t
    obtain ⟨m2, e2, t2⟩ := b.tab _ e1 t1
    exact ⟨m1 ++ m2, by rw [← Array.append_assoc]; exact e2, by rw [← Array.append_assoc]; exact t2⟩,
    b.os.trans a.os, fun h => b.gens (a.gens h), Nat.le_trans a.size b.size, Nat.le_trans a.tks b.tks⟩
/-- what is new does not count -/
theorem GrowB.less (a : GrowB P N s s') (h : ∀ b, b ∈ N → b ∈ N' ∨ s.heap.objs.size ≤ b) : GrowB P N' s s' :=
  ⟨fun c o hc hn f e => a.keep c o hc (fun hm => (h c hm).elim hn fun q => Nat.not_le.mpr (Heap.lt_size e) q) f e, fun c o hc hn e => a.frm c o hc (fun hm => (h c hm).elim hn fun q => Nat.not_le.mpr (Heap.lt_size e) q) e, a.tab, a.os, a.gens, a.size, a.tks⟩
theorem GrowB.grow (a : GrowB P N s s') (h : ∀ b, b ∈ N → s.heap.objs.size ≤ b) : Grow P s s' :=
  ⟨fun c o hc f e => a.keep c o hc (fun hm => Nat.not_le.mpr (Heap.lt_size e) (h c hm)) f e, fun c o hc e => a.frm c o hc (fun hm => Nat.not_le.mpr (Heap.lt_size e) (h c hm)) e, a.tab, a.os, a.gens, a.size, a.tks⟩
/-- all but N stays just so -/
theorem GrowB.but {h' : Heap} {tk : Nat} (k : ∀ b o, b ∉ N → s.heap.get? b = some o → h'.get? b = some o) (hP : P ∉ N) (hs : s.heap.objs.size ≤ h'.objs.size) (ht : s.toks ≤ tk := by first | exact Nat.le_refl _ | exact Nat.le_succ _ | omega | (dsimp only; omega)) : GrowB P N s { s with heap := h', toks := tk } :=
  ⟨fun b o _ hn _ e => k b o hn e, fun b o _ hn e => ⟨o.slots, k b o hn e⟩, fun ps e t => ⟨#[], by simpa using k _ _ hP e, by simpa using t⟩, rfl, fun h => h, hs, ht⟩
theorem GrowB.same {a : Addr} {h' : Heap} {tk : Nat} (ha : a ∈ N) (haP : a ≠ P) (hs : Heap.SameBut a s.heap h') (ht : s.toks ≤ tk := by first | exact Nat.le_refl _ | exact Nat.le_succ _ | omega | (dsimp only; omega)) : GrowB P N s { s with heap := h', toks := tk } :=
  (GrowB.but (N := [a]) (fun b o hb e => (hs.2 b (fun q => hb (List.mem_singleton.mpr q))).trans e) (fun q => haP (List.mem_singleton.mp q).symm) (Nat.le_of_eq hs.1.symm) ht).less fun b hb => .inl (by rw [List.mem_singleton.mp hb]; exact ha)
theorem GrowB.ns (g : GrowB P N s s') {a : Addr} {m : Str → Option Value} (n : s.heap.Ns a m) (ha : a ≠ P) (hn : a ∉ N) : s'.heap.Ns a m := ns_at n fun o e => g.frm a o ha hn e
theorem GrowB.wf (g : GrowB P N s s') (x : WF K P G Λ s.heap) (hK : ∀ a o, K.lookup a = some o → a ∉ N) (hL : ∀ L ∈ Λ, L ∉ N) (hbm : bmA ∉ N) (h3 : mainGlobals ∉ N) (h0 : builtinsNs ∉ N) (h2 : cStatics ∉ N) : WF K P G Λ s'.heap := by
  obtain ⟨ps, hp, ht⟩ := x.tab
  refine ⟨fun a o e => g.keep a o (x.PK a o e) (hK a o e) (fun _ => x.KF a o e) (x.X a o e), x.PK, x.KF, x.PB, x.BMlt, x.bmod.at (fun m n hP => g.ns n hP h3) (by obtain ⟨_, _, h1, _⟩ := x.bmod; exact ns_ne h1 hp) (fun o hf hP e => g.keep _ o hP hbm (Firm.of hf) e), Nat.le_trans x.base g.size, fun L hL' => ⟨(x.fr L hL').1, ?_⟩, ?_, ?_, ?_⟩
  · obtain ⟨h1, o, h2, h3⟩ := x.fr L hL'
    obtain ⟨sl, h4⟩ := g.frm L o (fun q => Nat.lt_irrefl _ (Nat.lt_of_lt_of_le x.PB (q ▸ h1))) (hL L hL') h2
    exact ⟨_, h4, h3⟩
  · obtain ⟨mg, mb, h1, h2, h4⟩ := x.glob
    exact ⟨mg, mb, g.ns h1 (ns_ne h1 hp) h3, g.ns h2 (ns_ne h2 hp) h0, h4⟩
  · obtain ⟨mc, h1, h4⟩ := x.nolimit
    exact ⟨mc, g.ns h1 (ns_ne h1 hp) h2, h4⟩
  · obtain ⟨more, h1, h2⟩ := g.tab ps hp ht
    exact ⟨_, h1, h2⟩
theorem GrowB.rep (g : GrowB P N s s') {O : List Addr} (hP : P ∈ O) (hN : ∀ a ∈ N, a ∈ O) {d : PyData} {v : Value} (x : Rep O s.heap d v) : Rep O s'.heap d v :=
  Rep.mono (fun b o hb hf e => g.keep b o (fun q => hb (q ▸ hP)) (fun q => hb (hN b q)) (Firm.of hf) e) (fun _ h _ => h) d v x
theorem GrowB.reps (g : GrowB P N s s') {O : List Addr} (hP : P ∈ O) (hN : ∀ a ∈ N, a ∈ O) {d : List PyData} {v : List Value} (x : Reps O s.heap d v) : Reps O s'.heap d v :=
  Reps.mono (fun b o hb hf e => g.keep b o (fun q => hb (q ▸ hP)) (fun q => hb (hN b q)) (Firm.of hf) e) (fun _ h _ => h) d v x
end

/-- a binding, where a list of one's own lies at the address α x -/
noncomputable def BIs (O : List Addr) (h : Heap) (α : Str → Addr) (x : Str) : B → Value → Prop
  | .val d, v => Rep O h d v
  | .own xs, v => v = .ref (α x) ∧ ∃ vs, h.PlainList (α x) vs ∧ Reps O h xs vs.toList
  | .app y, v => ∃ m, v = .ref m ∧ m ∉ O ∧ h.get? m = some (appObj (α y))
theorem notD_app {a : Addr} : ¬ IsD (appObj a) := notD_fields rfl

/-- a frame or a block that runs: its names, its cells, its own lists; M: what it may change -/
structure Act (P : Addr) (M O : List Addr) (α : Str → Addr) (env : Env) (nm : NK) (ρ : En) (s : Shared) : Prop where
  locM : env.locals ∈ M
  MP : P ∉ M
  MO : ∀ a ∈ M, a ∈ O
  loc : ∃ m, s.heap.Ns env.locals m ∧ ∀ x b, getK nm x = some .local → getB ρ x = some b → ∃ v, m x = some v ∧ BIs O s.heap α x b v
  cell : ∀ x, getK nm x = some .cell → ∃ c w, env.cells.lookup x = some c ∧ c ∈ M ∧ c ≠ env.locals ∧ s.heap.IsCell c w ∧ ∀ b, getB ρ x = some b → ∃ v, w = some v ∧ BIs O s.heap α x b v
  apart : ∀ x y c, getK nm x = some .cell → getK nm y = some .cell → env.cells.lookup x = some c → env.cells.lookup y = some c → x = y
  free : ∀ x b, getK nm x = some .free → getB ρ x = some b → ∃ c v, env.cells.lookup x = some c ∧ c ∉ M ∧ c ≠ P ∧ s.heap.IsCell c (some v) ∧ BIs O s.heap α x b v
  known : ∀ x b, getB ρ x = some b → getK nm x = some .local ∨ getK nm x = some .cell ∨ getK nm x = some .free
  own : ∀ x xs, getB ρ x = some (.own xs) → α x ∈ M ∧ α x ≠ env.locals ∧ (∀ y c, getK nm y = some .cell → env.cells.lookup y = some c → c ≠ α x) ∧ getK nm x ≠ some .free
  ownApart : ∀ x y xs ys, getB ρ x = some (.own xs) → getB ρ y = some (.own ys) → α x = α y → x = y

theorem BIs.brep {M O : List Addr} {h : Heap} {α : Str → Addr} {x : Str} {b : B} {v : Value} (hb : BIs O h α x b v) (ho : ∀ xs, b = .own xs → α x ∈ M) (hM : P ∉ M) : BRep P O h b v := by
  cases b with
  | app y => trivial
  | val d => exact hb
  | own xs =>
    obtain ⟨e, vs, h1, h2⟩ := hb
    exact ⟨α x, vs, e, fun q => hM (q ▸ ho xs rfl), h1.isList, h2⟩
theorem Act.sees {M O : List Addr} {α : Str → Addr} {env : Env} {nm : NK} {ρ : En} {s : Shared} (x : Act P M O α env nm ρ s) (hk : ∀ y, KindOk (getK nm y) (env.kindOf y)) : Sees P O env s.heap ρ := fun y b e => by
  have ho : ∀ xs, b = .own xs → α y ∈ M := fun xs q => by subst q; exact (x.own y xs e).1
  rcases x.known y b e with h | h | h
  · obtain ⟨m, h1, h2⟩ := x.loc
    obtain ⟨v, h3, h4⟩ := h2 y b h e
    have hk := hk y; rw [h] at hk
    exact ⟨v, .inl ⟨hk, fun q => x.MP (q ▸ x.locM), m, h1, h3⟩, h4.brep ho x.MP⟩
  · obtain ⟨c, w, h1, h2, h3, h4, h5⟩ := x.cell y h
    obtain ⟨v, rfl, h6⟩ := h5 b e
    have hk := hk y; rw [h] at hk
    exact ⟨v, .inr ⟨.inl hk, c, h1, fun q => x.MP (q ▸ h2), h4⟩, h6.brep ho x.MP⟩
  · obtain ⟨c, v, h1, h2, h3, h4, h5⟩ := x.free y b h e
    have hk := hk y; rw [h] at hk
    exact ⟨v, .inr ⟨hk.symm, c, h1, h3, h4⟩, h5.brep ho x.MP⟩

theorem BIs.keep {N O : List Addr} {s s' : Shared} {α : Str → Addr} {x : Str} {b : B} {v : Value} (g : GrowB P N s s') (hP : P ∈ O) (hN : ∀ a ∈ N, a ∈ O) (ho : ∀ xs, b = .own xs → α x ∉ N ∧ α x ≠ P) (h : BIs O s.heap α x b v) : BIs O s'.heap α x b v := by
  cases b with
  | app y => obtain ⟨m, e, hm, ho'⟩ := h; exact ⟨m, e, hm, g.keep m _ (fun q => hm (q ▸ hP)) (fun q => hm (hN m q)) (Firm.of notD_app) ho'⟩
  | val d => exact g.rep hP hN h
  | own xs =>
    obtain ⟨e, vs, h1, h2⟩ := h
    exact ⟨e, vs, plain_at h1 fun o hf e' => g.keep _ o (ho xs rfl).2 (ho xs rfl).1 (Firm.of hf) e', g.reps hP hN h2⟩

/-- what does not touch the frame's own leaves it as it is -/
theorem Act.keep {M O N : List Addr} {α : Str → Addr} {env : Env} {nm : NK} {ρ : En} {s s' : Shared} (x : Act P M O α env nm ρ s) (hP : P ∈ O) (g : GrowB P N s s') (hN : ∀ a ∈ N, a ∈ O ∧ a ∉ M ∧ ∀ y b, getK nm y = some .free → getB ρ y = some b → env.cells.lookup y ≠ some a) : Act P M O α env nm ρ s' := by
  have hNO : ∀ a ∈ N, a ∈ O := fun a h => (hN a h).1
  have hM : ∀ a ∈ M, a ∉ N := fun a h q => (hN a q).2.1 h
  have kb : ∀ y b v, getB ρ y = some b → BIs O s.heap α y b v → BIs O s'.heap α y b v := fun y b v e h => BIs.keep g hP hNO (fun xs q => by subst q; exact ⟨hM _ (x.own y xs e).1, fun q => x.MP (q ▸ (x.own y xs e).1)⟩) h
  refine ⟨x.locM, x.MP, x.MO, ?_, ?_, x.apart, ?_, x.known, x.own, x.ownApart⟩
  · obtain ⟨m, h1, h2⟩ := x.loc
    exact ⟨m, g.ns h1 (fun q => x.MP (q ▸ x.locM)) (hM _ x.locM), fun y b h3 h4 => by obtain ⟨v, h5, h6⟩ := h2 y b h3 h4; exact ⟨v, h5, kb _ _ _ h4 h6⟩⟩
  · intro y hy
    obtain ⟨c, w, h1, h2, h3, h4, h5⟩ := x.cell y hy
    exact ⟨c, w, h1, h2, h3, isCell_at h4 fun o e => g.frm c o (fun q => x.MP (q ▸ h2)) (hM c h2) e, fun b e => by obtain ⟨v, h6, h7⟩ := h5 b e; exact ⟨v, h6, kb _ _ _ e h7⟩⟩
  · intro y b hy e
    obtain ⟨c, v, h1, h2, h3, h4, h5⟩ := x.free y b hy e
    exact ⟨c, v, h1, h2, h3, isCell_at h4 fun o e' => g.frm c o h3 (fun q => (hN c q).2.2 y b hy e h1) e', kb _ _ _ e h5⟩
theorem Act.growK {M O : List Addr} {α : Str → Addr} {env : Env} {nm : NK} {ρ : En} {s s' : Shared} (x : Act P M O α env nm ρ s) (hP : P ∈ O) (g : Grow P s s') : Act P M O α env nm ρ s' := x.keep hP (GrowB.of (N := []) g) (fun _ h => nomatch h)
/-- more addresses to keep off, all new -/
theorem BIs.more {O O' : List Addr} {h : Heap} {α : Str → Addr} {x : Str} {b : B} {v : Value} (hs : ∀ a, a ∈ O' → a ∈ O ∨ h.objs.size ≤ a) (hb : BIs O h α x b v) : BIs O' h α x b v := by
  cases b with
  | app y => obtain ⟨m, e, hm, ho'⟩ := hb; exact ⟨m, e, fun q => (hs m q).elim hm fun q => absurd (Heap.lt_size ho') (Nat.not_lt.mpr q), ho'⟩
  | val d => exact Rep.more hs hb
  | own xs => obtain ⟨e, vs, h1, h2⟩ := hb; exact ⟨e, vs, h1, Reps.more hs h2⟩
theorem Act.moreO {M O O' : List Addr} {α : Str → Addr} {env : Env} {nm : NK} {ρ : En} {s : Shared} (x : Act P M O α env nm ρ s) (hs : ∀ a, a ∈ O' → a ∈ O ∨ s.heap.objs.size ≤ a) (hM : ∀ a ∈ M, a ∈ O') : Act P M O' α env nm ρ s := by
  refine ⟨x.locM, x.MP, hM, ?_, ?_, x.apart, ?_, x.known, x.own, x.ownApart⟩
  · obtain ⟨m, h1, h2⟩ := x.loc
    exact ⟨m, h1, fun y b h3 h4 => by obtain ⟨v, h5, h6⟩ := h2 y b h3 h4; exact ⟨v, h5, h6.more hs⟩⟩
  · intro y hy
    obtain ⟨c, w, h1, h2, h3, h4, h5⟩ := x.cell y hy
    exact ⟨c, w, h1, h2, h3, h4, fun b e => by obtain ⟨v, h6, h7⟩ := h5 b e; exact ⟨v, h6, h7.more hs⟩⟩
  · intro y b hy e
    obtain ⟨c, v, h1, h2, h3, h4, h5⟩ := x.free y b hy e
    exact ⟨c, v, h1, h2, h3, h4, h5.more hs⟩

section
variable {prog : Program} {w : World} {k : Nat} {A : Around} {E : Value → Shared → Prop} {M O : List Addr} {α : Str → Addr} {env : Env} {nm : NK} {ρ : En} {s : Shared}

theorem kind_hp (hk : env.scope.kind = .function) : (env.scope.kind == .class || (env.scope.kind == .module && env.locals != env.globals)) = false := by rw [hk]; rfl

/-- a value is bound to a name of the frame; β: where an own list lies -/
theorem store_sound {x : Str} {b : B} {v : Value} {ρ' : En} {β : Str → Addr} {Q : Unit → Shared → Prop} (h : storeB nm ρ x b = some ρ') (hkf : env.scope.kind = .function) (hk : ∀ y, KindOk (getK nm y) (env.kindOf y)) (hP : P ∈ O) (a : Act P M O α env nm ρ s)
    (hβ : ∀ y, y ≠ x → β y = α y) (hap : ∀ y, getB ρ y = some (.app x) → β x = α x) (hb : BIs O s.heap β x b v)
    (hown : ∀ xs, b = .own xs → β x ∈ M ∧ β x ≠ env.locals ∧ (∀ y c, getK nm y = some .cell → env.cells.lookup y = some c → c ≠ β x) ∧ (∀ y ys, y ≠ x → getB ρ y = some (.own ys) → α y ≠ β x))
    (hQ : ∀ s', GrowB P M s s' → Act P M O β env nm ρ' s' → Q () s') : wpAny (model prog w) A (storeName env x v) Q E s := by
  have hlP : env.locals ≠ P := fun q => a.MP (q ▸ a.locM)
  have keepB : ∀ (s' : Shared) (g : GrowB P M s s') (d : Addr), d ∈ M → (∀ c o, c ≠ d → s.heap.get? c = some o → s'.heap.get? c = some o) → (∀ y ys, getB ρ y = some (.own ys) → α y ≠ d) → (∀ xs, b = .own xs → β x ≠ d) →
      ∀ y b' v', getB (putB ρ x b) y = some b' → (y = x → b' = b ∧ BIs O s.heap β x b v') → (y ≠ x → BIs O s.heap α y b' v') → BIs O s'.heap β y b' v' := by
    intro s' g d hd kd h1 h2 y b' v' e he hn
    by_cases hy : y = x
    · subst hy
      obtain ⟨rfl, h3⟩ := he rfl
      cases b' with
      | app z => obtain ⟨m, e1, hm, ho⟩ := h3; exact ⟨m, e1, hm, g.keep m _ (fun q => hm (q ▸ hP)) (fun q => hm (a.MO m q)) (Firm.of notD_app) ho⟩
      | val d' => exact g.rep hP a.MO h3
      | own xs =>
        obtain ⟨e1, vs, h4, h5⟩ := h3
        exact ⟨e1, vs, h4.at fun o e' => kd _ o (h2 xs rfl) e', g.reps hP a.MO h5⟩
    · have h3 := hn hy
      rw [getB_put, if_neg hy] at e
      cases b' with
      | app z =>
        have ez : β z = α z := by
          by_cases hz : z = x
          · subst hz; exact hap y e
          · exact hβ z hz
        obtain ⟨m, e1, hm, ho⟩ := h3
        refine ⟨m, e1, hm, ?_⟩
        rw [ez]
        exact g.keep m _ (fun q => hm (q ▸ hP)) (fun q => hm (a.MO m q)) (Firm.of notD_app) ho
      | val d' => exact g.rep hP a.MO h3
      | own xs =>
        obtain ⟨e1, vs, h4, h5⟩ := h3
        refine ⟨by rw [hβ y hy]; exact e1, vs, by rw [hβ y hy]; exact h4.at fun o e' => kd _ o (h1 y xs e) e', g.reps hP a.MO h5⟩
  have ownN : ∀ y xs, getB (putB ρ x b) y = some (.own xs) → (getK nm x ≠ some .free) → β y ∈ M ∧ β y ≠ env.locals ∧ (∀ z c, getK nm z = some .cell → env.cells.lookup z = some c → c ≠ β y) ∧ getK nm y ≠ some .free := by
    intro y xs e hx
    rw [getB_put] at e
    by_cases hy : y = x
    · subst hy; rw [if_pos rfl] at e; cases e
      obtain ⟨h1, h2, h3, _⟩ := hown xs rfl
      exact ⟨h1, h2, h3, hx⟩
    · rw [if_neg hy] at e
      rw [hβ y hy]
      exact a.own y xs e
  have ownA : ∀ y z xs ys, getB (putB ρ x b) y = some (.own xs) → getB (putB ρ x b) z = some (.own ys) → β y = β z → y = z := by
    intro y z xs ys e1 e2 e
    rw [getB_put] at e1 e2
    by_cases hy : y = x
    · by_cases hz : z = x
      · rw [hy, hz]
      · subst hy; rw [if_pos rfl] at e1; cases e1
        rw [if_neg hz] at e2
        rw [hβ z hz] at e
        exact absurd e.symm ((hown xs rfl).2.2.2 z ys hz e2)
    · by_cases hz : z = x
      · subst hz; rw [if_pos rfl] at e2; cases e2
        rw [if_neg hy] at e1
        rw [hβ y hy] at e
        exact absurd e ((hown ys rfl).2.2.2 y xs hy e1)
      · rw [if_neg hy] at e1; rw [if_neg hz] at e2
        rw [hβ y hy, hβ z hz] at e
        exact a.ownApart y z xs ys e1 e2 e
  unfold storeB at h
  split at h
  · rename_i hx
    cases h
    obtain ⟨m, hm, hl⟩ := a.loc
    have hkx := hk x; rw [hx] at hkx
    refine wpAny_storeName_local hkx hm (fun h' hn' hs' => ?_) (kind_hp hkf)
    have g : GrowB P M s { s with heap := h', toks := s.toks + 1 } := GrowB.same a.locM hlP hs'
    have kd : ∀ c o, c ≠ env.locals → s.heap.get? c = some o → h'.get? c = some o := fun c o hc e => (hs'.2 c hc).trans e
    have kB := keepB _ g env.locals a.locM kd (fun y ys e => (a.own y ys e).2.1) (fun xs e => (hown xs e).2.1)
    refine hQ _ g ⟨a.locM, a.MP, a.MO, ?_, ?_, a.apart, ?_, ?_, fun y xs e => ownN y xs e (by rw [hx]; decide), ownA⟩
    · refine ⟨_, hn', fun y b' hy e => ?_⟩
      by_cases hyx : y = x
      · subst hyx
        have e' := e
        rw [getB_put, if_pos rfl] at e'; cases e'
        exact ⟨v, by simp, kB y b v e (fun _ => ⟨rfl, hb⟩) (fun q => absurd rfl q)⟩
      · have e' := e
        rw [getB_put, if_neg hyx] at e'
        obtain ⟨v', h1, h2⟩ := hl y b' hy e'
        exact ⟨v', by simp [hyx, h1], kB y b' v' e (fun q => absurd q hyx) (fun _ => h2)⟩
    · intro y hy
      obtain ⟨c, w', h1, h2, h3, h4, h5⟩ := a.cell y hy
      have hyx : y ≠ x := fun q => by rw [q, hx] at hy; cases hy
      refine ⟨c, w', h1, h2, h3, isCell_at h4 (frm_of fun o e => kd c o h3 e), fun b' e => ?_⟩
      have e' := e
      rw [getB_put, if_neg hyx] at e'
      obtain ⟨v', h6, h7⟩ := h5 b' e'
      exact ⟨v', h6, kB y b' v' e (fun q => absurd q hyx) (fun _ => h7)⟩
    · intro y b' hy e
      have hyx : y ≠ x := fun q => by rw [q, hx] at hy; cases hy
      have e' := e
      rw [getB_put, if_neg hyx] at e'
      obtain ⟨c, v', h1, h2, h3, h4, h5⟩ := a.free y b' hy e'
      exact ⟨c, v', h1, h2, h3, isCell_at h4 (frm_of fun o e => kd c o (fun q => h2 (q ▸ a.locM)) e), kB y b' v' e (fun q => absurd q hyx) (fun _ => h5)⟩
    · intro y b' e
      rw [getB_put] at e
      by_cases hyx : y = x
      · rw [hyx]; exact .inl hx
      · rw [if_neg hyx] at e; exact a.known y b' e
  · rename_i hx
    cases h
    obtain ⟨c, w', h1, h2, h3, h4, h5⟩ := a.cell x hx
    have hkx := hk x; rw [hx] at hkx
    have hcP : c ≠ P := fun q => a.MP (q ▸ h2)
    refine wpAny_storeName_cell hkf hkx h1 h4 fun h' hc' hs' => ?_
    have g : GrowB P M s { s with heap := h' } := GrowB.same (tk := s.toks) h2 hcP hs'
    have kd : ∀ c' o, c' ≠ c → s.heap.get? c' = some o → h'.get? c' = some o := fun c' o hc e => (hs'.2 c' hc).trans e
    have kB := keepB _ g c h2 kd (fun y ys e => Ne.symm ((a.own y ys e).2.2.1 x c hx h1)) (fun xs e => Ne.symm ((hown xs e).2.2.1 x c hx h1))
    refine hQ _ g ⟨a.locM, a.MP, a.MO, ?_, ?_, a.apart, ?_, ?_, fun y xs e => ownN y xs e (by rw [hx]; decide), ownA⟩
    · obtain ⟨m, hm, hl⟩ := a.loc
      refine ⟨m, hm.at' fun o e => kd _ o (Ne.symm h3) e, fun y b' hy e => ?_⟩
      have hyx : y ≠ x := fun q => by rw [q, hx] at hy; cases hy
      have e' := e
      rw [getB_put, if_neg hyx] at e'
      obtain ⟨v', h1, h2⟩ := hl y b' hy e'
      exact ⟨v', h1, kB y b' v' e (fun q => absurd q hyx) (fun _ => h2)⟩
    · intro y hy
      by_cases hyx : y = x
      · subst hyx
        refine ⟨c, some v, h1, h2, h3, hc', fun b' e => ?_⟩
        have e' := e
        rw [getB_put, if_pos rfl] at e'; cases e'
        exact ⟨v, rfl, kB y b v e (fun _ => ⟨rfl, hb⟩) (fun q => absurd rfl q)⟩
      · obtain ⟨c2, w2, k1, k2, k3, k4, k5⟩ := a.cell y hy
        have hcc : c2 ≠ c := fun q => hyx (a.apart y x c hy hx (q ▸ k1) h1)
        refine ⟨c2, w2, k1, k2, k3, isCell_at k4 (frm_of fun o e => kd c2 o hcc e), fun b' e => ?_⟩
        have e' := e
        rw [getB_put, if_neg hyx] at e'
        obtain ⟨v', h6, h7⟩ := k5 b' e'
        exact ⟨v', h6, kB y b' v' e (fun q => absurd q hyx) (fun _ => h7)⟩
    · intro y b' hy e
      have hyx : y ≠ x := fun q => by rw [q, hx] at hy; cases hy
      have e' := e
      rw [getB_put, if_neg hyx] at e'
      obtain ⟨c2, v', k1, k2, k3, k4, k5⟩ := a.free y b' hy e'
      exact ⟨c2, v', k1, k2, k3, isCell_at k4 (frm_of fun o e => kd c2 o (fun q => k2 (q ▸ h2)) e), kB y b' v' e (fun q => absurd q hyx) (fun _ => k5)⟩
    · intro y b' e
      rw [getB_put] at e
      by_cases hyx : y = x
      · rw [hyx]; exact .inr (.inl hx)
      · rw [if_neg hyx] at e; exact a.known y b' e
  · cases h
end
end Mine
end
section
open PySem PySem.Spec PySem.Calls PyProof.Rows PySem.W
namespace Mine
variable [Inhabited Base]

theorem runs_size {M : Model} {Γ : PySem.Ctx} {p : Pos} {t : Sem Fin} {fs : List Frame} {s s' : Shared} {e : End} (h : Runs M Γ p t fs s e s') : s.heap.objs.size ≤ s'.heap.objs.size := by
  induction h <;> (try simp only [Shared.setGen, Heap.size_after_update, Heap.size_push] at *) <;> omega
theorem wakes_size {M : Model} {Γ : PySem.Ctx} {p : Pos} {g : Nat} {r : Resume} {s s' : Shared} {res : GenResult} (h : Wakes M Γ p g r s res s') : s.heap.objs.size ≤ s'.heap.objs.size := by
  unfold Wakes at h
  split at h
  · exact h.elim
  · split at h
    · obtain ⟨e₁, s₁, hr, _, _, rfl⟩ := h; exact (runs_size hr : (s.setGen g .running).heap.objs.size ≤ s₁.heap.objs.size)
    · rw [h.2]; exact Nat.le_refl _
    · rw [h.2]; exact Nat.le_refl _
  · obtain ⟨e₁, s₁, hr, _, _, rfl⟩ := h; exact (runs_size hr : (s.setGen g .running).heap.objs.size ≤ s₁.heap.objs.size)
  · rw [h.2]; exact Nat.le_refl _
  · rw [h.2]; exact Nat.le_refl _
theorem wp_size {α : Type} (M : Model) (Γ : PySem.Ctx) (n : Nat) (t : Sem α) : ∀ (Q : α → Pos → Shared → Prop) (E : Value → Pos → Shared → Prop) (p : Pos) (s : Shared), n ≤ s.heap.objs.size → Sem.wp M Γ t Q E p s →
    Sem.wp M Γ t (fun a p' s' => n ≤ s'.heap.objs.size ∧ Q a p' s') (fun e p' s' => n ≤ s'.heap.objs.size ∧ E e p' s') p s := by
  induction t with
  | pure a => intro Q E p s hn h; exact ⟨hn, h⟩
  | raise e => intro Q E p s hn h; exact ⟨hn, h⟩
  | unsupported _ => intro Q E p s _ h; exact h
  | finish _ => intro Q E p s _ h; exact h
  | rule _ k ih => intro Q E p s hn h; exact ih () Q E p s hn h
  | «at» p' k ih => intro Q E p s hn h; exact ih () Q E p' s hn h
  | load a _ k ih => intro Q E p s hn h; obtain ⟨o, ho, h⟩ := h; exact ⟨o, ho, ih o Q E p s hn h⟩
  | update a _ f k ih => intro Q E p s hn h; exact ⟨h.1, ih () Q E p _ (by show n ≤ (s.heap.update a f).objs.size; rw [Heap.size_after_update]; exact hn) h.2⟩
  | loadIfAlive a k ih => intro Q E p s hn h; exact ih _ Q E p s hn h
  | point _ k ih => intro Q E p s hn h; exact ih () Q E p s hn h
  | register _ _ => intro Q E p s _ h; exact h
  | alloc o k ih => intro Q E p s hn h; exact ih _ Q E p _ (by show n ≤ (s.heap.push o).objs.size; rw [Heap.size_push]; exact Nat.le_succ_of_le hn) h
  | fresh k ih => intro Q E p s hn h; exact ih _ Q E p _ hn h
  | ask k ih => intro Q E p s hn h; exact ih _ Q E p s hn h
  | choose src m k ih => intro Q E p s hn h; exact ⟨h.1, ih _ Q E p _ hn h.2⟩
  | os q _ k ih => intro Q E p s hn h; exact ih _ Q E p _ hn h
  | call c hd _ _ k ih => intro Q E p s hn h; obtain ⟨r, s', hr, h⟩ := h; exact ⟨r, s', hr, ih r Q E p s' (Nat.le_trans hn (runs_size hr)) h⟩
  | handled own k ih => intro Q E p s hn h; exact ih _ Q E p s hn h
  | genState g k ih => intro Q E p s hn h; obtain ⟨st, hs, h⟩ := h; exact ⟨st, hs, ih _ Q E p s hn h⟩
  | newGen c k ih => intro Q E p s hn h; exact ih _ Q E p _ hn h
  | resume g r _ k ih => intro Q E p s hn h; obtain ⟨res, s', hw, h⟩ := h; exact ⟨res, s', hw, ih res Q E p s' (Nat.le_trans hn (wakes_size hw)) h⟩
  | yield _ _ _ _ => intro Q E p s _ h; exact h
  | stack k ih => intro Q E p s hn h; exact ih _ Q E p s hn h
  | fork _ _ => intro Q E p s _ h; exact h
  | thread k ih => intro Q E p s hn h; exact ih _ Q E p s hn h
  | await _ _ _ _ _ => intro Q E p s _ h; exact h
theorem wpAny_with_size {α : Type} {M : Model} {A : Around} {s : Shared} {t : Sem α} {Q : α → Shared → Prop} {E : Value → Shared → Prop}
    (h : wpAny M A t (fun a s' => s.heap.objs.size ≤ s'.heap.objs.size → Q a s') E s) : wpAny M A t Q E s := by
  have key : wpAny M A t (fun a s' => s.heap.objs.size ≤ s'.heap.objs.size ∧ (s.heap.objs.size ≤ s'.heap.objs.size → Q a s')) (fun e s' => s.heap.objs.size ≤ s'.heap.objs.size ∧ E e s') s :=
    fun Γ p hΓ => wp_size M Γ s.heap.objs.size t _ _ p s (Nat.le_refl _) (h Γ p hΓ)
  exact wpAny_mono key (fun _ _ x => x.2 x.1) fun _ _ x => x.2

variable {K : Frag} {P : Addr} {G : Str → Option Value} {Λ : List Addr}

/-- an iterator at I that stands before the item i -/
noncomputable def Turn (prog : Program) (w : World) (A : Around) (P : Addr) (O : List Addr) (items : List PyData) (I : Addr) (i : Nat) (s : Shared) : Prop :=
  ∃ fp Pv St, Walks prog w A I fp [I] items.length Pv St ∧ St i s.heap ∧ (∀ b ∈ fp, b = I ∨ (b ∉ O ∧ ∃ o, s.heap.get? b = some o ∧ ¬ IsD o)) ∧ (∀ j h, St j h → ∃ o, h.get? I = some o ∧ ¬ IsD o) ∧ I ∈ O ∧ I ≠ P ∧ P ∈ O ∧
    (∀ j v, Pv j v → ∃ d, items[j]? = some d ∧ Rep O s.heap d v) ∧
    ((∀ j v, Pv j v → ∀ a, v ≠ .ref a) ∨ ∀ j h, St j h → ∃ o T vs, h.get? I = some o ∧ o.cls = .type T ∧ o.data = .fields vs ∧ (["enumerate", "zip", "dict_itemiterator", "dict_reverseitemiterator", "odict_iterator", "itertools.zip_longest", "itertools.pairwise"].contains T) = false)

section
variable {prog : Program} {w : World} {A : Around} {E : Value → Shared → Prop} {N O : List Addr} {items : List PyData} {I : Addr} {i : Nat} {s s' : Shared}

theorem Turn.mem (x : Turn prog w A P O items I i s) : I ∈ O := by obtain ⟨_, _, _, _, _, _, _, h, _⟩ := x; exact h
theorem Turn.neP (x : Turn prog w A P O items I i s) : I ≠ P := by obtain ⟨_, _, _, _, _, _, _, _, h, _⟩ := x; exact h
theorem Turn.keep (x : Turn prog w A P O items I i s) (g : GrowB P N s s') (hI : I ∉ N) (hN : ∀ a ∈ N, a ∈ O) : Turn prog w A P O items I i s' := by
  obtain ⟨fp, Pv, St, W, st, hf, hS, hIO, hIP, hP, hv, hg⟩ := x
  have hk : ∀ b ∈ fp, ∀ o, s.heap.get? b = some o → s'.heap.get? b = some o := fun b hb o e => by
    rcases hf b hb with rfl | ⟨h, o', e', hc⟩
    · obtain ⟨o', e', hc⟩ := hS _ _ st
      rw [e] at e'; cases e'
      exact g.keep b o hIP hI (Firm.of hc) e
    · rw [e] at e'; cases e'
      exact g.keep b o (fun q => h (q ▸ hP)) (fun q => h (hN b q)) (Firm.of hc) e
  exact ⟨fp, Pv, St, W, W.frame _ _ _ st hk, fun b hb => (hf b hb).imp id fun ⟨h, o, e, hc⟩ => ⟨h, o, hk b hb o e, hc⟩, hS, hIO, hIP, hP, fun j v h => by obtain ⟨d, h1, h2⟩ := hv j v h; exact ⟨d, h1, g.rep hP hN h2⟩, hg⟩
theorem Turn.more {O' : List Addr} (x : Turn prog w A P O items I i s) (hs : ∀ a, a ∈ O' → a ∈ O ∨ s.heap.objs.size ≤ a) (hs' : ∀ a ∈ O, a ∈ O') : Turn prog w A P O' items I i s := by
  obtain ⟨fp, Pv, St, W, st, hf, hS, hIO, hIP, hP, hv, hg⟩ := x
  exact ⟨fp, Pv, St, W, st, fun b hb => (hf b hb).imp id fun ⟨h, o, e, hc⟩ => ⟨fun q => (hs b q).elim h fun q => absurd (Heap.lt_size e) (Nat.not_lt.mpr q), o, e, hc⟩, hS, hs' I hIO, hIP, hs' P hP, fun j v h => by obtain ⟨d, h1, h2⟩ := hv j v h; exact ⟨d, h1, Rep.more hs h2⟩, hg⟩
theorem Turn.self {Q : Value → Shared → Prop} (x : Turn prog w A P O items I i s) (hQ : Q (.ref I) s) : wpAny (model prog w) A (pyIter (.ref I)) Q E s := by
  obtain ⟨fp, Pv, St, W, st, _⟩ := x
  exact W.self _ _ _ _ st hQ
theorem go_plain {target : Expr} {I : Addr} {v : Value} {Q : Unit → Shared → Prop} (h : (∀ a, v ≠ .ref a) ∨ ∃ o T vs, s.heap.get? I = some o ∧ o.cls = .type T ∧ o.data = .fields vs ∧ (["enumerate", "zip", "dict_itemiterator", "dict_reverseitemiterator", "odict_iterator", "itertools.zip_longest", "itertools.pairwise"].contains T) = false) (hQ : Q () s) :
    wpAny (model prog w) A (letOwnedTupleGo target (.ref I) v) Q E s := by
  unfold letOwnedTupleGo
  have go : wpAny (model prog w) A (do
      let (.ref r, .ref a) := (Value.ref I, v) | return
      let o ← load r
      match o.cls, o.data with
      | .type n, .fields vs =>
        if ["enumerate", "zip", "dict_itemiterator", "dict_reverseitemiterator", "odict_iterator", "itertools.zip_longest", "itertools.pairwise"].contains n && vs[0]? == some (rawInt a) then
          rule "for.unpacks-the-owned-tuple"
          updateField r 0 .none
      | _, _ => pure ()) Q E s := by
    cases v with
    | ref a =>
      rcases h with h | ⟨o, T, vs, h1, h2, h3, h4⟩
      · exact absurd rfl (h a)
      · refine wpAny_bind (wpAny_load h1 ?_)
        rw [h2, h3]
        dsimp only
        rw [h4]
        exact wpAny_pure hQ
    | _ => exact wpAny_pure hQ
  split
  · exact go
  · exact go
  · exact wpAny_pure hQ
theorem Turn.next {Q : Option Value → Shared → Prop} (x : Turn prog w A P O items I i s) {d : PyData} (hi : items[i]? = some d)
    (hQ : ∀ v s', GrowB P [I] s s' → Rep O s'.heap d v → Turn prog w A P O items I (i + 1) s' → (∀ (target : Expr) (Q' : Unit → Shared → Prop) (E' : Value → Shared → Prop), Q' () s' → wpAny (model prog w) A (letOwnedTupleGo target (.ref I) v) Q' E' s') → Q (some v) s') : wpAny (model prog w) A (pyNext (.ref I)) Q E s := by
  obtain ⟨fp, Pv, St, W, st, hf, hS, hIO, hIP, hP, hv, hg⟩ := x
  have hil : i < items.length := by
    rcases Nat.lt_or_ge i items.length with h | h
    · exact h
    · rw [List.getElem?_eq_none h] at hi; cases hi
  refine wpAny_with_toks (Nat.le_refl _) (wpAny_with_size (W.item i s _ _ hil st fun v h' tk hPv hst hk hsz ht => ?_))
  have g : GrowB P [I] s { s with heap := h', toks := tk } := by
    exact GrowB.but (fun b o hb e => hk b o hb e) (by simpa using Ne.symm hIP) hsz ht
  have hIn : ∀ a ∈ [I], a ∈ O := fun a h => by rw [List.mem_singleton.mp h]; exact hIO
  obtain ⟨d', h1, h2⟩ := hv i v hPv
  rw [hi] at h1; cases h1
  refine hQ v _ g (g.rep hP hIn h2) ⟨fp, Pv, St, W, hst, fun b hb => ?_, hS, hIO, hIP, hP, fun j v h => by obtain ⟨d, h1, h2⟩ := hv j v h; exact ⟨d, h1, g.rep hP hIn h2⟩, hg⟩ fun target Q' E' hq => ?_
  · by_cases hb' : b = I
    · exact .inl hb'
    · exact (hf b hb).imp id fun ⟨h, o, e, hc⟩ => ⟨h, o, hk b o (by simpa using hb') e, hc⟩
  refine go_plain ?_ hq
  rcases hg with h | h
  · exact .inl (h i v hPv)
  · exact .inr (h _ _ hst)
theorem Turn.done {Q : Option Value → Shared → Prop} (x : Turn prog w A P O items I items.length s) (hQ : ∀ s', GrowB P [I] s s' → Q none s') : wpAny (model prog w) A (pyNext (.ref I)) Q E s := by
  obtain ⟨fp, Pv, St, W, st, hf, hS, hIO, hIP, hP, hv, hg⟩ := x
  refine wpAny_with_toks (Nat.le_refl _) (wpAny_with_size (W.done s _ _ st fun h' tk hk hsz ht => hQ _ ?_))
  exact GrowB.but (fun b o hb e => hk b o hb e) (by simpa using Ne.symm hIP) hsz ht

/-- making the iterator -/
theorem Turn.make {Q : Value → Shared → Prop} {d : PyData} {v : Value} (hh : A.handled = none) (r : Rep O s.heap d v) (hi : itemsF d = some items) (hP : P ∈ O) (hlt : ∀ a ∈ O, a < s.heap.objs.size)
    (hQ : ∀ I s', Grow P s s' → s.heap.objs.size ≤ I → I < s'.heap.objs.size → Turn prog w A P (I :: O) items I 0 s' → Q (.ref I) s') : wpAny (model prog w) A (pyIter v) Q E s := by
  have hIP : s.heap.objs.size ≠ P := Ne.symm (Nat.ne_of_lt (hlt P hP))
  have hm : ∀ a, a ∈ s.heap.objs.size :: O → a ∈ O ∨ s.heap.objs.size ≤ a := fun a h => by
    rcases List.mem_cons.mp h with rfl | h
    · exact .inr (Nat.le_refl _)
    · exact .inl h
  unfold itemsF at hi
  split at hi
  · rename_i xs
    cases hi
    unfold Rep at r
    obtain ⟨a, vs, rfl, ha, hl, hr⟩ := r
    have hal : a < s.heap.objs.size := isList_lt hl
    refine wpAny_pyIter_list hl (hQ _ _ Grow.push (Nat.le_refl _) (by show _ < (s.heap.push _).objs.size; rw [Heap.size_push]; exact Nat.lt_succ_self _) ?_)
    have hlen : vs.size = items.length := by have := hr.length; simpa using this
    refine ⟨[s.heap.objs.size, a], fun i v => vs[i]? = some v, fun i h => h.IsListIter s.heap.objs.size a i ∧ h.IsList a vs, hlen ▸ Walks.list hh _ a (Nat.ne_of_lt hal) vs, ⟨⟨_, Heap.get?_push_size _ rfl, rfl, rfl⟩, hl.push _⟩, ?_, fun j h st => ?_, List.mem_cons_self, hIP, List.mem_cons_of_mem _ hP, ?_, .inr ?_⟩
    · intro b hb
      rcases List.mem_cons.mp hb with rfl | hb
      · exact .inl rfl
      · rw [List.mem_singleton.mp hb]
        obtain ⟨o, ho, _, _, hc⟩ := hl
        exact .inr ⟨fun q => (List.mem_cons.mp q).elim (Nat.ne_of_lt hal) ha, o, Heap.get?_push_of_some _ ho, notD_seq hc⟩
    · obtain ⟨⟨o, h1, _, h2⟩, _⟩ := st
      exact ⟨o, h1, notD_fields h2⟩
    · intro j v hv
      have hv' : vs.toList[j]? = some v := by simpa using hv
      obtain ⟨d, h1, h2⟩ := hr.getV hv'
      exact ⟨d, h1, Rep.grow (List.mem_cons_of_mem _ hP) Grow.push (Rep.more hm h2)⟩
    · rintro j h ⟨⟨o, h1, h2, h3⟩, _⟩
      exact ⟨o, _, _, h1, h2, h3, by decide⟩
  · rename_i xs
    cases hi
    unfold Rep at r
    obtain ⟨a, vs, rfl, ha, hl, hr⟩ := r
    have hal : a < s.heap.objs.size := isTuple_lt hl
    refine wpAny_pyIter_tuple hl (hQ _ _ Grow.push (Nat.le_refl _) (by show _ < (s.heap.push _).objs.size; rw [Heap.size_push]; exact Nat.lt_succ_self _) ?_)
    have hlen : vs.size = items.length := by have := hr.length; simpa using this
    refine ⟨[s.heap.objs.size, a], fun i v => vs[i]? = some v, fun i h => h.IsTupleIter s.heap.objs.size a i ∧ h.IsTuple a vs, hlen ▸ Walks.tuple hh _ a (Nat.ne_of_lt hal) vs, ⟨⟨_, Heap.get?_push_size _ rfl, rfl, rfl⟩, hl.push _⟩, ?_, fun j h st => ?_, List.mem_cons_self, hIP, List.mem_cons_of_mem _ hP, ?_, .inr ?_⟩
    · intro b hb
      rcases List.mem_cons.mp hb with rfl | hb
      · exact .inl rfl
      · rw [List.mem_singleton.mp hb]
        obtain ⟨o, ho, _, _, hc⟩ := hl
        exact .inr ⟨fun q => (List.mem_cons.mp q).elim (Nat.ne_of_lt hal) ha, o, Heap.get?_push_of_some _ ho, notD_seq hc⟩
    · obtain ⟨⟨o, h1, _, h2⟩, _⟩ := st
      exact ⟨o, h1, notD_fields h2⟩
    · intro j v hv
      have hv' : vs.toList[j]? = some v := by simpa using hv
      obtain ⟨d, h1, h2⟩ := hr.getV hv'
      exact ⟨d, h1, Rep.grow (List.mem_cons_of_mem _ hP) Grow.push (Rep.more hm h2)⟩
    · rintro j h ⟨⟨o, h1, h2, h3⟩, _⟩
      exact ⟨o, _, _, h1, h2, h3, by decide⟩
  · rename_i x
    cases hi
    unfold Rep at r
    obtain ⟨t, rfl⟩ := r
    have fin : ∀ (o : Obj) (T : String), Walks prog w A s.heap.objs.size [s.heap.objs.size] [s.heap.objs.size] x.cps.size (SignAt x) (fun i h => h.IsStrIter s.heap.objs.size T x t i) → (s.heap.push o).IsStrIter s.heap.objs.size T x t 0 → Q (.ref s.heap.objs.size) { s with heap := s.heap.push o } := by
      intro o T W h0
      refine hQ _ _ Grow.push (Nat.le_refl _) (by show _ < (s.heap.push _).objs.size; rw [Heap.size_push]; exact Nat.lt_succ_self _) ?_
      refine ⟨[s.heap.objs.size], SignAt x, fun i h => h.IsStrIter s.heap.objs.size T x t i, ?_, h0, fun b hb => .inl (List.mem_singleton.mp hb), fun j h st => ?_, List.mem_cons_self, hIP, List.mem_cons_of_mem _ hP, ?_, .inl ?_⟩
      · rw [List.length_map, Array.length_toList]; exact W
      · obtain ⟨o, h1, _, h2⟩ := st
        exact ⟨o, h1, notD_fields h2⟩
      · rintro j v ⟨c, u, h1, rfl⟩
        refine ⟨.str ⟨#[c]⟩, ?_, ?_⟩
        · rw [List.getElem?_map, Array.getElem?_toList, h1]; rfl
        · unfold Rep; exact ⟨u, rfl⟩
      · rintro j v ⟨c, u, h1, rfl⟩ a; simp
    cases ha : x.cps.all (· < 128)
    · exact wpAny_pyIter_wide ha (fin _ _ (Walks.strWide hh _ x t) ⟨_, Heap.get?_push_size _ rfl, rfl, rfl⟩)
    · exact wpAny_pyIter_ascii ha (fin _ _ (Walks.strAscii hh _ x t) ⟨_, Heap.get?_push_size _ rfl, rfl, rfl⟩)
  · cases hi
end
end Mine
end
section
open PySem PySem.Spec PySem.Calls PyProof.Rows PySem.W
namespace Mine
variable [Inhabited Base]
variable {K : Frag} {P : Addr} {G : Str → Option Value} {Λ : List Addr}

/-- all that stands before a frame lies below n -/
structure Floor (K : Frag) (P : Addr) (Λ : List Addr) (n : Nat) : Prop where
  K : ∀ a o, K.lookup a = some o → a < n
  g : mainGlobals < n
  b : builtinsNs < n
  c : cStatics < n
  p : P < n
  fb : fbase ≤ n
  L : ∀ a ∈ Λ, a < n
theorem Floor.le {n m : Nat} (f : Floor K P Λ n) (h : n ≤ m) : Floor K P Λ m := ⟨fun a o e => Nat.lt_of_lt_of_le (f.K a o e) h, Nat.lt_of_lt_of_le f.g h, Nat.lt_of_lt_of_le f.b h, Nat.lt_of_lt_of_le f.c h, Nat.lt_of_lt_of_le f.p h, Nat.le_trans f.fb h, fun a e => Nat.lt_of_lt_of_le (f.L a e) h⟩
theorem WF.floor {h : Heap} (x : WF K P G Λ h) : Floor K P Λ h.objs.size := by
  obtain ⟨mg, mb, h1, h2, _⟩ := x.glob
  obtain ⟨mc, h3, _⟩ := x.nolimit
  obtain ⟨ps, hp, _⟩ := x.tab
  exact ⟨fun a o e => Heap.lt_size (x.X a o e), h1.lt, h2.lt, h3.lt, Heap.lt_size hp, x.base, fun a e => let ⟨_, _, h4, _⟩ := x.fr a e; Heap.lt_size h4⟩
theorem GrowB.wf' {N : List Addr} {s s' : Shared} {n : Nat} (g : GrowB P N s s') (x : WF K P G Λ s.heap) (f : Floor K P Λ n) (hN : ∀ a ∈ N, n ≤ a) : WF K P G Λ s'.heap :=
  g.wf x (fun a o e h => absurd (f.K a o e) (Nat.not_lt.mpr (hN a h))) (fun L e h => absurd (f.L L e) (Nat.not_lt.mpr (hN L h))) (fun h => absurd (Nat.lt_of_lt_of_le x.BMlt f.fb) (Nat.not_lt.mpr (hN _ h))) (fun h => absurd f.g (Nat.not_lt.mpr (hN _ h))) (fun h => absurd f.b (Nat.not_lt.mpr (hN _ h))) (fun h => absurd f.c (Nat.not_lt.mpr (hN _ h)))

/-- what does not change while a frame or a block runs -/
structure FrmW (K : Frag) (P : Addr) (Λ : List Addr) (k : Nat) (A : Around) (env : Env) (nm : NK) (n : Nat) : Prop where
  roomW : RoomW (env.locals :: Λ) k A
  kind : env.scope.kind = .function
  glb : env.globals = mainGlobals
  blt : env.builtins = builtinsNs
  names : ∀ x, KindOk (getK nm x) (env.kindOf x)
  nok : namesOk nm = true
  floor : Floor K P Λ n
structure Frm (K : Frag) (P : Addr) (Λ : List Addr) (k : Nat) (A : Around) (env : Env) (nm : NK) (n : Nat) : Prop extends FrmW K P Λ k A env nm n where
  handled : A.handled = none
/-- the running frame or block -/
structure Run (K : Frag) (P : Addr) (G : Str → Option Value) (Λ : List Addr) (n : Nat) (M O : List Addr) (α : Str → Addr) (env : Env) (nm : NK) (ρ : En) (s : Shared) : Prop where
  tk : 0 < s.toks
  act : Act P M O α env nm ρ s
  hP : P ∈ O
  lt : ∀ a ∈ O, a < s.heap.objs.size
  wf : WF K P G Λ s.heap
  MN : ∀ a ∈ M, n ≤ a
  freeN : ∀ x b c, getK nm x = some .free → getB ρ x = some b → env.cells.lookup x = some c → c < n

theorem BIs.less {O O' : List Addr} {h : Heap} {α : Str → Addr} {x : Str} {b : B} {v : Value} (hs : ∀ a, a ∈ O' → a ∈ O) (hb : BIs O h α x b v) : BIs O' h α x b v := by
  cases b with
  | app y => obtain ⟨m, e, hm, ho'⟩ := hb; exact ⟨m, e, fun q => hm (hs m q), ho'⟩
  | val d => exact Rep.less hs hb
  | own xs => obtain ⟨e, vs, h1, h2⟩ := hb; exact ⟨e, vs, h1, Reps.less hs h2⟩
theorem Act.lessO {M O O' : List Addr} {α : Str → Addr} {env : Env} {nm : NK} {ρ : En} {s : Shared} (x : Act P M O α env nm ρ s) (hs : ∀ a, a ∈ O' → a ∈ O) (hM : ∀ a ∈ M, a ∈ O') : Act P M O' α env nm ρ s := by
  refine ⟨x.locM, x.MP, hM, ?_, ?_, x.apart, ?_, x.known, x.own, x.ownApart⟩
  · obtain ⟨m, h1, h2⟩ := x.loc
    exact ⟨m, h1, fun y b h3 h4 => by obtain ⟨v, h5, h6⟩ := h2 y b h3 h4; exact ⟨v, h5, h6.less hs⟩⟩
  · intro y hy
    obtain ⟨c, w, h1, h2, h3, h4, h5⟩ := x.cell y hy
    exact ⟨c, w, h1, h2, h3, h4, fun b e => by obtain ⟨v, h6, h7⟩ := h5 b e; exact ⟨v, h6, h7.less hs⟩⟩
  · intro y b hy e
    obtain ⟨c, v, h1, h2, h3, h4, h5⟩ := x.free y b hy e
    exact ⟨c, v, h1, h2, h3, h4, h5.less hs⟩
/-- fewer bindings -/
theorem Act.restrict {M O : List Addr} {α : Str → Addr} {env : Env} {nm : NK} {ρ ρ' : En} {s : Shared} (x : Act P M O α env nm ρ' s) (hs : ∀ y b, getB ρ y = some b → getB ρ' y = some b) : Act P M O α env nm ρ s := by
  refine ⟨x.locM, x.MP, x.MO, ?_, ?_, x.apart, ?_, fun y b e => x.known y b (hs y b e), fun y xs e => x.own y xs (hs y _ e), fun y z xs ys e1 e2 e => x.ownApart y z xs ys (hs y _ e1) (hs z _ e2) e⟩
  · obtain ⟨m, h1, h2⟩ := x.loc
    exact ⟨m, h1, fun y b h3 h4 => h2 y b h3 (hs y b h4)⟩
  · intro y hy
    obtain ⟨c, w, h1, h2, h3, h4, h5⟩ := x.cell y hy
    exact ⟨c, w, h1, h2, h3, h4, fun b e => h5 b (hs y b e)⟩
  · intro y b hy e
    exact x.free y b hy (hs y b e)

section
variable {n k : Nat} {A : Around} {M O : List Addr} {α : Str → Addr} {env : Env} {nm : NK} {ρ ρ' : En} {s s' : Shared}
theorem Act.isD (x : Act P M O α env nm ρ s) : ∃ o, s.heap.get? env.locals = some o ∧ IsD o := by
  obtain ⟨m, ⟨o, es, ep, h1, h2, _⟩, _⟩ := x.loc
  exact ⟨o, h1, es, ep, h2⟩
theorem Run.wfL (x : Run K P G Λ n M O α env nm ρ s) (f : Floor K P Λ n) : WF K P G (env.locals :: Λ) s.heap :=
  ⟨x.wf.X, x.wf.PK, x.wf.KF, x.wf.PB, x.wf.BMlt, x.wf.bmod, x.wf.base, fun L hL => by
    rcases List.mem_cons.mp hL with rfl | hL
    · exact ⟨Nat.le_trans f.fb (x.MN _ x.act.locM), x.act.isD⟩
    · exact x.wf.fr L hL, x.wf.glob, x.wf.nolimit, x.wf.tab⟩
theorem Run.hereW (x : Run K P G Λ n M O α env nm ρ s) (f : FrmW K P Λ k A env nm n) : HereW K P G (env.locals :: Λ) k A O env nm ρ s :=
  ⟨f.roomW, x.tk, f.kind, f.glb, f.blt, f.names, f.nok, x.hP, x.lt, x.wfL f.floor, x.act.sees f.names⟩
theorem Run.here (x : Run K P G Λ n M O α env nm ρ s) (f : Frm K P Λ k A env nm n) : Here K P G (env.locals :: Λ) k A O env nm ρ s :=
  ⟨x.hereW f.toFrmW, f.handled⟩
theorem Run.keepB {N : List Addr} (x : Run K P G Λ n M O α env nm ρ s) (fl : Floor K P Λ n) (g : GrowB P N s s') (hO : ∀ a ∈ N, a ∈ O) (hM : ∀ a ∈ N, a ∉ M) (hn : ∀ a ∈ N, n ≤ a) : Run K P G Λ n M O α env nm ρ s' :=
  ⟨Nat.lt_of_lt_of_le x.tk g.tks, x.act.keep x.hP g fun a h => ⟨hO a h, hM a h, fun y b hy e hc => absurd (x.freeN y b a hy e hc) (Nat.not_lt.mpr (hn a h))⟩, x.hP, fun a h => Nat.lt_of_lt_of_le (x.lt a h) g.size, g.wf' x.wf fl hn, x.MN, x.freeN⟩
theorem Run.grow (x : Run K P G Λ n M O α env nm ρ s) (g : Grow P s s') : Run K P G Λ n M O α env nm ρ s' :=
  ⟨Nat.lt_of_lt_of_le x.tk g.tks, x.act.growK x.hP g, x.hP, fun a h => Nat.lt_of_lt_of_le (x.lt a h) g.size, x.wf.grow g, x.MN, x.freeN⟩
theorem Run.moreO {O' : List Addr} (x : Run K P G Λ n M O α env nm ρ s) (hs : ∀ a, a ∈ O' → a ∈ O ∨ s.heap.objs.size ≤ a) (hs' : ∀ a ∈ O, a ∈ O') (hlt : ∀ a ∈ O', a < s'.heap.objs.size) (g : Grow P s s') : Run K P G Λ n M O' α env nm ρ s' :=
  ⟨Nat.lt_of_lt_of_le x.tk g.tks, (x.act.moreO hs fun a h => hs' a (x.act.MO a h)).growK (hs' _ x.hP) g, hs' _ x.hP, hlt, x.wf.grow g, x.MN, x.freeN⟩
theorem Run.lessO {O' : List Addr} (x : Run K P G Λ n M O α env nm ρ s) (hs : ∀ a, a ∈ O' → a ∈ O) (hM : ∀ a ∈ M, a ∈ O') (hP : P ∈ O') : Run K P G Λ n M O' α env nm ρ s :=
  ⟨x.tk, x.act.lessO hs hM, hP, fun a h => x.lt a (hs a h), x.wf, x.MN, x.freeN⟩
theorem Run.restrict (x : Run K P G Λ n M O α env nm ρ' s) (hs : ∀ y b, getB ρ y = some b → getB ρ' y = some b) : Run K P G Λ n M O α env nm ρ s :=
  ⟨x.tk, x.act.restrict hs, x.hP, x.lt, x.wf, x.MN, fun y b c hy e hc => x.freeN y b c hy (hs y b e) hc⟩
end

section
variable {prog : Program} {w : World} {n k : Nat} {A : Around} {E : Value → Shared → Prop} {M O : List Addr} {α : Str → Addr} {env : Env} {nm : NK} {ρ ρ' : En} {s : Shared} {rec : NK → En → Expr → Option PyData}

theorem storeB_free {x : Str} {b : B} (h : storeB nm ρ x b = some ρ') : ρ' = putB ρ x b ∧ getK nm x ≠ some .free := by
  unfold storeB at h
  split at h
  · rename_i hk; exact ⟨(Option.some.inj h).symm, by rw [hk]; decide⟩
  · rename_i hk; exact ⟨(Option.some.inj h).symm, by rw [hk]; decide⟩
  · exact no h

/-- a datum is bound -/
theorem store_val {x : Str} {d : PyData} {v : Value} {Q : Unit → Shared → Prop} (f : FrmW K P Λ k A env nm n) (h : storeB nm ρ x (.val d) = some ρ') (r : Run K P G Λ n M O α env nm ρ s) (hv : Rep O s.heap d v)
    (hQ : ∀ s', GrowB P M s s' → Run K P G Λ n M O α env nm ρ' s' → Q () s') : wpAny (model prog w) A (storeName env x v) Q E s := by
  refine store_sound (b := .val d) (β := α) h f.kind f.names r.hP r.act (fun _ _ => rfl) (fun _ _ => rfl) hv (fun xs e => by cases e) fun s' g a => hQ s' g ⟨Nat.lt_of_lt_of_le r.tk g.tks, a, r.hP, fun a h => Nat.lt_of_lt_of_le (r.lt a h) g.size, g.wf' r.wf f.floor r.MN, r.MN, ?_⟩
  obtain ⟨rfl, hx⟩ := storeB_free h
  intro y b c hy e hc
  rw [getB_put] at e
  have hyx : y ≠ x := fun q => hx (q ▸ hy)
  rw [if_neg hyx] at e
  exact r.freeN y b c hy e hc

/-- two names take a pair -/
theorem bindTwo_sound {x y : Str} {px py kp : Pos} {kx : Nat} {a b : PyData} {v : Value} {Q : Unit → Shared → Prop} (f : Frm K P Λ k A env nm n) (h : bindTwo nm ρ x y a b = some ρ') (r : Run K P G Λ n M O α env nm ρ s) (hv : Rep O s.heap (.tuple [a, b]) v)
    (hQ : ∀ s', GrowB P M s s' → Run K P G Λ n M O α env nm ρ' s' → Q () s') : wpAny (model prog w) A (assign (.Tuple [.Name x px, .Name y py] kx kp) env v) Q E s := by
  unfold bindTwo at h
  split at h
  · rename_i ρ₁ h1
    obtain ⟨t, vs, ev, ht, hl, hr⟩ := hv.tuple_inv
    obtain ⟨v1, v2, e1, hv1, hv2⟩ := hr.two
    clear hr
    subst ev
    have hsz : vs.size = 2 := by rw [← Array.length_toList, e1]; rfl
    rw [arm_assign_Tuple]
    refine wpAny_bind (wpAny_standAt ?_)
    unfold unpack
    show wpAny (model prog w) A (do assignInOrder [assign (.Name x px) env, assign (.Name y py) env] (← holding [.ref t] (unpackItems (.ref t) 2 none))) Q E s
    rw [← hsz]
    refine wpAny_bind (wpAny_holding (wpAny_with_size (wpAny_unpackItems_tuple f.handled hl fun h' he hsz' => ?_)))
    rw [e1]
    have g₁ : Grow P s { s with heap := h' } := Grow.of_keep (tk := s.toks) (fun b o e => he b o (Nat.ne_of_lt (Heap.lt_size e)) e) hsz'
    refine assignInOrder_cons (wpAny_assign_Name (store_val f.toFrmW h1 (r.grow g₁) (Rep.grow r.hP g₁ hv1) fun s₂ g₂ R₂ => ?_))
    refine assignInOrder_cons (wpAny_assign_Name (store_val f.toFrmW h R₂ (g₂.rep r.hP r.act.MO (Rep.grow r.hP g₁ hv2)) fun s₃ g₃ R₃ => ?_))
    exact assignInOrder_nil (hQ _ (((GrowB.of g₁).trans g₂).trans g₃) R₃)
  · exact no h
theorem bindTo_tup {es : List Expr} {d : PyData} (h : (on2 es fun t1 t2 => onName t1 fun x _ => onName t2 fun y _ => dTup d fun ds => on2 ds fun a b => bindTwo nm ρ x y a b) = some ρ') : ∃ x px y py a b, es = [.Name x px, .Name y py] ∧ d = .tuple [a, b] ∧ bindTwo nm ρ x y a b = some ρ' := by
  obtain ⟨t1, t2, e1, h1⟩ := on2_some h
  obtain ⟨x, px, e2, h2⟩ := onName_some h1
  obtain ⟨y, py, e3, h3⟩ := onName_some h2
  obtain ⟨ds, e4, h4⟩ := dTup_some h3
  obtain ⟨a, b, e5, h5⟩ := on2_some h4
  exact ⟨x, px, y, py, a, b, by rw [e1, e2, e3], by rw [e4, e5], h5⟩
/-- a loop's target is bound -/
theorem bindTo_sound {t : Expr} {d : PyData} {v : Value} {Q : Unit → Shared → Prop} (f : Frm K P Λ k A env nm n) (h : bindTo nm ρ t d = some ρ') (r : Run K P G Λ n M O α env nm ρ s) (hv : Rep O s.heap d v)
    (hQ : ∀ s', GrowB P M s s' → Run K P G Λ n M O α env nm ρ' s' → Q () s') : wpAny (model prog w) A (assign t env v) Q E s := by
  cases t with
  | Name x p => exact wpAny_assign_Name (store_val f.toFrmW h r hv hQ)
  | Tuple es kx kp =>
    obtain ⟨x, px, y, py, a, b, e1, e2, h1⟩ := bindTo_tup h
    clear h
    subst e1 e2
    exact bindTwo_sound f h1 r hv hQ
  | _ => exact no h

theorem un_ne {ρ : En} {x : Str} (hu : unbound ρ x = true) {y : Str} {b : B} (e : getB ρ y = some b) : y ≠ x := fun q => by
  subst q; unfold unbound at hu; rw [e] at hu; exact noB hu
theorem freshT_bind {t : Expr} {d : PyData} (hf : freshT ρ t = true) (h : bindTo nm ρ t d = some ρ') : ∀ y b, getB ρ y = some b → getB ρ' y = some b := by
  intro y b e
  cases t with
  | Name x p =>
    obtain ⟨e1, _⟩ := storeB_free h
    rw [e1, getB_put, if_neg (un_ne hf e)]; exact e
  | Tuple es kx kp =>
    obtain ⟨x, px, z, py, a, c, e1, e2, h1⟩ := bindTo_tup h
    clear h
    subst e1
    have hu := two_ble (yes_some (isTrue?_eq hf))
    unfold bindTwo at h1
    split at h1
    · rename_i h2
      obtain ⟨e3, _⟩ := storeB_free h2
      obtain ⟨e4, _⟩ := storeB_free h1
      rw [e4, e3, getB_put, if_neg (un_ne hu.2 e), getB_put, if_neg (un_ne hu.1 e)]; exact e
    · exact no h1
  | _ => exact no h

/-- the tests behind a target -/
theorem ptests_sound (S : ESound prog w K P G k rec) : ∀ {ifs : List Expr} {c : Bool} {s : Shared} {Q : Bool → Shared → Prop}, ptests rec nm ρ ifs = some c → Here K P G Λ k A O env nm ρ s → (∀ s', Grow P s s' → Q c s') →
    wpAny (model prog w) A (forIn ifs true fun c r => if r = true then do let ok ← isTrue c env (eval c env); pure (ForInStep.yield ok) else pure (ForInStep.yield r)) Q E s := by
  have off : ∀ (ifs : List Expr) {s : Shared} {Q : Bool → Shared → Prop}, Q false s → wpAny (model prog w) A (forIn ifs false fun c r => if r = true then do let ok ← isTrue c env (eval c env); pure (ForInStep.yield ok) else pure (ForInStep.yield r)) Q E s := by
    intro ifs
    induction ifs with
    | nil => intro s Q h; exact wpAny_pure h
    | cons x r ih =>
      intro s Q h
      simp only [List.forIn_cons, Bool.false_eq_true, if_false]
      exact wpAny_bind (wpAny_pure (ih h))
  intro ifs
  induction ifs with
  | nil => intro c s Q h H hQ; unfold ptests at h; cases h; exact wpAny_pure (hQ _ Grow.refl)
  | cons x r ih =>
    intro c s Q h H hQ
    unfold ptests at h
    simp only [List.forIn_cons, if_true]
    split at h
    · rename_i h1
      exact wpAny_bind (wpAny_bind (ptest_sound S 6 h1 H fun s₁ g₁ => wpAny_pure (ih h (H.grow g₁) fun s₂ g₂ => hQ _ (g₁.trans g₂))))
    · rename_i h1
      cases h
      exact wpAny_bind (wpAny_bind (ptest_sound S 6 h1 H fun s₁ g₁ => wpAny_pure (off r (hQ _ g₁))))
    · cases h
end
end Mine
end
section
open PySem PySem.Spec PySem.Calls PyProof.Rows PySem.W
namespace Mine
variable [Inhabited Base]
variable {K : Frag} {P : Addr} {G : Str → Option Value} {Λ : List Addr}

section
variable {prog : Program} {w : World} {n k : Nat} {A : Around} {E : Value → Shared → Prop} {M O : List Addr} {α : Str → Addr} {env : Env} {nm : NK} {ρ ρ' : En} {s : Shared} {rec : NK → En → Expr → Option PyData}

theorem folded_plain {it : Expr} (h : noSet it = true) : ∀ x, foldedSetIterable it env x = pure x := by
  intro x; cases it <;> first | rfl | cases h

theorem isRange_some {e : Expr} {x : Str × List Expr} (h : isRange e = some x) : ∃ p q, x.1 = "range" ∧ e = .Call (.Name "range" p) x.2 [] q := by
  obtain ⟨g, as, ks, q, e1, h1⟩ := onCall_some h
  obtain ⟨e2, h2⟩ := on0_some h1
  obtain ⟨f, p, e3, h3⟩ := onName_some h2
  obtain ⟨h4, h5⟩ := onT_some h3
  have e4 := (nameEq_iff _ _).mp h4
  rw [← Option.some.inj h5]
  exact ⟨p, q, e4, by rw [e1, e2, e3, e4]⟩
theorem piter_noSet {it : Expr} {items : List PyData} (h : piter rec nm ρ it = some items) : noSet it = true := by
  unfold piter at h
  split at h
  · rename_i x hx
    obtain ⟨p, q, _, e⟩ := isRange_some hx
    rw [e]; rfl
  · exact (onT_some h).1

theorem Turn.rangeG {m : Nat} {I : Addr} {a c : Int} {items : List PyData} (hh : A.handled = none) (hI : IsRangeIter s.heap I a (m : Int) c) (hIP : I ≠ P) (hP : P ∈ O) (hlen : items.length = m) (hit : ∀ j : Nat, j < m → items[j]? = some (.int (a + (j : Int) * c))) : Turn prog w A P (I :: O) items I 0 s := by
  have W : Walks prog w A I [I] [I] m (fun i v => i < m ∧ ∃ t, v = .int (a + (i : Int) * c) t) (fun i h => IsRangeIter h I (a + (i : Nat) * c) ((m : Int) - (i : Nat)) c) := (Walks.range hh I a c m).bound
  refine ⟨[I], fun i v => i < m ∧ ∃ t, v = .int (a + (i : Int) * c) t, fun i h => IsRangeIter h I (a + (i : Nat) * c) ((m : Int) - (i : Nat)) c, by rw [hlen]; exact W, ?_, fun b hb => .inl (List.mem_singleton.mp hb), fun j h st => ⟨_, st, notD_fields rfl⟩, List.mem_cons_self, hIP, List.mem_cons_of_mem _ hP, ?_, .inl ?_⟩
  · show IsRangeIter s.heap I (a + ((0 : Nat) : Int) * c) ((m : Int) - ((0 : Nat) : Int)) c
    simpa using hI
  · rintro j v ⟨hj, t, rfl⟩
    refine ⟨_, hit j hj, ?_⟩
    unfold Rep; exact ⟨t, rfl⟩
  · rintro j v ⟨hj, t, rfl⟩ a h; cases h
theorem Turn.range {m : Nat} {I : Addr} (hh : A.handled = none) (hI : IsRangeIter s.heap I 0 (m : Int) 1) (hIP : I ≠ P) (hP : P ∈ O) : Turn prog w A P (I :: O) ((List.range m).map fun (i : Nat) => .int (i : Int)) I 0 s :=
  Turn.rangeG hh hI hIP hP (by rw [List.length_map, List.length_range]) fun j hj => by
    rw [List.getElem?_map, List.getElem?_range hj]; simp
theorem Turn.down {m : Nat} {I : Addr} (hh : A.handled = none) (hI : IsRangeIter s.heap I (m : Int) (m : Int) (-1)) (hIP : I ≠ P) (hP : P ∈ O) : Turn prog w A P (I :: O) ((List.range m).map fun (i : Nat) => .int ((m : Int) - (i : Int))) I 0 s :=
  Turn.rangeG hh hI hIP hP (by rw [List.length_map, List.length_range]) fun j hj => by
    rw [List.getElem?_map, List.getElem?_range hj]
    show some (PyData.int _) = _
    congr 2; omega
theorem size_down (m : Nat) : Builtin.Range.rangeSize (m : Int) 0 (-1) = m := by
  unfold Builtin.Range.rangeSize
  rw [if_neg (by decide)]
  split
  · have : ((m : Int) - 0 - 1) / (- -1) = (m : Int) - 1 := by simp
    rw [this]; omega
  · omega
theorem small_down {m : Nat} (h : m ≤ 64) : Builtin.Range.small (m : Int) 0 (-1) = true := by
  unfold Builtin.Range.small
  rw [size_down]
  simp only [Builtin.Range.rangeFitsLong, Bool.and_eq_true, Bool.or_eq_true, decide_eq_true_eq, beq_iff_eq, show ¬ ((-1 : Int) > 0) by decide, if_false]
  omega
/-- a range and its iterator, made -/
theorem two_made {a b : Obj} {tk : Nat} (H : Here K P G Λ k A O env nm ρ s) (htk : s.toks ≤ tk) (hb : b.isFreed = false) : Grow P s { s with heap := (s.heap.push a).push b, toks := tk } ∧ s.heap.objs.size ≤ (s.heap.push a).objs.size ∧ (s.heap.push a).objs.size < ((s.heap.push a).push b).objs.size ∧ (s.heap.push a).objs.size ≠ P ∧ ((s.heap.push a).push b).get? (s.heap.push a).objs.size = some b := by
  have h1 : (s.heap.push a).objs.size = s.heap.objs.size + 1 := Heap.size_push _ _
  have h2 : ((s.heap.push a).push b).objs.size = (s.heap.push a).objs.size + 1 := Heap.size_push _ _
  refine ⟨Grow.of_keep (fun c o e => Heap.get?_push_of_some _ (Heap.get?_push_of_some _ e)) (by omega) htk, by omega, by omega, fun q => ?_, Heap.get?_push_size _ hb⟩
  have h3 := H.lt P H.hP
  rw [← q, h1] at h3
  exact absurd h3 (Nat.not_lt.mpr (Nat.le_succ _))
theorem range_up {m : Nat} {vs : List Value} {Q : Value → Shared → Prop} (hm : m ≤ 64) (H : Here K P G Λ k A O env nm ρ s) (r : Reps O s.heap [.int (Int.ofNat m)] vs)
    (hQ : ∀ I s', Grow P s s' → s.heap.objs.size ≤ I → I < s'.heap.objs.size → Turn prog w A P (I :: O) ((List.range m).map fun (i : Nat) => .int (i : Int)) I 0 s' → Q (.ref I) s') : wpAny (model prog w) A (call (.type "range") vs) (fun xv s₁ => wpAny (model prog w) A (pyIter xv) Q E s₁) E s := by
  obtain ⟨v, e1, r1⟩ := r.one
  obtain ⟨t, e2⟩ := r1.int_inv
  rw [e1, e2]
  refine call_range_1 ?_
  have hsz : Builtin.Range.rangeSize 0 (Int.ofNat m) 1 = ((m : Nat) : Int) := by
    rw [rangeSize_one]
    split
    · show (m : Int) - 0 = m; omega
    · rename_i hx; have : ¬ (0 : Int) < (m : Int) := hx; omega
  refine wpAny_pyIter_range (IsRange.new _ _ _ _ _ _ _) (small_one (by decide) (by decide) (by show -(2 ^ 62) ≤ (m : Int); omega) (by show (m : Int) < 2 ^ 62; omega)) ?_
  rw [hsz]
  obtain ⟨g, h1, h2, h3, h4⟩ := two_made (a := { cls := .type "range", data := .fields #[.int 0 s.toks, .int (Int.ofNat m) t, .int 1 (s.toks + 1)] }) (b := { cls := .type "range_iterator", data := .fields #[rawInt 0, rawInt (m : Int), rawInt 1] }) (tk := s.toks + 1 + 1) H (by omega) rfl
  exact hQ _ _ g h1 h2 (Turn.range H.handled h4 h3 H.hP)
theorem range_down {m : Nat} {vs : List Value} {Q : Value → Shared → Prop} (hm : m ≤ 64) (H : Here K P G Λ k A O env nm ρ s) (r : Reps O s.heap [.int (Int.ofNat m), .int (Int.ofNat 0), .int (Int.negSucc 0)] vs)
    (hQ : ∀ I s', Grow P s s' → s.heap.objs.size ≤ I → I < s'.heap.objs.size → Turn prog w A P (I :: O) ((List.range m).map fun (i : Nat) => .int ((m : Int) - (i : Int))) I 0 s' → Q (.ref I) s') : wpAny (model prog w) A (call (.type "range") vs) (fun xv s₁ => wpAny (model prog w) A (pyIter xv) Q E s₁) E s := by
  obtain ⟨v, v2, v3, e1, r1, r2, r3⟩ := r.three
  obtain ⟨t, e2⟩ := r1.int_inv
  obtain ⟨t2, e3⟩ := r2.int_inv
  obtain ⟨t3, e4⟩ := r3.int_inv
  rw [e1, e2, e3, e4]
  refine call_range_3 (by decide) ?_ (Or.inl (PyProof.noPylong_small ?_))
  · refine wpAny_pyIter_range (IsRange.new _ _ _ _ _ _ _) (small_down hm) ?_
    have hsz : Builtin.Range.rangeSize (Int.ofNat m) (Int.ofNat 0) (Int.negSucc 0) = ((m : Nat) : Int) := size_down m
    rw [hsz]
    obtain ⟨g, h1, h2, h3, h4⟩ := two_made (a := { cls := .type "range", data := .fields #[.int (Int.ofNat m) t, .int (Int.ofNat 0) t2, .int (Int.negSucc 0) t3] }) (b := { cls := .type "range_iterator", data := .fields #[rawInt (Int.ofNat m), rawInt (m : Int), rawInt (Int.negSucc 0)] }) (tk := s.toks) H (Nat.le_refl _) rfl
    exact hQ _ _ g h1 h2 (Turn.down H.handled h4 h3 H.hP)
  · decide
theorem rangeF_sound {ds items : List PyData} {vs : List Value} {Q : Value → Shared → Prop} (h : rangeF ds = some items) (H : Here K P G Λ k A O env nm ρ s) (r : Reps O s.heap ds vs)
    (hQ : ∀ I s', Grow P s s' → s.heap.objs.size ≤ I → I < s'.heap.objs.size → Turn prog w A P (I :: O) items I 0 s' → Q (.ref I) s') : wpAny (model prog w) A (call (.type "range") vs) (fun xv s₁ => wpAny (model prog w) A (pyIter xv) Q E s₁) E s := by
  obtain ⟨a, q, e1, h1⟩ := onC_some h
  obtain ⟨i, e2, h2⟩ := dInt_some h1
  obtain ⟨m, e3, h3⟩ := onNat_some h2
  clear h h1 h2
  subst e1 e2 e3
  cases q with
  | nil =>
    obtain ⟨hm, h4⟩ := onT_some h3
    clear h3
    rw [← Option.some.inj h4] at hQ
    exact range_up (Nat.le_of_ble_eq_true hm) H r hQ
  | cons b q =>
    obtain ⟨c, e4, h4⟩ := on1_some h3
    obtain ⟨z, e5, h5⟩ := dInt_some h4
    obtain ⟨y, e6, h6⟩ := dInt_some h5
    obtain ⟨hz, h7⟩ := onT_some h6
    obtain ⟨hm, h8⟩ := onT_some h7
    clear h3 h4 h5 h6 h7
    rw [← Option.some.inj h8] at hQ
    clear h8
    obtain ⟨z0, y1⟩ := two_ble hz
    rw [e4, e5, e6, isZ_eq z0, isM1_eq y1] at r
    exact range_down (Nat.le_of_ble_eq_true hm) H r hQ
/-- the source of a loop -/
theorem piter_sound (S : ESound prog w K P G k rec) (hr : G "range" = some (.type "range")) {it : Expr} {items : List PyData} {Q : Value → Shared → Prop} (h : piter rec nm ρ it = some items) (H : Here K P G Λ k A O env nm ρ s)
    (hQ : ∀ I s', Grow P s s' → s.heap.objs.size ≤ I → I < s'.heap.objs.size → Turn prog w A P (I :: O) items I 0 s' → Q (.ref I) s') :
    wpAny (model prog w) A (eval it env) (fun xv s₁ => wpAny (model prog w) A (pyIter xv) Q E s₁) E s := by
  unfold piter at h
  split at h
  · rename_i x hx
    obtain ⟨p, q, e1, e2⟩ := isRange_some hx
    obtain ⟨hb, h1⟩ := onT_some h
    obtain ⟨ds, ha, h2⟩ := onO_some h1
    clear h h1
    rw [e1] at hb
    rw [e2]
    exact callName_raw S H (isGlob_eq (two_ble hb).2) hr (Callee.ty _) ha fun vs s₁ g₁ r₁ => rangeF_sound h2 (H.grow g₁) r₁ fun I s₂ g₂ i1 i2 T => hQ I s₂ (g₁.trans g₂) (Nat.le_trans g₁.size i1) i2 T
  · obtain ⟨_, h1⟩ := onT_some h
    obtain ⟨d, hd, hi⟩ := onO_some h1
    refine S _ _ _ _ hd A O env s _ E H fun v s₁ g₁ r₁ => ?_
    exact Turn.make H.handled r₁ hi H.hP (H.grow g₁).lt fun I s₂ g₂ h1 h2 T => hQ I s₂ (g₁.trans g₂) (Nat.le_trans g₁.size h1) h2 T
end
end Mine
end
section
open PySem PySem.Spec PySem.Calls PyProof.Rows PySem.W
namespace Mine
variable [Inhabited Base]
variable {K : Frag} {P : Addr} {G : Str → Option Value} {Λ : List Addr}

noncomputable def turnForm (iter t : Expr) (ifs : List Expr) (emit : Sem Fin → Sem Fin) (it : Value) (env : Env) (ag : Sem Fin) : Sem Fin := do
  standAt iter.pos
  match ← pyNext it with
  | none => pure (.done .next)
  | some v =>
    letOwnedTupleGo t it v
    assign t env v
    let mut ok := true
    for c in ifs do
      if ok then ok ← isTrue c env (eval c env)
    if ok then emit ag else ag
noncomputable def emit1 (elt : Expr) (acc : Value) (env : Env) (ag : Sem Fin) : Sem Fin := (do let _ ← call (.builtin "list.append") [acc, ← eval elt env]) >>= fun _ => ag

theorem turnForm_one (elt t iter : Expr) (ifs : List Expr) (scope : Scope) (pos : Pos) (it acc : Value) (env : Env) :
    compTurn (.ListComp elt [⟨t, iter, ifs, 0⟩] scope pos) 0 it acc env = turnForm iter t ifs (emit1 elt acc env) it env (again (.compLoop (.ListComp elt [⟨t, iter, ifs, 0⟩] scope pos) 0 it acc env)) := by rfl
noncomputable def emit2 (e : Expr) (iter : Expr) (acc : Value) (env : Env) (ag : Sem Fin) : Sem Fin := do
  let x ← eval iter env
  standAt iter.pos
  let x ← foldedSetIterable iter env x
  let it ← holding [x] (pyIter x)
  let _ ← runOwn (.compStart e 1 it acc env) env
  ag
theorem turnForm_two0 (elt t iter t2 iter2 : Expr) (ifs ifs2 : List Expr) (scope : Scope) (pos : Pos) (it acc : Value) (env : Env) :
    compTurn (.ListComp elt [⟨t, iter, ifs, 0⟩, ⟨t2, iter2, ifs2, 0⟩] scope pos) 0 it acc env = turnForm iter t ifs (emit2 (.ListComp elt [⟨t, iter, ifs, 0⟩, ⟨t2, iter2, ifs2, 0⟩] scope pos) iter2 acc env) it env
      (again (.compLoop (.ListComp elt [⟨t, iter, ifs, 0⟩, ⟨t2, iter2, ifs2, 0⟩] scope pos) 0 it acc env)) := by rfl
theorem turnForm_two1 (elt t iter t2 iter2 : Expr) (ifs ifs2 : List Expr) (scope : Scope) (pos : Pos) (it acc : Value) (env : Env) :
    compTurn (.ListComp elt [⟨t, iter, ifs, 0⟩, ⟨t2, iter2, ifs2, 0⟩] scope pos) 1 it acc env = turnForm iter2 t2 ifs2 (emit1 elt acc env) it env
      (again (.compLoop (.ListComp elt [⟨t, iter, ifs, 0⟩, ⟨t2, iter2, ifs2, 0⟩] scope pos) 1 it acc env)) := by rfl

/-- the list that a block fills -/
noncomputable def Acc (O : List Addr) (D : Addr) (acc : List PyData) (s : Shared) : Prop := ∃ vs, s.heap.IsList D vs ∧ Reps O s.heap acc vs.toList
section
variable {prog : Program} {w : World} {n k : Nat} {A : Around} {E : Value → Shared → Prop} {M O N : List Addr} {α : Str → Addr} {env : Env} {nm : NK} {ρ ρ' : En} {s s' : Shared} {rec : NK → En → Expr → Option PyData} {D I : Addr} {acc : List PyData}

theorem Acc.keep (x : Acc O D acc s) (g : GrowB P N s s') (hP : P ∈ O) (hN : ∀ a ∈ N, a ∈ O) (hD : D ∉ N) (hDP : D ≠ P) : Acc O D acc s' := by
  obtain ⟨vs, h1, h2⟩ := x
  exact ⟨vs, isList_at h1 fun o hf e => g.keep D o hDP hD (Firm.of hf) e, g.reps hP hN h2⟩

theorem compLoop_sound {gs : List Comprehension} {elt : Expr} {scope : Scope} {pos : Pos} {dp : Nat} {t iter : Expr} {ifs : List Expr} {emit : Sem Fin → Sem Fin} {inner : En → Option (List PyData)} {R : Result → Shared → Prop}
    (hform : compTurn (.ListComp elt gs scope pos) dp (.ref I) (.ref D) env = turnForm iter t ifs emit (.ref I) env (again (.compLoop (.ListComp elt gs scope pos) dp (.ref I) (.ref D) env)))
    (S : ESound prog w K P G k rec) (f : Frm K P Λ k A env nm n) (hf : freshT ρ t = true) {items xs : List PyData} (h : pturns rec nm ρ t ifs inner items = some xs)
    (hDO : D ∈ O) (hDM : D ∉ M) (hDP : D ≠ P) (hDn : n ≤ D) (hIM : I ∉ M) (hID : I ≠ D) (hIn : n ≤ I)
    (hemit : ∀ (ρ' : En) (ys acc : List PyData) (s : Shared) (ag : Sem Fin) (Q : Fin → Shared → Prop) (E : Value → Shared → Prop), inner ρ' = some ys → (acc ++ ys).length ≤ 1000 → Run K P G Λ n M O α env nm ρ' s → Acc O D acc s →
      (∀ s', GrowB P (D :: M) s s' → Run K P G Λ n M O α env nm ρ' s' → Acc O D (acc ++ ys) s' → wpAny (model prog w) A ag Q E s') → wpAny (model prog w) A (emit ag) Q E s)
    (hlen : (acc ++ xs).length ≤ 1000) (r : Run K P G Λ n M O α env nm ρ s) (ha : Acc O D acc s) (T : Turn prog w A P O items I 0 s)
    (hR : ∀ s', GrowB P (I :: D :: M) s s' → Run K P G Λ n M O α env nm ρ s' → Acc O D (acc ++ xs) s' → R (.ok .next) s') :
    codeAny (model prog w) A (.compLoop (.ListComp elt gs scope pos) dp (.ref I) (.ref D) env) R s := by
  have hIO : I ∈ O := T.mem
  have hIP : I ≠ P := T.neP
  refine codeAny_loop rfl
    (fun m s' => ∃ i acc' rest, m = items.length + 1 - i ∧ i ≤ items.length ∧ GrowB P (I :: D :: M) s s' ∧ Run K P G Λ n M O α env nm ρ s' ∧ Acc O D acc' s' ∧ Turn prog w A P O items I i s' ∧
      pturns rec nm ρ t ifs inner (items.drop i) = some rest ∧ acc' ++ rest = acc ++ xs) ?_ (items.length + 1)
    ⟨0, acc, xs, rfl, Nat.zero_le _, GrowB.refl, r, ha, T, h, rfl⟩
  rintro m s' ⟨i, acc', rest, rfl, hi, g, r', ha', T', hp, hs⟩
  show wpAny _ A ((compTurn (.ListComp elt gs scope pos) dp (.ref I) (.ref D) env).onRaise (fun x => do noteFrame x env; theTreesLotGoes x)) _ _ s'
  refine wpAny_noted ?_
  rw [hform]
  unfold turnForm
  refine wpAny_bind (wpAny_standAt (wpAny_bind ?_))
  have mI : ∀ a ∈ [I], a ∈ O := fun a h => by rw [List.mem_singleton.mp h]; exact hIO
  rcases Nat.lt_or_ge i items.length with hlt | hge
  · have hd : items[i]? = some items[i] := List.getElem?_eq_getElem hlt
    rw [List.drop_eq_getElem_cons hlt] at hp
    unfold pturns at hp
    refine T'.next hd fun v s₁ g₁ r₁ T₁ go => ?_
    have R₁ : Run K P G Λ n M O α env nm ρ s₁ := r'.keepB f.floor g₁ mI (fun a h => by rw [List.mem_singleton.mp h]; exact hIM) (fun a h => by rw [List.mem_singleton.mp h]; exact hIn)
    have A₁ := ha'.keep g₁ r'.hP mI (fun h => hID (List.mem_singleton.mp h).symm) hDP
    refine wpAny_bind (go _ _ _ ?_)
    split at hp
    · rename_i ρ₁ hb
      refine wpAny_bind (bindTo_sound f hb R₁ r₁ fun s₂ g₂ R₂ => ?_)
      have A₂ := A₁.keep g₂ r'.hP r'.act.MO hDM hDP
      have T₂ := T₁.keep g₂ hIM r'.act.MO
      have res : ∀ y b, getB ρ y = some b → getB ρ₁ y = some b := freshT_bind hf hb
      have up2 : GrowB P (I :: D :: M) s s₂ := (g.trans (g₁.less fun b hb => .inl (by rw [List.mem_singleton.mp hb]; exact List.mem_cons_self))).trans (g₂.less fun b hb => .inl (List.mem_cons_of_mem _ (List.mem_cons_of_mem _ hb)))
      refine wpAny_bind ?_
      split at hp
      · rename_i ht
        split at hp
        · rename_i ys hy
          split at hp
          · rename_i zs hz
            cases hp
            refine ptests_sound S ht (R₂.here f) fun s₃ g₃ => ?_
            simp only [if_true]
            have hle : (acc' ++ ys).length ≤ 1000 := by
              have := congrArg List.length hs
              simp only [List.length_append] at this hlen ⊢
              omega
            refine hemit ρ₁ ys acc' s₃ _ _ _ hy hle (R₂.grow g₃) (A₂.keep (GrowB.of (N := []) g₃) r'.hP (fun _ h => nomatch h) (fun h => nomatch h) hDP) fun s₄ g₄ R₄ A₄ => ?_
            refine wpAny_pure ⟨rfl, items.length + 1 - (i + 1), by omega, i + 1, acc' ++ ys, zs, rfl, hlt, ?_, R₄.restrict res, A₄, ?_, hz, by rw [List.append_assoc]; exact hs⟩
            · exact (up2.trans (GrowB.of g₃)).trans (g₄.less fun b hb => .inl (List.mem_cons_of_mem _ hb))
            · refine (T₂.keep (GrowB.of (N := []) g₃) (fun h => nomatch h) (fun _ h => nomatch h)).keep g₄ (fun h => ?_) fun a h => ?_
              · rcases List.mem_cons.mp h with h | h
                · exact hID h
                · exact hIM h
              · rcases List.mem_cons.mp h with rfl | h
                · exact hDO
                · exact r'.act.MO a h
          · cases hp
        · cases hp
      · rename_i ht
        refine ptests_sound S ht (R₂.here f) fun s₃ g₃ => ?_
        simp only [Bool.false_eq_true, if_false]
        refine wpAny_pure ⟨rfl, items.length + 1 - (i + 1), by omega, i + 1, acc', rest, rfl, hlt, up2.trans (GrowB.of g₃), (R₂.grow g₃).restrict res, A₂.keep (GrowB.of (N := []) g₃) r'.hP (fun _ h => nomatch h) (fun h => nomatch h) hDP,
          T₂.keep (GrowB.of (N := []) g₃) (fun h => nomatch h) (fun _ h => nomatch h), hp, hs⟩
      · cases hp
    · cases hp
  · obtain rfl : i = items.length := Nat.le_antisymm hi hge
    refine T'.done fun s₁ g₁ => wpAny_pure ?_
    rw [List.drop_length] at hp
    unfold pturns at hp
    cases hp
    rw [List.append_nil] at hs
    subst hs
    exact hR _ (g.trans (g₁.less fun b hb => .inl (by rw [List.mem_singleton.mp hb]; exact List.mem_cons_self)))
      (r'.keepB f.floor g₁ mI (fun a h => by rw [List.mem_singleton.mp h]; exact hIM) (fun a h => by rw [List.mem_singleton.mp h]; exact hIn)) (ha'.keep g₁ r'.hP mI (fun h => hID (List.mem_singleton.mp h).symm) hDP)
end
end Mine
end
section
open PySem PySem.Spec PySem.Calls PyProof.Rows PySem.W
namespace Mine
variable [Inhabited Base]
variable {K : Frag} {P : Addr} {G : Str → Option Value} {Λ : List Addr}
section
variable {prog : Program} {w : World} {n k : Nat} {A : Around} {E : Value → Shared → Prop} {M O N : List Addr} {α : Str → Addr} {env : Env} {nm : NK} {ρ ρ' : En} {s s' : Shared} {rec : NK → En → Expr → Option PyData} {D I : Addr} {acc : List PyData}

theorem emit1_sound (S : ESound prog w K P G k rec) (f : Frm K P Λ k A env nm n) {elt : Expr} (hDO : D ∈ O) (hDM : D ∉ M) (hDP : D ≠ P) (hDn : n ≤ D)
    (ρ' : En) (ys acc : List PyData) (s : Shared) (ag : Sem Fin) (Q : Fin → Shared → Prop) (E : Value → Shared → Prop) (hy : pelt rec nm elt ρ' = some ys) (hlen : (acc ++ ys).length ≤ 1000) (r : Run K P G Λ n M O α env nm ρ' s) (ha : Acc O D acc s)
    (hQ : ∀ s', GrowB P (D :: M) s s' → Run K P G Λ n M O α env nm ρ' s' → Acc O D (acc ++ ys) s' → wpAny (model prog w) A ag Q E s') : wpAny (model prog w) A (emit1 elt (.ref D) env ag) Q E s := by
  unfold pelt at hy
  split at hy
  · rename_i d hd
    cases hy
    unfold emit1
    refine wpAny_bind (wpAny_bind (S _ _ _ _ hd A O env s _ E (r.here f) fun v s₁ g₁ r₁ => wpAny_bind ?_))
    obtain ⟨vs, h1, h2⟩ := ha.keep (GrowB.of (N := []) g₁) r.hP (fun _ h => nomatch h) (fun h => nomatch h) hDP
    have hsz : vs.size ≤ sizeLine := by
      have := h2.length
      rw [List.length_append] at hlen
      rw [← Array.length_toList, this]
      exact Nat.le_trans (by omega : acc.length ≤ 1000) (by decide)
    refine wpAny_list_append h1 (fun h' hl hs => wpAny_pure ?_) hsz
    have g₂ : GrowB P [D] s₁ { s₁ with heap := h' } := GrowB.same (tk := s₁.toks) (List.mem_singleton.mpr rfl) hDP hs
    have mD : ∀ a ∈ [D], a ∈ O := fun a h => by rw [List.mem_singleton.mp h]; exact hDO
    refine hQ _ ((GrowB.of g₁).trans (g₂.less fun b hb => .inl (by rw [List.mem_singleton.mp hb]; exact List.mem_cons_self)))
      ((r.grow g₁).keepB f.floor g₂ mD (fun a h => by rw [List.mem_singleton.mp h]; exact hDM) (fun a h => by rw [List.mem_singleton.mp h]; exact hDn)) ⟨vs.push v, hl, ?_⟩
    rw [Array.toList_push]
    exact g₂.reps r.hP mD (Reps.append h2 (Reps.cons r₁ Reps.nil))
  · cases hy

theorem codeAny_compStart1 {R : Result → Shared → Prop} {elt : Expr} {g0 : Comprehension} {target iter : Expr} {ifs : List Expr} {scope : Scope} {pos : Pos} {it acc : Value}
    (h0 : codeAny (model prog w) A (.compLoop (.ListComp elt [g0, ⟨target, iter, ifs, 0⟩] scope pos) 1 it acc env) R s)
    (h : wpAny (model prog w) A (pyIter it) (fun it' s' => codeAny (model prog w) A (.compLoop (.ListComp elt [g0, ⟨target, iter, ifs, 0⟩] scope pos) 1 it' acc env) R s')
      (notedBy (model prog w) A env fun x s' => R (.error x) s') s) :
    codeAny (model prog w) A (.compStart (.ListComp elt [g0, ⟨target, iter, ifs, 0⟩] scope pos) 1 it acc env) R s := by
  refine codeAny_of_tree ?_
  show wpAny _ _ ((compStart (.ListComp elt [g0, ⟨target, iter, ifs, 0⟩] scope pos) 1 it acc env).onRaise (fun x => do noteFrame x env; standAt theWindowsPlace)) _ _ s
  refine wpAny_notedAt ?_
  unfold compStart
  show wpAny _ _ (ask >>= _) _ _ s
  refine wpAny_bind (wpAny_askSetting (wpAny_ite ?_))
  split
  · first
      | exact wpAny_bind (wpAny_pure (wpAny_pure (And.intro rfl h0)))
      | exact wpAny_pure (And.intro rfl h0)
  · first
      | exact wpAny_bind (wpAny_rule (wpAny_bind (wpAny_standAt (wpAny_bind (wpAny_mono h (fun it' s' h' => wpAny_pure (And.intro rfl h')) fun _ _ x => x)))))
      | (refine wpAny_bind (wpAny_rule ?_); show wpAny _ _ (standAt iter.pos >>= _) _ _ s; exact wpAny_bind (wpAny_standAt (wpAny_bind (wpAny_mono h (fun it' s' h' => wpAny_pure (And.intro rfl h')) fun _ _ x => x))))

theorem emit2_sound (S : ESound prog w K P G k rec) (hr : G "range" = some (.type "range")) (f : Frm K P Λ k A env nm n) {elt t iter t2 iter2 : Expr} {ifs ifs2 : List Expr} {scope : Scope} {pos : Pos} (hDO : D ∈ O) (hDM : D ∉ M) (hDP : D ≠ P) (hDn : n ≤ D)
    (ρ' : En) (ys acc : List PyData) (s : Shared) (ag : Sem Fin) (Q : Fin → Shared → Prop) (E : Value → Shared → Prop) (hy : pgens rec nm elt [⟨t2, iter2, ifs2, 0⟩] ρ' = some ys) (hlen : (acc ++ ys).length ≤ 1000) (r : Run K P G Λ n M O α env nm ρ' s) (ha : Acc O D acc s)
    (hQ : ∀ s', GrowB P (D :: M) s s' → Run K P G Λ n M O α env nm ρ' s' → Acc O D (acc ++ ys) s' → wpAny (model prog w) A ag Q E s') :
    wpAny (model prog w) A (emit2 (.ListComp elt [⟨t, iter, ifs, 0⟩, ⟨t2, iter2, ifs2, 0⟩] scope pos) iter2 (.ref D) env ag) Q E s := by
  have hy0 : onT (isZ 0 && freshT ρ' t2) (onO (piter rec nm ρ' iter2) fun items => pturns rec nm ρ' t2 ifs2 (pelt rec nm elt) items) = some ys := hy
  obtain ⟨hzf, hy1⟩ := onT_some hy0
  obtain ⟨items, hi, hy'⟩ := onO_some hy1
  have hf := (two_ble hzf).2
  clear hy hy0 hy1 hzf
  unfold emit2
  refine wpAny_bind (wpAny_mono (piter_sound S hr (Q := fun it s₁ => wpAny (model prog w) A (runOwn (.compStart (.ListComp elt [⟨t, iter, ifs, 0⟩, ⟨t2, iter2, ifs2, 0⟩] scope pos) 1 it (.ref D) env) env >>= fun _ => ag) Q E s₁) hi (r.here f) fun I s₁ g₁ hI hI' T => ?_) (fun xv s₁ h₁ => wpAny_bind (wpAny_standAt (wpAny_bind (wpAny_of_eq (folded_plain (piter_noSet hi) xv) (wpAny_bind (wpAny_holding h₁)))))) fun _ _ e => e)
  have hIO : I ∉ O := fun h => absurd (r.lt I h) (Nat.not_lt.mpr hI)
  have hID : I ≠ D := fun h => hIO (h ▸ hDO)
  have hIM : I ∉ M := fun h => hIO (r.act.MO I h)
  have hIn : n ≤ I := Nat.le_trans hDn (Nat.le_trans (Nat.le_of_lt (r.lt D hDO)) hI)
  have mO : ∀ a, a ∈ I :: O → a ∈ O ∨ s.heap.objs.size ≤ a := fun a h => by
    rcases List.mem_cons.mp h with rfl | h
    · exact .inr hI
    · exact .inl h
  have r₁ : Run K P G Λ n M (I :: O) α env nm ρ' s₁ := r.moreO mO (fun a h => List.mem_cons_of_mem _ h) (fun a h => by
    rcases List.mem_cons.mp h with rfl | h
    · exact hI'
    · exact Nat.lt_of_lt_of_le (r.lt a h) g₁.size) g₁
  have a₁ : Acc (I :: O) D acc s₁ := by
    obtain ⟨vs, h1, h2⟩ := ha
    exact ⟨vs, isList_at h1 fun o hf e => g₁.keep D o hDP (Firm.of hf) e, Reps.grow (List.mem_cons_of_mem _ r.hP) g₁ (Reps.more mO h2)⟩
  refine wpAny_bind (wpAny_runOwn (h := none) ?_)
  have loop : codeAny (model prog w) (A.mark none) (.compLoop (.ListComp elt [⟨t, iter, ifs, 0⟩, ⟨t2, iter2, ifs2, 0⟩] scope pos) 1 (.ref I) (.ref D) env)
      (fun r s' => match r with | .ok f => wpAny (model prog w) A ag Q E s' | .error e => cameBackBy (model prog w) A env E e s') s₁ := by
    show codeAny (model prog w) A _ _ s₁
    refine compLoop_sound (turnForm_two1 ..) S f hf hy' (List.mem_cons_of_mem _ hDO) hDM hDP hDn hIM hID hIn (emit1_sound S f (List.mem_cons_of_mem _ hDO) hDM hDP hDn) hlen r₁ a₁ T fun s₂ g₂ r₂ a₂ => ?_
    refine hQ s₂ ?_ (r₂.lessO (fun a h => List.mem_cons_of_mem _ h) r.act.MO r.hP) ?_
    · refine ((GrowB.of g₁).trans g₂).less fun b hb => ?_
      rcases List.mem_cons.mp hb with rfl | hb
      · exact .inr hI
      · exact .inl hb
    · obtain ⟨vs, h1, h2⟩ := a₂
      exact ⟨vs, h1, Reps.less (fun a h => List.mem_cons_of_mem _ h) h2⟩
  exact codeAny_compStart1 loop (T.self loop)
end
end Mine
end
section
open PySem PySem.Spec PySem.Calls PyProof.Rows PySem.W
namespace Mine
variable [Inhabited Base]
variable {K : Frag} {P : Addr} {G : Str → Option Value} {Λ : List Addr}

/-- the cells that a block closes over -/
noncomputable def clFrom (env : Env) : NK → List (Str × Addr) → List (Str × Addr)
  | [], cs => cs
  | (x, kd) :: r, cs => if kd == .free then clFrom env r ((x, (env.cells.lookup x).getD 0) :: cs) else clFrom env r cs
theorem closureFor_eq {env : Env} {scope : Scope} (h : ∀ x, (x, NameKind.free) ∈ scope.names → (env.cells.lookup x).isSome = true) : closureFor scope env = pure (clFrom env scope.names []) := by
  have key : ∀ (f : Str × NameKind → List (Str × Addr) → Sem (ForInStep (List (Str × Addr)))), (∀ x kd cs, (kd = .free → (env.cells.lookup x).isSome = true) → f (x, kd) cs = if kd == .free then pure (.yield ((x, (env.cells.lookup x).getD 0) :: cs)) else pure (.yield cs)) →
      ∀ (names : NK) (cs : List (Str × Addr)), (∀ x, (x, NameKind.free) ∈ names → (env.cells.lookup x).isSome = true) → forIn names cs f = (pure (clFrom env names cs) : Sem (List (Str × Addr))) := by
    intro f hf names
    induction names with
    | nil => intro cs _; rfl
    | cons p r ih =>
      obtain ⟨x, kd⟩ := p
      intro cs hx
      rw [List.forIn_cons, hf x kd cs fun q => hx x (by rw [q]; exact List.mem_cons_self)]
      have ih' := fun cs => ih cs fun x hm => hx x (List.mem_cons_of_mem _ hm)
      unfold clFrom
      cases kd == NameKind.free
      · exact ih' cs
      · exact ih' _
  unfold closureFor
  refine (congrArg (fun t => t >>= fun cs => pure cs) (key _ (fun x kd cs hx => ?_) scope.names [] h)).trans rfl
  cases kd <;> first
    | rfl
    | (have := hx rfl
       cases hl : env.cells.lookup x with
       | none => rw [hl] at this; cases this
       | some a =>
         show (cellOf env x >>= fun a => pure (ForInStep.yield ((x, a) :: cs))) = _
         unfold cellOf
         rw [hl]; rfl)

theorem clFrom_mem {env : Env} : ∀ {names : NK} {cs : List (Str × Addr)} {x : Str} {c : Addr}, (x, c) ∈ clFrom env names cs → (x, c) ∈ cs ∨ ((x, NameKind.free) ∈ names ∧ c = (env.cells.lookup x).getD 0)
  | [], _, _, _, h => .inl h
  | (y, kd) :: r, cs, x, c, h => by
    unfold clFrom at h
    split at h
    · rename_i hk
      have hk : kd = .free := by simpa using hk
      subst hk
      rcases clFrom_mem h with h | ⟨h, e⟩
      · rcases List.mem_cons.mp h with h | h
        · cases h; exact .inr ⟨List.mem_cons_self, rfl⟩
        · exact .inl h
      · exact .inr ⟨List.mem_cons_of_mem _ h, e⟩
    · rcases clFrom_mem h with h | ⟨h, e⟩
      · exact .inl h
      · exact .inr ⟨List.mem_cons_of_mem _ h, e⟩
theorem clFrom_has {env : Env} : ∀ {names : NK} {cs : List (Str × Addr)} {x : Str}, ((x, NameKind.free) ∈ names ∨ ∃ c, (x, c) ∈ cs) → ∃ c, (x, c) ∈ clFrom env names cs
  | [], _, _, h => by
    rcases h with h | h
    · cases h
    · exact h
  | (y, kd) :: r, cs, x, h => by
    unfold clFrom
    split
    · refine clFrom_has ?_
      rcases h with h | ⟨c, h⟩
      · rcases List.mem_cons.mp h with h | h
        · cases h; exact .inr ⟨_, List.mem_cons_self⟩
        · exact .inl h
      · exact .inr ⟨c, List.mem_cons_of_mem _ h⟩
    · rename_i hk
      refine clFrom_has ?_
      rcases h with h | h
      · rcases List.mem_cons.mp h with h | h
        · cases h; exact absurd rfl hk
        · exact .inl h
      · exact .inr h
theorem lookup_of_mem {α : Type} : ∀ {l : List (Str × α)} {x : Str} {c : α}, (x, c) ∈ l → (l.lookup x).isSome = true
  | (y, d) :: r, x, c, h => by
    rw [List.lookup_cons]
    cases hb : x == y with
    | true => rfl
    | false =>
      rcases List.mem_cons.mp h with h | h
      · cases h; simp at hb
      · exact lookup_of_mem h
theorem clFrom_lookup {env : Env} {names : NK} {x : Str} {c : Addr} (hx : (x, NameKind.free) ∈ names) (hc : env.cells.lookup x = some c) : (clFrom env names []).lookup x = some c := by
  obtain ⟨c', h⟩ := clFrom_has (env := env) (cs := []) (.inl hx)
  obtain ⟨c2, h2⟩ := Option.isSome_iff_exists.mp (lookup_of_mem h)
  rcases clFrom_mem (mem_of_lookup h2) with h3 | ⟨_, e⟩
  · cases h3
  · rw [h2, e, hc]; rfl
theorem lookup_append {α : Type} : ∀ {l r : List (Str × α)} {x : Str}, (∀ c, (x, c) ∉ l) → (l ++ r).lookup x = r.lookup x
  | [], _, _, _ => rfl
  | (y, d) :: l, r, x, h => by
    rw [List.cons_append, List.lookup_cons]
    cases hb : x == y with
    | true => rw [beq_iff_eq] at hb; subst hb; exact absurd List.mem_cons_self (h d)
    | false => exact lookup_append fun c hc => h c (List.mem_cons_of_mem _ hc)
theorem lookup_append_some {α : Type} : ∀ {l r : List (Str × α)} {x : Str} {c : α}, l.lookup x = some c → (l ++ r).lookup x = some c
  | [], _, _, _, h => by cases h
  | (y, d) :: l, r, x, c, h => by
    rw [List.cons_append, List.lookup_cons]
    rw [List.lookup_cons] at h
    cases hb : x == y with
    | true => rw [hb] at h; exact h
    | false => rw [hb] at h; exact lookup_append_some h
theorem cellsFrom_append : ∀ (names : NK) (n : Nat) (acc cl : List (Str × Addr)), cellsFrom n names (acc ++ cl) = cellsFrom n names acc ++ cl
  | [], _, _, _ => rfl
  | (x, kd) :: r, n, acc, cl => by
    unfold cellsFrom
    split
    · exact cellsFrom_append r (n + 1) ((x, n) :: acc) cl
    · exact cellsFrom_append r n acc cl
theorem cellsFrom_mem : ∀ {names : NK} {n : Nat} {acc : List (Str × Addr)} {x : Str} {c : Addr}, (x, c) ∈ cellsFrom n names acc → (x, c) ∈ acc ∨ (x, NameKind.cell) ∈ names
  | [], _, _, _, _, h => .inl h
  | (y, kd) :: r, n, acc, x, c, h => by
    unfold cellsFrom at h
    split at h
    · rename_i hk
      have hk : kd = .cell := by simpa using hk
      subst hk
      rcases cellsFrom_mem h with h | h
      · rcases List.mem_cons.mp h with h | h
        · cases h; exact .inr List.mem_cons_self
        · exact .inl h
      · exact .inr (List.mem_cons_of_mem _ h)
    · rcases cellsFrom_mem h with h | h
      · exact .inl h
      · exact .inr (List.mem_cons_of_mem _ h)
theorem cellsFrom_has : ∀ {names : NK} {n : Nat} {acc : List (Str × Addr)} {x : Str}, ((x, NameKind.cell) ∈ names ∨ ∃ c, (x, c) ∈ acc) → ∃ c, (x, c) ∈ cellsFrom n names acc
  | [], _, _, _, h => by
    rcases h with h | h
    · cases h
    · exact h
  | (y, kd) :: r, n, acc, x, h => by
    unfold cellsFrom
    split
    · refine cellsFrom_has ?_
      rcases h with h | ⟨c, h⟩
      · rcases List.mem_cons.mp h with h | h
        · cases h; exact .inr ⟨_, List.mem_cons_self⟩
        · exact .inl h
      · exact .inr ⟨c, List.mem_cons_of_mem _ h⟩
    · rename_i hk
      refine cellsFrom_has ?_
      rcases h with h | h
      · rcases List.mem_cons.mp h with h | h
        · cases h; exact absurd rfl hk
        · exact .inl h
      · exact .inr h
theorem pushCells_size : ∀ (names : NK) (h : Heap), h.objs.size ≤ (pushCells h names).objs.size
  | [], _ => Nat.le_refl _
  | (x, kd) :: r, h => by
    unfold pushCells
    split
    · exact Nat.le_trans (by rw [Heap.size_push]; exact Nat.le_succ _) (pushCells_size r _)
    · exact pushCells_size r h

theorem apart_mem : ∀ {names : NK} {x : Str} {kd : NameKind}, blockOk.apart names = true → (x, kd) ∈ names → names.lookup x = some kd
  | (y, k2) :: r, x, kd, h, hm => by
    unfold blockOk.apart at h
    rw [Bool.and_eq_true] at h
    rw [List.lookup_cons]
    rcases List.mem_cons.mp hm with e | hm
    · cases e; rw [beq_self_eq_true]
    · have := apart_mem h.2 hm
      cases hb : x == y with
      | true =>
        rw [beq_iff_eq] at hb
        have h1 := h.1
        rw [getK_eq, ← hb, this] at h1
        cases h1
      | false => exact this

theorem newCompEnv {M : Model} {A : Around} {E : Value → Shared → Prop} {s : Shared} {scope : Scope} {globals : Addr} {cl : List (Str × Addr)} {qual : Str} {outer : Env} {Q : Env → Shared → Prop}
    (hQ : Q { scope, locals := s.heap.objs.size, globals, cells := cellsFrom (s.heap.objs.size + 1) scope.names cl, qual, func := none, code := outer.code, frame := outer.frame, builtins := outer.builtins }
      { s with heap := pushCells (s.heap.push { cls := .type "dict", data := .dict #[] }) scope.names }) :
    wpAny M A (newFunctionEnv scope globals cl [] qual none .none (some outer)) Q E s := by
  simp only [newFunctionEnv, Option.isSome_some, if_true]
  refine wpAny_bind (wpAny_alloc ?_)
  refine wpAny_bind (wpAny_layCells _ (fun name kind cells => by cases hkc : kind == NameKind.cell <;> simp [hkc]) _ _ _ _ ?_)
  rw [show ({ s with heap := s.heap.push { cls := .type "dict", data := .dict #[] } } : Shared).heap.objs.size = s.heap.objs.size + 1 from Heap.size_push ..]
  exact wpAny_bind (wpAny_pure (wpAny_pure hQ))

theorem lookup_relabel {c : Str → NameKind → Bool} : ∀ {names : NK} {x : Str}, (names.map fun (n, k) => if c n k = true then (n, NameKind.cell) else (n, k)).lookup x = (names.lookup x).map fun k => if c x k = true then NameKind.cell else k
  | [], _ => rfl
  | (y, kd) :: r, x => by
    have ih := @lookup_relabel c r x
    rw [List.map_cons]
    dsimp only
    by_cases hc : c y kd = true
    · rw [if_pos hc, List.lookup_cons, List.lookup_cons]
      cases hb : x == y with
      | true => rw [beq_iff_eq] at hb; subst hb; simp [hc]
      | false => exact ih
    · rw [if_neg hc, List.lookup_cons, List.lookup_cons]
      cases hb : x == y with
      | true => rw [beq_iff_eq] at hb; subst hb; simp [hc]
      | false => exact ih
end Mine
end
section
open PySem PySem.Spec PySem.Calls PyProof.Rows PySem.W
namespace Mine
variable [Inhabited Base]
variable {K : Frag} {P : Addr} {G : Str → Option Value} {Λ : List Addr}
section
variable {prog : Program} {w : World} {k : Nat} {A : Around} {E : Value → Shared → Prop} {O : List Addr} {env : Env} {nm : NK} {ρ ρ' : En} {s s' : Shared} {rec : NK → En → Expr → Option PyData} {acc : List PyData}

theorem closed_get : ∀ {names : NK} {ρ' : En}, closed ρ names = some ρ' → (∀ x b, getB ρ' x = some b → (x, NameKind.free) ∈ names ∧ ∃ d, b = .val d ∧ getB ρ x = some (.val d)) ∧ ∀ x, (x, NameKind.free) ∈ names → ∃ d, getB ρ x = some (.val d)
  | [], ρ', h => by cases h; exact ⟨fun x b e => (nomatch e), fun x h => (nomatch h)⟩
  | (y, kd) :: r, ρ', h => by
    have other : kd ≠ .free → closed ρ r = some ρ' → (∀ x b, getB ρ' x = some b → (x, NameKind.free) ∈ (y, kd) :: r ∧ ∃ d, b = .val d ∧ getB ρ x = some (.val d)) ∧ ∀ x, (x, NameKind.free) ∈ (y, kd) :: r → ∃ d, getB ρ x = some (.val d) := fun hk h => by
      obtain ⟨h1, h2⟩ := closed_get h
      refine ⟨fun x b e => ⟨List.mem_cons_of_mem _ (h1 x b e).1, (h1 x b e).2⟩, fun x hm => ?_⟩
      rcases List.mem_cons.mp hm with e | hm
      · cases e; exact absurd rfl hk
      · exact h2 x hm
    cases kd with
    | free =>
      simp only [closed] at h
      split at h
      · rename_i d hd
        split at h
        · rename_i l hl
          cases h
          obtain ⟨h1, h2⟩ := closed_get hl
          refine ⟨fun x b e => ?_, fun x hm => ?_⟩
          · unfold getB at e
            split at e
            · rename_i hx
              cases e
              have hx := (nameEq_iff _ _).mp hx
              subst hx
              exact ⟨List.mem_cons_self, d, rfl, hd⟩
            · exact ⟨List.mem_cons_of_mem _ (h1 x b e).1, (h1 x b e).2⟩
          · rcases List.mem_cons.mp hm with e | hm
            · cases e; exact ⟨d, hd⟩
            · exact h2 x hm
        · cases h
      · cases h
    | _ => exact other (by intro q; cases q) h

theorem blockOk_get {inner : NK} (h : blockOk nm inner = true) : namesOk inner = true ∧ blockOk.apart inner = true ∧ (∀ x, (x, NameKind.free) ∈ inner → getK nm x = some .cell ∨ getK nm x = some .free) := by
  unfold blockOk at h
  rw [Bool.and_eq_true, Bool.and_eq_true] at h
  refine ⟨h.1.1, h.1.2, fun x hx => ?_⟩
  have := List.all_eq_true.mp h.2 _ hx
  dsimp only at this
  split at this
  · rename_i e; exact .inl e
  · rename_i e; exact .inr e
  · cases this

theorem pblock_some {g : Comprehension} {scope : Scope} {inner : En → Option (List PyData)} {d : PyData} (h : pblock rec nm ρ g scope inner = some d) : (isZ g.is_async && (blockOk nm scope.names && isFunK scope.kind)) = true ∧ ∃ items ρ' xs, piter rec nm ρ g.iter = some items ∧ closed ρ scope.names = some ρ' ∧ freshT ρ' g.target = true ∧ pturns rec scope.names ρ' g.target g.ifs inner items = some xs ∧ xs.length ≤ 1000 ∧ d = .list xs := by
  obtain ⟨h0, h1⟩ := onT_some h
  obtain ⟨items, hi, h2⟩ := onO_some h1
  obtain ⟨ρ', hc, h3⟩ := onO_some h2
  obtain ⟨hf, h4⟩ := onT_some h3
  obtain ⟨xs, hp, h5⟩ := onO_some h4
  obtain ⟨hx, h6⟩ := guard'_some h5
  exact ⟨h0, items, ρ', xs, hi, hc, hf, hp, Nat.le_of_ble_eq_true hx, (Option.some.inj h6).symm⟩
/-- a comprehension; what comes behind it is left to hfin -/
theorem block_sound (S : ESound prog w K P G k rec) (hr : G "range" = some (.type "range")) {elt : Expr} {t it : Expr} {ifs : List Expr} {gs0 : List Comprehension} {scope : Scope} {pos pos' : Pos} {d : PyData} {use : Option (Value → Sem Unit)} {Q : Value → Shared → Prop} (H : Here K P G Λ k A O env nm ρ s)
    (hfin : ∀ D C s', Grow P s s' → Rep (C :: O) s'.heap d (.ref D) → s.heap.objs.size ≤ C → C ≠ D → s.heap.objs.size ≤ D → (∃ m, s'.heap.Ns C m) → compPost (model prog w) A E use Q (.ref D) C (.ok .next) s')
    {items : List PyData} {ρ' : En} (fin : ∀ (cenv : Env) (D I : Addr) (s₃ : Shared) (M O' : List Addr) (α : Str → Addr) (R : Result → Shared → Prop), Frm K P Λ k A cenv scope.names s.heap.objs.size → Run K P G Λ s.heap.objs.size M O' α cenv scope.names ρ' s₃ → Turn prog w A P O' items I 0 s₃ →
        D ∈ O' → D ∉ M → D ≠ P → s.heap.objs.size ≤ D → I ∉ M → I ≠ D → s.heap.objs.size ≤ I → Acc O' D [] s₃ → (∀ xs s', d = .list xs → GrowB P (I :: D :: M) s₃ s' → Run K P G Λ s.heap.objs.size M O' α cenv scope.names ρ' s' → Acc O' D xs s' → R (.ok .next) s') →
          codeAny (model prog w) A (.compStart (.ListComp elt (⟨t, it, ifs, .ofNat 0⟩ :: gs0) scope pos) 0 (.ref I) (.ref D) cenv) R s₃)
    (hb : blockOk nm scope.names = true) (hfun : isFunK scope.kind = true) (hcl : closed ρ scope.names = some ρ') (hi : piter rec nm ρ it = some items) (has : firstAsync (⟨t, it, ifs, .ofNat 0⟩ :: gs0) = false) :
    wpAny (model prog w) A (comprehension (.ListComp elt (⟨t, it, ifs, .ofNat 0⟩ :: gs0) scope pos) scope env pos' (newList []) (firstAsync (⟨t, it, ifs, .ofNat 0⟩ :: gs0)) (firstIter (⟨t, it, ifs, .ofNat 0⟩ :: gs0) env) use) Q E s := by
  obtain ⟨hnok, hap, hfree⟩ := blockOk_get hb
  obtain ⟨hc1, hc2⟩ := closed_get hcl
  have hkind : scope.kind = .function := isFunK_eq hfun
  -- the cells around
  have hcell : ∀ x, (x, NameKind.free) ∈ scope.names → ∃ c v dd, env.cells.lookup x = some c ∧ c ≠ P ∧ s.heap.IsCell c (some v) ∧ getB ρ x = some (.val dd) ∧ Rep O s.heap dd v := by
    intro x hx
    obtain ⟨dd, hd⟩ := hc2 x hx
    obtain ⟨v, hl, hv⟩ := H.sees x _ hd
    rcases hl with ⟨h1, _⟩ | ⟨_, c, h2, h3, h4⟩
    · have := H.names x
      rcases hfree x hx with h5 | h5
      · rw [h5] at this; unfold KindOk at this; dsimp only at this; rw [h1] at this; cases this
      · rw [h5] at this; unfold KindOk at this; dsimp only at this; rw [h1] at this; rcases this with h | h <;> cases h
    · exact ⟨c, v, dd, h2, h3, h4, hd, hv⟩
  have hclo : closureFor scope env = pure (clFrom env scope.names []) := closureFor_eq fun x hx => by obtain ⟨c, _, _, h1, _⟩ := hcell x hx; rw [h1]; rfl
  rw [has, show firstIter (⟨t, it, ifs, .ofNat 0⟩ :: gs0) env = eval it env from rfl]
  refine wpAny_comprehension_free (g := ⟨t, it, ifs, .ofNat 0⟩) (gs := gs0) rfl (folded_plain (piter_noSet hi)) hclo hkind (fun x hx hl => by obtain ⟨y, kd⟩ := x; cases hl; exact apart_mem hap hx) ?_
  refine piter_sound S hr hi H fun I s₁ g₁ hI hI' T => ?_
  refine wpAny_newObj_type ?_
  refine newCompEnv ?_
  generalize hH2 : s₁.heap.push { cls := .type "list", dict := none, data := .seq ([] : List Value).toArray } = H2
  have hs2 : H2.objs.size = s₁.heap.objs.size + 1 := by rw [← hH2, Heap.size_push]
  have k2 : ∀ b o, s₁.heap.get? b = some o → H2.get? b = some o := fun b o e => hH2 ▸ Heap.get?_push_of_some _ e
  have lD : H2.IsList s₁.heap.objs.size #[] := ⟨_, hH2 ▸ Heap.get?_push_size _ rfl, rfl, _, rfl⟩
  dsimp only
  generalize hH3 : H2.push { cls := .type "dict", dict := none, data := .dict #[] } = H3
  have hs3 : H3.objs.size = H2.objs.size + 1 := by rw [← hH3, Heap.size_push]
  have k3 : ∀ b o, H2.get? b = some o → H3.get? b = some o := fun b o e => hH3 ▸ Heap.get?_push_of_some _ e
  have nC : H3.Ns H2.objs.size (fun _ => none) := hH3 ▸ Heap.Ns.new ..
  have k4 : ∀ b o, H3.get? b = some o → (pushCells H3 scope.names).get? b = some o := fun b o e => pushCells_keeps _ _ b o e
  have hs4 := pushCells_size scope.names H3
  have ok := cellsFrom_ok scope.names H3 (H2.objs.size + 1) [] ⟨fun _ _ hm => (nomatch hm), List.Pairwise.nil⟩ (by omega)
  rw [hs3] at ok
  have hcs : cellsFrom (H2.objs.size + 1) scope.names (clFrom env scope.names []) = cellsFrom (H2.objs.size + 1) scope.names [] ++ clFrom env scope.names [] := cellsFrom_append scope.names (H2.objs.size + 1) [] _
  generalize hown : cellsFrom (H2.objs.size + 1) scope.names [] = own at hcs ok
  have ownK : ∀ x c, (x, c) ∈ own → getK scope.names x = some .cell := fun x c hm => by
    rw [← hown] at hm
    rcases cellsFrom_mem hm with hm | hm
    · cases hm
    · rw [getK_eq]; exact apart_mem hap hm
  have ownH : ∀ x, getK scope.names x = some .cell → ∃ c, own.lookup x = some c := fun x hx => by
    rw [getK_eq] at hx
    obtain ⟨c, hc⟩ := cellsFrom_has (n := H2.objs.size + 1) (acc := []) (.inl (mem_of_lookup hx))
    rw [hown] at hc
    exact Option.isSome_iff_exists.mp (lookup_of_mem hc)
  have freeL : ∀ x c, getK scope.names x = some .free → env.cells.lookup x = some c → (own ++ clFrom env scope.names []).lookup x = some c := fun x c hx hc => by
    rw [lookup_append fun c hm => by rw [ownK x c hm] at hx; cases hx]
    rw [getK_eq] at hx
    exact clFrom_lookup (mem_of_lookup hx) hc
  rw [hcs]
  have hI₁ : I < s₁.heap.objs.size := hI'
  have gs := g₁.size
  have g₃ : Grow P s { s₁ with heap := pushCells H3 scope.names } := g₁.trans (Grow.of_keep (fun b o e => k4 b o (k3 b o (k2 b o e))) (by omega) (Nat.le_refl _))
  have lowO : ∀ a : Nat, a ∈ O → a < s.heap.objs.size := H.lt
  have lowP : @LT.lt Nat _ P s.heap.objs.size := H.lt P H.hP
  have memM : ∀ a : Nat, a ∈ H2.objs.size :: own.map (·.2) → H2.objs.size ≤ a := fun a ha => by
    rcases List.mem_cons.mp ha with rfl | ha
    · exact Nat.le_refl _
    · obtain ⟨p, hp, rfl⟩ := List.mem_map.mp ha
      exact Nat.le_of_succ_le (ok.empty p.1 p.2 hp).2
  have subO : ∀ a, a ∈ O → a ∈ s₁.heap.objs.size :: ((H2.objs.size :: own.map (·.2)) ++ (I :: O)) := fun a h => List.mem_cons_of_mem _ (List.mem_append_right _ (List.mem_cons_of_mem _ h))
  have subIO : ∀ a, a ∈ I :: O → a ∈ s₁.heap.objs.size :: ((H2.objs.size :: own.map (·.2)) ++ (I :: O)) := fun a h => List.mem_cons_of_mem _ (List.mem_append_right _ h)
  have newO : ∀ a, a ∈ s₁.heap.objs.size :: ((H2.objs.size :: own.map (·.2)) ++ (I :: O)) → a ∈ O ∨ s.heap.objs.size ≤ a := fun a h => by
    rcases List.mem_cons.mp h with rfl | h
    · exact .inr gs
    · rcases List.mem_append.mp h with h | h
      · have := memM a h; exact .inr (by omega)
      · rcases List.mem_cons.mp h with rfl | h
        · exact .inr hI
        · exact .inl h
  have newIO : ∀ a, a ∈ s₁.heap.objs.size :: ((H2.objs.size :: own.map (·.2)) ++ (I :: O)) → a ∈ I :: O ∨ s₁.heap.objs.size ≤ a := fun a h => by
    rcases List.mem_cons.mp h with rfl | h
    · exact .inr (Nat.le_refl _)
    · rcases List.mem_append.mp h with h | h
      · have := memM a h; exact .inr (by omega)
      · exact .inl h
  have ltO : ∀ a ∈ s₁.heap.objs.size :: ((H2.objs.size :: own.map (·.2)) ++ (I :: O)), a < (pushCells H3 scope.names).objs.size := fun a h => by
    rcases List.mem_cons.mp h with rfl | h
    · omega
    · rcases List.mem_append.mp h with h | h
      · rcases List.mem_cons.mp h with rfl | h
        · omega
        · obtain ⟨p, hp, rfl⟩ := List.mem_map.mp h
          exact (ok.empty p.1 p.2 hp).1.lt
      · rcases List.mem_cons.mp h with rfl | h
        · omega
        · exact Nat.lt_of_lt_of_le (lowO a h) (by omega)
  have bindF : ∀ x b, getB ρ' x = some b → getK scope.names x = some .free ∧ ∃ c v dd, b = .val dd ∧ env.cells.lookup x = some c ∧ c ≠ P ∧ s.heap.IsCell c (some v) ∧ Rep O s.heap dd v := fun x b e => by
    obtain ⟨h1, dd, rfl, h2⟩ := hc1 x b e
    obtain ⟨c, v, dd', h3, h4, h5, h6, h7⟩ := hcell x h1
    rw [h2] at h6; cases h6
    exact ⟨by rw [getK_eq]; exact apart_mem hap h1, c, v, dd, rfl, h3, h4, h5, h7⟩
  refine fin _ s₁.heap.objs.size I _ (H2.objs.size :: own.map (·.2)) (s₁.heap.objs.size :: ((H2.objs.size :: own.map (·.2)) ++ (I :: O))) (fun _ => 0) _
    ⟨⟨H.roomW.more (fun a h => List.mem_cons_of_mem _ h), hkind, H.glb, H.blt, fun x => ?_, hnok, H.wf.floor⟩, H.handled⟩ ⟨Nat.lt_of_lt_of_le H.tk g₁.tks, ?_, subO _ H.hP, ltO, H.wf.grow g₃, fun a ha => by have := memM a ha; omega, fun x b c hx e hc => ?_⟩
    ((T.more newIO subIO).keep (GrowB.of (N := []) (Grow.of_keep (fun b o e => k4 b o (k3 b o (k2 b o e))) (by omega))) (fun h => nomatch h) (fun _ h => nomatch h))
    List.mem_cons_self (fun h => by have := memM _ h; omega) (Nat.ne_of_gt (Nat.lt_of_lt_of_le lowP gs)) gs (fun h => absurd (Nat.lt_of_lt_of_le hI₁ (by omega)) (Nat.not_lt.mpr (memM I h))) (Nat.ne_of_lt hI₁) hI ⟨#[], isList_at lD fun o _ e => k4 _ o (k3 _ o e), Reps.nil⟩ fun xs s' hd g r a => ?_
  · -- names
    have e : Env.kindOf { scope := relabel scope env, locals := H2.objs.size, globals := env.globals, cells := own ++ clFrom env scope.names [], qual := env.qual, func := none, code := env.code, frame := env.frame, builtins := env.builtins } x
        = (scope.names.lookup x).map fun k => if (k == .free && env.scope.kind == .function && env.kindOf x == some .cell) = true then NameKind.cell else k := lookup_relabel (c := fun n k => k == .free && env.scope.kind == .function && env.kindOf n == some .cell)
    rw [e, getK_eq]
    cases hk : scope.names.lookup x with
    | none => rfl
    | some kd =>
      cases kd with
      | free =>
        unfold KindOk
        simp only [Option.map_some]
        split
        · exact .inr rfl
        · exact .inl rfl
      | _ => rfl
  · -- the block's frame
    refine ⟨List.mem_cons_self, fun h => absurd (Nat.lt_of_lt_of_le lowP (by omega)) (Nat.not_lt.mpr (memM P h)), fun a h => List.mem_cons_of_mem _ (List.mem_append_left _ h), ⟨_, nC.at' fun o e => k4 _ o e, fun x b hx e => by rw [(bindF x b e).1] at hx; cases hx⟩, fun x hx => ?_, fun x y c hx hy h1 h2 => ?_, fun x b hx e => ?_, fun x b e => .inr (.inr (bindF x b e).1), fun x xs e => ?_, fun x y xs ys e1 e2 _ => ?_⟩
    · obtain ⟨c, hc⟩ := ownH x hx
      have hm := mem_of_lookup hc
      refine ⟨c, none, lookup_append_some hc, List.mem_cons_of_mem _ (List.mem_map.mpr ⟨_, hm, rfl⟩), ?_, (ok.empty x c hm).1, fun b e => by rw [(bindF x b e).1] at hx; cases hx⟩
      have := (ok.empty x c hm).2
      exact Nat.ne_of_gt this
    · obtain ⟨c1, hc1'⟩ := ownH x hx
      obtain ⟨c2, hc2'⟩ := ownH y hy
      rw [lookup_append_some hc1'] at h1
      rw [lookup_append_some hc2'] at h2
      cases h1; cases h2
      exact name_of_addr ok.apart (mem_of_lookup hc1') (mem_of_lookup hc2')
    · obtain ⟨_, c, v, dd, rfl, h3, h4, h5, h6⟩ := bindF x b e
      refine ⟨c, v, freeL x c hx h3, fun h => ?_, h4, isCell_at h5 fun o e => g₃.frm c o h4 e, ?_⟩
      · exact absurd (Nat.lt_of_lt_of_le h5.lt (by omega)) (Nat.not_lt.mpr (memM c h))
      · exact Rep.grow (s := s) (s' := { s₁ with heap := pushCells H3 scope.names }) (subO _ H.hP) g₃ (Rep.more newO h6)
    · obtain ⟨_, _, _, _, h, _⟩ := bindF x _ e; cases h
    · obtain ⟨_, _, _, _, h, _⟩ := bindF x _ e1; cases h
  · obtain ⟨_, c', v, dd, rfl, h3, h4, h5, h6⟩ := bindF x b e
    have hc' : (own ++ clFrom env scope.names []).lookup x = some c := hc
    rw [freeL x c' hx h3] at hc'
    cases hc'
    exact h5.lt
  · have gAll : Grow P s s' := ((GrowB.of g₃).trans g).grow fun b hb => by
      rcases List.mem_cons.mp hb with rfl | hb
      · exact hI
      · rcases List.mem_cons.mp hb with rfl | hb
        · exact gs
        · have := memM b hb; omega
    refine hfin s₁.heap.objs.size H2.objs.size s' gAll ?_ (by omega) (by rw [hs2]; exact Nat.succ_ne_self _) gs ?_
    · obtain ⟨vs, h1, h2⟩ := a
      subst hd
      unfold Rep
      refine ⟨_, vs, rfl, fun h => ?_, h1, Reps.less (fun a h => ?_) h2⟩
      · rcases List.mem_cons.mp h with h | h
        · rw [hs2] at h; exact Nat.succ_ne_self _ h.symm
        · exact absurd (lowO _ h) (Nat.not_lt.mpr gs)
      · rcases List.mem_cons.mp h with rfl | h
        · exact List.mem_cons_of_mem _ (List.mem_append_left _ List.mem_cons_self)
        · exact subO a h
    · obtain ⟨m, h1, _⟩ := r.act.loc
      exact ⟨m, h1⟩
theorem comp_sound (S : ESound prog w K P G k rec) (hr : G "range" = some (.type "range")) {elt : Expr} {gens : List Comprehension} {scope : Scope} {pos pos' : Pos} {d : PyData} {use : Option (Value → Sem Unit)} {Q : Value → Shared → Prop}
    (h : pcomp rec nm ρ elt gens scope = some d) (H : Here K P G Λ k A O env nm ρ s)
    (hfin : ∀ D C s', Grow P s s' → Rep (C :: O) s'.heap d (.ref D) → s.heap.objs.size ≤ C → C ≠ D → s.heap.objs.size ≤ D → (∃ m, s'.heap.Ns C m) → compPost (model prog w) A E use Q (.ref D) C (.ok .next) s') :
    wpAny (model prog w) A (comprehension (.ListComp elt gens scope pos) scope env pos' (newList []) (firstAsync gens) (firstIter gens env) use) Q E s := by
  obtain ⟨g, gs, eg, h1⟩ := onC_some h
  clear h
  subst eg
  obtain ⟨t, it, ifs, as⟩ := g
  cases gs with
  | nil =>
    obtain ⟨hz, items, ρ', xs, hi, hcl, hf, hp, hx, ed⟩ := pblock_some h1
    have ea := isZ_eq (two_ble hz).1
    clear h1
    subst ed ea
    refine block_sound S hr H hfin ?_ (two_ble (two_ble hz).2).1 (two_ble (two_ble hz).2).2 hcl hi rfl
    intro cenv D I s₃ M O' α R f r T hDO hDM hDP hDn hIM hID hIn ha hR
    have loop := compLoop_sound (turnForm_one elt t it ifs scope pos (.ref I) (.ref D) cenv) S f hf hp hDO hDM hDP hDn hIM hID hIn (emit1_sound S f hDO hDM hDP hDn) (by rw [List.nil_append]; exact hx) r ha T fun s' g r' a' => hR xs s' rfl g r' (by rw [List.nil_append] at a'; exact a')
    exact codeAny_compStart_list loop (T.self loop)
  | cons g2 q =>
    obtain ⟨eq, h2⟩ := on0_some h1
    clear h1
    subst eq
    obtain ⟨t2, it2, ifs2, as2⟩ := g2
    obtain ⟨h0, h3⟩ := onT_some h2
    obtain ⟨hz, items, ρ', xs, hi, hcl, hf, hp, hx, ed⟩ := pblock_some h3
    have ea := isZ_eq (two_ble hz).1
    have ea2 := isZ_eq h0
    clear h2 h3 h0
    subst ed ea ea2
    refine block_sound S hr H hfin ?_ (two_ble (two_ble hz).2).1 (two_ble (two_ble hz).2).2 hcl hi rfl
    intro cenv D I s₃ M O' α R f r T hDO hDM hDP hDn hIM hID hIn ha hR
    have loop := compLoop_sound (turnForm_two0 elt t it t2 it2 ifs ifs2 scope pos (.ref I) (.ref D) cenv) S f hf hp hDO hDM hDP hDn hIM hID hIn (emit2_sound S hr f hDO hDM hDP hDn) (by rw [List.nil_append]; exact hx) r ha T fun s' g r' a' => hR xs s' rfl g r' (by rw [List.nil_append] at a'; exact a')
    exact codeAny_compStart_list loop (T.self loop)
end
end Mine
end
section
open PySem PySem.Spec PySem.Calls PyProof.Rows PySem.W
namespace Mine
variable [Inhabited Base]
variable {K : Frag} {P : Addr} {G : Str → Option Value} {Λ : List Addr}
section
variable {prog : Program} {w : World} {k : Nat} {A : Around} {E : Value → Shared → Prop} {O : List Addr} {env : Env} {nm : NK} {ρ : En} {s : Shared} {rec : NK → En → Expr → Option PyData}

theorem isNoConv_eq {k : Int} {sp : Option Expr} (h : isNoConv k sp = true) : k = .negSucc 0 ∧ sp = none := ⟨isM1_eq (two_ble h).1, isNone?_eq (two_ble h).2⟩
theorem pjoin_sound (S : ESound prog w K P G k rec) : ∀ {parts : List Expr} {acc out : Str} {s : Shared} {Q : Str → Shared → Prop}, pjoin rec nm ρ acc parts = some out → Here K P G Λ k A O env nm ρ s →
    (∀ s', Grow P s s' → Q out s') → Joins (model prog w) A E (evalEach parts env) acc Q s := by
  intro parts
  induction parts with
  | nil =>
    intro acc out s Q h H hQ
    rw [← Option.some.inj (show some acc = some out from h)] at hQ
    exact Joins_nil (hQ _ Grow.refl)
  | cons e r ih =>
    intro acc out s Q h H hQ
    cases e with
    | Constant c kk pp =>
      obtain ⟨x, e1, h1⟩ := onStr_some (f := fun x => onT (strFit (acc ++ x)) (pjoin rec nm ρ (acc ++ x) r)) h
      obtain ⟨hf, h2⟩ := onT_some h1
      clear h h1
      subst e1
      refine Joins_cons (constF_sound (P := P) (O := O) (c := .str x) (d := .str x) rfl fun v s₁ g₁ r₁ => ?_)
      obtain ⟨t, e2⟩ := r₁.str_inv
      exact ⟨x, t, e2, Nat.le_trans (strFit_le hf) (by rw [line_big]; omega), ih h2 (H.grow g₁) fun s₂ g₂ => hQ _ (g₁.trans g₂)⟩
    | FormattedValue e' k' sp pp =>
      have h : onT (isNoConv k' sp) (onO (rec nm ρ e') fun d => dStr d fun x => onT (strFit x && strFit (acc ++ x)) (pjoin rec nm ρ (acc ++ x) r)) = some out := h
      obtain ⟨hc, h1⟩ := onT_some h
      obtain ⟨d, hx, h2⟩ := onO_some h1
      obtain ⟨x, e1, h3⟩ := dStr_some h2
      obtain ⟨hf, h4⟩ := onT_some h3
      obtain ⟨e2, e3⟩ := isNoConv_eq hc
      clear h h1 h2 h3 hc
      subst e1 e2 e3
      refine Joins_cons (wpAny_FormattedValue_plain (S _ _ _ _ hx A O env s _ E H fun v s₁ g₁ r₁ => ?_))
      obtain ⟨t, e4⟩ := r₁.str_inv
      rw [e4]
      refine wpAny_with_toks (Nat.le_refl _) (SB.field_str (fun t' kk ht => ⟨x, t', rfl, Nat.le_trans (strFit_le (two_ble hf).2) (by rw [line_big]; omega), ih h4 (H.grow (g₁.trans (Grow.toks kk ht))) fun s₂ g₂ => hQ _ ((g₁.trans (Grow.toks kk ht)).trans g₂)⟩) (Nat.le_trans (strFit_le (two_ble hf).1) (by rw [line_big]; omega)))
    | _ => exact no h

theorem litInt_const {x : Expr} {i : Int} (h : litInt x = some i) : ∃ kk pp, x = .Constant (.int i) kk pp := by
  obtain ⟨c, kk, pp, e, h1⟩ := onConst_some h
  obtain ⟨j, e1, h2⟩ := onInt_some h1
  exact ⟨kk, pp, by rw [e, e1, Option.some.inj h2]⟩

theorem itemOfName_some {x : Str} {i : Int} {d : PyData} (h : itemOfName ρ x i = some d) : ∃ y, getB ρ x = some (.val (.str y)) ∧ itemF (.str y) (.int i) = some d := by
  unfold itemOfName at h
  split at h
  · rename_i d' hd
    obtain ⟨y, e, h1⟩ := dStr_some h
    exact ⟨y, by rw [hd, e], h1⟩
  · exact no h
theorem idxCase_some {ρ : En} {f : Str} {args : List Expr} {d : PyData} (h : idxCase ρ f args = some (some d)) :
    f = "indexOf" ∧ ∃ a k1 p1 x p2 i k2 p3 p4 y b, args = [.Constant (.str a) k1 p1, .Subscript (.Name x p2) (.Constant (.int i) k2 p3) p4] ∧ getB ρ x = some (.val (.str y)) ∧ itemF (.str y) (.int i) = some (.str b) ∧ idxAll a b = some d := by
  unfold idxCase at h
  split at h
  · exact no h
  · rename_i hf
    obtain ⟨a1, a2, e1, h1⟩ := on2_some (Option.some.inj h)
    obtain ⟨c1, k1, p1, e2, h2⟩ := onConst_some h1
    obtain ⟨a, e3, h3⟩ := onStr_some h2
    obtain ⟨v, i', p4, e4, h4⟩ := onSub_some h3
    obtain ⟨x, p2, e5, h5⟩ := onName_some h4
    obtain ⟨c2, k2, p3, e6, h6⟩ := onConst_some h5
    obtain ⟨i, e7, h7⟩ := onInt_some h6
    obtain ⟨dd, h8, h9⟩ := onO_some h7
    obtain ⟨b, e8, h10⟩ := dStr_some h9
    obtain ⟨y, h11, h12⟩ := itemOfName_some h8
    exact ⟨(nameEq_iff _ _).mp hf, a, k1, p1, x, p2, i, k2, p3, p4, y, b, by rw [e1, e2, e3, e4, e5, e6, e7], h11, by rw [h12, e8], h10⟩
theorem itemStr {y b : Str} {i : Int} (h : itemF (.str y) (.int i) = some (.str b)) : ∃ c, b = ⟨#[c]⟩ ∧ smallInt i = true ∧ (seqIndex? i y.length).bind (y.cps[·]?) = some c := by
  unfold itemF at h
  dsimp only at h
  split at h
  · rename_i hk
    split at h
    · rename_i j hj
      split at h
      · rename_i c hc
        injection h with h
        injection h with h
        refine ⟨c, h.symm, hk, ?_⟩
        obtain ⟨h1, _⟩ := placeF_seq hj
        show (seqIndex? i y.cps.size).bind _ = _
        rw [h1]; exact hc
      · cases h
    · cases h
  · cases h
theorem index_sound (I : IdxOk prog w K P G k) {f : Str} {fp pos : Pos} {args : List Expr} {d : PyData} {Q : Value → Shared → Prop} (H : Here K P G Λ k A O env nm ρ s) (hk : getK nm f = some .globalImplicit) (hi : idxCase ρ f args = some (some d))
    (hQ : ∀ v s', Grow P s s' → Rep O s'.heap d v → Q v s') : wpAny (model prog w) A (eval (.Call (.Name f fp) args [] pos) env) Q E s := by
  obtain ⟨rfl, a, k1, p1, x, p2, i, k2, p3, p4, y, b, rfl, hx, hb, ha⟩ := idxCase_some hi
  obtain ⟨fv, hg, hc, hok⟩ := I
  obtain ⟨c, rfl, hsm, hcc⟩ := itemStr hb
  obtain ⟨v, h1, h2⟩ := H.sees x _ hx
  obtain ⟨ty, rfl⟩ := Rep.str_inv (O := O) (h := s.heap) h2
  have hsm := smallInt_lt hsm
  refine callName_gen H hk hg hc (fun e he => ?_) (Pv := fun ws s' => ∃ t u, t ≠ 0 ∧ u ≠ 0 ∧ u < s'.toks ∧ ws = [.str a t, .str ⟨#[c]⟩ u]) (fun Q' h' => ?_) (fun e => by cases e) fun ws s₁ g₁ hw => ?_
  · rcases List.mem_cons.mp he with rfl | he
    · rfl
    · rw [List.mem_singleton.mp he]; rfl
  · have g1 : Grow P s { s with toks := s.toks + 1 } := Grow.toks _
    refine spliced_cons ?_
    rw [eval_Constant]
    refine wpAny_mkText (spliced_cons ?_)
    refine Subscript_ (load_sound (H.toHereW.grow g1) (h1.grow g1) ?_)
    rw [eval_Constant]
    refine wpAny_mkInt ?_
    refine tail_sound (typeIs_str _ _ _) F.slot_str_getitem.lookup (PySem.P.getItem_str (c := c) (by simp only [Bool.or_eq_false_iff, decide_eq_false_iff_not]; omega) hcc (spliced_nil ?_))
    refine h' _ _ ((g1.trans (Grow.toks _)).trans (Grow.toks _)) ⟨_, _, ?_, ?_, Nat.lt_succ_self _, rfl⟩
    · have := H.tk; show s.toks ≠ 0; omega
    · have := H.tk; show s.toks + 1 + 1 ≠ 0; omega
  · obtain ⟨t, u, ht, hu, hut, rfl⟩ := hw
    exact hok A O s₁ a ⟨#[c]⟩ t u d Q E H.room (H.grow g₁).tk H.hP (H.grow g₁).lt (H.wf.grow g₁) ht hu hut ha fun v s₂ g₂ r₂ => hQ v s₂ (g₁.trans g₂) r₂
theorem neg_sound {op : UnaryOp} {x : Expr} {pp : Pos} {d : PyData} {Q : Value → Shared → Prop} (h : pneg op x = some d) (hQ : ∀ v s', Grow P s s' → Rep O s'.heap d v → Q v s') : wpAny (model prog w) A (eval (.UnaryOp op x pp) env) Q E s := by
  cases op with
  | USub =>
    obtain ⟨i, hi, h1⟩ := onO_some (f := fun i => some (PyData.int (-i))) h
    rw [← Option.some.inj h1] at hQ
    obtain ⟨kk, p', e⟩ := litInt_const hi
    clear h h1 hi
    subst e
    refine wpAny_UnaryOp (constF_sound (P := P) (O := O) (c := .int i) (d := .int i) rfl fun v s₁ g₁ r₁ => ?_)
    obtain ⟨t, e1⟩ := r₁.int_inv
    rw [e1]
    exact PySem.P.neg_int (hQ _ _ (g₁.trans (Grow.toks _)) Rep.int')
  | _ => exact no h
theorem if_sound (S : ESound prog w K P G k rec) {t b o : Expr} {pp : Pos} {d : PyData} {Q : Value → Shared → Prop} (h : pif rec nm ρ t b o = some d) (H : Here K P G Λ k A O env nm ρ s) (hQ : ∀ v s', Grow P s s' → Rep O s'.heap d v → Q v s') : wpAny (model prog w) A (eval (.IfExp t b o pp) env) Q E s := by
  refine wpAny_IfExp ?_
  unfold pif at h
  split at h
  · rename_i ht
    refine ptest_sound S 6 ht H fun s₁ g₁ => ?_
    simp only [if_true]
    exact S _ _ _ _ h A O env s₁ _ E (H.grow g₁) fun v s₂ g₂ r₂ => hQ v s₂ (g₁.trans g₂) r₂
  · rename_i ht
    refine ptest_sound S 6 ht H fun s₁ g₁ => ?_
    simp only [Bool.false_eq_true, if_false]
    exact S _ _ _ _ h A O env s₁ _ E (H.grow g₁) fun v s₂ g₂ r₂ => hQ v s₂ (g₁.trans g₂) r₂
  · exact no h
theorem or_sound (S : ESound prog w K P G k rec) {x y : Expr} {pp : Pos} {d : PyData} {Q : Value → Shared → Prop} (h : por rec nm ρ x y = some d) (H : Here K P G Λ k A O env nm ρ s) (hQ : ∀ v s', Grow P s s' → Rep O s'.heap d v → Q v s') : wpAny (model prog w) A (eval (.BoolOp .Or [x, y] pp) env) Q E s := by
  unfold por at h
  split at h
  · rename_i dx hx
    refine wpAny_Or2 (S _ _ _ _ hx A O env s _ E H fun v s₁ g₁ r₁ => ?_)
    split at h
    · rename_i ht
      rw [← Option.some.inj h] at hQ
      refine truthF_sound (Tb := P) ht r₁ fun s₂ g₂ => ?_
      simp only [if_true]
      exact hQ _ _ (g₁.trans g₂) (Rep.grow H.hP g₂ r₁)
    · rename_i ht
      refine truthF_sound (Tb := P) ht r₁ fun s₂ g₂ => ?_
      simp only [Bool.false_eq_true, if_false]
      exact S _ _ _ _ h A O env s₂ _ E (H.grow (g₁.trans g₂)) fun v s₃ g₃ r₃ => hQ v s₃ ((g₁.trans g₂).trans g₃) r₃
    · exact no h
  · exact no h
theorem sub_plain (S : ESound prog w K P G k rec) {v sl : Expr} {pp : Pos} {o d : PyData} {Q : Value → Shared → Prop} (ho : pbase rec nm ρ v = some o) (H : Here K P G Λ k A O env nm ρ s) (hQ : ∀ v s', Grow P s s' → Rep O s'.heap d v → Q v s') (h : (match rec nm ρ sl with | some i => itemF o i | none => none) = some d) : wpAny (model prog w) A (eval (.Subscript v sl pp) env) Q E s := by
  split at h
  · rename_i i hi
    refine Subscript_ (pbase_sound S ho H fun ov s₁ g₁ r₁ => S _ _ _ _ hi A O env s₁ _ E (H.grow g₁) fun iv s₂ g₂ r₂ => ?_)
    exact item_tail H.hP h (r₁.grow H.hP g₂) r₂ fun v s₃ g₃ r₃ => hQ v s₃ ((g₁.trans g₂).trans g₃) r₃
  · exact no h
theorem sub_sound (S : ESound prog w K P G k rec) {v sl : Expr} {pp : Pos} {d : PyData} {Q : Value → Shared → Prop} (h : psub rec nm ρ v sl = some d) (H : Here K P G Λ k A O env nm ρ s) (hQ : ∀ v s', Grow P s s' → Rep O s'.heap d v → Q v s') : wpAny (model prog w) A (eval (.Subscript v sl pp) env) Q E s := by
  unfold psub at h
  split at h
  · rename_i o ho
    cases sl with
    | Slice lo hi st sp =>
      have h : onT (isNone? st) (onO (optInt rec nm ρ lo) fun l => onO (optInt rec nm ρ hi) fun u => sliceF o l u) = some d := h
      obtain ⟨h1, h2⟩ := onT_some h
      obtain ⟨l, h3, h4⟩ := onO_some h2
      obtain ⟨u, h5, h6⟩ := onO_some h4
      have e := isNone?_eq h1
      clear h h1 h2 h4
      subst e
      exact slice_sound S ho h3 h5 h6 H hQ
    | _ => exact sub_plain S ho H hQ h
  · exact no h
theorem comp_val (S : ESound prog w K P G k rec) (hr : G "range" = some (.type "range")) {elt : Expr} {gens : List Comprehension} {scope : Scope} {pp : Pos} {d : PyData} {Q : Value → Shared → Prop} (h : pcomp rec nm ρ elt gens scope = some d) (H : Here K P G Λ k A O env nm ρ s) (hQ : ∀ v s', Grow P s s' → Rep O s'.heap d v → Q v s') : wpAny (model prog w) A (eval (.ListComp elt gens scope pp) env) Q E s := by
  rw [eval_ListComp]
  refine comp_sound S hr h H fun D C s' g r hC hCD hD hm => ?_
  obtain ⟨m, hm⟩ := hm
  have hCP : C ≠ P := fun q => absurd (H.lt P H.hP) (Nat.not_lt.mpr (q ▸ hC))
  have mC : ∀ a ∈ [C], a ∈ C :: O := fun a h => by rw [List.mem_singleton.mp h]; exact List.mem_cons_self
  refine ⟨m, hm, fun h' hs => ?_⟩
  have g₂ : GrowB P [C] s' { s' with heap := h' } := GrowB.same (tk := s'.toks) (List.mem_singleton.mpr rfl) hCP hs
  exact hQ _ _ (((GrowB.of g).trans g₂).grow fun b hb => by rw [List.mem_singleton.mp hb]; exact hC) (Rep.less (fun a h => List.mem_cons_of_mem _ h) (g₂.rep (List.mem_cons_of_mem _ H.hP) mC r))
theorem len_sound {Φ : Orc} (C : CallsOk prog w K P G k Φ) (hlen : G "len" = some (.builtin "len")) {x : Str} {fp xp pp : Pos} {d : PyData} {Q : Value → Shared → Prop} (h : plen Φ ρ x = some d) (hk : getK nm "len" = some .globalImplicit) (H : Here K P G Λ k A O env nm ρ s) (hQ : ∀ v s', Grow P s s' → Rep O s'.heap d v → Q v s') : wpAny (model prog w) A (eval (.Call (.Name "len" fp) [.Name x xp] [] pp) env) Q E s := by
  unfold plen at h
  split at h
  · rename_i xs hx
    obtain ⟨hn, h⟩ := guard'_some h
    rw [← Option.some.inj h] at hQ
    obtain ⟨v, h1, a, vs, ev, ha, hl, hrs⟩ := H.sees x _ hx
    subst ev
    refine callName_gen H hk hlen (Callee.bi _) (fun e he => by rw [List.mem_singleton.mp he]; rfl) (Pv := fun ws s' => ws = [.ref a] ∧ s'.heap.IsList a vs) (fun Q' h' => ?_) (fun e => by cases e) fun ws s₁ g₁ hw => ?_
    · exact spliced_cons (load_sound H.toHereW h1 (spliced_nil (h' _ _ Grow.refl ⟨rfl, hl⟩)))
    · rw [hw.1]
      have hsz : vs.size = xs.length := by have := hrs.length; simpa using this
      have hn := Nat.le_of_ble_eq_true hn
      refine call_len_list hw.2 (by rw [hsz]; omega) ?_
      rw [hsz]
      exact hQ _ _ (g₁.trans (Grow.toks _)) Rep.int'
  · rename_i d' hx
    obtain ⟨v, h1, hv⟩ := H.sees x _ hx
    obtain ⟨fv, hg, hc, hok⟩ := C.calls _ _ _ h
    refine callName_gen H hk hg hc (fun e he => by rw [List.mem_singleton.mp he]; rfl) (Pv := fun ws s' => Reps O s'.heap [d'] ws) (fun Q' h' => ?_) (fun e => by cases e) fun ws s₁ g₁ r₁ => ?_
    · exact spliced_cons (load_sound H.toHereW h1 (spliced_nil (h' _ _ Grow.refl (Reps.cons hv Reps.nil))))
    · exact hok A O s₁ ws Q E H.room (H.grow g₁).tk H.hP (H.grow g₁).lt (H.wf.grow g₁) r₁ fun v s₂ g₂ r₂ => hQ v s₂ (g₁.trans g₂) r₂
  · exact no h
  · exact no h
theorem lenArg_some {f x : Str} {args : List Expr} (h : lenArg f args = some x) : f = "len" ∧ ∃ p, args = [.Name x p] := by
  obtain ⟨h1, h2⟩ := onT_some h
  obtain ⟨a, e1, h3⟩ := on1_some h2
  obtain ⟨y, p, e2, h4⟩ := onName_some h3
  exact ⟨(nameEq_iff _ _).mp h1, p, by rw [e1, e2, Option.some.inj h4]⟩
theorem callN_val {Φ : Orc} (S : ESound prog w K P G k rec) (C : CallsOk prog w K P G k Φ) (hlen : G "len" = some (.builtin "len")) {f : Str} {fp pp : Pos} {args : List Expr} {d : PyData} {Q : Value → Shared → Prop} (h : pcallN Φ rec nm ρ f args = some d) (hk : getK nm f = some .globalImplicit) (H : Here K P G Λ k A O env nm ρ s) (hQ : ∀ v s', Grow P s s' → Rep O s'.heap d v → Q v s') : wpAny (model prog w) A (eval (.Call (.Name f fp) args [] pp) env) Q E s := by
  unfold pcallN at h
  split at h
  · rename_i x hx
    obtain ⟨e, p, e1⟩ := lenArg_some hx
    clear hx
    subst e e1
    exact len_sound C hlen h hk H hQ
  · obtain ⟨ds, hd, h1⟩ := onO_some h
    obtain ⟨_, h2⟩ := guard'_some h1
    clear h h1
    generalize hi : idxCase ρ f _ = r at h2
    cases r with
    | none => exact callName_sound S C H hk hd h2 hQ
    | some r =>
      have h : r = some d := h2
      subst h
      exact index_sound C.idx H hk hi hQ
theorem call_val {Φ : Orc} (S : ESound prog w K P G k rec) (C : CallsOk prog w K P G k Φ) (hlen : G "len" = some (.builtin "len")) {g : Expr} {args : List Expr} {ks : List Keyword} {pp : Pos} {d : PyData} {Q : Value → Shared → Prop} (h : pcall Φ rec nm ρ g args ks pp = some d) (H : Here K P G Λ k A O env nm ρ s) (hQ : ∀ v s', Grow P s s' → Rep O s'.heap d v → Q v s') : wpAny (model prog w) A (eval (.Call g args ks pp) env) Q E s := by
  obtain ⟨e, h1⟩ := on0_some h
  clear h
  subst e
  cases g with
  | Name f fp =>
    obtain ⟨h2, h3⟩ := onT_some h1
    exact callN_val S C hlen h3 (isGlob_eq (two_ble h2).2) H hQ
  | Attribute o m ap =>
    obtain ⟨h2, h3⟩ := onT_some (x := onO (rec nm ρ o) fun d => onO (pevs rec nm ρ args) fun ds => guard' (Nat.ble args.length 10) (methF m d ds)) h1
    obtain ⟨od, h4, h5⟩ := onO_some h3
    obtain ⟨ds, h6, h7⟩ := onO_some h5
    obtain ⟨h8, h9⟩ := guard'_some h7
    exact callMeth_sound S H (two_ble h2).1 (two_ble h2).2 h4 h6 (Nat.le_of_ble_eq_true h8) h9 hQ
  | _ => exact no h1
theorem new_some {es : List Expr} {f : List PyData → PyData} {d : PyData} (h : pnew rec nm ρ es f = some d) : ∃ ds, pevs rec nm ρ es = some ds ∧ ds.length ≤ 1000 ∧ d = f ds := by
  obtain ⟨ds, h1, h2⟩ := onO_some h
  obtain ⟨h3, h4⟩ := guard'_some h2
  exact ⟨ds, h1, Nat.le_of_ble_eq_true h3, (Option.some.inj h4).symm⟩
theorem joined_sound (S : ESound prog w K P G k rec) {vs : List Expr} {pp : Pos} {d : PyData} {Q : Value → Shared → Prop} (h : pjoined rec nm ρ vs = some d) (H : Here K P G Λ k A O env nm ρ s) (hQ : ∀ v s', Grow P s s' → Rep O s'.heap d v → Q v s') : wpAny (model prog w) A (eval (.JoinedStr vs pp) env) Q E s := by
  obtain ⟨v, r, e, h1⟩ := onC_some h
  obtain ⟨v2, q, e1, h2⟩ := onC_some h1
  obtain ⟨x, hx, h3⟩ := onO_some h2
  obtain ⟨hf, h4⟩ := guard'_some h3
  clear h h1 h2 h3
  rw [← Option.some.inj h4] at hQ
  subst e e1
  exact wpAny_JoinedStr (pjoin_sound S hx H fun s₁ g₁ => ⟨Nat.le_trans (strFit_le hf) (by rw [line_big]; omega), hQ _ _ (g₁.trans (Grow.toks _)) Rep.str'⟩)
/-- one step of the evaluator -/
theorem pstep_sound {Φ : Orc} (S : ESound prog w K P G k rec) (C : CallsOk prog w K P G k Φ) (hr : G "range" = some (.type "range")) (hlen : G "len" = some (.builtin "len")) : ESound prog w K P G k (pstep Φ rec) := by
  intro nm ρ e d h Λ A O env s Q E H hQ
  cases e with
  | Constant c kk p => exact constF_sound h hQ
  | Name x p =>
    obtain ⟨v, h1, h2⟩ := H.sees x _ (valB_some h)
    exact load_sound H.toHereW h1 (hQ _ _ Grow.refl h2)
  | BinOp l op r p =>
    have h : bind2 (rec nm ρ l) (rec nm ρ r) (binF op) = some d := h
    unfold bind2 at h
    split at h
    · rename_i a ha
      split at h
      · rename_i b hb
        refine wpAny_BinOp (S _ _ _ _ ha A O env s _ E H fun va s₁ g₁ r₁ => S _ _ _ _ hb A O env s₁ _ E (H.grow g₁) fun vb s₂ g₂ r₂ => ?_)
        exact binF_sound h (Rep.grow H.hP g₂ r₁) r₂ fun v s₃ g₃ r₃ => hQ v s₃ ((g₁.trans g₂).trans g₃) r₃
      · exact no h
    · exact no h
  | UnaryOp op x p => exact neg_sound h hQ
  | Compare l ops rs p =>
    obtain ⟨b, hb, h1⟩ := onO_some (f := fun b => some (PyData.bool b)) h
    rw [← Option.some.inj h1] at hQ
    exact compare_val S hb H fun s₁ g₁ => hQ _ _ g₁ Rep.bool'
  | IfExp t b o p => exact if_sound S h H hQ
  | BoolOp op es p =>
    cases op with
    | Or =>
      obtain ⟨x, y, e, h1⟩ := on2_some h
      clear h
      subst e
      exact or_sound S h1 H hQ
    | And => exact no h
  | List es p =>
    obtain ⟨ds, hd, hn, e⟩ := new_some h
    clear h
    subst e
    refine List_ (pevs_sound S hd H fun vs s₁ g₁ r₁ => ?_)
    refine new_list (H.grow g₁).lt H.hP r₁ ?_ fun v s₂ g₂ r₂ => hQ v s₂ (g₁.trans g₂) r₂
    rw [r₁.length]; exact Nat.le_trans hn (by omega)
  | Tuple es kk p =>
    obtain ⟨ds, hd, hn, e⟩ := new_some h
    clear h
    subst e
    refine Tuple_ (pevs_sound S hd H fun vs s₁ g₁ r₁ => ?_)
    refine new_tuple (H.grow g₁).lt H.hP r₁ ?_ fun v s₂ g₂ r₂ => hQ v s₂ (g₁.trans g₂) r₂
    rw [r₁.length]; exact Nat.le_trans hn (by omega)
  | Subscript v sl p => exact sub_sound S h H hQ
  | ListComp elt gens scope p => exact comp_val S hr h H hQ
  | Call g args ks p => exact call_val S C hlen h H hQ
  | JoinedStr vs p => exact joined_sound S h H hQ
  | _ => exact no h
end
end Mine
end
section
open PySem PySem.Spec PySem.Calls PyProof.Rows PySem.W
namespace Mine
variable [Inhabited Base]
variable {K : Frag} {P : Addr} {G : Str → Option Value} {Λ : List Addr}

theorem pev_sound {prog : Program} {w : World} {k : Nat} {Φ : Orc} (C : CallsOk prog w K P G k Φ) (hr : G "range" = some (.type "range")) (hlen : G "len" = some (.builtin "len")) : ∀ n, ESound prog w K P G k (pev Φ n)
  | 0 => fun nm ρ e d h => by cases h
  | n + 1 => pstep_sound (pev_sound C hr hlen n) C hr hlen

section
variable {n k : Nat} {A : Around} {M O N : List Addr} {α : Str → Addr} {env : Env} {nm : NK} {ρ ρ' : En} {s s' : Shared}

theorem Act.load (x : Act P M O α env nm ρ s) (hk : ∀ y, KindOk (getK nm y) (env.kindOf y)) {y : Str} {b : B} (e : getB ρ y = some b) : ∃ v, CanLoad P env s.heap y v ∧ BIs O s.heap α y b v := by
  rcases x.known y b e with h | h | h
  · obtain ⟨m, h1, h2⟩ := x.loc
    obtain ⟨v, h3, h4⟩ := h2 y b h e
    have hk := hk y; rw [h] at hk
    exact ⟨v, .inl ⟨hk, fun q => x.MP (q ▸ x.locM), m, h1, h3⟩, h4⟩
  · obtain ⟨c, w, h1, h2, h3, h4, h5⟩ := x.cell y h
    obtain ⟨v, rfl, h6⟩ := h5 b e
    have hk := hk y; rw [h] at hk
    exact ⟨v, .inr ⟨.inl hk, c, h1, fun q => x.MP (q ▸ h2), h4⟩, h6⟩
  · obtain ⟨c, v, h1, h2, h3, h4, h5⟩ := x.free y b h e
    have hk := hk y; rw [h] at hk
    exact ⟨v, .inr ⟨hk.symm, c, h1, h3, h4⟩, h5⟩

/-- a new address may be turned -/
theorem Act.moreM {a : Addr} (x : Act P M O α env nm ρ s) (ha : s.heap.objs.size ≤ a) (hP : a ≠ P) : Act P (a :: M) (a :: O) α env nm ρ s := by
  have hs : ∀ b, b ∈ a :: O → b ∈ O ∨ s.heap.objs.size ≤ b := fun b h => by
    rcases List.mem_cons.mp h with rfl | h
    · exact .inr ha
    · exact .inl h
  refine ⟨List.mem_cons_of_mem _ x.locM, fun h => (List.mem_cons.mp h).elim (fun q => hP q.symm) x.MP, fun b h => ?_, ?_, ?_, x.apart, ?_, x.known, fun y xs e => ?_, x.ownApart⟩
  · rcases List.mem_cons.mp h with rfl | h
    · exact List.mem_cons_self
    · exact List.mem_cons_of_mem _ (x.MO b h)
  · obtain ⟨m, h1, h2⟩ := x.loc
    exact ⟨m, h1, fun y b h3 h4 => by obtain ⟨v, h5, h6⟩ := h2 y b h3 h4; exact ⟨v, h5, h6.more hs⟩⟩
  · intro y hy
    obtain ⟨c, w, h1, h2, h3, h4, h5⟩ := x.cell y hy
    exact ⟨c, w, h1, List.mem_cons_of_mem _ h2, h3, h4, fun b e => by obtain ⟨v, h6, h7⟩ := h5 b e; exact ⟨v, h6, h7.more hs⟩⟩
  · intro y b hy e
    obtain ⟨c, v, h1, h2, h3, h4, h5⟩ := x.free y b hy e
    exact ⟨c, v, h1, fun h => (List.mem_cons.mp h).elim (fun q => absurd h4.lt (Nat.not_lt.mpr (q ▸ ha))) h2, h3, h4, h5.more hs⟩
  · obtain ⟨h1, h2⟩ := x.own y xs e
    exact ⟨List.mem_cons_of_mem _ h1, h2⟩

/-- a list of one's own is turned -/
theorem Run.ownSet (f : FrmW K P Λ k A env nm n) (r : Run K P G Λ n M O α env nm ρ s) {x : Str} {xs ys : List PyData} (hx : getB ρ x = some (.own xs)) {h' : Heap} {tk : Nat} (hs : Heap.SameBut (α x) s.heap h') {vs : Array Value} (hl : h'.PlainList (α x) vs) (hr : Reps O s.heap ys vs.toList) (ht : s.toks ≤ tk := by first | exact Nat.le_refl _ | exact Nat.le_succ _ | omega) :
    GrowB P M s { s with heap := h', toks := tk } ∧ Run K P G Λ n M O α env nm (putB ρ x (.own ys)) { s with heap := h', toks := tk } := by
  have a := r.act
  obtain ⟨hM, hloc, hcell, hfree⟩ := a.own x xs hx
  have hP : α x ≠ P := fun q => a.MP (q ▸ hM)
  have g : GrowB P M s { s with heap := h', toks := tk } := GrowB.same hM hP hs ht
  have kd : ∀ c o, c ≠ α x → s.heap.get? c = some o → h'.get? c = some o := fun c o hc e => (hs.2 c hc).trans e
  have kB : ∀ y b v, getB (putB ρ x (.own ys)) y = some b → (∀ b', getB ρ y = some b' → BIs O s.heap α y b' v) → BIs O h' α y b v := by
    intro y b v e h
    rw [getB_put] at e
    by_cases hy : y = x
    · rw [if_pos hy] at e; cases e
      subst hy
      obtain ⟨e1, _⟩ := h _ hx
      exact ⟨e1, vs, hl, g.reps r.hP a.MO hr⟩
    · rw [if_neg hy] at e
      have h1 := h b e
      cases b with
      | app z => obtain ⟨m, e1, hm, ho⟩ := h1; exact ⟨m, e1, hm, g.keep m _ (fun q => hm (q ▸ r.hP)) (fun q => hm (a.MO m q)) (Firm.of notD_app) ho⟩
      | val d => exact g.rep r.hP a.MO h1
      | own zs =>
        obtain ⟨e1, ws, h4, h5⟩ := h1
        exact ⟨e1, ws, h4.at fun o e' => kd _ o (fun q => hy (a.ownApart y x zs xs e hx q)) e', g.reps r.hP a.MO h5⟩
  have old : ∀ y b, getB (putB ρ x (.own ys)) y = some b → ∃ b', getB ρ y = some b' := fun y b e => by
    rw [getB_put] at e
    by_cases hy : y = x
    · exact ⟨_, hy ▸ hx⟩
    · rw [if_neg hy] at e; exact ⟨b, e⟩
  have oldOwn : ∀ y zs, getB (putB ρ x (.own ys)) y = some (.own zs) → ∃ ws, getB ρ y = some (.own ws) := fun y zs e => by
    rw [getB_put] at e
    by_cases hy : y = x
    · exact ⟨_, hy ▸ hx⟩
    · rw [if_neg hy] at e; exact ⟨zs, e⟩
  refine ⟨g, Nat.lt_of_lt_of_le r.tk g.tks, ⟨a.locM, a.MP, a.MO, ?_, ?_, a.apart, ?_, ?_, ?_, ?_⟩, r.hP, fun b h => Nat.lt_of_lt_of_le (r.lt b h) g.size, g.wf' r.wf f.floor r.MN, r.MN, ?_⟩
  · obtain ⟨m, h1, h2⟩ := a.loc
    refine ⟨m, h1.at' fun o e => kd _ o (Ne.symm hloc) e, fun y b hy e => ?_⟩
    obtain ⟨b', e'⟩ := old y b e
    obtain ⟨v, h3, h4⟩ := h2 y b' hy e'
    exact ⟨v, h3, kB y b v e fun b2 e2 => by rw [e'] at e2; cases e2; exact h4⟩
  · intro y hy
    obtain ⟨c, w, h1, h2, h3, h4, h5⟩ := a.cell y hy
    refine ⟨c, w, h1, h2, h3, isCell_at h4 (frm_of fun o e => kd c o (hcell y c hy h1) e), fun b e => ?_⟩
    obtain ⟨b', e'⟩ := old y b e
    obtain ⟨v, h6, h7⟩ := h5 b' e'
    exact ⟨v, h6, kB y b v e fun b2 e2 => by rw [e'] at e2; cases e2; exact h7⟩
  · intro y b hy e
    obtain ⟨b', e'⟩ := old y b e
    obtain ⟨c, v, h1, h2, h3, h4, h5⟩ := a.free y b' hy e'
    exact ⟨c, v, h1, h2, h3, isCell_at h4 (frm_of fun o e => kd c o (fun q => h2 (q ▸ hM)) e), kB y b v e fun b2 e2 => by rw [e'] at e2; cases e2; exact h5⟩
  · intro y b e
    obtain ⟨b', e'⟩ := old y b e
    exact a.known y b' e'
  · intro y zs e
    obtain ⟨ws, e'⟩ := oldOwn y zs e
    exact a.own y ws e'
  · intro y z zs ws e1 e2 e
    obtain ⟨_, e1'⟩ := oldOwn y zs e1
    obtain ⟨_, e2'⟩ := oldOwn z ws e2
    exact a.ownApart y z _ _ e1' e2' e
  · intro y b c hy e hc
    obtain ⟨b', e'⟩ := old y b e
    exact r.freeN y b' c hy e' hc
end

/-- the second list holds the first one, and else new addresses only -/
noncomputable def Ext (M M' : List Addr) (s : Shared) : Prop := (∀ a ∈ M, a ∈ M') ∧ ∀ a ∈ M', a ∈ M ∨ s.heap.objs.size ≤ a
theorem Ext.refl {M : List Addr} {s : Shared} : Ext M M s := ⟨fun _ h => h, fun _ h => .inl h⟩
theorem Ext.trans {M M' M'' : List Addr} {s s' : Shared} (a : Ext M M' s) (b : Ext M' M'' s') (h : s.heap.objs.size ≤ s'.heap.objs.size) : Ext M M'' s :=
  ⟨fun x hx => b.1 x (a.1 x hx), fun x hx => (b.2 x hx).elim (fun q => a.2 x q) fun q => .inr (Nat.le_trans h q)⟩
theorem Ext.cons {M : List Addr} {s : Shared} {a : Addr} (h : s.heap.objs.size ≤ a) : Ext M (a :: M) s := ⟨fun _ h => List.mem_cons_of_mem _ h, fun x hx => by
  rcases List.mem_cons.mp hx with rfl | hx
  · exact .inr h
  · exact .inl hx⟩

/-- where a statement leaves the frame -/
noncomputable def XPost (K : Frag) (P : Addr) (G : Str → Option Value) (Λ : List Addr) (n : Nat) (O₀ : List Addr) (env : Env) (nm : NK) (s : Shared) (M O : List Addr) : Fl → Flow → Shared → Prop
  | .next ρ', f, s' => f = .next ∧ ∃ M' O' α', GrowB P M s s' ∧ Ext M M' s ∧ Ext O O' s ∧ Run K P G Λ n M' O' α' env nm ρ' s'
  | .brk ρ', f, s' => f = .brk ∧ ∃ M' O' α', GrowB P M s s' ∧ Ext M M' s ∧ Ext O O' s ∧ Run K P G Λ n M' O' α' env nm ρ' s'
  | .ret d, f, s' => ∃ v, f = .ret v ∧ Rep O₀ s'.heap d v ∧ GrowB P M s s'

theorem GrowB.before {M M₁ : List Addr} {s s₁ s' : Shared} (g : GrowB P M s s₁) (e : Ext M M₁ s) (h : GrowB P M₁ s₁ s') : GrowB P M s s' :=
  ((g.less fun b hb => .inl (e.1 b hb)).trans h).less e.2
theorem XPost.before {n : Nat} {O₀ : List Addr} {env : Env} {nm : NK} {s s₁ s' : Shared} {M O M₁ O₁ : List Addr} {fl : Fl} {f : Flow} (g : GrowB P M s s₁) (e : Ext M M₁ s) (eo : Ext O O₁ s) (x : XPost K P G Λ n O₀ env nm s₁ M₁ O₁ fl f s') : XPost K P G Λ n O₀ env nm s M O fl f s' := by
  cases fl with
  | next ρ' =>
    obtain ⟨h0, M', O', α', h1, h2, h3, h4⟩ := x
    exact ⟨h0, M', O', α', g.before e h1, e.trans h2 g.size, eo.trans h3 g.size, h4⟩
  | brk ρ' =>
    obtain ⟨h0, M', O', α', h1, h2, h3, h4⟩ := x
    exact ⟨h0, M', O', α', g.before e h1, e.trans h2 g.size, eo.trans h3 g.size, h4⟩
  | ret d =>
    obtain ⟨v, h0, h1, h2⟩ := x
    exact ⟨v, h0, h1, g.before e h2⟩
end Mine
end
section
open PySem PySem.Spec PySem.Calls PyProof.Rows PySem.W
namespace Mine
variable [Inhabited Base]
theorem look_of_fast {T : String} {name : Str} {v : Value} (h : (match fastLookup T name with | some (some x) => x == v | _ => false) = true) : typeLookup (.type T) name = pure (some v) := by
  rw [typeLookup_type, builtinLookup_eq_fast]
  cases hq : fastLookup T name with
  | none => rw [hq] at h; cases h
  | some r => cases r with
    | none => rw [hq] at h; cases h
    | some x => rw [hq] at h; have := beq_iff_eq.mp h; subst this; rfl
theorem md_get : typeLookup (.type "method_descriptor") "__get__" = pure (some (.builtin "method_descriptor.__get__")) := by rw [typeLookup_type, builtinLookup_eq_fast]; kernel_rfl
theorem md_set : typeLookup (.type "method_descriptor") "__set__" = pure none := by rw [typeLookup_type, builtinLookup_eq_fast]; kernel_rfl
theorem md_del : typeLookup (.type "method_descriptor") "__delete__" = pure none := by rw [typeLookup_type, builtinLookup_eq_fast]; kernel_rfl
theorem slot_md_get : Slot "method_descriptor" "__get__" "method_descriptor.__get__" :=
  .of (owner := "method_descriptor") (n := "__get__") (by rw [typeLookup_type, builtinLookup_eq_fast]; kernel_rfl) (by decide +kernel) (by decide +kernel) (by decide +kernel)
    (by first | exact .inl (by decide +kernel) | exact .inr (by decide +kernel)) (by rw [isSubtype_type]; kernel_rfl)
theorem entry_md_get : entryFor table "method_descriptor.__get__" = some Builtin.«method_descriptor.__get__» := entryFor_of_tree (by kernel_rfl)
theorem args_md_get (a b c : Value) : argsOk "method_descriptor.__get__" ⟨[a, b, c], []⟩ := by unfold argsOk; kernel_rfl
section
variable {prog : Program} {w : World} {A : Around} {E : Value → Shared → Prop} {s : Shared}
theorem md_get_run {a : Addr} {vs : Array Value} {P : Fin → Shared → Prop} (hl : s.heap.PlainList a vs) (h : P (.done (.ret (.ref s.heap.objs.size))) { s with heap := s.heap.push (appObj a) }) :
    wpAny (model prog w) A (Builtin.«method_descriptor.__get__» ⟨[.builtin "list.append", .ref a, .type "list"], []⟩) P E s := by
  unfold Builtin.«method_descriptor.__get__»
  refine wpAny_bind (wpAny_of_eq (a := (.builtin "list.append", some (.ref a), some (.type "list"))) (by first | rfl | kernel_rfl) ?_)
  dsimp only
  rw [if_neg (show ¬ (Manifest.toldItsClass.contains "list.append" = true) by decide +kernel)]
  have hT : s.TypeIs (.ref a) "list" := hl.isList.typeIs
  obtain ⟨hp, g, d, tk, os⟩ := s
  with_unfolding_all refine wpAny_bind ?_
  with_unfolding_all refine wpAny_bind ?_
  refine wpAny_of_eq (a := ((Str.ofString "append" : Str), Value.type "list")) (by first | rfl | kernel_rfl) ?_
  with_unfolding_all refine wpAny_bind ?_
  refine wpAny_isInstance hT (b := true) (by rw [isSubtype_type]; kernel_rfl) ?_
  rw [if_neg (by decide)]
  refine wpAny_pure ?_
  refine wpAny_bind (wpAny_newObj_type ?_)
  exact wpAny_pure h

theorem getattribute_append {a : Addr} {vs : Array Value} {u : Tok} {P : Fin → Shared → Prop} (hl : s.heap.PlainList a vs) (h : P (.done (.ret (.ref s.heap.objs.size))) { s with heap := s.heap.push (appObj a) }) :
    wpAny (model prog w) A (Builtin.«object.__getattribute__» ⟨[.ref a, .str "append" u], []⟩) P E s := by
  obtain ⟨k, hx⟩ := id hl
  obtain ⟨hp, g, d, tk, os⟩ := s
  have hT : (⟨hp, g, d, tk, os⟩ : Shared).TypeIs (.ref a) "list" := ⟨_, hx, rfl⟩
  have f1 := slot_list_append.lookup
  have f2 := type_list_append
  have f3 := md_get
  have f4 := md_set
  have f5 := md_del
  unfold Builtin.«object.__getattribute__»
  repeat (any_goals (first | assumption | wp_step))
  refine codeAny_call_builtin slot_md_get.plain entry_md_get (slot_md_get.check _ _ _ _ _ _ _ _ type_list_append (args_md_get _ _ _) ?_)
  refine md_get_run hl ?_
  exact wpAny_pure h

theorem getAttr_append {a : Addr} {vs : Array Value} {b : Bool} {Q : Value → Shared → Prop} (hl : s.heap.PlainList a vs) (h : Q (.ref s.heap.objs.size) { s with heap := s.heap.push (appObj a), toks := s.toks + 1 }) :
    wpAny (model prog w) A (getAttr (.ref a) "append" b) Q E s := by
  obtain ⟨k, hx⟩ := id hl
  obtain ⟨hp, g, d, tk, os⟩ := s
  have hT : ∀ tk', (⟨hp, g, d, tk', os⟩ : Shared).TypeIs (.ref a) "list" := fun _ => ⟨_, hx, rfl⟩
  have f3 := F.slot_list_getattribute.lookup
  have f4 := F.slot_list_getattribute.bind (.ref a)
  have f5 := am_list_getattr_none
  cases b
  all_goals (
  unfold getAttr getAttrBy
  repeat (any_goals (first | assumption | exact hT _ | ((with_reducible show wpAny _ _ (call (Value.builtin "list.__getattribute__") _ _) _ _ _); refine wpAny_call_entry F.slot_list_getattribute (hT _) am_entry_list_getattribute (getattribute_append (s := ⟨hp, g, d, tk + 1, os⟩) hl ?_) (F.args_list_getattribute_2 _ _)) | wp_step)))
  all_goals exact ⟨_, rfl, wpAny_pure h⟩

theorem callWith_app {pos : Pos} {m a : Addr} {args : List (Bool × Sem Value)} {Q : Value → Shared → Prop} (hplain : args.any (·.1) = false)
    (h : wpAny (model prog w) A (evalArgs (.ref m) true args []) (fun x s₁ => s₁.heap.get? m = some (appObj a) ∧ wpAny (model prog w) A (call (.ref m) ([] ++ x.pos) x.kw) Q E s₁) E s) : wpAny (model prog w) A (callWith pos (.ref m) [] args []) Q E s := by
  unfold callWith
  refine wpAny_bind (wpAny_holding (wpAny_mono h (fun x s₁ h₁ => wpAny_bind (wpAny_standAt ?_)) fun _ _ x => x))
  obtain ⟨ho, hcall⟩ := h₁
  simp only [hplain, List.any_nil, Bool.or_false]
  refine wpAny_bind (m := keeperOf (.ref m)) ?_
  unfold keeperOf
  refine wpAny_bind (wpAny_load ho ?_)
  simp only [appObj, show (Value.type "builtin_function_or_method" != Value.type "method") = true by decide, show (Value.type "builtin_function_or_method" == Value.type "builtin_function_or_method" || Value.type "builtin_function_or_method" == Value.type "method-wrapper") = true by decide, if_true]
  refine wpAny_pure ?_
  exact wpAny_bind (wpAny_mono hcall (fun r s₂ hr => wpAny_bind (wpAny_holding (wpAny_point (wpAny_pure hr)))) fun _ _ x => x)
noncomputable def sigApp : Manifest.Signature := match Manifest.signature? "list.append" with | some x => x | none => ⟨.oneArg, "", "", .self, []⟩
theorem sig_app : Manifest.signature? "list.append" = some sigApp := by kernel_rfl
theorem sig_args (a b : Value) : Bind.checkArgs "list.append" { sigApp with full := toString (Bind.lastOf "list") ++ toString "." ++ toString (Bind.lastOf "list.append") } ⟨[a, b], []⟩ = pure () := by kernel_rfl
theorem check_app {a : Addr} {x : Value} {vs : Array Value} {Q : Unit → Shared → Prop} (hl : s.heap.PlainList a vs) (h : Q () s) : wpAny (model prog w) A (checkBoundCall "list.append" ⟨[.ref a, x], []⟩) Q E s := by
  have hT : s.TypeIs (.ref a) "list" := hl.isList.typeIs
  unfold checkBoundCall
  rw [sig_app]
  dsimp only
  rw [show builtinKind "list.append" = some .method by decide +kernel]
  dsimp only
  rw [if_neg (by decide)]
  refine wpAny_bind (wpAny_isInstance hT (b := false) (by rw [isSubtype_type]; kernel_rfl) ?_)
  rw [if_neg (by decide +kernel)]
  obtain ⟨k, hx⟩ := id hl
  refine wpAny_bind (m := isType (.ref a)) ?_
  unfold isType loadHead
  refine wpAny_bind (wpAny_loadPart hx (wpAny_pure ?_))
  dsimp only
  rw [if_neg (by decide)]
  refine wpAny_bind (wpAny_typeOf hT ?_)
  dsimp only
  rw [sig_args]
  exact wpAny_pure h
theorem call_app {m a : Addr} {vs : Array Value} {x : Value} {Q : Value → Shared → Prop} (hm : s.heap.get? m = some (appObj a)) (hl : s.heap.PlainList a vs)
    (h : ∀ h', h'.PlainList a (vs.push x) → Heap.SameBut a s.heap h' → Q .none { s with heap := h' }) (hsz : vs.size ≤ sizeLine) : wpAny (model prog w) A (call (.ref m) [x]) Q E s := by
  refine wpAny_call (codeAny_of_tree ?_)
  show wpAny _ A.in1 (callAny (.ref m) ⟨[x], []⟩) _ _ s
  simp only [callAny]
  refine wpAny_bind (wpAny_load hm ?_)
  simp only [appObj, show (Value.type "builtin_function_or_method" == Value.type "method" || Value.type "builtin_function_or_method" == Value.type "builtin_function_or_method" || Value.type "builtin_function_or_method" == Value.type "method-wrapper") = true by decide, if_true]
  refine KFB.if_so (by decide) ?_
  refine wpAny_bind (check_app hl ?_)
  obtain ⟨n, ho⟩ := hl
  refine wpAny_bind (wpAny_pure (wpAny_pure ⟨Code.quiet_builtin _ (by decide +kernel), codeAny_builtin entry_list_append ?_⟩))
  show wpAny _ _ (updateSeq a (·.push x) >>= fun _ => ret .none) _ _ s
  refine wpAny_bind ?_
  refine wpAny_updateSeq (hz := hsz) (_hz' := by rw [Array.size_push]; omega) ho rfl (wpAny_pure (h _ ⟨n + 1, ?_⟩ (Heap.SameBut.update ..)))
  rw [Heap.get?_update_self _ ho (by rw [Obj.mapSeq_push_plain]; rfl), Obj.mapSeq_push_plain]
end
end Mine
end
section
open PySem PySem.Spec PySem.Calls PyProof.Rows PySem.W PySem.Builtin.Re
set_option maxRecDepth 100000
namespace Mine
variable [Inhabited Base]
noncomputable def twinInts : List Nat := [14, 14, 4, 1, 1, 9, 0, 64, 0, 1342177280, 0, 0, 0, 0, 0, 17, 0, 13, 11, 9, 0, 64, 0, 1342177280, 0, 0, 0, 0, 0, 17, 1, 1]
noncomputable def twinCode : Obj := { cls := .type "tuple", data := .seq (twinInts.map fun (i : Nat) => Value.int (i : Int) 0).toArray }
/-- the pattern's object, its items at c -/
noncomputable def twinObj (c : Addr) (t u : Tok) : Obj := { cls := .type "re.Pattern", data := .fields #[.str "([&~|])" t, .int 32 u, .int 1 0, .none, .none, .ref c, .int 0 0] }
noncomputable def IsTwin (h : Heap) (p : Addr) : Prop := ∃ c t u, h.get? p = some (twinObj c t u) ∧ h.get? c = some twinCode
theorem slot_sub : Slot "re.Pattern" "sub" "re.Pattern.sub" :=
  .of (owner := "re.Pattern") (n := "sub") (by rw [typeLookup_type, builtinLookup_eq_fast]; kernel_rfl) (by decide +kernel) (by decide +kernel) (by decide +kernel)
    (by first | exact .inl (by decide +kernel) | exact .inr (by decide +kernel)) (by rw [isSubtype_type]; kernel_rfl)
theorem type_sub : typeOf (.builtin "re.Pattern.sub") = pure (.type "method_descriptor") := by show builtinType _ = _; rw [builtinType_eq_fast]; kernel_rfl
theorem entry_sub : entryFor table "re.Pattern.sub" = some Builtin.«re.Pattern.sub» := entryFor_of_tree (by kernel_rfl)
theorem entry_sub_loop : entryFor table "re.Pattern.sub.loop" = some Builtin.«re.Pattern.sub.loop» := entryFor_of_tree (by kernel_rfl)
theorem args_sub (a b c : Value) : argsOk "re.Pattern.sub" ⟨[a, b, c], []⟩ := by unfold argsOk; kernel_rfl
theorem plainAttrs_re : PlainAttrs "re.Pattern" := ⟨⟨"object.__getattribute__", by rw [typeLookup_type, builtinLookup_eq_fast]; kernel_rfl, by decide +kernel⟩, by rw [typeLookup_type, builtinLookup_eq_fast]; kernel_rfl⟩
theorem fn_call : typeLookup (.type "function") "__call__" = pure (some (.builtin "function.__call__")) := by rw [typeLookup_type, builtinLookup_eq_fast]; kernel_rfl
section
variable {prog : Program} {w : World} {A : Around} {E : Value → Shared → Prop} {s : Shared}
/-- the machine on these texts -/
noncomputable def twinRun (x : List Nat) : Sre.M := (Sre.forSearch (twinInts.toArray) x.toArray 1 0 x.length false).runFor 4
theorem twin_fails (x : List Nat) (h : x ∈ subTexts) : (match (twinRun x).outcome with | some .failed => true | _ => false) = true := by
  unfold subTexts at h
  simp only [List.mem_cons, List.not_mem_nil, or_false] at h
  rcases h with rfl | rfl | rfl | rfl | rfl | rfl | rfl | rfl | rfl | rfl | rfl | rfl | rfl | rfl | rfl <;> kernel_rfl
theorem rules_loop {Q : PUnit → Shared → Prop} (b : Nat → Bool) (nm : Nat → String) : ∀ (l : List Nat) {s : Shared}, Q ⟨⟩ s → wpAny (model prog w) A (forIn l PUnit.unit fun i r => do
    if b i = true then do rule (nm i); pure (ForInStep.yield PUnit.unit) else pure (ForInStep.yield PUnit.unit)) Q E s
  | [], s, h => wpAny_pure h
  | i :: l, s, h => by
    rw [List.forIn_cons]
    refine wpAny_bind (wpAny_ite ?_)
    split
    · exact wpAny_bind (wpAny_rule (wpAny_pure (rules_loop b nm l h)))
    · exact wpAny_pure (rules_loop b nm l h)
theorem runToEnd_fails {m : Sre.M} {Q : Option Sre.M → Shared → Prop} (hm : (match (m.runFor 4).outcome with | some .failed => true | _ => false) = true) (h : Q none s) : wpAny (model prog w) A (reRunToEnd m) Q E s := by
  unfold reRunToEnd
  show wpAny _ _ (reDrive (18446744073709551615 + 1) m >>= _) _ _ _
  unfold reDrive
  have ho : (m.runFor reTurnSteps).outcome.isSome = true := by
    show (m.runFor 4).outcome.isSome = true
    generalize (m.runFor 4).outcome = o at hm ⊢
    cases o with
    | none => cases hm
    | some _ => rfl
  dsimp only
  rw [if_pos ho]
  refine wpAny_bind (wpAny_pure ?_)
  refine wpAny_bind (rules_loop _ _ _ ?_)
  have e : (m.runFor reTurnSteps).outcome = some .failed := by
    show (m.runFor 4).outcome = some .failed
    generalize (m.runFor 4).outcome = o at hm ⊢
    cases o with
    | none => cases hm
    | some x => cases x <;> first | rfl | cases hm
  rw [e]
  exact wpAny_pure h

noncomputable def twinTarget (p : Addr) (x : Str) (t : Tok) : ReTarget := { pattern := .ref p, string := .str x t, code := twinInts.toArray, text := x.cps, kind := 0, groups := 1, pos := 0, lim := x.cps.size }
theorem wholeTarget {p : Addr} {x : Str} {t : Tok} {Q : ReTarget → Shared → Prop} (hp : IsTwin s.heap p) (h : Q (twinTarget p x t) s) : wpAny (model prog w) A (reWholeTarget (.ref p) (.str x t)) Q E s := by
  obtain ⟨c, t1, u1, h1, h2⟩ := hp
  unfold reWholeTarget
  refine wpAny_bind (wpAny_fieldsOf h1 rfl ?_)
  unfold reTextOf
  refine wpAny_bind (wpAny_bind (wpAny_of_eq (a := some x) (by rfl) (wpAny_pure ?_)))
  dsimp only
  rw [if_neg (by rw [show reRawNat ((#[Value.str (Str.ofString "([&~|])") t1, Value.int 32 u1, Value.int 1 0, Value.none, Value.none, Value.ref c, Value.int 0 0] : Array Value).getD 6 Value.none) = 0 from rfl]; decide), if_neg (by rw [show reRawNat ((#[Value.str (Str.ofString "([&~|])") t1, Value.int 32 u1, Value.int 1 0, Value.none, Value.none, Value.ref c, Value.int 0 0] : Array Value).getD 6 Value.none) = 0 from rfl]; decide)]
  unfold reNoCollectionInside
  rw [if_neg (by decide)]
  refine wpAny_bind (wpAny_pure ?_)
  unfold reRawItems
  refine wpAny_bind (wpAny_bind (wpAny_seqItems (o := twinCode) h2 rfl ?_))
  refine wpAny_pure (wpAny_pure ?_)
  have e : (Array.map (fun x => x.toNat) (Array.map reRawOf ((some (List.map (fun (i : Nat) => Value.int (↑i) 0) twinInts).toArray).getD #[]))) = twinInts.toArray := by decide +kernel
  rw [e]
  exact h

noncomputable def loopArgs (p f l : Addr) (x : Str) (t : Tok) : Args := ⟨[.ref p, .str x t, .ref f, rawInt 1, rawInt 0, rawInt 0, rawInt 0, rawInt 0, .bool false, .ref l, .bool false], []⟩
theorem subLoop {p f l : Addr} {x : Str} {t : Tok} {P : Fin → Shared → Prop} (hp : IsTwin s.heap p) (hl : s.heap.get? l = some { cls := .type "list", data := .seq #[] }) (hx : x.cps.toList ∈ subTexts)
    (h : ∀ h' t' tk, Heap.SameBut l s.heap h' → P (.done (.ret (.str x t'))) { s with heap := h', toks := tk }) :
    wpAny (model prog w) A.in1 (Builtin.«re.Pattern.sub.loop» (loopArgs p f l x t)) P E s := by
  unfold Builtin.«re.Pattern.sub.loop»
  dsimp only [loopArgs, rawInt]
  refine wpAny_bind (wholeTarget hp ?_)
  rw [if_neg (by decide)]
  have hsz : 0 < x.cps.size ∧ x.cps.size ≤ 100 := by
    rw [← Array.length_toList]
    unfold subTexts at hx
    simp only [List.mem_cons, List.not_mem_nil, or_false] at hx
    rcases hx with e | e | e | e | e | e | e | e | e | e | e | e | e | e | e <;> rw [e] <;> decide
  refine wpAny_bind ?_
  rw [if_neg (by decide)]
  unfold reNextFound
  refine runToEnd_fails ?_ ?_
  · have := twin_fails _ hx
    unfold twinRun at this
    rw [Array.length_toList, Array.toArray_toList] at this
    exact this
  dsimp only
  rw [if_pos (show Int.toNat 0 < (twinTarget p x t).lim from hsz.1)]
  unfold reSlice
  rw [if_pos (by rfl)]
  have hline : sizeLine = 16777216 := by decide
  have e1 : (⟨(twinTarget p x t).text.extract (Int.toNat 0) (twinTarget p x t).lim⟩ : Str) = x := by
    show (⟨x.cps.extract 0 x.cps.size⟩ : Str) = x
    rw [Array.extract_size]
  rw [e1]
  refine wpAny_bind (wpAny_mkStr ?_ (by show x.cps.size ≤ sizeLine; omega))
  refine wpAny_bind (wpAny_updateSeq (hz := by decide) (_hz' := by rw [Array.size_push, hline]; exact Nat.le_of_ble_eq_true rfl) hl rfl ?_)
  have hl₂ : (s.heap.update l (Obj.mapSeq fun y => y.push (Value.str x s.toks))).get? l = some { cls := .type "list", data := .seq #[Value.str x s.toks] 1 } := Heap.get?_update_self _ hl rfl
  have hs₂ : Heap.SameBut l s.heap (s.heap.update l (Obj.mapSeq fun y => y.push (Value.str x s.toks))) := Heap.SameBut.update ..
  dsimp only
  generalize s.heap.update l (Obj.mapSeq fun y => y.push (Value.str x s.toks)) = H at hl₂ hs₂ ⊢
  refine wpAny_bind ?_
  rw [if_pos (by rfl)]
  refine wpAny_mkStr ?_ (by show (x.cps.extract 0 0).size ≤ sizeLine; rw [Array.size_extract, hline]; omega)
  refine wpAny_bind (wpAny_seqItems hl₂ rfl ?_)
  rw [if_neg (by simp)]
  have e0 : (⟨(twinTarget p x t).text.extract 0 0⟩ : Str) = Str.empty := by
    show (⟨x.cps.extract 0 0⟩ : Str) = _
    have : x.cps.extract 0 0 = #[] := by apply Array.ext'; simp
    rw [this]; rfl
  rw [e0]
  have ej : Txt.join Str.empty [x] = x := rfl
  have hok : JoinOk Str.empty [x] = true := joinOk_of (by
    simp only [List.all_cons, List.all_nil, Bool.and_true, Bool.and_eq_true]
    exact ⟨⟨by decide, by rfl⟩, Nat.ble_eq_true_of_le hsz.2⟩)
  unfold JoinOk at hok
  rw [Bool.not_eq_true'] at hok
  refine wpAny_bind ?_
  rw [if_pos (by rfl)]
  refine call_meets F.slot_str_join (typeIs_str _ _ _) F.entry_str_join (F.args_str_join_2 _ _) (meets_str_join_list Str.empty _ l [(x, s.toks)] hok) ⟨⟨_, hl₂, rfl, _, rfl⟩, post_join _ ⟨joinFit_length hok, fun t' k => ?_⟩⟩
  show wpAny _ _ (ret _) _ _ _
  refine wpAny_pure ?_
  have := h H t' k hs₂
  rw [show Txt.join Str.empty (List.map (fun x => x.fst) [(x, s.toks)]) = x from ej]
  exact this

theorem call_sub {p f : Addr} {x : Str} {t : Tok} {Q : Value → Shared → Prop} (hp : IsTwin s.heap p) (hf : s.TypeIs (.ref f) "function") (hx : x.cps.toList ∈ subTexts)
    (h : ∀ h' t' tk, (∀ b o, s.heap.get? b = some o → h'.get? b = some o) → s.heap.objs.size ≤ h'.objs.size → Q (.str x t') { s with heap := h', toks := tk }) :
    wpAny (model prog w) A (call (.builtin "re.Pattern.sub") [.ref p, .ref f, .str x t]) Q E s := by
  obtain ⟨c, t1, u1, h1, h2⟩ := id hp
  have hT : s.TypeIs (.ref p) "re.Pattern" := ⟨_, h1, rfl⟩
  refine wpAny_call (codeAny_call_builtin slot_sub.plain entry_sub (slot_sub.check _ _ _ _ _ _ _ _ hT (args_sub _ _ _) ?_))
  unfold Builtin.«re.Pattern.sub» reSubstitute
  dsimp only
  refine wpAny_bind (wpAny_of_eq (a := [some (.ref f), some (.str x t), none]) (by first | rfl | kernel_rfl) ?_)
  dsimp only
  refine wpAny_bind (wpAny_pure ?_)
  refine wpAny_bind (m := specialOf (Value.ref f) (Str.ofString "__call__")) ?_
  unfold specialOf
  refine wpAny_bind (wpAny_typeOf hf (wpAny_of_eq fn_call ?_))
  rw [if_pos (by rfl)]
  refine wpAny_bind (wpAny_pure ?_)
  rw [if_pos (by rfl)]
  refine wpAny_bind (wpAny_pure ?_)
  dsimp only
  refine wpAny_bind (wpAny_holding (wholeTarget hp ?_))
  rw [if_pos (by rfl)]
  refine wpAny_bind ?_
  unfold reNotHeld
  refine wpAny_bind (wpAny_isInstance (T := "str") (typeIs_str _ _ _) (b := false) (by rw [isSubtype_type]; kernel_rfl) ?_)
  rw [if_neg (by decide)]
  refine wpAny_pure ?_
  refine wpAny_bind (wpAny_newObj_type ?_)
  have hl : (s.heap.push { cls := .type "list", data := .seq ([] : List Value).toArray }).get? s.heap.objs.size = some { cls := .type "list", data := .seq #[] } := Heap.get?_push_size _ rfl
  have hp₂ : IsTwin (s.heap.push { cls := .type "list", data := .seq ([] : List Value).toArray }) p := ⟨c, t1, u1, Heap.get?_push_of_some _ h1, Heap.get?_push_of_some _ h2⟩
  refine wpAny_pure ⟨Code.quiet_builtin _ (by decide +kernel), codeAny_builtin entry_sub_loop ?_⟩
  rw [Around.under_plainId (by decide +kernel)]
  refine subLoop (s := { s with heap := s.heap.push { cls := .type "list", data := .seq ([] : List Value).toArray } }) hp₂ hl hx fun h' t' tk hs => ?_
  refine h h' t' tk (fun b o e => ?_) ?_
  · exact hs.extBut b o (Nat.ne_of_lt (Heap.lt_size e)) (Heap.get?_push_of_some _ e)
  · have := hs.1
    rw [this, Heap.size_push]; omega
end
end Mine
end
section
open PySem PySem.Spec PySem.Calls PyProof.Rows PySem.W
namespace Mine
variable [Inhabited Base]
variable {K : Frag} {P : Addr} {G : Str → Option Value} {Λ : List Addr}
/-- the frame of the one def that makes lambdas and generators: its code, the pattern -/
structure CodeM (K : Frag) (P : Addr) (G : Str → Option Value) (nm : NK) (env : Env) : Prop where
  code : marked nm = true → ∃ c, env.code = .ref c ∧ ∀ h, K.In h → CodeHd h c P
  twin : marked nm = true → ∃ p, G "_twin_re_1" = some (.ref p) ∧ ∀ h, K.In h → IsTwin h p
section
variable {prog : Program} {w : World} {n k : Nat} {A : Around} {E : Value → Shared → Prop} {M O : List Addr} {α : Str → Addr} {env : Env} {nm : NK} {ρ ρ' : En} {s : Shared} {rec : NK → En → Expr → Option PyData}

theorem clFrom_none {env : Env} : ∀ {names : NK} {cs : List (Str × Addr)}, (∀ x, (x, NameKind.free) ∉ names) → clFrom env names cs = cs
  | [], _, _ => rfl
  | (y, kd) :: r, cs, h => by
    unfold clFrom
    have : (kd == NameKind.free) = false := by
      cases kd <;> first | rfl | exact absurd List.mem_cons_self (h y)
    rw [this]
    exact clFrom_none fun x hx => h x (List.mem_cons_of_mem _ hx)
theorem closure_none {scope : Scope} {env : Env} (h : ∀ x, (x, NameKind.free) ∉ scope.names) : closureFor scope env = pure [] := by
  rw [closureFor_eq fun x hx => absurd hx (h x), clFrom_none h]

theorem lam_free {nk : NK} (hl : lamScope nk = true) {x : Str} (hx : (x, NameKind.free) ∈ nk) : False := by
  obtain ⟨a, e, h⟩ := on1_some (isTrue?_eq hl)
  rw [e] at hx
  have hy := isLoc_some (yes_some h)
  have e2 := List.mem_singleton.mp hx
  rw [← e2] at hy
  cases hy
/-- a lambda is made -/
theorem lambda_sound {la : Arguments} {lb : Expr} {ls : Scope} {lp : Pos} {Q : Value → Shared → Prop} (H : Here K P G Λ k A O env nm ρ s) (cm : CodeM K P G nm env) (hm : marked nm = true) (hl : lamScope ls.names = true) (ha : lamArgs la = true)
    (hQ : ∀ f s', Grow P s s' → s'.TypeIs (.ref f) "function" → Q (.ref f) s') : wpAny (model prog w) A (eval (.Lambda la lb ls lp) env) Q E s := by
  obtain ⟨c, hc, hcd⟩ := cm.code hm
  obtain ⟨ps, hP, ht⟩ := H.wf.tab
  obtain ⟨mg, ob, h1, h2, h3, h4, h5, h6, h7, h8, h9⟩ := H.wf.bmod
  have hcl : closureFor ls env = pure [] := closure_none fun x hx => lam_free hl hx
  have hdef : defaultsOf la env = ([], []) := by
    unfold lamArgs at ha
    simp only [Bool.and_eq_true, List.isEmpty_iff] at ha
    obtain ⟨⟨⟨⟨⟨a1, a2⟩, a3⟩, a4⟩, _⟩, _⟩ := ha
    obtain ⟨po, ar, va, ko, kd, kw, df⟩ := la
    simp only at a1 a2 a3 a4
    subst a3 a4
    rfl
  have hgP : mainGlobals ≠ P := ns_ne h1 hP
  refine wpAny_with_toks (Nat.le_refl _) (kla_eval hdef ?_)
  cases hf : codeAmong lp ps.toList with
  | some cv =>
    refine kla_makeFunctionHit (mg := mg) hcl H.glb h1 hc (hcd _ H.wf.X) hP ht hf ⟨bmA, ob, h2, h3, h4, h5, h6, h7, h8, h9⟩ fun ctv h' tk hk hsz htk => ?_
    have g : Grow P s { s with heap := h', toks := tk } := Grow.of_keep hk hsz htk
    have g₂ : Grow P { s with heap := h', toks := tk } { s with heap := h'.push { cls := .type "function", data := .func (kla_fn "<lambda>" (env.qual ++ "<lambda>") la lb ls [] ((mg "__name__").getD .none) cv ctv) }, toks := tk } := Grow.push (s := { s with heap := h', toks := tk })
    exact hQ _ _ (g.trans g₂) ⟨_, Heap.get?_push_size _ rfl, rfl⟩
  | none =>
    refine kla_makeFunction (mg := mg) hcl H.glb h1 hc (hcd _ H.wf.X) hP ht hf hgP ⟨bmA, ob, h2, h3, h4, h5, h6, h7, h8, h9⟩ fun c' ctv h' tk hx hge hlt hrec htb htk => ?_
    have g : Grow P s { s with heap := h', toks := tk } := by
      refine ⟨fun b o hb _ e => hx b o hb e, fun b o hb e => ⟨o.slots, hx b o hb e⟩, fun ps' e t => ?_, rfl, fun h => h, Nat.le_trans hge (Nat.le_of_lt hlt), htk⟩
      rw [hP] at e
      have e : ps = ps' := by injection e with e; injection e with _ _ e; injection e
      subst e
      refine ⟨_, htb, ?_⟩
      rw [Array.toList_append]
      exact TriplesOk_snoc _ _ _ _ t
    have g₂ : Grow P { s with heap := h', toks := tk } { s with heap := h'.push (kla_obj "<lambda>" (env.qual ++ "<lambda>") la lb ls [] ((mg "__name__").getD .none) c' ctv), toks := tk } := Grow.push (s := { s with heap := h', toks := tk })
    exact hQ _ _ (g.trans g₂) ⟨_, Heap.get?_push_size _ rfl, rfl⟩

theorem subSpec_some {g m : Str} {ap p : Pos} {la : Arguments} {ls : Scope} {dd : Option PyData} {d : PyData} (h : subSpec ρ nm g m ap p la ls dd = some d) :
    g = "_twin_re_1" ∧ m = "sub" ∧ lineEq ap p = true ∧ getB ρ g = none ∧ getK nm g = some .globalImplicit ∧ marked nm = true ∧ lamScope ls.names = true ∧ lamArgs la = true ∧ ∃ x : Str, dd = some (.str x) ∧ d = .str x ∧ x.cps.toList ∈ subTexts := by
  obtain ⟨hc, h1⟩ := onT_some h
  obtain ⟨d', e1, h2⟩ := onO_some h1
  obtain ⟨x, e2, h3⟩ := dStr_some (f := fun x => guard' (subTexts.any fun l => natsEq x.cps.toList l) (some (.str x))) h2
  obtain ⟨hg, h4⟩ := guard'_some h3
  obtain ⟨q1, h11⟩ := two_ble hc
  obtain ⟨q2, _⟩ := two_ble q1
  obtain ⟨q3, _⟩ := two_ble q2
  obtain ⟨q4, _⟩ := two_ble q3
  obtain ⟨q5, h7⟩ := two_ble q4
  obtain ⟨q6, h6⟩ := two_ble q5
  obtain ⟨q7, h5⟩ := two_ble q6
  obtain ⟨q8, h4'⟩ := two_ble q7
  obtain ⟨q9, h3'⟩ := two_ble q8
  obtain ⟨l, hl, he⟩ := List.any_eq_true.mp hg
  exact ⟨(nameEq_iff _ _).mp (two_ble q9).1, (nameEq_iff _ _).mp (two_ble q9).2, h3', isNone?_eq h4', isGlob_eq h5, h6, h7, h11, x, by rw [e1, e2], (Option.some.inj h4).symm, by rw [(natsEq_iff _ _).mp he]; exact hl⟩

theorem subCall_sound (S : ESound prog w K P G k rec) {g m : Str} {gp ap lp py p : Pos} {la : Arguments} {lb : Expr} {ls : Scope} {y : Str} {d : PyData} {Q : Value → Shared → Prop} (H : Here K P G Λ k A O env nm ρ s) (cm : CodeM K P G nm env)
    (h : subSpec ρ nm g m ap p la ls (rec nm ρ (.Name y py)) = some d) (hQ : ∀ v s', Grow P s s' → Rep O s'.heap d v → Q v s') :
    wpAny (model prog w) A (eval (.Call (.Attribute (.Name g gp) m ap) [.Lambda la lb ls lp, .Name y py] [] p) env) Q E s := by
  obtain ⟨rfl, rfl, hline, hb, hk, hm, hls, hla, x, hy, rfl, hx⟩ := subSpec_some h
  obtain ⟨pa, hg, htw⟩ := cm.twin hm
  have hpl := starEach_plain (env := env) (pos := p) (es := [.Lambda la lb ls lp, .Name y py]) (fun e he => by
    rcases List.mem_cons.mp he with rfl | he
    · rfl
    · rw [List.mem_singleton.mp he]; rfl)
  refine wpAny_Call_method_lateS (plainBase_eq rfl) ?_ (beq_iff_eq.mpr (Nat.eq_of_beq_eq_true hline)) (global_sound H.toHereW hk hg ?_)
  · simp only [Bool.and_eq_true, decide_eq_true_eq]
    refine ⟨⟨?_, rfl⟩, by simp⟩
    rw [List.all_eq_true]
    intro z hz
    have := List.any_eq_false.mp hpl z hz
    simpa using this
  · obtain ⟨c, t1, u1, e1, e2⟩ := htw _ H.wf.X
    refine ⟨"re.Pattern", "re.Pattern.sub", plainAttrs_re, slot_sub, type_sub, ⟨_, e1, rfl⟩, fun a ea => by cases ea; exact ⟨_, e1, rfl⟩, ?_⟩
    refine Calls.callWith_builtin hpl ?_
    refine evalArgs_plain (spliced_cons (lambda_sound H cm hm hls hla fun f s₁ g₁ hf => spliced_cons (S _ _ _ _ hy A O env s₁ _ E (H.grow g₁) fun v s₂ g₂ r₂ => spliced_nil ?_)))
    obtain ⟨t, rfl⟩ := r₂.str_inv
    have H₂ := H.grow (g₁.trans g₂)
    have hf₂ : s₂.TypeIs (.ref f) "function" := by
      obtain ⟨o, ho, hc⟩ := hf
      have hfP : f ≠ P := fun q => by
        obtain ⟨ps, hp, _⟩ := (H.grow g₁).wf.tab
        rw [q, hp] at ho; cases ho; cases hc
      obtain ⟨sl, e⟩ := g₂.frm f o hfP ho
      exact ⟨_, e, hc⟩
    refine wpAny_with_toks (Nat.le_refl _) (call_sub (htw _ H₂.wf.X) hf₂ hx fun h' t' tk hk' hz htk => ?_)
    exact hQ _ _ ((g₁.trans g₂).trans (Grow.of_keep hk' hz htk)) Rep.str'
end
end Mine
end
section
open PySem PySem.Spec PySem.Calls PyProof.Rows PySem.W
set_option maxRecDepth 100000
namespace Mine
variable [Inhabited Base]
variable {K : Frag} {P : Addr} {G : Str → Option Value} {Λ : List Addr}
section
variable {prog : Program} {w : World} {n k : Nat} {A : Around} {E : Value → Shared → Prop} {M O : List Addr} {α : Str → Addr} {env : Env} {nm : NK} {ρ ρ' : En} {s : Shared} {rec : NK → En → Expr → Option PyData}

theorem repl_same {x a b : Str} {t u u2 : Tok} {d : PyData} {Q : Value → Shared → Prop} (h : replM x [.str a, .str b] = some d) (hQ : Q (.str x t) s) :
    wpAny (model prog w) A (call (.builtin "str.replace") [.str x t, .str a u, .str b u2]) Q E s := by
  obtain ⟨y, z, e1, e2, he⟩ := replM_some h
  cases e1
  refine call_gives F.slot_str_replace (typeIs_str _ _ _) F.entry_str_replace (F.args_str_replace_3 _ _ _) (gives_str_replace x a b t u u2 fun e => by rw [he] at e; exact noB e.symm) ?_
  rw [he]
  simp only [Bool.true_or, if_true]
  exact hQ
theorem strC_some {e : Expr} {x : Str} (h : strC e = some x) : ∃ kk p, e = .Constant (.str x) kk p := by
  obtain ⟨c, kk, pp, e1, h1⟩ := onConst_some h
  obtain ⟨y, e2, h2⟩ := onStr_some h1
  exact ⟨kk, pp, by rw [e1, e2, Option.some.inj h2]⟩
/-- one replace of a written text by another, where the first is not there -/
theorem replCall {o a1 a2 : Expr} {m : Str} {ap p : Pos} {a b x : Str} {d : PyData} {Q : Value → Shared → Prop} (hb : plainBase o = true) (hm : nameEq m "replace" = true) (hl : lineEq ap p = true) (h1 : strC a1 = some a) (h2 : strC a2 = some b) (hr : replM x [.str a, .str b] = some d)
    (h : wpAny (model prog w) A (eval o env) (fun v s₁ => ∃ t, v = .str x t ∧ ∀ tk, Q (.str x t) { s₁ with toks := tk }) E s) : wpAny (model prog w) A (eval (.Call (.Attribute o m ap) [a1, a2] [] p) env) Q E s := by
  obtain ⟨k1, p1, rfl⟩ := strC_some h1
  obtain ⟨k2, p2, rfl⟩ := strC_some h2
  have hm := (nameEq_iff _ _).mp hm
  subst hm
  refine wpAny_Call_method_lateS (plainBase_eq hb) (by rfl) (beq_iff_eq.mpr (Nat.eq_of_beq_eq_true hl)) (wpAny_mono h (fun v s₁ hv => ?_) fun _ _ e => e)
  obtain ⟨t, rfl, hQ⟩ := hv
  refine ⟨"str", "str.replace", F.plainAttrs_str, F.slot_str_replace, F.type_str_replace, typeIs_str _ _ _, (fun a e => nomatch e), ?_⟩
  refine Calls.callWith_builtin rfl ?_
  refine evalArgs_plain (spliced_cons ?_)
  rw [eval_Constant]
  refine wpAny_mkText (spliced_cons ?_)
  rw [eval_Constant]
  refine wpAny_mkText (spliced_nil ?_)
  exact repl_same hr (hQ _)

theorem replE_some {e : Expr} {f : Expr → Str → Str → Option Str} {y : Str} (h : replE e f = some y) : ∃ o m ap a1 a2 p a b, e = .Call (.Attribute o m ap) [a1, a2] [] p ∧ strC a1 = some a ∧ strC a2 = some b ∧ nameEq m "replace" = true ∧ lineEq ap p = true ∧ f o a b = some y := by
  obtain ⟨g, as, ks, p, e1, h1⟩ := onCall_some h
  obtain ⟨e2, h2⟩ := on0_some h1
  obtain ⟨a1, a2, e3, h3⟩ := on2_some h2
  obtain ⟨o, m, ap, e4, h4⟩ := onAttr_some h3
  obtain ⟨a, ha, h5⟩ := onO_some h4
  obtain ⟨b, hb, h6⟩ := onO_some h5
  obtain ⟨hc, h7⟩ := onT_some h6
  exact ⟨o, m, ap, a1, a2, p, a, b, by rw [e1, e2, e3, e4], ha, hb, (two_ble hc).1, (two_ble hc).2, h7⟩
theorem genElt_sound {z x y : Str} {elt : Expr} {m₂ : Str → Option Value} {t : Tok} (h : genElt z x elt = some y) (hk : env.scope.kind = .function) (hz : env.kindOf z = some .local) (hd : (z == ("__debug__" : Str)) = false) (hn : s.heap.Ns env.locals m₂) (hv : m₂ z = some (.str x t)) :
    y = x ∧ wpAny (model prog w) A (eval elt env) (fun v s' => (∃ u, v = .str x u) ∧ Keeps s s') E s := by
  obtain ⟨o, m', ap', b1, b2, p', b, b', e1, e3, e4, c3, c5, h1⟩ := replE_some h
  obtain ⟨o2, m, ap, a1, a2, p, a, a', e5, e6, e7, c2, c4, h2⟩ := replE_some h1
  obtain ⟨y', yp, e8, h3⟩ := onName_some h2
  obtain ⟨c1, h4⟩ := onT_some h3
  obtain ⟨d1, r1, h5⟩ := onO_some h4
  obtain ⟨d2, r2, h6⟩ := onO_some h5
  have c1 := (nameEq_iff _ _).mp c1
  clear h h1 h2 h3 h4 h5
  subst e1 e5 e8 c1
  refine ⟨(Option.some.inj h6).symm, ?_⟩
  refine replCall (by rfl) c3 c5 e3 e4 r2 ?_
  refine replCall (by rfl) c2 c4 e6 e7 r1 ?_
  refine wpAny_Name (wpAny_loadName_local hk hz hn hv ?_) hd
  exact ⟨t, rfl, fun tk => ⟨t, rfl, fun tk2 => ⟨⟨t, rfl⟩, s.heap, tk2, rfl, fun _ _ e => e⟩⟩⟩

theorem genElts_get {z : Str} {elt : Expr} : ∀ {ts us : List Str}, genElts z elt ts = some us → us.length = ts.length ∧ ∀ i (h : i < ts.length), ∃ y, genElt z ts[i] elt = some y ∧ us[i]? = some y
  | [], us, h => by unfold genElts at h; cases h; exact ⟨rfl, fun i h => absurd h (Nat.not_lt_zero _)⟩
  | x :: r, us, h => by
    unfold genElts at h
    split at h
    · rename_i y hy
      split at h
      · rename_i l hl
        cases h
        obtain ⟨h1, h2⟩ := genElts_get hl
        refine ⟨by simp [h1], fun i hi => ?_⟩
        cases i with
        | zero => exact ⟨y, hy, rfl⟩
        | succ i =>
          obtain ⟨y', h3, h4⟩ := h2 i (by simpa using hi)
          exact ⟨y', by simpa using h3, by simpa using h4⟩
      · cases h
    · cases h
theorem strsOf_get {O : List Addr} {h : Heap} : ∀ {xs : List PyData} {ts : List Str} {vs : List Value}, strsOf xs = some ts → Reps O h xs vs → vs.length = ts.length ∧ ∀ (i : Nat) (v : Value), vs[i]? = some v → ∃ (hi : i < ts.length) (t : Tok), v = .str ts[i] t
  | [], ts, vs, e, r => by unfold strsOf at e; cases e; unfold Reps at r; subst r; exact ⟨rfl, fun i v h => by simp at h⟩
  | d :: xs, ts, vs, e, r => by
    unfold strsOf at e
    split at e
    · rename_i he; cases he
    · rename_i y r' he
      injection he with h1 h2
      subst h1 h2
      split at e
      · rename_i l hl
        cases e
        unfold Reps at r
        obtain ⟨v, rr, rfl, h1, h2⟩ := r
        obtain ⟨t, rfl⟩ := h1.str_inv
        obtain ⟨h3, h4⟩ := strsOf_get hl h2
        refine ⟨by simp [h3], fun i v hv => ?_⟩
        cases i with
        | zero => simp at hv; exact ⟨by simp, t, hv.symm⟩
        | succ i =>
          obtain ⟨hi, t', e'⟩ := h4 i v (by simpa using hv)
          exact ⟨by simpa using hi, t', by simpa using e'⟩
      · cases e
    · cases e
theorem passing_all (n : Nat) : passing (fun _ => true) n 0 = List.range n := by
  unfold passing
  rw [List.drop_zero, List.filter_eq_self.mpr fun _ _ => rfl]
theorem genScope_some {z : Str} {nk : NK} (h : genScope z nk = true) : nk = ([(Str.ofString ".0", NameKind.local), (z, NameKind.local)] : NK) ∧ z ≠ ".0" ∧ (z == ("__debug__" : Str)) = false := by
  obtain ⟨a, b, e, h1⟩ := on2_some (isTrue?_eq h)
  obtain ⟨q1, q2⟩ := two_ble (yes_some h1)
  obtain ⟨l1, l2⟩ := two_ble q1
  obtain ⟨q3, h4⟩ := two_ble q2
  obtain ⟨q4, h3⟩ := two_ble q3
  obtain ⟨a1, ak⟩ := a
  obtain ⟨b1, bk⟩ := b
  have e1 := (nameEq_iff _ _).mp (two_ble q4).1
  have e2 := (nameEq_iff _ _).mp (two_ble q4).2
  have e3 := Option.some.inj (isLoc_some l1)
  have e4 := Option.some.inj (isLoc_some l2)
  dsimp only at e1 e2 e3 e4 h3 h4
  rw [Bool.not_eq_true'] at h3 h4
  subst e1 e2 e3 e4
  refine ⟨e, fun q => ?_, by rw [← nameEq_eq]; exact h4⟩
  rw [q, (nameEq_iff _ _).mpr rfl] at h3
  exact noB h3.symm

theorem Grow.step {s s' s'' : Shared} (g : Grow P s s') (k : ∀ b o, b < s.heap.objs.size → s'.heap.get? b = some o → s''.heap.get? b = some o) (hos : s''.os = s'.os) (hg : AllBare s'.gens → AllBare s''.gens) (hs : s.heap.objs.size ≤ s''.heap.objs.size) (ht : s.toks ≤ s''.toks) : Grow P s s'' :=
  ⟨fun b o h f e => k b o (Heap.lt_size e) (g.keep b o h f e), fun b o h e => let ⟨sl, h1⟩ := g.frm b o h e; ⟨sl, k b _ (Heap.lt_size e) h1⟩,
    fun ps e t => let ⟨m, h1, h2⟩ := g.tab ps e t; ⟨m, k _ _ (Heap.lt_size e) h1, h2⟩, hos.trans g.os, fun h => hg (g.gens h), hs, ht⟩
/-- the code of a generator: found or made -/
theorem genCode_sound {sc : Scope} {gp : Pos} {qn : Str} {Q : Value → Shared → Prop} (H : Here K P G Λ k A O env nm ρ s) (cm : CodeM K P G nm env) (hm : marked nm = true)
    (hQ : ∀ code s', Grow P s s' → s'.gens = s.gens → Q code s') : wpAny (model prog w) A (genexprCode env gp qn sc) Q E s := by
  obtain ⟨c, hc, hcd⟩ := cm.code hm
  obtain ⟨ps, hP, ht⟩ := H.wf.tab
  have C := hcd _ H.wf.X
  cases hf : codeAmong gp ps.toList with
  | some cv => exact wpAny_genexprCode_hit hc (C.code hP ht) hf (hQ _ _ Grow.refl rfl)
  | none =>
    refine wpAny_with_toks (Nat.le_refl _) (wpAny_genexprCodeX hc (C.code hP ht) (C.tab hP) hf fun c' h' tk hx hge hlt _ _ htb _ htk => ?_)
    refine hQ _ _ ⟨fun b o hb _ e => hx b o hb e, fun b o hb e => ⟨o.slots, hx b o hb e⟩, fun ps' e t => ?_, rfl, fun h => h, Nat.le_trans hge (Nat.le_of_lt hlt), htk⟩ rfl
    rw [hP] at e
    have e : ps = ps' := by injection e with e; injection e with _ _ e; injection e
    subst e
    refine ⟨_, htb.2, ?_⟩
    rw [Array.toList_append]
    exact TriplesOk_snoc _ _ _ _ t

theorem joinGen_sound {sep m z c : Str} {ck : Nat} {kp ap zp cp gp p : Pos} {elt : Expr} {sc : Scope} {d : PyData} {Q : Value → Shared → Prop} (H : Here K P G Λ k A O env nm ρ s) (cm : CodeM K P G nm env)
    (h : joinGenF ρ nm sep m ap p elt z c sc = some d) (hQ : ∀ v s', Grow P s s' → Rep O s'.heap d v → Q v s') :
    wpAny (model prog w) A (eval (.Call (.Attribute (.Constant (.str sep) ck kp) m ap) [.GeneratorExp elt [⟨.Name z zp, .Name c cp, [], .ofNat 0⟩] sc gp] [] p) env) Q E s := by
  obtain ⟨hc, q1⟩ := onT_some h
  obtain ⟨xs, hx, q2⟩ := onO_some q1
  obtain ⟨ts, hts, q3⟩ := onO_some q2
  obtain ⟨us, hus, q4⟩ := onO_some q3
  obtain ⟨hg, q5⟩ := guard'_some q4
  have hx := ownB_some hx
  obtain ⟨r1, c6⟩ := two_ble hc
  obtain ⟨r2, c5⟩ := two_ble r1
  obtain ⟨r3, c4⟩ := two_ble r2
  obtain ⟨r4, c3⟩ := two_ble r3
  obtain ⟨c1, c2⟩ := two_ble r4
  have c1 := (nameEq_iff _ _).mp c1
  clear h q1 q2 q3 q4 hc r1 r2 r3 r4
  rw [← Option.some.inj q5] at hQ
  clear q5
  subst c1
  obtain ⟨hnames, hz0, hzd⟩ := genScope_some c4
  have hkind : sc.kind = .function := isFunK_eq c5
  have hco : sc.isCoroutine = false := by simpa using c6
  obtain ⟨hlen, hget⟩ := genElts_get hus
  refine wpAny_Call_method_lateS (plainBase_eq rfl) (by rfl) (beq_iff_eq.mpr (Nat.eq_of_beq_eq_true c2)) ?_
  rw [eval_Constant]
  refine wpAny_mkText ?_
  have g0 : Grow P s { s with toks := s.toks + 1 } := Grow.toks _
  have H0 := H.grow g0
  refine ⟨"str", "str.join", F.plainAttrs_str, F.slot_str_join, F.type_str_join, typeIs_str _ _ _, (fun a e => nomatch e), ?_⟩
  refine Calls.callWith_builtin rfl (evalArgs_plain (spliced_cons ?_))
  obtain ⟨v, hl, a, vs, rfl, haP, hlist, hreps⟩ := H0.sees c _ hx
  have hsz : vs.size = ts.length := by have := (strsOf_get hts hreps).1; simpa using this
  -- the generator
  refine wpAny_with_toks (n := s.toks) (Nat.le_succ s.toks) (wpAny_GeneratorExp_walksQ H.handled hco (closure_none fun x hx => by
      rw [hnames] at hx
      rcases List.mem_cons.mp hx with h | hx
      · cases h
      · rcases List.mem_singleton.mp hx with h; cases h) (fun y hy => by
      rw [hnames] at hy
      rcases List.mem_cons.mp hy with rfl | hy
      · exact fun e => by cases e
      · rw [List.mem_singleton.mp hy]; exact fun e => by cases e) (by rw [hnames]; rfl) (x := z) (by
      rw [hnames, List.lookup_cons]
      have : (z == (".0" : Str)) = false := by simpa using hz0
      rw [this, List.lookup_cons, beq_self_eq_true]) hkind H.roomW.dep ?_ (fun x => rfl))
  refine load_sound H0.toHereW hl ?_
  refine wpAny_pyIter_list hlist ?_
  have g1 : Grow P { s with toks := s.toks + 1 } { s with toks := s.toks + 1, heap := s.heap.push { cls := .type "list_iterator", data := .fields #[.ref a, .int 0 0] } } := Grow.push (s := { s with toks := s.toks + 1 })
  have H1 := H0.grow g1
  refine ⟨H1.wf.nolimit, genCode_sound H1 cm c3 fun code s₃ g2 hgens => ?_⟩
  have H3 := H1.grow g2
  obtain ⟨mg, ob, b1, b2, b3, b4, b5, b6, b7, b8, b9⟩ := H3.wf.bmod
  refine wpAny_builtinsFor (by rw [H.glb]; exact b1) b2 b3 b6 b7 b8 b9 ?_
  have halt : a < s.heap.objs.size := isList_lt hlist
  have hIlt : s.heap.objs.size < s₃.heap.objs.size := Nat.lt_of_lt_of_le (by show _ < (s.heap.push _).objs.size; rw [Heap.size_push]; omega) g2.size
  have hPlt : P < s.heap.objs.size := H.lt P H.hP
  have hI : s₃.heap.IsListIter s.heap.objs.size a 0 := by
    have e := Heap.get?_push_size s.heap (o := { cls := .type "list_iterator", data := .fields #[.ref a, .int 0 0] }) rfl
    exact ⟨_, g2.keep _ _ (Nat.ne_of_gt hPlt) (Firm.of (notD_fields rfl)) e, rfl, rfl⟩
  have hL3 : s₃.heap.IsList a vs := isList_at hlist fun o hf e => g2.keep _ _ haP (Firm.of hf) (Heap.get?_push_of_some _ e)
  refine ⟨s.heap.objs.size, [s.heap.objs.size, a], [s.heap.objs.size], vs.size, fun i v => vs[i]? = some v, fun i h => h.IsListIter s.heap.objs.size a i ∧ h.IsList a vs, fun _ => true, fun i y => ∃ u x, us[i]? = some x ∧ y = .str x u, rfl,
    fun A' hA => Walks.list hA _ _ (Nat.ne_of_lt halt) vs, ⟨hI, hL3⟩, fun b hb => ?_, H3.wf.nolimit, fun hm => ?_, fun href hhref => ⟨fun A' E' i v s₂ m₂ _ hP' hn hmz hkp => ?_, fun A' E' i v s₂ m₂ _ hP' _ hn hmz hkp => ?_⟩, fun ga h₅ tk gs hbare hlt5 hsz5 hk5 W hat => ?_⟩
  · rcases List.mem_cons.mp hb with rfl | hb
    · exact hIlt
    · rw [List.mem_singleton.mp hb]; exact Nat.lt_trans halt hIlt
  · have := H.wf.floor.c
    rw [List.mem_singleton.mp hm] at this
    exact Nat.lt_irrefl _ this
  · exact wpAny_pure ⟨rfl, s₂.heap, s₂.toks, rfl, fun _ _ e => e⟩
  · have hvs : vs.toList[i]? = some v := by simpa using hP'
    obtain ⟨hi, t, rfl⟩ := (strsOf_get hts hreps).2 i v hvs
    obtain ⟨y, hy1, hy2⟩ := hget i hi
    obtain ⟨hyx, hw⟩ := genElt_sound (prog := prog) (w := w) (A := A') (E := E') (env := genEnv sc [] s₃.heap.objs.size code builtinsNs env) hy1 hkind (by
      show sc.names.lookup z = _
      rw [hnames, List.lookup_cons]
      have : (z == (".0" : Str)) = false := by simpa using hz0
      rw [this, List.lookup_cons, beq_self_eq_true]) hzd hn hmz
    refine wpAny_mono hw (fun y' s' hh => ?_) fun _ _ e => e
    obtain ⟨⟨u, rfl⟩, hkeep⟩ := hh
    exact ⟨⟨u, _, by rw [hy2, hyx], rfl⟩, hkeep⟩
  · intro htk
    refine spliced_nil ?_
    rw [passing_all] at W
    have hnl : (List.range vs.size).length = us.length := by rw [List.length_range, hsz, hlen]
    have hok := joinOk_of hg
    have hs3 : s.heap.objs.size ≤ s₃.heap.objs.size := Nat.le_of_lt hIlt
    have gAll : Grow P s s₃ := (g0.trans g1).trans g2
    refine wpAny_with_toks (n := s.toks) htk (wpAny_with_size (SC.joinGen W.in4_2 (fun i s' st => st.1.typeIs) hat (fun b hb => ?_) List.mem_cons_self (fun i v hv => ?_) (fun s' l hmv hit => ?_) (by rw [hnl]; simp only [Bool.and_eq_true] at hg; exact Nat.le_trans (Nat.le_of_ble_eq_true hg.1.2) (by decide))))
    · show b < h₅.objs.size
      rw [hsz5]
      rcases List.mem_cons.mp hb with rfl | hb
      · exact Nat.lt_succ_self _
      · rcases List.mem_cons.mp hb with rfl | hb
        · exact Nat.lt_succ_of_lt hlt5
        · exact Nat.lt_succ_of_lt (Nat.lt_trans (List.mem_range.mp hb) hlt5)
    · obtain ⟨i', _, u, x, _, e⟩ := hv
      exact ⟨x, u, e⟩
    · have hmap : l.map (·.1) = us := by
        apply List.ext_getElem?
        intro j
        have hlz : l.length = us.length := by have := hit.1; rw [hnl] at this; simpa [strValues] using this
        by_cases hj : j < us.length
        · have hj' : j < l.length := hlz ▸ hj
          obtain ⟨i', hi', u, x, hx', e⟩ := hit.2 j (.str l[j].1 l[j].2) (by simp [strValues, List.getElem?_eq_getElem hj'])
          have : j < (List.range vs.size).length := by rw [hnl]; exact hj
          rw [List.getElem?_range (by simpa using this)] at hi'
          cases hi'
          injection e with e1 _
          rw [hx', ← e1]
          simp [List.getElem?_eq_getElem hj']
        · rw [List.getElem?_eq_none (by simpa [hlz] using Nat.le_of_not_lt hj), List.getElem?_eq_none (by simpa using Nat.le_of_not_lt hj)]
      rw [hmap]
      refine ⟨hok, fun t' k hsz' htk' => hQ _ _ (gAll.step (fun b o hb e => ?_) ?_ (fun hb => ?_) ?_ htk') Rep.str'⟩
      · refine hmv.heap b o (fun hm => ?_) (hk5 b o e)
        rcases List.mem_cons.mp hm with rfl | hm
        · exact absurd hb (Nat.not_lt.mpr hs3)
        · rw [List.mem_singleton.mp hm] at hb; exact Nat.lt_irrefl _ hb
      · exact hmv.os
      · exact (hb.push hbare).moved hmv.gens
      · refine Nat.le_trans ?_ hsz'
        show s.heap.objs.size ≤ h₅.objs.size
        rw [hsz5]; omega
end
end Mine
end
section
open PySem PySem.Spec PySem.Calls PyProof.Rows PySem.W
namespace Mine
variable [Inhabited Base]
variable {K : Frag} {P : Addr} {G : Str → Option Value} {Λ : List Addr}

noncomputable def XSound (prog : Program) (w : World) (K : Frag) (P : Addr) (G : Str → Option Value) (k n : Nat) (O₀ : List Addr) (one : NK → En → Stmt → Option Fl) : Prop :=
  ∀ nm ρ st fl, one nm ρ st = some fl → ∀ {Λ : List Addr} (A : Around) (env : Env) (M O : List Addr) (α : Str → Addr) (s : Shared) (Q : Flow → Shared → Prop) (E : Value → Shared → Prop), Frm K P Λ k A env nm n → CodeM K P G nm env → Run K P G Λ n M O α env nm ρ s → (∀ a ∈ O₀, a ∈ O) →
    (∀ f s', XPost K P G Λ n O₀ env nm s M O fl f s' → Q f s') → wpAny (model prog w) A (exec st env) Q E s
noncomputable def BSound (prog : Program) (w : World) (K : Frag) (P : Addr) (G : Str → Option Value) (k n : Nat) (O₀ : List Addr) (xs : NK → En → List Stmt → Option Fl) : Prop :=
  ∀ nm ρ b fl, xs nm ρ b = some fl → ∀ {Λ : List Addr} (A : Around) (env : Env) (M O : List Addr) (α : Str → Addr) (s : Shared) (Q : Flow → Shared → Prop) (E : Value → Shared → Prop), Frm K P Λ k A env nm n → CodeM K P G nm env → Run K P G Λ n M O α env nm ρ s → (∀ a ∈ O₀, a ∈ O) →
    (∀ f s', XPost K P G Λ n O₀ env nm s M O fl f s' → Q f s') → wpAny (model prog w) A (execs b env) Q E s

section
variable {prog : Program} {w : World} {n k : Nat} {O₀ : List Addr} {one : NK → En → Stmt → Option Fl} {xs : NK → En → List Stmt → Option Fl} {rec : NK → En → Expr → Option PyData}

theorem pexecs_sound (X : XSound prog w K P G k n O₀ one) : BSound prog w K P G k n O₀ (fun nm ρ b => pexecs one nm ρ b) := by
  intro nm ρ b
  induction b generalizing ρ with
  | nil =>
    intro fl h Λ A env M O α s Q E f cm r ho hQ
    have h : some (Fl.next ρ) = some fl := h
    cases h
    exact wpAny_execs_nil (hQ _ _ ⟨rfl, M, O, α, GrowB.refl, Ext.refl, Ext.refl, r⟩)
  | cons st b ih =>
    intro fl h Λ A env M O α s Q E f cm r ho hQ
    have h : (match one nm ρ st with
      | some (.next ρ') => pexecs one nm ρ' b
      | x => x) = some fl := h
    refine wpAny_execs_cons ?_
    split at h
    · rename_i ρ' h1
      refine X _ _ _ _ h1 A env M O α s _ E f cm r ho fun fw s₁ x => ?_
      obtain ⟨rfl, M', O', α', g, e, eo, r'⟩ := x
      exact ih _ _ h A env M' O' α' s₁ Q E f cm r' (fun a ha => eo.1 a (ho a ha)) fun fw s₂ x₂ => hQ _ _ (x₂.before g e eo)
    · rename_i hne
      refine X _ _ _ _ h A env M O α s _ E f cm r ho fun fw s₁ x => ?_
      cases fl with
      | next ρ' => exact absurd h (hne ρ')
      | brk ρ' => obtain ⟨rfl, y⟩ := x; exact hQ _ _ ⟨rfl, y⟩
      | ret d => obtain ⟨v, rfl, y⟩ := x; exact hQ _ _ ⟨v, rfl, y⟩

/-- what the frame's loops keep -/
theorem Run.turn {A : Around} {env : Env} {nm : NK} {ρ : En} {M O : List Addr} {α : Str → Addr} {s s' : Shared} (f : Frm K P Λ k A env nm n) (r : Run K P G Λ n M O α env nm ρ s) {I : Addr} (g : GrowB P [I] s s') (hO : I ∈ O) (hM : I ∉ M) (hn : n ≤ I) : Run K P G Λ n M O α env nm ρ s' :=
  r.keepB f.floor g (fun a h => by rw [List.mem_singleton.mp h]; exact hO) (fun a h => by rw [List.mem_singleton.mp h]; exact hM) (fun a h => by rw [List.mem_singleton.mp h]; exact hn)

theorem pfor_sound (B : BSound prog w K P G k n O₀ xs) {t : Expr} {body : List Stmt} {items : List PyData} {nm : NK} {ρ : En} {fl : Fl} (h : pfor xs nm t body items ρ = some fl) {A : Around} {env : Env} {M O Oc : List Addr} {α : Str → Addr} {s₀ s : Shared} {R : Result → Shared → Prop} {I : Addr}
    (f : Frm K P Λ k A env nm n) (cm : CodeM K P G nm env) (r : Run K P G Λ n M O α env nm ρ s) (ho : ∀ a ∈ O₀, a ∈ O) (T : Turn prog w A P O items I 0 s) (hIM : I ∉ M) (hIn : n ≤ I) (g₀ : GrowB P M s₀ s) (hI₀ : s₀.heap.objs.size ≤ I) (eO₀ : Ext Oc O s₀)
    (hR : ∀ fw s', XPost K P G Λ n O₀ env nm s₀ M Oc fl fw s' → R (.ok fw) s') : codeAny (model prog w) A (.forLoop t (.ref I) body [] env) R s := by
  refine codeAny_forLoop_any
    (fun m s' => ∃ i ρ' M' O' α', m = items.length + 1 - i ∧ i ≤ items.length ∧ GrowB P M s₀ s' ∧ Ext M M' s₀ ∧ Ext Oc O' s₀ ∧ (∀ a ∈ O₀, a ∈ O') ∧ Run K P G Λ n M' O' α' env nm ρ' s' ∧ I ∉ M' ∧ Turn prog w A P O' items I i s' ∧
      pfor xs nm t body (items.drop i) ρ' = some fl) ?_ (items.length + 1) ⟨0, ρ, M, O, α, rfl, Nat.zero_le _, g₀, Ext.refl, eO₀, ho, r, hIM, T, h⟩
  rintro m s' ⟨i, ρ', M', O', α', rfl, hi, g, eM, eO, ho', r', hIM', T', hp⟩
  have sub1 : ∀ {s₁ : Shared}, GrowB P [I] s' s₁ → GrowB P M s₀ s₁ := fun h => ((g.less fun b hb => .inl (List.mem_cons_of_mem I hb)).trans (h.less fun b hb => .inl (by rw [List.mem_singleton.mp hb]; exact List.mem_cons_self))).less fun b hb => by
    rcases List.mem_cons.mp hb with rfl | hb
    · exact .inr hI₀
    · exact .inl hb
  rcases Nat.lt_or_ge i items.length with hlt | hge
  · have hd : items[i]? = some items[i] := List.getElem?_eq_getElem hlt
    rw [List.drop_eq_getElem_cons hlt] at hp
    unfold pfor at hp
    refine T'.next hd fun v s₁ g₁ r₁ T₁ go => go t _ _ ?_
    have R₁ := r'.turn f g₁ T'.mem hIM' hIn
    split at hp
    · rename_i ρ₁ hb
      refine bindTo_sound f hb R₁ r₁ fun s₂ g₂ R₂ => ?_
      have T₂ := T₁.keep g₂ hIM' r'.act.MO
      have up2 : GrowB P M s₀ s₂ := (sub1 g₁).before eM g₂
      have post : ∀ fl' fw s₃, XPost K P G Λ n O₀ env nm s₂ M' O' fl' fw s₃ → (match fl' with
          | .next ρ₂ => pfor xs nm t body (items.drop (i + 1)) ρ₂ = some fl
          | .brk ρ₂ => fl = .next ρ₂
          | .ret d => fl = .ret d) → (match fw with
            | .next | .cont => ∃ m, m < items.length + 1 - i ∧ ∃ i ρ' M' O' α', m = items.length + 1 - i ∧ i ≤ items.length ∧ GrowB P M s₀ s₃ ∧ Ext M M' s₀ ∧ Ext Oc O' s₀ ∧ (∀ a ∈ O₀, a ∈ O') ∧ Run K P G Λ n M' O' α' env nm ρ' s₃ ∧ I ∉ M' ∧ Turn prog w A P O' items I i s₃ ∧
                pfor xs nm t body (items.drop i) ρ' = some fl
            | .brk => R (.ok .next) s₃
            | .ret v => R (.ok (.ret v)) s₃) := by
        intro fl' fw s₃ x hfl
        have sz : s₀.heap.objs.size ≤ s₂.heap.objs.size := up2.size
        cases fl' with
        | next ρ₂ =>
          obtain ⟨rfl, M₃, O₃, α₃, g₃, eM₃, eO₃, R₃⟩ := x
          refine ⟨items.length + 1 - (i + 1), by omega, i + 1, ρ₂, M₃, O₃, α₃, rfl, hlt, up2.before eM g₃, eM.trans eM₃ sz, eO.trans eO₃ sz, fun a ha => eO₃.1 a (ho' a ha), R₃, fun h => ?_, ?_, hfl⟩
          · rcases eM₃.2 I h with h | h
            · exact hIM' h
            · exact absurd (R₂.lt I T'.mem) (Nat.not_lt.mpr h)
          · exact (T₂.more eO₃.2 eO₃.1).keep g₃ hIM' fun a h => eO₃.1 a (r'.act.MO a h)
        | brk ρ₂ =>
          obtain ⟨rfl, M₃, O₃, α₃, g₃, eM₃, eO₃, R₃⟩ := x
          subst hfl
          exact hR _ _ ⟨rfl, M₃, O₃, α₃, up2.before eM g₃, eM.trans eM₃ sz, eO.trans eO₃ sz, R₃⟩
        | ret d =>
          obtain ⟨v, rfl, h0, g₃⟩ := x
          subst hfl
          exact hR _ _ ⟨v, rfl, h0, up2.before eM g₃⟩
      split at hp
      · rename_i ρ₂ hx
        exact B _ _ _ _ hx A env M' O' α' s₂ _ _ f cm R₂ ho' fun fw s₃ x => post _ _ _ x hp
      · rename_i ρ₂ hx
        cases hp
        exact B _ _ _ _ hx A env M' O' α' s₂ _ _ f cm R₂ ho' fun fw s₃ x => post _ _ _ x rfl
      · rename_i d hx
        cases hp
        exact B _ _ _ _ hx A env M' O' α' s₂ _ _ f cm R₂ ho' fun fw s₃ x => post _ _ _ x rfl
      · cases hp
    · cases hp
  · obtain rfl : i = items.length := Nat.le_antisymm hi hge
    rw [List.drop_length] at hp
    unfold pfor at hp
    cases hp
    exact T'.done fun s₁ g₁ => wpAny_execs_nil (hR _ _ ⟨rfl, M', O', α', sub1 g₁, eM, eO, r'.turn f g₁ T'.mem hIM' hIn⟩)
end
end Mine
end
section
open PySem PySem.Spec PySem.Calls PyProof.Rows PySem.W
namespace Mine
variable [Inhabited Base]
variable {K : Frag} {P : Addr} {G : Str → Option Value} {Λ : List Addr}
section
variable {prog : Program} {w : World} {n k : Nat} {O₀ : List Addr} {one : NK → En → Stmt → Option Fl} {xs : NK → En → List Stmt → Option Fl} {rec : NK → En → Expr → Option PyData}
  {A : Around} {env : Env} {nm : NK} {ρ ρ' : En} {M O Oc : List Addr} {α : Str → Addr} {s₀ s : Shared} {E : Value → Shared → Prop}

theorem pwhile_sound (S : ESound prog w K P G k rec) (B : BSound prog w K P G k n O₀ xs) {t : Expr} {body : List Stmt} {R : Result → Shared → Prop} :
    ∀ (m : Nat) {ρ : En} {fl : Fl} {M O : List Addr} {α : Str → Addr} {s : Shared} , pwhile rec xs nm t body m ρ = some fl → Frm K P Λ k A env nm n → CodeM K P G nm env → Run K P G Λ n M O α env nm ρ s → (∀ a ∈ O₀, a ∈ O) → (∀ fw s', XPost K P G Λ n O₀ env nm s M O fl fw s' → R (.ok fw) s') →
      codeAny (model prog w) A (.whileLoop t body [] env) R s := by
  intro m ρ fl M O α s h f cm r ho hR
  refine codeAny_whileLoop
    (fun j s' => ∃ ρ' M' O' α', pwhile rec xs nm t body j ρ' = some fl ∧ GrowB P M s s' ∧ Ext M M' s ∧ Ext O O' s ∧ Run K P G Λ n M' O' α' env nm ρ' s') ?_ m ⟨ρ, M, O, α, h, GrowB.refl, Ext.refl, Ext.refl, r⟩
  rintro j s' ⟨ρ', M', O', α', hp, g, eM, eO, r'⟩
  cases j with
  | zero => cases hp
  | succ j =>
    unfold pwhile at hp
    split at hp
    · rename_i ht
      refine ptest_sound S 6 ht (r'.here f) fun s₁ g₁ => ?_
      simp only [if_true]
      have ho' : ∀ a ∈ O₀, a ∈ O' := fun a ha => eO.1 a (ho a ha)
      have up : GrowB P M s s₁ := g.trans (GrowB.of g₁)
      split at hp
      · rename_i ρ₂ hx
        refine B _ _ _ _ hx A env M' O' α' s₁ _ _ f cm (r'.grow g₁) ho' fun fw s₂ x => ?_
        obtain ⟨rfl, M₃, O₃, α₃, g₃, eM₃, eO₃, R₃⟩ := x
        exact ⟨j, Nat.lt_succ_self _, ρ₂, M₃, O₃, α₃, hp, up.before eM g₃, eM.trans eM₃ up.size, eO.trans eO₃ up.size, R₃⟩
      · rename_i ρ₂ hx
        cases hp
        refine B _ _ _ _ hx A env M' O' α' s₁ _ _ f cm (r'.grow g₁) ho' fun fw s₂ x => ?_
        obtain ⟨rfl, M₃, O₃, α₃, g₃, eM₃, eO₃, R₃⟩ := x
        exact hR _ _ ⟨rfl, M₃, O₃, α₃, up.before eM g₃, eM.trans eM₃ up.size, eO.trans eO₃ up.size, R₃⟩
      · rename_i d hx
        cases hp
        refine B _ _ _ _ hx A env M' O' α' s₁ _ _ f cm (r'.grow g₁) ho' fun fw s₂ x => ?_
        obtain ⟨v, rfl, h0, g₃⟩ := x
        exact hR _ _ ⟨v, rfl, h0, up.before eM g₃⟩
      · cases hp
    · rename_i ht
      cases hp
      refine ptest_sound S 6 ht (r'.here f) fun s₁ g₁ => ?_
      simp only [Bool.false_eq_true, if_false]
      exact wpAny_execs_nil (hR _ _ ⟨rfl, M', O', α', g.trans (GrowB.of g₁), eM, eO, r'.grow g₁⟩)
    · cases hp

theorem getB_frozen : ∀ (ρ : En) (x : Str), getB (frozen ρ) x = (getB ρ x).map fun b => match b with | .own xs => .val (.list xs) | b => b
  | [], _ => rfl
  | (y, .own xs) :: r, x => by
    simp only [frozen, getB]
    cases nameEq x y
    · exact getB_frozen r x
    · rfl
  | (y, .val d) :: r, x => by
    simp only [frozen, getB]
    cases nameEq x y
    · exact getB_frozen r x
    · rfl
  | (y, .app d) :: r, x => by
    simp only [frozen, getB]
    cases nameEq x y
    · exact getB_frozen r x
    · rfl
theorem getB_mem : ∀ {ρ : En} {x : Str} {b : B}, getB ρ x = some b → (x, b) ∈ ρ
  | (y, c) :: r, x, b, h => by
    unfold getB at h
    split at h
    · rename_i hn
      cases h
      rw [(nameEq_iff _ _).mp hn]; exact List.mem_cons_self
    · exact List.mem_cons_of_mem _ (getB_mem h)
theorem appFree_get {ρ : En} {x y : Str} (h : appFree ρ x = true) : getB ρ y ≠ some (.app x) := fun e => by
  have := List.all_eq_true.mp h _ (getB_mem e)
  dsimp only at this
  rw [(nameEq_iff _ _).mpr rfl] at this
  cases this
/-- behind the return: the caller's addresses alone are to be kept off -/
theorem Run.frozen (f : Frm K P Λ k A env nm n) (r : Run K P G Λ n M O α env nm ρ s) (hP : P ∈ O₀) (hlt : ∀ a ∈ O₀, a < n) (ho : ∀ a ∈ O₀, a ∈ O) : Here K P G (env.locals :: Λ) k A O₀ env nm (frozen ρ) s := by
  refine ⟨⟨f.roomW, r.tk, f.kind, f.glb, f.blt, f.names, f.nok, hP, fun a h => r.lt a (ho a h), r.wfL f.floor, fun x b e => ?_⟩, f.handled⟩
  rw [getB_frozen] at e
  cases hb : getB ρ x with
  | none => rw [hb] at e; cases e
  | some b' =>
    rw [hb] at e
    obtain ⟨v, h1, h2⟩ := r.act.load f.names hb
    refine ⟨v, h1, ?_⟩
    cases b' with
    | app y => cases e; trivial
    | val d => cases e; exact Rep.less ho h2
    | own xs =>
      cases e
      obtain ⟨rfl, vs, h3, h4⟩ := h2
      exact Rep.list' (fun h => absurd (hlt _ h) (Nat.not_lt.mpr (r.MN _ (r.act.own x xs hb).1))) h3.isList (Reps.less ho h4)

/-- a new list of one's own -/
theorem store_own (f : Frm K P Λ k A env nm n) (r : Run K P G Λ n M O α env nm ρ s) {x : Str} {ds : List PyData} {vs : List Value} (h : storeB nm ρ x (.own ds) = some ρ') (hap : appFree ρ x = true) (hr : Reps O s.heap ds vs) {Q : Unit → Shared → Prop}
    (hQ : ∀ s' M' O' α', GrowB P M s s' → Ext M M' s → Ext O O' s → Run K P G Λ n M' O' α' env nm ρ' s' → Q () s') :
    wpAny (model prog w) A (storeName env x (.ref s.heap.objs.size)) Q E { s with heap := s.heap.push { cls := .type "list", data := .seq vs.toArray } } := by
  have haP : s.heap.objs.size ≠ P := Ne.symm (Nat.ne_of_lt (r.lt P r.hP))
  have g₁ : Grow P s { s with heap := s.heap.push { cls := .type "list", data := .seq vs.toArray } } := Grow.push
  have hPO : P ∈ s.heap.objs.size :: O := List.mem_cons_of_mem _ r.hP
  have hs : ∀ b, b ∈ s.heap.objs.size :: O → b ∈ O ∨ s.heap.objs.size ≤ b := fun b h => by
    rcases List.mem_cons.mp h with rfl | h
    · exact .inr (Nat.le_refl _)
    · exact .inl h
  have act := (r.act.moreM (Nat.le_refl _) haP).growK hPO g₁
  obtain ⟨ml, hml, _⟩ := r.act.loc
  obtain ⟨hρ, hfree⟩ := storeB_free h
  refine store_sound (β := fun y => if y = x then s.heap.objs.size else α y) h f.kind f.names hPO act (fun y hy => if_neg hy) (fun y e => absurd e (appFree_get hap)) ⟨by simp, vs.toArray, ?_, ?_⟩ (fun zs e => ⟨?_, ?_, fun y c hy hc => ?_, fun y ys hy e => ?_⟩) fun s' g a' => ?_
  · exact ⟨0, by simpa using Heap.get?_push_size s.heap rfl⟩
  · exact Reps.grow hPO g₁ (Reps.more hs hr)
  · simp
  · simpa using Ne.symm (Nat.ne_of_lt hml.lt)
  · obtain ⟨c', w', h1, h2, h3, h4, _⟩ := r.act.cell y hy
    rw [hc] at h1; cases h1
    simpa using Nat.ne_of_lt h4.lt
  · obtain ⟨v, _, h2⟩ := r.act.load f.names e
    obtain ⟨_, vs', h3, _⟩ := h2
    simpa using Nat.ne_of_lt (isList_lt h3.isList)
  · have gAll : GrowB P M s s' := ((GrowB.of (N := s.heap.objs.size :: M) g₁).trans g).less fun b hb => by
      rcases List.mem_cons.mp hb with rfl | hb
      · exact .inr (Nat.le_refl _)
      · exact .inl hb
    have hn : ∀ a ∈ s.heap.objs.size :: M, n ≤ a := fun a ha => by
      rcases List.mem_cons.mp ha with rfl | ha
      · exact Nat.le_trans (r.MN _ r.act.locM) (Nat.le_of_lt hml.lt)
      · exact r.MN a ha
    refine hQ s' _ _ _ gAll (Ext.cons (Nat.le_refl _)) (Ext.cons (Nat.le_refl _)) ⟨Nat.lt_of_lt_of_le r.tk gAll.tks, a', hPO, fun a ha => ?_, g.wf' (r.wf.grow g₁) f.floor hn, hn, ?_⟩
    · refine Nat.lt_of_lt_of_le ?_ g.size
      show a < (s.heap.push _).objs.size
      rw [Heap.size_push]
      rcases List.mem_cons.mp ha with rfl | ha
      · exact Nat.lt_succ_self _
      · exact Nat.lt_succ_of_lt (r.lt a ha)
    · intro y b c hy e hc
      rw [hρ, getB_put] at e
      have hyx : y ≠ x := fun q => hfree (q ▸ hy)
      rw [if_neg hyx] at e
      exact r.freeN y b c hy e hc

/-- a comprehension is bound to a name -/
theorem assignComp_sound (S : ESound prog w K P G k rec) (hr : G "range" = some (.type "range")) (f : Frm K P Λ k A env nm n) (r : Run K P G Λ n M O α env nm ρ s) {x : Str} {px pp sp : Pos} {elt : Expr} {gens : List Comprehension} {scope : Scope} {d : PyData}
    (h : pcomp rec nm ρ elt gens scope = some d) (hs : storeB nm ρ x (.val d) = some ρ') {Q : Flow → Shared → Prop}
    (hQ : ∀ s' O', GrowB P M s s' → Ext O O' s → Run K P G Λ n M O' α env nm ρ' s' → Q .next s') : wpAny (model prog w) A (exec (.Assign [.Name x px] (.ListComp elt gens scope pp) sp) env) Q E s := by
  have H := r.here f
  have sw : ∃ b, swapsWith (.ListComp elt gens scope pp) (some (.Name x px)) sp.line env = pure b := ⟨_, rfl⟩
  obtain ⟨b, hb⟩ := sw
  cases b with
  | true =>
    rw [exec_Assign_Name_used _ _ _ _ hb]
    refine wpAny_bind (wpAny_standAt (wpAny_bind ?_))
    show wpAny _ A (do let _ ← comprehension (.ListComp elt gens scope pp) scope env (firstIterPos gens pp) (newList []) (firstAsync gens) (firstIter gens env) (some (assign (.Name x px) env))) _ _ s
    refine wpAny_bind (wpAny_mono (comp_sound (use := some (assign (.Name x px) env)) (Q := fun _ s' => Q .next s') S hr h H fun D C s₁ g₁ rD hC hCD hD hm => ?_) (fun _ s' hq => wpAny_pure (wpAny_pure hq)) fun _ _ e => e)
    obtain ⟨m, hm⟩ := hm
    show wpAny _ A (assign (.Name x px) env (.ref D)) _ _ s₁
    have hCO : C ∉ O := fun h => absurd (r.lt C h) (Nat.not_lt.mpr hC)
    have hCP : C ≠ P := fun q => hCO (q ▸ r.hP)
    have hCM : C ∉ M := fun h => hCO (r.act.MO C h)
    have hCn : n ≤ C := by
      obtain ⟨ml, hml, _⟩ := r.act.loc
      exact Nat.le_trans (r.MN _ r.act.locM) (Nat.le_trans (Nat.le_of_lt hml.lt) hC)
    have r₁ : Run K P G Λ n M (C :: O) α env nm ρ s₁ := r.moreO (fun a h => by
        rcases List.mem_cons.mp h with rfl | h
        · exact .inr hC
        · exact .inl h) (fun a h => List.mem_cons_of_mem _ h) (fun a h => by
        rcases List.mem_cons.mp h with rfl | h
        · exact hm.lt
        · exact Nat.lt_of_lt_of_le (r.lt a h) g₁.size) g₁
    refine wpAny_assign_Name (store_val f.toFrmW hs r₁ rD fun s₂ g₂ r₂ => ?_)
    refine ⟨m, g₂.ns hm hCP hCM, fun h' hs' => ?_⟩
    have g₃ : GrowB P [C] s₂ { s₂ with heap := h' } := GrowB.same (tk := s₂.toks) (List.mem_singleton.mpr rfl) hCP hs'
    refine hQ _ (C :: O) ?_ (Ext.cons hC) (r₂.turn f g₃ List.mem_cons_self hCM hCn)
    refine ((((GrowB.of (N := C :: M) g₁).trans (g₂.less fun b hb => .inl (List.mem_cons_of_mem _ hb))).trans (g₃.less fun b hb => .inl (by rw [List.mem_singleton.mp hb]; exact List.mem_cons_self)))).less fun b hb => ?_
    rcases List.mem_cons.mp hb with rfl | hb
    · exact .inr hC
    · exact .inl hb
  | false =>
    refine wpAny_Assign_Name ?_ hb
    rw [eval_ListComp]
    refine comp_sound S hr h H fun D C s' g rD hC hCD hD hm => ?_
    obtain ⟨m, hm⟩ := hm
    have hCO : C ∉ O := fun h => absurd (r.lt C h) (Nat.not_lt.mpr hC)
    have hCP : C ≠ P := fun q => hCO (q ▸ r.hP)
    have mC : ∀ a ∈ [C], a ∈ C :: O := fun a h => by rw [List.mem_singleton.mp h]; exact List.mem_cons_self
    refine ⟨m, hm, fun h' hs' => ?_⟩
    have g₂ : GrowB P [C] s' { s' with heap := h' } := GrowB.same (tk := s'.toks) (List.mem_singleton.mpr rfl) hCP hs'
    have gg : Grow P s { s' with heap := h' } := ((GrowB.of g).trans g₂).grow fun b hb => by rw [List.mem_singleton.mp hb]; exact hC
    refine store_val f.toFrmW hs (r.grow gg) (Rep.less (fun a h => List.mem_cons_of_mem _ h) (g₂.rep (List.mem_cons_of_mem _ r.hP) mC rD)) fun s₃ g₃ r₃ => ?_
    exact hQ _ O ((GrowB.of gg).trans g₃) Ext.refl r₃
end
end Mine
end
section
open PySem PySem.Spec PySem.Calls PyProof.Rows PySem.W
set_option maxRecDepth 100000
namespace Mine
variable [Inhabited Base]
variable {K : Frag} {P : Addr} {G : Str → Option Value} {Λ : List Addr}
section
variable {prog : Program} {w : World} {n k : Nat} {O₀ : List Addr} {xs : NK → En → List Stmt → Option Fl} {rec : NK → En → Expr → Option PyData}
  {A : Around} {env : Env} {nm : NK} {ρ ρ' : En} {M O Oc : List Addr} {α : Str → Addr} {s₀ s : Shared} {E : Value → Shared → Prop}

noncomputable def notComp : Expr → Bool
  | .ListComp .. => false
  | .SetComp .. => false
  | .DictComp .. => false
  | _ => true
theorem swaps_plain {v : Expr} {t : Option Expr} {l : Nat} (h : notComp v = true) : swapsWith v t l env = pure false := by
  cases v <;> first | rfl | cases h

theorem swaps_sub {v : Expr} {o i : Expr} {p : Pos} {l : Nat} : swapsWith v (some (.Subscript o i p)) l env = pure false := by
  cases v <;> rfl

/-- append to a list of one's own -/
theorem append_sound (S : ESound prog w K P G k rec) (f : Frm K P Λ k A env nm n) (r : Run K P G Λ n M O α env nm ρ s) {x : Str} {px ap pp sp : Pos} {e : Expr} {xs : List PyData} {d : PyData} (hl : lineEq ap pp = true) (hx : getB ρ x = some (.own xs)) (he : rec nm ρ e = some d) (hne : noStar e = true) (hn : xs.length ≤ 1000) {Q : Flow → Shared → Prop}
    (hQ : ∀ s', GrowB P M s s' → Run K P G Λ n M O α env nm (putB ρ x (.own (xs ++ [d]))) s' → Q .next s') : wpAny (model prog w) A (exec (.Expr (.Call (.Attribute (.Name x px) "append" ap) [e] [] pp) sp) env) Q E s := by
  obtain ⟨v, hv, hb⟩ := r.act.load f.names hx
  obtain ⟨rfl, vs, ⟨c, hpl⟩, hrs⟩ := hb
  have hpl2 := starEach_plain (env := env) (pos := pp) (es := [e]) (fun y hy => by rw [List.mem_singleton.mp hy]; exact hne)
  refine wpAny_Expr ?_ (by unfold interactive; rw [f.kind]; rfl) (swaps_plain rfl)
  refine wpAny_Call_method_lateS (plainBase_eq rfl) ?_ (beq_iff_eq.mpr (Nat.eq_of_beq_eq_true hl)) (load_sound (r.hereW f.toFrmW) hv ?_)
  · simp only [Bool.and_eq_true, decide_eq_true_eq]
    refine ⟨⟨?_, rfl⟩, by simp⟩
    rw [List.all_eq_true]
    intro y hy
    have := List.any_eq_false.mp hpl2 y hy
    simpa using this
  · refine ⟨"list", "list.append", F.plainAttrs_list, slot_list_append, type_list_append, ⟨_, hpl, rfl⟩, fun a ea => by cases ea; exact ⟨_, hpl, rfl⟩, ?_⟩
    refine Calls.callWith_builtin hpl2 ?_
    rw [starEach_cons hne]
    refine evalArgs_plain (spliced_cons (S _ _ _ _ he A O env s _ E (r.here f) fun v s₁ g₁ r₁ => spliced_nil ?_))
    have hM := (r.act.own x xs hx).1
    have hαP : α x ≠ P := fun q => r.act.MP (q ▸ hM)
    have hp₁ : s₁.heap.PlainList (α x) vs := ⟨c, g₁.keep _ _ hαP (Firm.of (notD_seq rfl)) hpl⟩
    have hsz : vs.size ≤ sizeLine := by
      have := hrs.length
      rw [← Array.length_toList, this]
      exact Nat.le_trans hn (by decide)
    refine wpAny_list_append_plain hp₁ (fun h' hl' hs' => ?_) hsz
    have R := (r.grow g₁).ownSet f.toFrmW (tk := s₁.toks) hx hs' hl' (ys := xs ++ [d]) (by rw [Array.toList_push]; exact Reps.append (Reps.grow r.hP g₁ hrs) (Reps.cons r₁ Reps.nil))
    exact hQ _ ((GrowB.of g₁).trans R.1) R.2

theorem setAt_sound (S : ESound prog w K P G k rec) (f : Frm K P Λ k A env nm n) (r : Run K P G Λ n M O α env nm ρ s) {x : Str} {px pp sp : Pos} {v i : Expr} {xs : List PyData} {d : PyData} {j : Nat} (hx : getB ρ x = some (.own xs)) (hv : rec nm ρ v = some d) (hi : rec nm ρ i = some (.int (Int.ofNat j))) (hjl : j < xs.length) (hsm : xs.length ≤ 1000) {Q : Flow → Shared → Prop}
    (hQ : ∀ s', GrowB P M s s' → Run K P G Λ n M O α env nm (putB ρ x (.own (xs.set j d))) s' → Q .next s') : wpAny (model prog w) A (exec (.Assign [.Subscript (.Name x px) i pp] v sp) env) Q E s := by
  obtain ⟨lv, hlv, hb⟩ := r.act.load f.names hx
  obtain ⟨rfl, vs, ⟨c, hpl⟩, hrs⟩ := hb
  have hM := (r.act.own x xs hx).1
  have hαP : α x ≠ P := fun q => r.act.MP (q ▸ hM)
  refine wpAny_Assign_Subscript (S _ _ _ _ hv A O env s _ E (r.here f) fun va s₁ g₁ r₁ => load_sound ((r.hereW f.toFrmW).grow g₁) (hlv.grow g₁) (S _ _ _ _ hi A O env s₁ _ E ((r.here f).grow g₁) fun iv s₂ g₂ r₂ => ?_)) swaps_sub
  obtain ⟨t, rfl⟩ := r₂.int_inv
  have g := g₁.trans g₂
  have hp₂ := g.keep _ _ hαP (Firm.of (notD_seq rfl)) hpl
  have hlen : vs.size = xs.length := by have := hrs.length; simpa using this
  refine ki_setAt (k := (j : Int)) hp₂ (Int.natCast_nonneg j) (by omega) (by rw [hlen]; exact Int.ofNat_lt.mpr hjl) ?_
  have hnew := PySem.IsL.update hp₂ (·.setIfInBounds (j : Int).toNat va)
  have R := (r.grow g).ownSet f.toFrmW (tk := s₂.toks) (h' := s₂.heap.update (α x) (Obj.mapSeq (·.setIfInBounds (j : Int).toNat va))) hx (Heap.SameBut.update ..) ⟨_, hnew⟩ (ys := xs.set j d) (by
    show Reps O s₂.heap (xs.set j d) (vs.setIfInBounds j va).toList
    rw [Array.toList_setIfInBounds]
    exact Reps.set (Reps.grow r.hP g hrs) (Rep.grow r.hP g₂ r₁))
  exact hQ _ ((GrowB.of g).trans R.1) R.2

theorem store_app (f : FrmW K P Λ k A env nm n) (r : Run K P G Λ n M O α env nm ρ s) {x y : Str} {m : Addr} (h : storeB nm ρ x (.app y) = some ρ') (hm : m ∉ O) (ho : s.heap.get? m = some (appObj (α y))) {Q : Unit → Shared → Prop}
    (hQ : ∀ s', GrowB P M s s' → Run K P G Λ n M O α env nm ρ' s' → Q () s') : wpAny (model prog w) A (storeName env x (.ref m)) Q E s := by
  refine store_sound (b := .app y) (β := α) h f.kind f.names r.hP r.act (fun _ _ => rfl) (fun _ _ => rfl) ⟨m, rfl, hm, ho⟩ (fun xs e => by cases e) fun s' g a => hQ s' g ⟨Nat.lt_of_lt_of_le r.tk g.tks, a, r.hP, fun a h => Nat.lt_of_lt_of_le (r.lt a h) g.size, g.wf' r.wf f.floor r.MN, r.MN, ?_⟩
  obtain ⟨rfl, hx⟩ := storeB_free h
  intro z b c hy e hc
  rw [getB_put] at e
  have hyx : z ≠ x := fun q => hx (q ▸ hy)
  rw [if_neg hyx] at e
  exact r.freeN z b c hy e hc

/-- a list's append gets a name -/
theorem alias_sound (f : Frm K P Λ k A env nm n) (r : Run K P G Λ n M O α env nm ρ s) {x y : Str} {px py ap sp : Pos} {xs : List PyData} (hy : getB ρ y = some (.own xs)) (h : storeB nm ρ x (.app y) = some ρ') {Q : Flow → Shared → Prop}
    (hQ : ∀ s', GrowB P M s s' → Run K P G Λ n M O α env nm ρ' s' → Q .next s') : wpAny (model prog w) A (exec (.Assign [.Name x px] (.Attribute (.Name y py) "append" ap) sp) env) Q E s := by
  obtain ⟨v, hv, hb⟩ := r.act.load f.names hy
  obtain ⟨rfl, vs, hpl, hrs⟩ := hb
  refine wpAny_Assign_Name (Attribute_Name_ (load_sound (r.hereW f.toFrmW) hv (getAttr_append hpl ?_))) (swaps_plain rfl)
  have g₁ : Grow P s { s with heap := s.heap.push (appObj (α y)), toks := s.toks + 1 } := Grow.of_keep (fun _ _ e => Heap.get?_push_of_some _ e) (by rw [Heap.size_push]; omega) (Nat.le_succ _)
  refine store_app f.toFrmW (r.grow g₁) h (fun h => Nat.lt_irrefl _ (r.lt _ h)) (Heap.get?_push_size s.heap rfl) fun s₂ g₂ r₂ => hQ s₂ ((GrowB.of g₁).trans g₂) r₂

/-- append through its name -/
theorem aliasCall_sound (S : ESound prog w K P G k rec) (f : Frm K P Λ k A env nm n) (r : Run K P G Λ n M O α env nm ρ s) {x y : Str} {px pp sp : Pos} {e : Expr} {xs : List PyData} {d : PyData} (hf : getB ρ x = some (.app y)) (hx : getB ρ y = some (.own xs)) (he : rec nm ρ e = some d) (hne : noStar e = true) (hn : xs.length ≤ 1000) {Q : Flow → Shared → Prop}
    (hQ : ∀ s', GrowB P M s s' → Run K P G Λ n M O α env nm (putB ρ y (.own (xs ++ [d]))) s' → Q .next s') : wpAny (model prog w) A (exec (.Expr (.Call (.Name x px) [e] [] pp) sp) env) Q E s := by
  obtain ⟨fv, hfv, m, rfl, hm, ho⟩ := r.act.load f.names hf
  obtain ⟨v, hv, hb⟩ := r.act.load f.names hx
  obtain ⟨rfl, vs, ⟨c, hpl⟩, hrs⟩ := hb
  refine wpAny_Expr ?_ (by unfold interactive; rw [f.kind]; rfl) (swaps_plain rfl)
  refine wpAny_Call_Name_kw (load_sound (r.hereW f.toFrmW) hfv ?_)
  refine callWith_app (a := α y) (starEach_plain (env := env) (pos := pp) (es := [e]) (fun y hy => by rw [List.mem_singleton.mp hy]; exact hne)) ?_
  rw [starEach_cons hne]
  refine evalArgs_plain (spliced_cons (S _ _ _ _ he A O env s _ E (r.here f) fun v s₁ g₁ r₁ => spliced_nil ?_))
  have hM := (r.act.own y xs hx).1
  have hαP : α y ≠ P := fun q => r.act.MP (q ▸ hM)
  have hp₁ : s₁.heap.PlainList (α y) vs := ⟨c, g₁.keep _ _ hαP (Firm.of (notD_seq rfl)) hpl⟩
  have ho₁ : s₁.heap.get? m = some (appObj (α y)) := g₁.keep _ _ (fun q => hm (q ▸ r.hP)) (Firm.of notD_app) ho
  have hsz : vs.size ≤ sizeLine := by
    have := hrs.length
    rw [← Array.length_toList, this]
    exact Nat.le_trans hn (by decide)
  refine ⟨ho₁, call_app ho₁ hp₁ (fun h' hl' hs' => ?_) hsz⟩
  have R := (r.grow g₁).ownSet f.toFrmW (tk := s₁.toks) hx hs' hl' (ys := xs ++ [d]) (by rw [Array.toList_push]; exact Reps.append (Reps.grow r.hP g₁ hrs) (Reps.cons r₁ Reps.nil))
  exact hQ _ ((GrowB.of g₁).trans R.1) R.2

theorem swapped_two {x y : Str} {px py cp tp vp p2 : Pos} {k1 k2 ck : Nat} {c : Int} {fe : Expr} {as : List Expr} {ks : List Keyword} (hk : env.scope.kind = .function) (hxy : x ≠ y) (hx : env.kindOf x = some .local) (hy : env.kindOf y = some .local) (hl : px.line = py.line) :
    swappedStores [.Tuple [.Name x px, .Name y py] k1 tp] (.Tuple [.Constant (.int c) ck cp, .Call fe as ks p2] k2 vp) env = pure (some [x, y]) := by
  have hb : env.blockKind = .function := by unfold Env.blockKind; rw [hk]; rfl
  have hyx : (y == x) = false := by simpa using Ne.symm hxy
  have he : [x, y].eraseDups = [x, y] := by simp [List.eraseDups, List.eraseDupsBy, List.eraseDupsBy.loop, hyx]
  have p1 : (PySem.Expr.Name x px).pos = px := rfl
  have f1 : foldedForSure 8 (.Constant (.int c) ck cp) = true := rfl
  have f2 : foldedForSure 8 (.Call fe as ks p2) = false := rfl
  have f3 : constantsAlone 8 (.Constant (.int c) ck cp) = true := rfl
  have f4 : constantsAlone 8 (.Call fe as ks p2) = false := rfl
  unfold swappedStores
  simp only [hb, hx, hy, List.filterMap_cons, List.filterMap_nil, List.head?_cons, Option.map_some, Option.getD_some]
  simp [p1, hl, f1, f2, f3, f4, he]
theorem tupleAssign_sound (S : ESound prog w K P G k rec) (f : Frm K P Λ k A env nm n) (r : Run K P G Λ n M O α env nm ρ s) {x y : Str} {px py cp tp vp sp p2 : Pos} {k1 k2 ck : Nat} {c : Int} {fe : Expr} {as : List Expr} {ks : List Keyword} {a b : PyData} {ρ₁ : En}
    (hxy : x ≠ y) (hx : getK nm x = some .local) (hy : getK nm y = some .local) (hl : px.line = py.line) (he : rec nm ρ (.Tuple [.Constant (.int c) ck cp, .Call fe as ks p2] k2 vp) = some (.tuple [a, b])) (h1 : storeB nm ρ y (.val b) = some ρ₁) (h2 : storeB nm ρ₁ x (.val a) = some ρ') {Q : Flow → Shared → Prop}
    (hQ : ∀ s', GrowB P M s s' → Run K P G Λ n M O α env nm ρ' s' → Q .next s') : wpAny (model prog w) A (exec (.Assign [.Tuple [.Name x px, .Name y py] k1 tp] (.Tuple [.Constant (.int c) ck cp, .Call fe as ks p2] k2 vp) sp) env) Q E s := by
  have kx := f.names x; rw [hx] at kx
  have ky := f.names y; rw [hy] at ky
  refine Assign_Tuple_swapped (names := [x, y]) (S _ _ _ _ he A O env s _ E (r.here f) fun v s₁ g₁ r₁ => ?_) rfl (swapped_two f.kind hxy kx ky hl)
  obtain ⟨t, vs, rfl, ht, hl', hr⟩ := r₁.tuple_inv
  obtain ⟨v1, r1, e1, hv1, hr⟩ := id (show Reps O s₁.heap [a, b] vs.toList from hr)
  unfold Reps at hr
  obtain ⟨v2, r2, rfl, hv2, hr⟩ := hr
  unfold Reps at hr
  subst hr
  have hsz : vs.size = 2 := by rw [← Array.length_toList, e1]; rfl
  show wpAny (model prog w) A (unpackItems (.ref t) 2 none) _ E s₁
  rw [← hsz]
  refine wpAny_with_size (wpAny_unpackItems_tuple f.handled hl' fun h' hb hsz' => ?_)
  rw [e1]
  have g₂ : Grow P s₁ { s₁ with heap := h' } := Grow.of_keep (tk := s₁.toks) (fun b o e => hb b o (Nat.ne_of_lt (Heap.lt_size e)) e) hsz'
  have g := g₁.trans g₂
  refine assignInOrder_cons (bindName_ (store_val f.toFrmW h1 (r.grow g) (Rep.grow r.hP g₂ hv2) fun s₂ g₃ R₂ => ?_))
  refine assignInOrder_cons (bindName_ (store_val f.toFrmW h2 R₂ (g₃.rep r.hP r.act.MO (Rep.grow r.hP g₂ hv1)) fun s₃ g₄ R₃ => ?_))
  exact assignInOrder_nil (hQ _ (((GrowB.of g).trans g₃).trans g₄) R₃)

theorem storeO_some {x : Str} {b : B} {fl : Fl} (h : storeO nm ρ x b = some fl) : ∃ ρ', storeB nm ρ x b = some ρ' ∧ fl = .next ρ' := by
  obtain ⟨ρ', h1, h2⟩ := onO_some h
  exact ⟨ρ', h1, (Option.some.inj h2).symm⟩
theorem storeV_some {x : Str} {d : Option PyData} {fl : Fl} (h : storeV nm ρ x d = some fl) : ∃ d' ρ', d = some d' ∧ storeB nm ρ x (.val d') = some ρ' ∧ fl = .next ρ' := by
  obtain ⟨d', e, h1⟩ := onO_some h
  obtain ⟨ρ', h2, h3⟩ := storeO_some h1
  exact ⟨d', ρ', e, h2, h3⟩

theorem xnext {ρ' : En} {M' O' : List Addr} {α' : Str → Addr} {s s' : Shared} (g : GrowB P M s s') (eM : Ext M M' s) (eO : Ext O O' s) (r : Run K P G Λ n M' O' α' env nm ρ' s') : XPost K P G Λ n O₀ env nm s M O (.next ρ') .next s' := ⟨rfl, M', O', α', g, eM, eO, r⟩

/-- what a statement's rule is asked -/
noncomputable def Post (K : Frag) (P : Addr) (G : Str → Option Value) (Λ : List Addr) (n : Nat) (O₀ : List Addr) (env : Env) (nm : NK) (s : Shared) (M O : List Addr) (fl : Fl) (Q : Flow → Shared → Prop) : Prop := ∀ fw s', XPost K P G Λ n O₀ env nm s M O fl fw s' → Q fw s'
theorem plainAsg (S : ESound prog w K P G k rec) (f : Frm K P Λ k A env nm n) (r : Run K P G Λ n M O α env nm ρ s) {x : Str} {px pp : Pos} {v : Expr} {fl : Fl} {Q : Flow → Shared → Prop} (hQ : Post K P G Λ n O₀ env nm s M O fl Q) (hv : notComp v = true) (h : storeV nm ρ x (rec nm ρ v) = some fl) :
    wpAny (model prog w) A (exec (.Assign [.Name x px] v pp) env) Q E s := by
  obtain ⟨d, ρ', hd, hs, e⟩ := storeV_some h
  clear h
  subst e
  exact wpAny_Assign_Name (S _ _ _ _ hd A O env s _ E (r.here f) fun va s₁ g₁ r₁ => store_val f.toFrmW hs (r.grow g₁) r₁ fun s₂ g₂ r₂ => hQ _ _ (xnext ((GrowB.of g₁).trans g₂) Ext.refl Ext.refl r₂)) (swaps_plain hv)
theorem listAsg (S : ESound prog w K P G k rec) (f : Frm K P Λ k A env nm n) (r : Run K P G Λ n M O α env nm ρ s) {x : Str} {px lp pp : Pos} {es : List Expr} {fl : Fl} {Q : Flow → Shared → Prop} (hQ : Post K P G Λ n O₀ env nm s M O fl Q) (h : (onO (pevs rec nm ρ es) fun ds => onT (Nat.ble ds.length 1000 && appFree ρ x) (storeO nm ρ x (.own ds))) = some fl) :
    wpAny (model prog w) A (exec (.Assign [.Name x px] (.List es lp) pp) env) Q E s := by
  obtain ⟨ds, hd, h1⟩ := onO_some h
  obtain ⟨hn, h2⟩ := onT_some h1
  obtain ⟨ρ', hs, e⟩ := storeO_some h2
  clear h h1 h2
  subst e
  refine wpAny_Assign_Name (List_ (pevs_sound S hd (r.here f) fun vs s₁ g₁ r₁ => ?_)) (swaps_plain rfl)
  refine wpAny_newObj_type (store_own f (r.grow g₁) hs (two_ble hn).2 r₁ fun s₂ M' O' α' g₂ eM eO r₂ => hQ _ _ (xnext ((GrowB.of g₁).trans g₂) ?_ ?_ r₂)) ?_
  · exact ⟨eM.1, fun a ha => (eM.2 a ha).imp id fun q => Nat.le_trans g₁.size q⟩
  · exact ⟨eO.1, fun a ha => (eO.2 a ha).imp id fun q => Nat.le_trans g₁.size q⟩
  · show vs.toArray.size ≤ sizeLine
    rw [List.size_toArray, r₁.length]
    exact Nat.le_trans (Nat.le_of_ble_eq_true (two_ble hn).1) (by decide)
theorem attrAsg (f : Frm K P Λ k A env nm n) (r : Run K P G Λ n M O α env nm ρ s) {x m' : Str} {px ap pp : Pos} {o : Expr} {fl : Fl} {Q : Flow → Shared → Prop} (hQ : Post K P G Λ n O₀ env nm s M O fl Q) (h : (onName o fun y _ => onT (nameEq m' "append" && !isNone? (ownB (getB ρ y))) (storeO nm ρ x (.app y))) = some fl) :
    wpAny (model prog w) A (exec (.Assign [.Name x px] (.Attribute o m' ap) pp) env) Q E s := by
  obtain ⟨y, py, e1, h1⟩ := onName_some h
  obtain ⟨hc, h2⟩ := onT_some h1
  obtain ⟨ρ', hs, e2⟩ := storeO_some h2
  have e3 := (nameEq_iff _ _).mp (two_ble hc).1
  have hy : ∃ ys, getB ρ y = some (.own ys) := by
    have h3 := (two_ble hc).2
    cases ho : ownB (getB ρ y) with
    | none => rw [ho] at h3; exact noB h3
    | some ys => exact ⟨ys, ownB_some ho⟩
  clear h h1 h2 hc
  subst e1 e2 e3
  obtain ⟨ys, hy⟩ := hy
  exact alias_sound f r hy hs fun s₁ g₁ r₁ => hQ _ _ (xnext g₁ Ext.refl Ext.refl r₁)
theorem joinCall_some {e : Expr} {d : PyData} (h : joinCall nm ρ e = some d) : ∃ sep ck kp m ap elt z zp y cp sc gp p, e = .Call (.Attribute (.Constant (.str sep) ck kp) m ap) [.GeneratorExp elt [⟨.Name z zp, .Name y cp, [], .ofNat 0⟩] sc gp] [] p ∧ joinGenF ρ nm sep m ap p elt z y sc = some d := by
  obtain ⟨g, as, ks, p, e1, h1⟩ := onCall_some h
  obtain ⟨e2, h2⟩ := on0_some h1
  obtain ⟨a, e3, h3⟩ := on1_some h2
  obtain ⟨o, m, ap, e4, h4⟩ := onAttr_some h3
  obtain ⟨sep, hs, h5⟩ := onO_some h4
  obtain ⟨ck, kp, e5⟩ := strC_some hs
  clear h h1 h2 h3 h4 hs
  cases a with
  | GeneratorExp elt gens sc gp =>
    obtain ⟨c, e6, h6⟩ := on1_some (f := fun c : Comprehension => onName c.target fun z _ => onName c.iter fun y _ => onT (c.ifs.isEmpty && isZ c.is_async) (joinGenF ρ nm sep m ap p elt z y sc)) h5
    obtain ⟨z, zp, e7, h7⟩ := onName_some h6
    obtain ⟨y, cp, e8, h8⟩ := onName_some h7
    obtain ⟨hc, h9⟩ := onT_some h8
    obtain ⟨t, it, ifs, as'⟩ := c
    have e9 : ifs = [] := List.isEmpty_iff.mp (two_ble hc).1
    have e10 : as' = .ofNat 0 := isZ_eq (two_ble hc).2
    exact ⟨sep, ck, kp, m, ap, elt, z, zp, y, cp, sc, gp, p, by rw [e1, e2, e3, e4, e5, e6, e9, e10, show t = _ from e7, show it = _ from e8], h9⟩
  | _ => exact no h5
theorem subCall_some {e : Expr} {d : PyData} (h : subCall rec nm ρ e = some d) : ∃ g gp m ap la lb ls lp y py p, e = .Call (.Attribute (.Name g gp) m ap) [.Lambda la lb ls lp, .Name y py] [] p ∧ subSpec ρ nm g m ap p la ls (rec nm ρ (.Name y py)) = some d := by
  obtain ⟨g, as, ks, p, e1, h1⟩ := onCall_some h
  obtain ⟨e2, h2⟩ := on0_some h1
  obtain ⟨a, b, e3, h3⟩ := on2_some h2
  obtain ⟨o, m, ap, e4, h4⟩ := onAttr_some h3
  obtain ⟨f, fp, e5, h5⟩ := onName_some h4
  obtain ⟨y, py, e6, h6⟩ := onName_some h5
  clear h h1 h2 h3 h4 h5
  cases a with
  | Lambda la lb ls lp => exact ⟨f, fp, m, ap, la, lb, ls, lp, y, py, p, by rw [e1, e2, e3, e4, e5, e6], h6⟩
  | _ => exact no h6
theorem nameAsg (S : ESound prog w K P G k rec) (hr : G "range" = some (.type "range")) (f : Frm K P Λ k A env nm n) (cm : CodeM K P G nm env) (r : Run K P G Λ n M O α env nm ρ s) {x : Str} {px pp : Pos} {v : Expr} {fl : Fl} {Q : Flow → Shared → Prop} (hQ : Post K P G Λ n O₀ env nm s M O fl Q) (h : pasgName rec nm ρ x v = some fl) :
    wpAny (model prog w) A (exec (.Assign [.Name x px] v pp) env) Q E s := by
  cases v with
  | List es lp => exact listAsg S f r hQ h
  | ListComp elt gens scope cp =>
    obtain ⟨d, ρ', hd, hs, e⟩ := storeV_some h
    clear h
    subst e
    exact assignComp_sound S hr f r hd hs fun s₁ O' g eO r₁ => hQ _ _ (xnext g Ext.refl eO r₁)
  | SetComp => exact no h
  | DictComp => exact no h
  | Attribute o m' ap => exact attrAsg f r hQ h
  | Call g as ks p =>
    have h : (match callK as with | .plain => storeV nm ρ x (rec nm ρ (.Call g as ks p)) | .join => storeV nm ρ x (joinCall nm ρ (.Call g as ks p)) | .sub => storeV nm ρ x (subCall rec nm ρ (.Call g as ks p))) = some fl := h
    generalize callK as = ck at h
    cases ck with
    | plain => exact plainAsg S f r hQ rfl h
    | join =>
      obtain ⟨d, ρ', hd, hs, e⟩ := storeV_some h
      obtain ⟨sep, ck, kp, m, ap, elt, z, zp, y, cp, sc, gp, p', e1, h1⟩ := joinCall_some hd
      clear h hd
      subst e
      rw [e1]
      exact wpAny_Assign_Name (joinGen_sound (r.here f) cm h1 fun va s₁ g₁ r₁ => store_val f.toFrmW hs (r.grow g₁) r₁ fun s₂ g₂ r₂ => hQ _ _ (xnext ((GrowB.of g₁).trans g₂) Ext.refl Ext.refl r₂)) (swaps_plain rfl)
    | sub =>
      obtain ⟨d, ρ', hd, hs, e⟩ := storeV_some h
      obtain ⟨g', gp, m, ap, la, lb, ls, lp, y, py, p', e1, h1⟩ := subCall_some hd
      clear h hd
      subst e
      rw [e1]
      exact wpAny_Assign_Name (subCall_sound S (r.here f) cm h1 fun va s₁ g₁ r₁ => store_val f.toFrmW hs (r.grow g₁) r₁ fun s₂ g₂ r₂ => hQ _ _ (xnext ((GrowB.of g₁).trans g₂) Ext.refl Ext.refl r₂)) (swaps_plain rfl)
  | _ => exact plainAsg S f r hQ rfl h
theorem isIntC_eq {e : Expr} (h : isIntC e = true) : ∃ i kk pp, e = .Constant (.int i) kk pp := by
  unfold isIntC at h
  split at h
  · rename_i i hi
    obtain ⟨kk, pp, e1⟩ := litInt_const hi
    exact ⟨i, kk, pp, e1⟩
  · exact noB h
theorem isCall_eq {e : Expr} (h : isCall e = true) : ∃ f as ks p, e = .Call f as ks p := by cases e <;> first | exact ⟨_, _, _, _, rfl⟩ | exact noB h
theorem twoAsg (S : ESound prog w K P G k rec) (f : Frm K P Λ k A env nm n) (r : Run K P G Λ n M O α env nm ρ s) {x y : Str} {px py tp sp : Pos} {k1 : Nat} {v : Expr} {fl : Fl} {Q : Flow → Shared → Prop} (hQ : Post K P G Λ n O₀ env nm s M O fl Q) (h : pasgTwo rec nm ρ x y px py v = some fl) :
    wpAny (model prog w) A (exec (.Assign [.Tuple [.Name x px, .Name y py] k1 tp] v sp) env) Q E s := by
  obtain ⟨vs, k2, vp, e1, h1⟩ := onTup_some h
  obtain ⟨c, fe, e2, h2⟩ := on2_some h1
  obtain ⟨hc, h3⟩ := onT_some h2
  obtain ⟨d, he, h4⟩ := onO_some h3
  obtain ⟨ds, e3, h5⟩ := dTup_some h4
  obtain ⟨a, b, e4, h6⟩ := on2_some h5
  obtain ⟨ρ₁, hs1, h7⟩ := onO_some h6
  obtain ⟨ρ₂, hs2, e5⟩ := storeO_some h7
  obtain ⟨q1, q2⟩ := two_ble hc
  obtain ⟨q3, q4⟩ := two_ble q1
  obtain ⟨i, ck, cp, e6⟩ := isIntC_eq q3
  obtain ⟨g, as, ks, p2, e7⟩ := isCall_eq q4
  obtain ⟨q5, c4⟩ := two_ble q2
  obtain ⟨q6, c3⟩ := two_ble q5
  obtain ⟨q7, c2⟩ := two_ble q6
  obtain ⟨c1, _⟩ := two_ble q7
  clear h h1 h2 h3 h4 h5 h6 h7 hc q1 q2 q3 q4 q5 q6 q7
  rw [e1, e2, e6, e7, e3, e4] at he
  subst e5
  rw [e1, e2, e6, e7]
  refine tupleAssign_sound S f r (fun e => ?_) (isLoc_some c2) (isLoc_some c3) (Nat.eq_of_beq_eq_true c4) he hs1 hs2 fun s₁ g₁ r₁ => hQ _ _ (xnext g₁ Ext.refl Ext.refl r₁)
  rw [(nameEq_iff _ _).mpr e] at c1
  exact noB c1
theorem itemAsg (S : ESound prog w K P G k rec) (f : Frm K P Λ k A env nm n) (r : Run K P G Λ n M O α env nm ρ s) {x : Str} {px ip sp : Pos} {i v : Expr} {fl : Fl} {Q : Flow → Shared → Prop} (hQ : Post K P G Λ n O₀ env nm s M O fl Q) (h : pasgItem rec nm ρ x i v = some fl) :
    wpAny (model prog w) A (exec (.Assign [.Subscript (.Name x px) i ip] v sp) env) Q E s := by
  obtain ⟨d, hd, h1⟩ := onO_some h
  obtain ⟨ys, hy, h2⟩ := onO_some h1
  obtain ⟨k', hi, h3⟩ := onO_some h2
  obtain ⟨k'', e1, h4⟩ := dInt_some h3
  obtain ⟨j, e2, h5⟩ := onNat_some h4
  obtain ⟨hj, h6⟩ := onT_some h5
  clear h h1 h2 h3 h4 h5
  rw [← Option.some.inj h6] at hQ
  rw [e1, e2] at hi
  exact setAt_sound S f r (ownB_some hy) hd hi (by simpa [Nat.blt_eq] using (two_ble hj).1) (Nat.le_of_ble_eq_true (two_ble hj).2) fun s₁ g₁ r₁ => hQ _ _ (xnext g₁ Ext.refl Ext.refl r₁)
theorem augAsg (S : ESound prog w K P G k rec) (f : Frm K P Λ k A env nm n) (r : Run K P G Λ n M O α env nm ρ s) {t v : Expr} {op : Operator} {sp : Pos} {fl : Fl} {Q : Flow → Shared → Prop} (hQ : Post K P G Λ n O₀ env nm s M O fl Q) (h : paug rec nm ρ t op v = some fl) :
    wpAny (model prog w) A (exec (.AugAssign t op v sp) env) Q E s := by
  obtain ⟨x, px, e1, h1⟩ := onName_some h
  clear h
  subst e1
  cases op with
  | Add =>
    obtain ⟨a, hx, h2⟩ := onO_some (f := fun a => onO (rec nm ρ v) fun b => dInt a fun i => dInt b fun j => storeO nm ρ x (.val (.int (i + j)))) h1
    obtain ⟨b, hv, h3⟩ := onO_some h2
    obtain ⟨i, e2, h4⟩ := dInt_some h3
    obtain ⟨j, e3, h5⟩ := dInt_some h4
    obtain ⟨ρ', hs, e4⟩ := storeO_some h5
    have hx := valB_some hx
    clear h1 h2 h3 h4 h5
    subst e2 e3 e4
    have H := r.here f
    obtain ⟨va, hl, hb⟩ := r.act.load f.names hx
    obtain ⟨t, e5⟩ := Rep.int_inv (O := O) (h := s.heap) hb
    subst e5
    have ld : ∀ {Q' : Value → Shared → Prop}, Q' (.int i t) s → wpAny (model prog w) A (loadName env x) Q' E s := by
      intro Q' hq
      rcases hl with ⟨h1, _, mm, h3, h4⟩ | ⟨h1, c, h2, _, h4⟩
      · exact wpAny_loadName_local f.kind h1 h3 h4 hq
      · rcases h1 with h1 | h1
        · exact wpAny_loadName_cell f.kind h1 h2 h4 hq
        · exact wpAny_loadName_free f.kind h1 h2 h4 hq (namesOk_of H.nok (H.kindBack h1).choose_spec).2
    refine wpAny_AugAssign_Name (ld (S _ _ _ _ hv A O env s _ E H fun vb s₁ g₁ r₁ => ?_))
    obtain ⟨u, e6⟩ := r₁.int_inv
    rw [e6]
    exact PySem.P.iadd_int (store_val f.toFrmW hs (r.grow (g₁.trans (Grow.toks _))) Rep.int' fun s₂ g₂ r₂ => hQ _ _ (xnext ((GrowB.of (g₁.trans (Grow.toks _))).trans g₂) Ext.refl Ext.refl r₂))
  | _ => exact no h1
theorem pput_some {x : Str} {e : Expr} {fl : Fl} (h : pput rec nm ρ x e = some fl) : noStar e = true ∧ ∃ ys d, getB ρ x = some (.own ys) ∧ rec nm ρ e = some d ∧ ys.length ≤ 1000 ∧ fl = .next (putB ρ x (.own (ys ++ [d]))) := by
  obtain ⟨hs, h1⟩ := onT_some h
  obtain ⟨ys, hy, h2⟩ := onO_some h1
  obtain ⟨d, hd, h3⟩ := onO_some h2
  obtain ⟨hn, h4⟩ := onT_some h3
  exact ⟨hs, ys, d, ownB_some hy, hd, Nat.le_of_ble_eq_true hn, (Option.some.inj h4).symm⟩
theorem exprStmt (S : ESound prog w K P G k rec) (f : Frm K P Λ k A env nm n) (r : Run K P G Λ n M O α env nm ρ s) {e : Expr} {sp : Pos} {fl : Fl} {Q : Flow → Shared → Prop} (hQ : Post K P G Λ n O₀ env nm s M O fl Q) (h : pexpr rec nm ρ e = some fl) :
    wpAny (model prog w) A (exec (.Expr e sp) env) Q E s := by
  obtain ⟨g, as, ks, p, e1, h1⟩ := onCall_some h
  obtain ⟨e2, h2⟩ := on0_some h1
  obtain ⟨a, e3, h3⟩ := on1_some h2
  clear h h1 h2
  subst e1 e2 e3
  cases g with
  | Attribute o m ap =>
    obtain ⟨x, px, e4, h4⟩ := onName_some (f := fun x _ => onT (nameEq m "append" && lineEq ap p) (pput rec nm ρ x a)) h3
    obtain ⟨hc, h5⟩ := onT_some h4
    obtain ⟨hns, ys, d, hx, hd, hn, e5⟩ := pput_some h5
    have e6 := (nameEq_iff _ _).mp (two_ble hc).1
    have hl := (two_ble hc).2
    clear h3 h4 h5 hc
    subst e4 e5 e6
    exact append_sound S f r hl hx hd hns hn fun s₁ g₁ r₁ => hQ _ _ (xnext g₁ Ext.refl Ext.refl r₁)
  | Name x px =>
    obtain ⟨y, hy, h4⟩ := onO_some (f := fun y => pput rec nm ρ y a) h3
    obtain ⟨hns, ys, d, hx, hd, hn, e5⟩ := pput_some h4
    clear h3 h4
    subst e5
    exact aliasCall_sound S f r (appB_some hy) hx hd hns hn fun s₁ g₁ r₁ => hQ _ _ (xnext g₁ Ext.refl Ext.refl r₁)
  | _ => exact no h3
theorem forStmt (S : ESound prog w K P G k rec) (hr : G "range" = some (.type "range")) (B : BSound prog w K P G k n O₀ xs) (f : Frm K P Λ k A env nm n) (cm : CodeM K P G nm env) (r : Run K P G Λ n M O α env nm ρ s) (ho : ∀ a ∈ O₀, a ∈ O) {t it : Expr} {body : List Stmt} {sp : Pos} {fl : Fl} {Q : Flow → Shared → Prop} (hQ : Post K P G Λ n O₀ env nm s M O fl Q) {items : List PyData} (hi : piter rec nm ρ it = some items) (h : pfor xs nm t body items ρ = some fl) :
    wpAny (model prog w) A (exec (.For t it body [] sp) env) Q E s := by
  refine wpAny_For (piter_sound S hr hi (r.here f) fun I s₁ g₁ hI hI' T => ?_) (folded_plain (piter_noSet hi))
  have hIO : I ∉ O := fun h => absurd (r.lt I h) (Nat.not_lt.mpr hI)
  have mO : ∀ a, a ∈ I :: O → a ∈ O ∨ s.heap.objs.size ≤ a := fun a h => by
    rcases List.mem_cons.mp h with rfl | h
    · exact .inr hI
    · exact .inl h
  have r₁ : Run K P G Λ n M (I :: O) α env nm ρ s₁ := r.moreO mO (fun a h => List.mem_cons_of_mem _ h) (fun a h => by
    rcases List.mem_cons.mp h with rfl | h
    · exact hI'
    · exact Nat.lt_of_lt_of_le (r.lt a h) g₁.size) g₁
  have hIn : n ≤ I := by
    obtain ⟨ml, hml, _⟩ := r.act.loc
    exact Nat.le_trans (r.MN _ r.act.locM) (Nat.le_trans (Nat.le_of_lt hml.lt) hI)
  exact pfor_sound B h f cm r₁ (fun a ha => List.mem_cons_of_mem _ (ho a ha)) T (fun h => hIO (r.act.MO I h)) hIn (GrowB.of g₁) hI (Ext.cons hI) fun fw s₂ x => hQ _ _ x
theorem ifStmt (S : ESound prog w K P G k rec) (B : BSound prog w K P G k n O₀ xs) (f : Frm K P Λ k A env nm n) (cm : CodeM K P G nm env) (r : Run K P G Λ n M O α env nm ρ s) (ho : ∀ a ∈ O₀, a ∈ O) {t : Expr} {b o : List Stmt} {sp : Pos} {fl : Fl} {Q : Flow → Shared → Prop} (hQ : Post K P G Λ n O₀ env nm s M O fl Q) (h : pifS rec xs nm ρ t b o = some fl) :
    wpAny (model prog w) A (exec (.If t b o sp) env) Q E s := by
  refine wpAny_If ?_
  unfold pifS at h
  split at h
  · rename_i ht
    refine ptest_sound S 6 ht (r.here f) fun s₁ g₁ => ?_
    simp only [if_true]
    exact B _ _ _ _ h A env M O α s₁ Q E f cm (r.grow g₁) ho fun fw s₂ x => hQ _ _ (x.before (GrowB.of g₁) Ext.refl Ext.refl)
  · rename_i ht
    refine ptest_sound S 6 ht (r.here f) fun s₁ g₁ => ?_
    simp only [Bool.false_eq_true, if_false]
    exact B _ _ _ _ h A env M O α s₁ Q E f cm (r.grow g₁) ho fun fw s₂ x => hQ _ _ (x.before (GrowB.of g₁) Ext.refl Ext.refl)
  · exact no h
theorem asgOne (S : ESound prog w K P G k rec) (hr : G "range" = some (.type "range")) (f : Frm K P Λ k A env nm n) (cm : CodeM K P G nm env) (r : Run K P G Λ n M O α env nm ρ s) {t v : Expr} {sp : Pos} {fl : Fl} {Q : Flow → Shared → Prop} (hQ : Post K P G Λ n O₀ env nm s M O fl Q) (h : pasg1 rec nm ρ t v = some fl) :
    wpAny (model prog w) A (exec (.Assign [t] v sp) env) Q E s := by
  cases t with
  | Name x px => exact nameAsg S hr f cm r hQ h
  | Tuple es k1 tp =>
    obtain ⟨t1, t2, e1, h1⟩ := on2_some h
    obtain ⟨x, px, e2, h2⟩ := onName_some h1
    obtain ⟨y, py, e3, h3⟩ := onName_some h2
    clear h h1 h2
    subst e1 e2 e3
    exact twoAsg S f r hQ h3
  | Subscript o i ip =>
    obtain ⟨x, px, e1, h1⟩ := onName_some h
    clear h
    subst e1
    exact itemAsg S f r hQ h1
  | _ => exact no h
theorem pexec1_sound {m : Nat} (S : ESound prog w K P G k rec) (hr : G "range" = some (.type "range")) (hP : P ∈ O₀) (hlt : ∀ a ∈ O₀, a < n) (B : BSound prog w K P G k n O₀ xs) : XSound prog w K P G k n O₀ (pexec1 m rec xs) := by
  intro nm ρ st fl h Λ A env M O α s Q E f cm r ho hQ
  cases st with
  | Return e pp =>
    obtain ⟨e', e1, h1⟩ := onO_some h
    obtain ⟨d, hd, h2⟩ := onO_some h1
    clear h h1
    rw [← Option.some.inj h2] at hQ
    subst e1
    exact wpAny_Return_some (S _ _ _ _ hd A O₀ env s _ E (r.frozen f hP hlt ho) fun v s₁ g₁ r₁ => hQ _ _ ⟨v, rfl, r₁, GrowB.of g₁⟩)
  | Assign ts v pp =>
    obtain ⟨t, e1, h1⟩ := on1_some h
    clear h
    subst e1
    exact asgOne S hr f cm r hQ h1
  | AugAssign t op v pp => exact augAsg S f r hQ h
  | Expr e pp => exact exprStmt S f r hQ h
  | If t b o pp => exact ifStmt S B f cm r ho hQ h
  | For t it body els pp =>
    obtain ⟨e1, h1⟩ := on0_some h
    obtain ⟨items, hi, h2⟩ := onO_some h1
    clear h h1
    subst e1
    exact forStmt S hr B f cm r ho hQ hi h2
  | While t body els pp =>
    obtain ⟨e1, h1⟩ := on0_some h
    clear h
    subst e1
    exact wpAny_While (pwhile_sound S B m h1 f cm r ho fun fw s₁ x => hQ _ _ x)
  | Break pp =>
    rw [← Option.some.inj (show some (Fl.brk ρ) = some fl from h)] at hQ
    exact wpAny_Break (hQ _ _ ⟨rfl, M, O, α, GrowB.refl, Ext.refl, Ext.refl, r⟩)
  | Pass pp =>
    rw [← Option.some.inj (show some (Fl.next ρ) = some fl from h)] at hQ
    exact wpAny_Pass (hQ _ _ (xnext GrowB.refl Ext.refl Ext.refl r))
  | Assert t msg pp =>
    have h : passert rec nm ρ t = some fl := h
    unfold passert at h
    split at h
    · rename_i ht
      rw [← Option.some.inj h] at hQ
      exact wpAny_Assert_holds (ptest_sound S 6 ht (r.here f) fun s₁ g₁ => ⟨rfl, hQ _ _ (xnext (GrowB.of g₁) Ext.refl Ext.refl (r.grow g₁))⟩)
    · exact no h
    · exact no h
  | _ => exact no h

theorem pexec_sound {Φ : Orc} (C : CallsOk prog w K P G k Φ) (hr : G "range" = some (.type "range")) (hlen : G "len" = some (.builtin "len")) (hP : P ∈ O₀) (hlt : ∀ a ∈ O₀, a < n) : ∀ m, XSound prog w K P G k n O₀ (pexec Φ m)
  | 0 => fun nm ρ st fl h => by cases h
  | m + 1 => pexec1_sound (pev_sound C hr hlen 12) hr hP hlt (pexecs_sound (pexec_sound C hr hlen hP hlt m))
end
end Mine
end
section
open PySem PySem.Spec PySem.Calls PyProof.Rows PySem.W
namespace Mine
variable [Inhabited Base]
variable {K : Frag} {P : Addr} {G : Str → Option Value} {Λ : List Addr}

noncomputable def nodupS : List Str → Bool
  | [] => true
  | x :: r => !(r.any fun y => nameEq x y) && nodupS r
/-- a def of the program, as it lies in the written part -/
structure FnOk (prog : Program) (K : Frag) (f : Str) (a : Addr) (ps : List Str) (sc : Scope) (body : List Stmt) (fd : FuncData) : Prop where
  there : ∃ o, K.lookup a = some o ∧ o.data = .func fd
  code : codeIn K fd.code fd.qualname = true
  body_ : fd.body = .stmts body
  clo : fd.closure = []
  glb : fd.globals = mainGlobals
  blt : fd.builtins = builtinsNs
  scope : fd.scope = sc
  co : sc.isCoroutine = false
  gen : sc.isGenerator = false
  kind : sc.kind = .function
  bind : ∀ vals, vals.length = ps.length → bindArgs fd ⟨vals, []⟩ = pure (ps.zip vals)
  def_ : ∃ args, prog.theDef f = some (args, body, sc) ∧ params args = ps
  names : (namesOk sc.names && blockOk.apart sc.names && nodupS ps && (sc.names.all fun p => match p.2 with | .free => false | _ => true) && ps.all fun x => match getK sc.names x with | some .local => true | some .cell => true | _ => false) = true

section
variable {O : List Addr} {h : Heap} {kindOf : Str → Option NameKind}
theorem bindL_off : ∀ {r : List (Str × Value)} {m : Str → Option Value} {x : Str}, (∀ p ∈ r, p.1 ≠ x) → bindL kindOf r m x = m x
  | [], _, _, _ => rfl
  | (n, v) :: r, m, x, h => by
    unfold bindL
    rw [bindL_off fun p hp => h p (List.mem_cons_of_mem _ hp)]
    split
    · exact if_neg (Ne.symm (h (n, v) List.mem_cons_self))
    · rfl
theorem bindC_off : ∀ {r : List (Str × Value)} {m : Str → Option Value} {x : Str}, (∀ p ∈ r, p.1 ≠ x) → bindC kindOf r m x = m x
  | [], _, _, _ => rfl
  | (n, v) :: r, m, x, h => by
    unfold bindC
    rw [bindC_off fun p hp => h p (List.mem_cons_of_mem _ hp)]
    split
    · rfl
    · exact if_neg (Ne.symm (h (n, v) List.mem_cons_self))
theorem zip_fst : ∀ {ps : List Str} {vs : List Value} {p : Str × Value}, p ∈ ps.zip vs → p.1 ∈ ps
  | [], _, _, h => by cases h
  | x :: r, [], _, h => by cases h
  | x :: r, v :: vs, p, h => by
    rcases List.mem_cons.mp h with rfl | h
    · exact List.mem_cons_self
    · exact List.mem_cons_of_mem _ (zip_fst h)
theorem binds_get : ∀ {ps : List Str} {ds : List PyData} {vs : List Value} {ρ : En} {m cm : Str → Option Value}, nodupS ps = true → bindPs ps ds = some ρ → Reps O h ds vs → ∀ x b, getB ρ x = some b →
    x ∈ ps ∧ ∃ d v, b = .val d ∧ Rep O h d v ∧ (kindOf x = some .local → bindL kindOf (ps.zip vs) m x = some v) ∧ (kindOf x ≠ some .local → bindC kindOf (ps.zip vs) cm x = some v)
  | [], ds, vs, ρ, m, cm, hn, hb, hr, x, b, e => by
    cases ds with
    | nil => cases hb; cases e
    | cons d ds => cases hb
  | y :: ps, [], vs, ρ, m, cm, hn, hb, hr, x, b, e => by cases hb
  | y :: ps, d :: ds, vs, ρ, m, cm, hn, hb, hr, x, b, e => by
    unfold bindPs at hb
    split at hb
    · rename_i r hr'
      cases hb
      unfold Reps at hr
      obtain ⟨v, vr, rfl, h1, h2⟩ := hr
      unfold nodupS at hn
      rw [Bool.and_eq_true] at hn
      have hy : ∀ p ∈ ps.zip vr, p.1 ≠ y := fun p hp q => by
        have h3 := zip_fst hp
        have h4 := hn.1
        rw [Bool.not_eq_true', List.any_eq_false] at h4
        exact h4 p.1 h3 ((nameEq_iff _ _).mpr q.symm)
      unfold getB at e
      split at e
      · rename_i hx
        have hx := (nameEq_iff _ _).mp hx
        subst hx
        cases e
        refine ⟨List.mem_cons_self, d, v, rfl, h1, fun hk => ?_, fun hk => ?_⟩
        · show bindL kindOf (ps.zip vr) (if kindOf x = some .local then fun z => if z = x then some v else m z else m) x = some v
          rw [bindL_off hy, if_pos hk]; exact if_pos rfl
        · show bindC kindOf (ps.zip vr) (if kindOf x = some .local then cm else fun z => if z = x then some v else cm z) x = some v
          rw [bindC_off hy, if_neg hk]; exact if_pos rfl
      · obtain ⟨h3, d', v', h4, h5, h6, h7⟩ := binds_get hn.2 hr' h2 (m := if kindOf y = some .local then fun z => if z = y then some v else m z else m) (cm := if kindOf y = some .local then cm else fun z => if z = y then some v else cm z) x b e
        exact ⟨List.mem_cons_of_mem _ h3, d', v', h4, h5, h6, h7⟩
    · cases hb
theorem bindPs_len : ∀ {ps : List Str} {ds : List PyData} {ρ : En}, bindPs ps ds = some ρ → ds.length = ps.length
  | [], [], _, _ => rfl
  | [], _ :: _, _, h => by cases h
  | _ :: _, [], _, h => by cases h
  | y :: ps, d :: ds, ρ, h => by
    unfold bindPs at h
    split at h
    · rename_i r hr
      simp [bindPs_len hr]
    · cases h
end

/-- the kit's rule for a call of a def, and no token is taken back -/
theorem call_cells {prog : Program} {w : World} {A : Around} {s : Shared} {R : Result → Shared → Prop} {a : Addr} {o : Obj} {fd : FuncData} {body : List Stmt} {vals : List Value} {binds : List (Str × Value)}
    (hroom : A.depth < recursionLimit) (ho : s.heap.get? a = some o) (hdata : o.data = .func fd) (hlim : s.heap.NoLimit) (hcd : s.heap.CodeRec fd.code fd.qualname)
    (hbody : fd.body = .stmts body) (hbind : bindArgs fd ⟨vals, []⟩ = pure binds) (hclo : fd.closure = [])
    (hkind : ∀ x ∈ binds, fd.scope.names.lookup x.1 = some .local ∨ (fd.scope.names.lookup x.1 = some .cell ∧ ((cellsFrom (s.heap.objs.size + 1) fd.scope.names []).lookup x.1).isSome = true))
    (h : ∀ s₁, s.toks ≤ s₁.toks → InCallC s (callEnvC fd s.heap.objs.size a).locals (bindL (callEnvC fd s.heap.objs.size a).kindOf binds fun _ => none) (callEnvC fd s.heap.objs.size a).cells
        (bindC (callEnvC fd s.heap.objs.size a).kindOf binds fun _ => none) s₁ →
      wpAny (model prog w) (A.deeper (callEnvC fd s.heap.objs.size a)) (execs body (callEnvC fd s.heap.objs.size a)) (fun f s' => R (.ok (.ret (match f with | .ret v => v | _ => .none))) s')
        (fun e s' => wpAny (model prog w) (A.deeper (callEnvC fd s.heap.objs.size a)) (leaving (callEnvC fd s.heap.objs.size a) e) (fun _ s'' => R (.error e) s'') (fun e' s'' => R (.error e') s'') s') s₁)
    (hco : fd.scope.isCoroutine = false) (hgen : fd.scope.isGenerator = false) (hk : fd.scope.kind = .function) :
    codeAny (model prog w) A (.call (.ref a) ⟨vals, []⟩) R s := by
  refine codeAny_call_function hroom ho hdata hco hgen hbody hcd ?_
  rw [hbind, hclo]
  refine wpAny_pure (wpAny_with_toks (Nat.le_refl s.toks) (wpAny_newFunctionEnv_cells hk hkind fun env he s' x ht => ?_))
  subst he
  exact ⟨hlim.keeps x.toInCall.keep, codeAny_func (h s' ht x)⟩

/-- how a def's body ends -/
noncomputable def BPost (P : Addr) (O₀ M : List Addr) (d : PyData) (s : Shared) (fw : Flow) (s' : Shared) : Prop := GrowB P M s s' ∧ ((∃ v, fw = .ret v ∧ Rep O₀ s'.heap d v) ∨ (fw = .next ∧ d = .none))
/-- a call of a def makes its frame, and tokens have been drawn by then -/
noncomputable def Enters (prog : Program) (w : World) (A : Around) (fd : FuncData) (s : Shared) (a : Addr) (vs : List Value) (binds : List (Str × Value)) (body : List Stmt) : Prop := ∀ (R : Result → Shared → Prop),
    (∀ s₁, s.toks ≤ s₁.toks → 0 < s₁.toks → InCallC s (callEnvC fd s.heap.objs.size a).locals (bindL (callEnvC fd s.heap.objs.size a).kindOf binds fun _ => none) (callEnvC fd s.heap.objs.size a).cells
        (bindC (callEnvC fd s.heap.objs.size a).kindOf binds fun _ => none) s₁ →
      wpAny (model prog w) (A.deeper (callEnvC fd s.heap.objs.size a)) (execs body (callEnvC fd s.heap.objs.size a)) (fun f s' => R (.ok (.ret (match f with | .ret v => v | _ => .none))) s')
        (fun e s' => wpAny (model prog w) (A.deeper (callEnvC fd s.heap.objs.size a)) (leaving (callEnvC fd s.heap.objs.size a) e) (fun _ s'' => R (.error e) s'') (fun e' s'' => R (.error e') s'') s') s₁) →
    codeAny (model prog w) A (.call (.ref a) ⟨vs, []⟩) R s
theorem fn_hasCell {nm : NK} {n : Nat} {x : Str} (hx : nm.lookup x = some .cell) : ((cellsFrom n nm []).lookup x).isSome = true := by
  obtain ⟨c, hc⟩ := cellsFrom_has (n := n) (acc := []) (.inl (mem_of_lookup hx))
  exact lookup_of_mem hc
theorem fn_kindP {prog : Program} {f : Str} {a : Addr} {ps : List Str} {sc : Scope} {body : List Stmt} {fd : FuncData} (F : FnOk prog K f a ps sc body fd) : ∀ x ∈ ps, sc.names.lookup x = some .local ∨ sc.names.lookup x = some .cell := fun x hx => by
  have hn := F.names
  simp only [Bool.and_eq_true] at hn
  have := List.all_eq_true.mp hn.2 x hx
  rw [← getK_eq]
  split at this
  · rename_i e; exact .inl e
  · rename_i e; exact .inr e
  · cases this
theorem enters_of {prog : Program} {w : World} {k : Nat} {f : Str} {a : Addr} {ps : List Str} {sc : Scope} {body : List Stmt} {fd : FuncData} (F : FnOk prog K f a ps sc body fd) {Λ : List Addr} {A : Around} {s : Shared} {vs : List Value} (room : Room Λ (k + 1) A) (htk : 0 < s.toks) (wf : WF K P G Λ s.heap) (hlenv : vs.length = ps.length) : Enters prog w A fd s a vs (ps.zip vs) body := by
  obtain ⟨o, ho, hdata⟩ := F.there
  intro R h
  refine call_cells (fd := fd) (o := o) (body := body) (binds := ps.zip vs) room.dep (wf.X _ _ ho) hdata wf.nolimit (codeRec_of wf.X F.code) F.body_ (F.bind vs hlenv) F.clo (fun x hx => ?_) (fun s₁ ht₁ X => h s₁ ht₁ (Nat.lt_of_lt_of_le htk ht₁) X) (by rw [F.scope]; exact F.co) (by rw [F.scope]; exact F.gen) (by rw [F.scope]; exact F.kind)
  rw [F.scope]
  exact (fn_kindP F x.1 (zip_fst hx)).imp id fun e => ⟨e, fn_hasCell e⟩
/-- a def's frame is made -/
theorem call_frameC {prog : Program} {w : World} {k : Nat} {f : Str} {a : Addr} {ps : List Str} {sc : Scope} {body : List Stmt} {fd : FuncData} (F : FnOk prog K f a ps sc body fd)
    (hm : ∀ env : Env, env.code = fd.code → CodeM K P G sc.names env) {ds : List PyData} {d : PyData} {ρ : En} (hb : bindPs ps ds = some ρ) {Λ : List Addr} {A : Around} {O₀ : List Addr} {s : Shared} {vs : List Value} {R : Result → Shared → Prop}
    (room : Room Λ (k + 1) A) (ent : Enters prog w A fd s a vs (ps.zip vs) body) (hP : P ∈ O₀) (hlt : ∀ a ∈ O₀, a < s.heap.objs.size) (wf : WF K P G Λ s.heap) (rs : Reps O₀ s.heap ds vs)
    (walk : ∀ (A : Around) (env : Env) (outer : List Env) (n : Nat) (M O : List Addr) (s₁ : Shared) (Q : Flow → Shared → Prop) (E : Value → Shared → Prop), Frm K P Λ k A env sc.names n → CodeM K P G sc.names env → Run K P G Λ n M O (fun _ => 0) env sc.names ρ s₁ → (∀ b ∈ O₀, b ∈ O) → P ∈ O₀ → (∀ b ∈ O₀, b < n) →
      A.frames = some (env :: outer) → env.frame = some env.locals → s.toks ≤ s₁.toks → s₁.heap.Ns env.locals (bindL env.kindOf (ps.zip vs) fun _ => none) → (∀ x, env.kindOf x = getK sc.names x) → (∀ fw s', BPost P O₀ M d s₁ fw s' → Q fw s') → wpAny (model prog w) A (execs body env) Q E s₁)
    (hQ : ∀ v s', Grow P s s' → Rep O₀ s'.heap d v → R (.ok (.ret v)) s') : codeAny (model prog w) A (.call (.ref a) ⟨vs, []⟩) R s := by
  obtain ⟨o, ho, hdata⟩ := F.there
  · have hn := F.names
    simp only [Bool.and_eq_true] at hn
    obtain ⟨⟨⟨⟨hnok, hap⟩, hnd⟩, hnf⟩, hpk⟩ := hn
    have hlenv : vs.length = ps.length := by rw [rs.length, bindPs_len hb]
    have nofree : ∀ x, getK sc.names x ≠ some .free := fun x e => by
      rw [getK_eq] at e
      have := List.all_eq_true.mp hnf _ (mem_of_lookup e)
      cases this
    have kindP : ∀ x ∈ ps, sc.names.lookup x = some .local ∨ sc.names.lookup x = some .cell := fun x hx => by
      have := List.all_eq_true.mp hpk x hx
      rw [← getK_eq]
      split at this
      · rename_i e; exact .inl e
      · rename_i e; exact .inr e
      · cases this
    have hasCell : ∀ {n : Nat} {x : Str}, sc.names.lookup x = some .cell → ((cellsFrom n sc.names []).lookup x).isSome = true := fun {n x} hx => by
      obtain ⟨c, hc⟩ := cellsFrom_has (n := n) (acc := []) (.inl (mem_of_lookup hx))
      exact lookup_of_mem hc
    refine ent R fun s₁ ht₁ hpos X => ?_
    · generalize hEnv : callEnvC fd s.heap.objs.size a = env at X ⊢
      have eL : env.locals = s.heap.objs.size := by rw [← hEnv]; rfl
      have eS : env.scope = sc := by rw [← hEnv]; exact F.scope
      have eG : env.globals = mainGlobals := by rw [← hEnv]; exact F.glb
      have eB : env.builtins = builtinsNs := by rw [← hEnv]; exact F.blt
      have eC : env.cells = cellsFrom (s.heap.objs.size + 1) sc.names [] := by rw [← hEnv, ← F.scope]; rfl
      have eK : ∀ x, env.kindOf x = getK sc.names x := fun x => by rw [getK_eq]; show env.scope.names.lookup x = _; rw [eS]
      have hL := X.toInCall.ns.lt
      have hs₁ : s.heap.objs.size ≤ s₁.heap.objs.size := by rw [← eL]; exact Nat.le_of_lt hL
      have g₁ : Grow P s s₁ := by
        obtain ⟨h', tk, e⟩ := X.toInCall.same
        subst e
        exact Grow.of_keep X.toInCall.keep hs₁ ht₁
      have cellLt : ∀ x c, env.cells.lookup x = some c → c < s₁.heap.objs.size ∧ s.heap.objs.size < c := fun x c hc =>
        ⟨(X.cell x c hc).lt, by rw [← eL]; exact X.above x c (mem_of_lookup hc)⟩
      generalize hM : env.locals :: sc.names.filterMap (fun p => env.cells.lookup p.1) = M
      have inM : ∀ b ∈ M, b = s.heap.objs.size ∨ ∃ x, env.cells.lookup x = some b := fun b hb => by
        rw [← hM] at hb
        rcases List.mem_cons.mp hb with rfl | hb
        · exact .inl eL
        · obtain ⟨p, _, hp⟩ := List.mem_filterMap.mp hb
          exact .inr ⟨p.1, hp⟩
      have MN : ∀ b ∈ M, s.heap.objs.size ≤ b := fun b hb => by
        rcases inM b hb with rfl | ⟨x, hx⟩
        · exact Nat.le_refl _
        · exact Nat.le_of_lt (cellLt x b hx).2
      have Mlt : ∀ b ∈ M, b < s₁.heap.objs.size := fun b hb => by
        rcases inM b hb with rfl | ⟨x, hx⟩
        · rw [← eL]; exact hL
        · exact (cellLt x b hx).1
      have locM : env.locals ∈ M := by rw [← hM]; exact List.mem_cons_self
      have cellM : ∀ x c, getK sc.names x = some .cell → env.cells.lookup x = some c → c ∈ M := fun x c hx hc => by
        rw [← hM]
        rw [getK_eq] at hx
        exact List.mem_cons_of_mem _ (List.mem_filterMap.mpr ⟨_, mem_of_lookup hx, hc⟩)
      have newO : ∀ b, b ∈ M ++ O₀ → b ∈ O₀ ∨ s.heap.objs.size ≤ b := fun b hb => (List.mem_append.mp hb).elim (fun h => .inr (MN b h)) .inl
      have rsO : Reps (M ++ O₀) s₁.heap ds vs := Reps.grow (List.mem_append_right _ hP) g₁ (Reps.more newO rs)
      have get := fun x b e => binds_get (kindOf := env.kindOf) (m := fun _ => none) (cm := fun _ => none) hnd hb rsO x b e
      have kx : ∀ x, KindOk (getK sc.names x) (env.kindOf x) := fun x => by
        rw [eK]
        unfold KindOk
        split
        · exact .inl (by assumption)
        · rfl
      have frm : Frm K P Λ k (A.deeper env) env sc.names s.heap.objs.size := ⟨⟨room.toRoomW.deeper env (by rw [eS, F.kind]; decide) (show env.frame = some env.locals from by rw [← hEnv]; rfl), by rw [eS]; exact F.kind, eG, eB, kx, hnok, wf.floor⟩, room.handled⟩
      have act : Act P M (M ++ O₀) (fun _ => 0) env sc.names ρ s₁ := by
        refine ⟨locM, fun h => absurd (hlt P hP) (Nat.not_lt.mpr (MN P h)), fun b h => List.mem_append_left _ h, ⟨_, X.toInCall.ns, fun x b hx e => ?_⟩, fun x hx => ?_, fun x y c hx hy h1 h2 => name_of_addr X.apart (mem_of_lookup h1) (mem_of_lookup h2), fun x b hx e => absurd hx (nofree x), fun x b e => ?_, fun x xs e => ?_, fun x y xs ys e _ _ => ?_⟩
        · obtain ⟨_, dd, v, rfl, h2, h3, _⟩ := get x b e
          exact ⟨v, h3 (by rw [eK]; exact hx), h2⟩
        · obtain ⟨c, hc⟩ := Option.isSome_iff_exists.mp (hasCell (n := s.heap.objs.size + 1) (by rw [getK_eq] at hx; exact hx))
          rw [← eC] at hc
          refine ⟨c, _, hc, cellM x c hx hc, by rw [eL]; exact Nat.ne_of_gt (cellLt x c hc).2, X.cell x c hc, fun b e => ?_⟩
          obtain ⟨_, dd, v, rfl, h2, _, h3⟩ := get x b e
          exact ⟨v, h3 (by rw [eK, hx]; decide), h2⟩
        · obtain ⟨hx, _⟩ := get x b e
          rcases kindP x hx with h | h
          · exact .inl (by rw [getK_eq]; exact h)
          · exact .inr (.inl (by rw [getK_eq]; exact h))
        · obtain ⟨_, _, _, h, _⟩ := get x _ e; cases h
        · obtain ⟨_, _, _, h, _⟩ := get x _ e; cases h
      have run : Run K P G Λ s.heap.objs.size M (M ++ O₀) (fun _ => 0) env sc.names ρ s₁ := ⟨hpos, act, List.mem_append_right _ hP, fun b h => (List.mem_append.mp h).elim (Mlt b) fun h => Nat.lt_of_lt_of_le (hlt b h) hs₁, wf.grow g₁, MN, fun x b c hx _ _ => absurd hx (nofree x)⟩
      have cm : CodeM K P G sc.names env := hm env (by rw [← hEnv]; rfl)
      obtain ⟨lf, hlf, _⟩ := room.toRoomW.frames
      refine walk (A.deeper env) env lf s.heap.objs.size M (M ++ O₀) s₁ _ _ frm cm run (fun b h => List.mem_append_right _ h) hP hlt (by show A.frames.map _ = _; rw [hlf]; rfl) (by rw [← hEnv]; rfl) ht₁ X.toInCall.ns eK fun fw s₂ x => ?_
      obtain ⟨g₂, x⟩ := x
      rcases x with ⟨v, rfl, r₂⟩ | ⟨rfl, rfl⟩
      · exact hQ v s₂ (((GrowB.of (N := M) g₁).trans g₂).grow MN) r₂
      · exact hQ _ s₂ (((GrowB.of (N := M) g₁).trans g₂).grow MN) Rep.none'
theorem call_frameV {prog : Program} {w : World} {k : Nat} {f : Str} {a : Addr} {ps : List Str} {sc : Scope} {body : List Stmt} {fd : FuncData} (F : FnOk prog K f a ps sc body fd)
    (hm : ∀ env : Env, env.code = fd.code → CodeM K P G sc.names env) {ds : List PyData} {d : PyData} {ρ : En} (hb : bindPs ps ds = some ρ) {Λ : List Addr} {A : Around} {O₀ : List Addr} {s : Shared} {vs : List Value} {Q : Value → Shared → Prop} {E : Value → Shared → Prop}
    (room : Room Λ (k + 1) A) (htk : 0 < s.toks) (hP : P ∈ O₀) (hlt : ∀ a ∈ O₀, a < s.heap.objs.size) (wf : WF K P G Λ s.heap) (rs : Reps O₀ s.heap ds vs)
    (walk : ∀ (A : Around) (env : Env) (outer : List Env) (n : Nat) (M O : List Addr) (s₁ : Shared) (Q : Flow → Shared → Prop) (E : Value → Shared → Prop), Frm K P Λ k A env sc.names n → CodeM K P G sc.names env → Run K P G Λ n M O (fun _ => 0) env sc.names ρ s₁ → (∀ b ∈ O₀, b ∈ O) → P ∈ O₀ → (∀ b ∈ O₀, b < n) →
      A.frames = some (env :: outer) → env.frame = some env.locals → s.toks ≤ s₁.toks → s₁.heap.Ns env.locals (bindL env.kindOf (ps.zip vs) fun _ => none) → (∀ x, env.kindOf x = getK sc.names x) → (∀ fw s', BPost P O₀ M d s₁ fw s' → Q fw s') → wpAny (model prog w) A (execs body env) Q E s₁)
    (hQ : ∀ v s', Grow P s s' → Rep O₀ s'.heap d v → Q v s') : wpAny (model prog w) A (call (.ref a) vs) Q E s := by
  have hlenv : vs.length = ps.length := by rw [rs.length, bindPs_len hb]
  exact wpAny_call (call_frameC F hm hb room (enters_of F room htk wf hlenv) hP hlt wf rs walk hQ)
theorem call_frame {prog : Program} {w : World} {k : Nat} {f : Str} {a : Addr} {ps : List Str} {sc : Scope} {body : List Stmt} {fd : FuncData} (F : FnOk prog K f a ps sc body fd)
    (hm : ∀ env : Env, env.code = fd.code → CodeM K P G sc.names env) {ds : List PyData} {d : PyData} {ρ : En} (hb : bindPs ps ds = some ρ)
    (walk : ∀ {Λ : List Addr} (A : Around) (env : Env) (outer : List Env) (n : Nat) (M O₀ O : List Addr) (s : Shared) (Q : Flow → Shared → Prop) (E : Value → Shared → Prop), Frm K P Λ k A env sc.names n → CodeM K P G sc.names env → Run K P G Λ n M O (fun _ => 0) env sc.names ρ s → (∀ b ∈ O₀, b ∈ O) → P ∈ O₀ → (∀ b ∈ O₀, b < n) →
      A.frames = some (env :: outer) → env.frame = some env.locals → (∀ fw s', BPost P O₀ M d s fw s' → Q fw s') → wpAny (model prog w) A (execs body env) Q E s) : CallOk prog w K P G (k + 1) (.ref a) ds d := by
  intro Λ A O₀ s vs Q E room htk hP hlt wf rs hQ
  exact call_frameV F hm hb room htk hP hlt wf rs (fun A env outer n M O s₁ Q E f cm r ho hP hlt hfr hfl _ _ _ hQ => walk A env outer n M O₀ O s₁ Q E f cm r ho hP hlt hfr hfl hQ) hQ
/-- a def's call bears what the evaluator says -/
theorem callN_sound {m : Nat} {prog : Program} {w : World} {k : Nat} {Φ : Orc} (C : CallsOk prog w K P G k Φ) (hr : G "range" = some (.type "range")) (hlen : G "len" = some (.builtin "len")) {f : Str} {a : Addr} {ps : List Str} {sc : Scope} {body : List Stmt} {fd : FuncData} (F : FnOk prog K f a ps sc body fd)
    (hm : ∀ env : Env, env.code = fd.code → CodeM K P G sc.names env) {ds : List PyData} {d : PyData} (h : callN Φ m prog f ds = some d) : CallOk prog w K P G (k + 1) (.ref a) ds d := by
  obtain ⟨args, hdef, hps⟩ := F.def_
  unfold callN at h
  rw [hdef] at h
  dsimp only at h
  rw [hps] at h
  split at h
  · rename_i ρ hb
    refine call_frame F hm hb fun A env outer n M O₀ O s Q E frm cm run ho hP hlt _ _ hQ => ?_
    have B := pexecs_sound (prog := prog) (w := w) (G := G) (n := n) (O₀ := O₀) (pexec_sound C hr hlen hP hlt m)
    split at h
    · rename_i d' hx
      cases h
      refine B _ _ _ _ hx A env M O _ s _ _ frm cm run ho fun fw s₂ x => ?_
      obtain ⟨v, rfl, r₂, g₂⟩ := x
      exact hQ _ s₂ ⟨g₂, .inl ⟨v, rfl, r₂⟩⟩
    · rename_i ρ' hx
      cases h
      refine B _ _ _ _ hx A env M O _ s _ _ frm cm run ho fun fw s₂ x => ?_
      obtain ⟨rfl, M', O', α', g₂, _, _, _⟩ := x
      exact hQ _ s₂ ⟨g₂, .inr ⟨rfl, rfl⟩⟩
    · cases h
  · cases h
theorem CodeM.un {nm : NK} {env : Env} (h : marked nm = false) : CodeM K P G nm env := ⟨fun e => absurd (h.symm.trans e) Bool.false_ne_true, fun e => absurd (h.symm.trans e) Bool.false_ne_true⟩
end Mine
end
section
open PySem PySem.Spec PySem.Calls PyProof.Rows PySem.W
set_option maxRecDepth 100000
namespace Mine
variable [Inhabited Base]
variable {K : Frag} {P : Addr} {G : Str → Option Value} {Λ : List Addr}
theorem env_split (sc : Scope) (g : Addr) (cl : List (Str × Addr)) (x : Str) (v : Value) (q : Str) (f : Option Addr) (c : Value) (ar : Option Env) (b : Addr) :
    newFunctionEnv sc g cl [(x, v)] q f c ar b = (newFunctionEnv sc g cl [] q f c ar b >>= fun env => storeName env x v >>= fun _ => pure env) := by
  unfold newFunctionEnv
  simp only [bind_assoc, List.forIn_cons, List.forIn_nil, pure_bind]
theorem enters_one {prog : Program} {w : World} {k : Nat} {f x : Str} {a : Addr} {sc : Scope} {body : List Stmt} {fd : FuncData} (F : FnOk prog K f a [x] sc body fd) (hx : sc.names.lookup x = some .local) {Λ : List Addr} {A : Around} {s : Shared} {v : Value} (room : Room Λ (k + 1) A) (wf : WF K P G Λ s.heap) : Enters prog w A fd s a [v] ([x].zip [v]) body := by
  obtain ⟨o, ho, hdata⟩ := F.there
  intro R h
  refine codeAny_call_function room.dep (wf.X _ _ ho) hdata (by rw [F.scope]; exact F.co) (by rw [F.scope]; exact F.gen) F.body_ (codeRec_of wf.X F.code) ?_
  rw [F.bind [v] rfl, F.clo]
  refine wpAny_pure ?_
  show wpAny (model prog w) _ (newFunctionEnv fd.scope fd.globals [] [(x, v)] _ (some a) fd.code none fd.builtins) _ _ s
  rw [env_split]
  refine wpAny_bind (wpAny_with_toks (Nat.le_refl s.toks) (wpAny_newFunctionEnv_cells (binds := []) (by rw [F.scope]; exact F.kind) (fun y hy => by cases hy) fun env he s' X ht => ?_))
  subst he
  have hk : (callEnvC fd s.heap.objs.size a).kindOf x = some .local := by show fd.scope.names.lookup x = _; rw [F.scope]; exact hx
  refine wpAny_bind (wpAny_storeName_local hk X.toInCall.ns (fun h' hn' hs' => wpAny_pure ?_) (kind_hp (by show fd.scope.kind = _; rw [F.scope]; exact F.kind)))
  have keep' : ∀ b o, s.heap.get? b = some o → h'.get? b = some o := fun b o e => by
    have hb : b ≠ (callEnvC fd s.heap.objs.size a).locals := Nat.ne_of_lt (Nat.lt_of_lt_of_le (Heap.lt_size e) X.toInCall.fresh)
    exact (hs'.2 b hb).trans (X.toInCall.keep b o e)
  have eL : bindL (callEnvC fd s.heap.objs.size a).kindOf ([x].zip [v]) (fun _ => none) = fun z => if z = x then some v else none := by
    show (if (callEnvC fd s.heap.objs.size a).kindOf x = some .local then fun z => if z = x then some v else none else fun _ => none) = _
    rw [if_pos hk]
  have eC : bindC (callEnvC fd s.heap.objs.size a).kindOf ([x].zip [v]) (fun _ => none) = bindC (callEnvC fd s.heap.objs.size a).kindOf [] fun _ => none := by
    show (if (callEnvC fd s.heap.objs.size a).kindOf x = some .local then fun _ => none else fun z => if z = x then some v else none) = fun _ => none
    rw [if_pos hk]
  refine ⟨wf.nolimit.keeps keep', codeAny_func (h _ (Nat.le_succ_of_le ht) (Nat.succ_pos _) ⟨⟨?_, ?_, keep', X.toInCall.fresh⟩, ?_, X.apart, X.above⟩)⟩
  · obtain ⟨h0, tk0, e⟩ := X.toInCall.same
    exact ⟨h', s'.toks + 1, by rw [e]⟩
  · rw [eL]; exact hn'
  · intro n c hc
    rw [eC]
    have hcl : c ≠ (callEnvC fd s.heap.objs.size a).locals := Nat.ne_of_gt (X.above n c (mem_of_lookup hc))
    obtain ⟨oc, ho', hd'⟩ := X.cell n c hc
    exact ⟨oc, (hs'.2 c hcl).trans ho', hd'⟩
/-- as callN_sound, but for how the frame was entered -/
theorem callN_code {m : Nat} {prog : Program} {w : World} {k : Nat} {Φ : Orc} (C : CallsOk prog w K P G k Φ) (hr : G "range" = some (.type "range")) (hlen : G "len" = some (.builtin "len")) {f : Str} {a : Addr} {ps : List Str} {sc : Scope} {body : List Stmt} {fd : FuncData} (F : FnOk prog K f a ps sc body fd)
    (hm : ∀ env : Env, env.code = fd.code → CodeM K P G sc.names env) {ds : List PyData} {d : PyData} (h : callN Φ m prog f ds = some d) {Λ : List Addr} {A : Around} {O₀ : List Addr} {s : Shared} {vs : List Value} {R : Result → Shared → Prop}
    (room : Room Λ (k + 1) A) (ent : Enters prog w A fd s a vs (ps.zip vs) body) (hP : P ∈ O₀) (hlt : ∀ a ∈ O₀, a < s.heap.objs.size) (wf : WF K P G Λ s.heap) (rs : Reps O₀ s.heap ds vs) (hQ : ∀ v s', Grow P s s' → Rep O₀ s'.heap d v → R (.ok (.ret v)) s') :
    codeAny (model prog w) A (.call (.ref a) ⟨vs, []⟩) R s := by
  obtain ⟨args, hdef, hps⟩ := F.def_
  unfold callN at h
  rw [hdef] at h
  dsimp only at h
  rw [hps] at h
  split at h
  · rename_i ρ hb
    refine call_frameC F hm hb room ent hP hlt wf rs (fun A env outer n M O s Q E frm cm run ho hP hlt _ _ _ _ _ hQ => ?_) hQ
    have B := pexecs_sound (prog := prog) (w := w) (G := G) (n := n) (O₀ := O₀) (pexec_sound C hr hlen hP hlt m)
    split at h
    · rename_i d' hx
      cases h
      refine B _ _ _ _ hx A env M O _ s _ _ frm cm run ho fun fw s₂ x => ?_
      obtain ⟨v, rfl, r₂, g₂⟩ := x
      exact hQ _ s₂ ⟨g₂, .inl ⟨v, rfl, r₂⟩⟩
    · rename_i ρ' hx
      cases h
      refine B _ _ _ _ hx A env M O _ s _ _ frm cm run ho fun fw s₂ x => ?_
      obtain ⟨rfl, M', O', α', g₂, _, _, _⟩ := x
      exact hQ _ s₂ ⟨g₂, .inr ⟨rfl, rfl⟩⟩
    · cases h
  · cases h
end Mine
end
section
open PySem PySem.Spec PySem.Calls PyProof.Rows PySem.W
set_option maxRecDepth 100000
namespace Mine
variable [Inhabited Base]
variable {K : Frag} {P : Addr} {G : Str → Option Value} {Λ : List Addr}

/-- an exception is at hand or not; if one is, it stands behind none -/
noncomputable def Warm (A : Around) (s : Shared) : Prop := A.handled = none ∨ ∃ a o vs, A.handled = some (.ref a) ∧ s.heap.get? a = some o ∧ o.data = .fields vs ∧ vs[2]? = some .none
/-- an exception with its traceback's head -/
noncomputable def ExA (h : Heap) (e : Addr) (tb : Option (Addr × Value)) (ctx : Value) : Prop :=
  ∃ o vs, h.get? e = some o ∧ o.cls = .type "IndexError" ∧ o.data = .fields vs ∧ vs.size = 6 ∧ vs[2]? = some ctx ∧ (match tb with
    | none => vs[1]? = some .none
    | some (T, fl) => vs[1]? = some (.ref T) ∧ T ≠ e ∧ ∃ oT ts, h.get? T = some oT ∧ oT.data = .fields ts ∧ ts[3]? = some fl)
noncomputable def Off (n b : Nat) (M O : List Addr) (a : Addr) : Prop := a ∈ O ∧ a ∉ M ∧ n ≤ a ∧ b ≤ a
structure Ex (n b : Nat) (M O : List Addr) (h : Heap) (e : Addr) (tb : Option (Addr × Value)) (ctx : Value) : Prop where
  off : Off n b M O e
  offT : ∀ T fl, tb = some (T, fl) → Off n b M O T
  at_ : ExA h e tb ctx

section
variable {prog : Program} {w : World} {n b k : Nat} {A : Around} {E : Value → Shared → Prop} {M O N : List Addr} {α : Str → Addr} {env : Env} {nm : NK} {ρ ρ' : En} {s s' : Shared}

theorem Ex.keep {e : Addr} {tb : Option (Addr × Value)} {ctx : Value} (x : Ex n b M O s.heap e tb ctx) (hP : P < n) (g : GrowB P N s s') (he : e ∉ N) (hT : ∀ T fl, tb = some (T, fl) → T ∉ N) : Ex n b M O s'.heap e tb ctx := by
  refine ⟨x.off, x.offT, ?_⟩
  obtain ⟨o, vs, h1, h2, h3, h4, h5, h6⟩ := x.at_
  have ne : ∀ {a : Addr}, n ≤ a → a ≠ P := fun h q => absurd hP (Nat.not_lt.mpr (q ▸ h))
  refine ⟨o, vs, g.keep e o (ne x.off.2.2.1) he (Firm.of (notD_fields h3)) h1, h2, h3, h4, h5, ?_⟩
  cases tb with
  | none => exact h6
  | some p =>
    obtain ⟨T, fl⟩ := p
    obtain ⟨h7, h8, oT, ts, h9, h10, h11⟩ := h6
    exact ⟨h7, h8, oT, ts, g.keep T oT (ne (x.offT T fl rfl).2.2.1) (hT T fl rfl) (Firm.of (notD_fields h10)) h9, h10, h11⟩
theorem Ex.more {O' : List Addr} {e : Addr} {h : Heap} {tb : Option (Addr × Value)} {ctx : Value} (x : Ex n b M O h e tb ctx) (hO : ∀ a ∈ O, a ∈ O') : Ex n b M O' h e tb ctx :=
  ⟨⟨hO _ x.off.1, x.off.2⟩, fun T fl e => ⟨hO _ (x.offT T fl e).1, (x.offT T fl e).2⟩, x.at_⟩
theorem Ex.warm {e : Addr} {tb : Option (Addr × Value)} (x : Ex n b M O s.heap e tb .none) : Warm (A.mark (some (.ref e))) s := by
  obtain ⟨o, vs, h1, h2, h3, h4, h5, h6⟩ := x.at_
  exact .inr ⟨e, o, vs, rfl, h1, h3, h5⟩

theorem entry_unchain : entryFor table "proto.unchain" = some Builtin.«proto.unchain» := entryFor_of_tree (by kernel_rfl)
theorem raiseNew_any {α' : Type} {e : Addr} {o : Obj} {vs : Array Value} {Q : α' → Shared → Prop} (wm : Warm A s) (he : s.heap.get? e = some o) (hd : o.data = .fields vs) (hsz : vs.size = 6) (hne : ∀ a, A.handled = some (.ref a) → a ≠ e)
    (h1 : A.handled = none → E (.ref e) s) (h2 : ∀ a, A.handled = some (.ref a) → E (.ref e) { s with heap := s.heap.update e (Obj.mapFields (·.setIfInBounds 2 (.ref a))) }) : wpAny (model prog w) A (raiseNew (.ref e) : Sem α') Q E s := by
  rcases wm with hh | ⟨a, oa, va, hh, ha, hda, hc⟩
  · exact wpAny_raiseNew_none hh (h1 hh)
  · unfold raiseNew
    refine wpAny_bind (wpAny_handled ?_)
    rw [hh]
    have hne' := hne a hh
    dsimp only
    rw [if_pos (show ((Value.ref a) != .ref e) = true from by simpa using hne')]
    refine wpAny_bind (wpAny_holding (wpAny_runValue (codeAny_builtin entry_unchain ?_)))
    unfold Builtin.«proto.unchain»
    refine wpAny_bind (wpAny_field ha hda hc ?_)
    rw [if_pos (by decide)]
    refine wpAny_bind (wpAny_pure ?_)
    refine wpAny_pure ?_
    refine wpAny_bind ?_
    simp only [updateField]
    refine wpAny_bind (wpAny_load he ?_)
    rw [hd]
    show wpAny (model prog w) A (if 2 < vs.size then _ else _) _ E s
    rw [if_pos (by omega)]
    exact wpAny_update he (wpAny_throw (h2 a hh))

noncomputable def RaisedNew (s : Shared) (hh : Prop) (h' : Heap) (e : Addr) : Prop := ∃ ctx, ExA h' e none ctx ∧ (hh → ctx = .none) ∧ (∀ b o, s.heap.get? b = some o → h'.get? b = some o) ∧ s.heap.objs.size ≤ e
theorem raised_tail {α' : Type} {cls : Value} {arg : Value} {Q : α' → Shared → Prop} (hc : cls = .type "IndexError") (wm : Warm A s) (h : ∀ h' e, RaisedNew s (A.handled = none) h' e → E (.ref e) { s with heap := h' }) :
    wpAny (model prog w) A (do let e ← newExc cls [arg]; raiseNew e : Sem α') Q E s := by
  subst hc
  unfold newExc newTuple
  refine wpAny_bind (wpAny_bind (wpAny_newObj_type ?_))
  refine wpAny_bind (m := firstArgMember _ _) (wpAny_of_eq (a := Value.none) (by simp only [firstArgMember, plainExc_IndexError.first]; rfl) ?_)
  rw [plainExc_IndexError.own]
  refine wpAny_newObj_type ?_
  have e0 := Heap.get?_push_size (s.heap.push { cls := Value.type "tuple", data := .seq #[arg] }) (o := { cls := .type "IndexError", data := .fields #[.ref s.heap.objs.size, .none, .none, .none, .bool false, .none] }) rfl
  have kp : ∀ b o, s.heap.get? b = some o → ((s.heap.push { cls := Value.type "tuple", data := .seq #[arg] }).push { cls := .type "IndexError", data := .fields #[.ref s.heap.objs.size, .none, .none, .none, .bool false, .none] }).get? b = some o :=
    fun b o hb => Heap.get?_push_of_some _ (Heap.get?_push_of_some _ hb)
  have hsz : s.heap.objs.size ≤ (s.heap.push { cls := Value.type "tuple", data := .seq #[arg] }).objs.size := by rw [Heap.size_push]; omega
  refine raiseNew_any (s := { s with heap := _ }) ?_ e0 rfl rfl (fun a ha q => ?_) (fun hh => ?_) (fun a ha => ?_)
  · rcases wm with hh | ⟨a, oa, va, hh, ha, hda, hc⟩
    · exact .inl hh
    · exact .inr ⟨a, oa, va, hh, kp _ _ ha, hda, hc⟩
  · rcases wm with hh | ⟨a', oa, va, hh, ha', hda, hc⟩
    · rw [hh] at ha; cases ha
    · rw [hh] at ha; injection ha with ha; injection ha with ha
      exact absurd (Heap.lt_size ha') (Nat.not_lt.mpr (by rw [ha, q]; exact hsz))
  · exact h _ _ ⟨.none, ⟨_, _, e0, rfl, rfl, rfl, rfl, rfl⟩, fun _ => rfl, kp, hsz⟩
  · refine h _ _ ⟨.ref a, ⟨_, _, Heap.get?_update_self _ e0 rfl, rfl, rfl, rfl, rfl, rfl⟩, fun hh => ?_, fun b o hb => ?_, hsz⟩
    · rw [hh] at ha; cases ha
    · have hbe : (s.heap.push { cls := Value.type "tuple", data := .seq #[arg] }).objs.size ≠ b := fun q => absurd (Heap.lt_size hb) (Nat.not_lt.mpr (q ▸ hsz))
      rw [Heap.get?_update_other _ _ hbe]
      exact kp b o hb
theorem raiseWords_any {α' : Type} {msg : String} {Q : α' → Shared → Prop} (wm : Warm A s) (h : ∀ h' tk e, RaisedNew s (A.handled = none) h' e → E (.ref e) { s with heap := h', toks := tk }) :
    wpAny (model prog w) A (raiseErrorWords "IndexError" msg : Sem α') Q E s := by
  unfold raiseErrorWords
  refine wpAny_bind (wpAny_mkText (raised_tail rfl wm fun h' e x => h h' _ e x))

theorem big63 : (100000 : Int) < 2 ^ 63 := by decide
theorem neg63 : -(2 ^ 63) ≤ (0 : Int) := by decide
theorem fits_a {j : Int} (h0 : 0 ≤ j) (h : j ≤ 100000) : Builtin.List.listFitsIndex j = true := fitsIndex_both (Int.le_trans neg63 h0) (Int.lt_of_le_of_lt h big63)
theorem fits_nat {j : Nat} (h : j ≤ 100000) : Builtin.List.listFitsIndex (Int.ofNat j) = true := fits_a (Int.natCast_nonneg j) (by have := Int.ofNat_le.mpr h; exact this)
theorem getItem_out {l : Addr} {items : Array Value} {k : Int} {t : Tok} {Q : Value → Shared → Prop} (wm : Warm A s) (hl : s.heap.IsList l items) (hout : (items.size : Int) ≤ k) (hhi : Builtin.List.listFitsIndex k = true)
    (hE : ∀ h' tk e, RaisedNew s (A.handled = none) h' e → E (.ref e) { s with heap := h', toks := tk }) :
    wpAny (model prog w) A (getItem (.ref l) (.int k t)) Q E s := by
  obtain ⟨o, ho, hc, ne, hd⟩ := id hl
  unfold getItem
  try with_reducible refine wpAny_holding ?_
  first | refine wpAny_bind (wpAny_pure ?_) | skip
  refine wpAny_bind (wpAny_sequenceKey hl.typeIs (by decide) ?_)
  refine wpAny_bind (wpAny_callSpecial?_slot (name := Str.ofString "__getitem__") hl.typeIs PySem.slot_list_getitem
    (wpAny_call_entry PySem.slot_list_getitem hl.typeIs PySem.entry_list_getitem ?_ (PySem.args_list_getitem _ _)))
  show wpAny _ _ (Builtin.List.listSubscript? (.int k t) >>= _) _ _ s
  refine wpAny_bind (wpAny_listSubscript_int hhi ?_)
  clear hhi
  cases k with
  | ofNat j =>
    have hx : items[j]? = none := Array.getElem?_eq_none (by have : (items.size : Int) ≤ (j : Int) := hout; omega)
    show wpAny _ _ ((seqItemAt l j >>= fun r => pure (r.map (j, ·))) >>= _) _ _ s
    refine wpAny_bind (wpAny_bind (wpAny_seqItemAt ho hd (wpAny_pure ?_)))
    rw [hx]
    first
      | exact wpAny_bind (wpAny_rule (raiseWords_any wm hE))
      | exact wpAny_bind (wpAny_rule (wpAny_bind (raiseWords_any wm hE)))
      | exact wpAny_bind (wpAny_bind (wpAny_rule (raiseWords_any wm hE)))
      | exact wpAny_rule (raiseWords_any wm hE)
  | negSucc j => exact absurd hout (by have := Int.negSucc_lt_zero j; omega)
end
end Mine
end
section
open PySem PySem.Spec PySem.Calls PyProof.Rows PySem.W
set_option maxRecDepth 100000
namespace Mine
variable [Inhabited Base]
variable {K : Frag} {P : Addr} {G : Str → Option Value} {Λ : List Addr}
section
variable {prog : Program} {w : World} {n b k : Nat} {A : Around} {E : Value → Shared → Prop} {M O N : List Addr} {α : Str → Addr} {env : Env} {nm : NK} {ρ ρ' : En} {s s' : Shared}

theorem Run.raised (f : FrmW K P Λ k A env nm n) (r : Run K P G Λ n M O α env nm ρ s) {h' : Heap} {e : Addr} {tk : Nat} {hh : Prop} (x : RaisedNew s hh h' e) (ht : s.toks ≤ tk) (hz : s.heap.objs.size ≤ h'.objs.size) :
    Grow P s { s with heap := h', toks := tk } ∧ Run K P G Λ n M (e :: O) α env nm ρ { s with heap := h', toks := tk } ∧ ∃ ctx, (hh → ctx = .none) ∧ Ex n s.heap.objs.size M (e :: O) h' e none ctx := by
  obtain ⟨ctx, hx, hc, hk, he⟩ := x
  have g : Grow P s { s with heap := h', toks := tk } := Grow.of_keep hk hz ht
  obtain ⟨ml, hml, _⟩ := r.act.loc
  have hne : n ≤ e := Nat.le_trans (r.MN _ r.act.locM) (Nat.le_trans (Nat.le_of_lt hml.lt) he)
  refine ⟨g, r.moreO (fun a h => ?_) (fun a h => List.mem_cons_of_mem _ h) (fun a h => ?_) g, ctx, hc, ⟨List.mem_cons_self, fun hm => absurd (r.lt e (r.act.MO e hm)) (Nat.not_lt.mpr he), hne, he⟩, fun T fl q => (nomatch q), hx⟩
  · rcases List.mem_cons.mp h with rfl | h
    · exact .inr he
    · exact .inl h
  · rcases List.mem_cons.mp h with rfl | h
    · obtain ⟨o, vs, h1, _⟩ := hx
      exact Heap.lt_size h1
    · exact Nat.lt_of_lt_of_le (r.lt a h) hz

theorem frames_fun {Λ' : List Addr} {l : List Env} {h : Heap} (W : WF K P G Λ' h) : (∀ e ∈ l, e.scope.kind ≠ .module ∧ ∃ L, e.frame = some L ∧ L ∈ Λ') → h.FunFrames ({ objs := #[] } : Heap) l := by
  induction l with
  | nil => intro _; trivial
  | cons e r ih =>
    intro hl
    obtain ⟨h1, L, h2, h3⟩ := hl e List.mem_cons_self
    obtain ⟨_, o, h4, h5⟩ := W.fr L h3
    exact ⟨h1, ⟨L, o, h2, rfl, h4, fun vs q => notD_fields q h5⟩, ih fun x hx => hl x (List.mem_cons_of_mem _ hx)⟩
theorem frames_in {Λ' : List Addr} {l : List Env} (hl : ∀ e ∈ l, e.scope.kind ≠ .module ∧ ∃ L, e.frame = some L ∧ L ∈ Λ') : ∀ a ∈ l.filterMap (·.frame), a ∈ Λ' := fun a ha => by
  obtain ⟨e, he, hf⟩ := List.mem_filterMap.mp ha
  obtain ⟨_, L, h2, h3⟩ := hl e he
  rw [h2] at hf; cases hf; exact h3
theorem slots_grow {Λ' S : List Addr} {h' : Heap} (W : WF K P G Λ' s.heap) (hS : ∀ a ∈ S, a ∈ Λ') (x : Heap.SlotsOnly S s.heap h') : Grow P s { s with heap := h' } := by
  refine ⟨fun c o hc hf e => ?_, fun c o hc e => x.2.2 c o e, fun ps e t => ⟨#[], ?_, by simpa using t⟩, rfl, fun h => h, Nat.le_of_eq x.1.symm, Nat.le_refl _⟩
  · rw [x.2.1 c fun hm => ?_]
    · exact e
    · obtain ⟨h1, o', h2, h3⟩ := W.fr c (hS c hm)
      rw [e] at h2; cases h2
      exact absurd (hf h3) (Nat.not_lt.mpr h1)
  · rw [x.2.1 P fun hm => ?_]
    · simpa using e
    · exact absurd (W.fr P (hS P hm)).1 (Nat.not_le.mpr W.PB)

/-- the first frame is noted -/
theorem note_sound {outer : List Env} (hfr : A.frames = some (env :: outer)) (hfl : env.frame = some env.locals) (f : FrmW K P Λ k A env nm n) (r : Run K P G Λ n M O α env nm ρ s) {e : Addr} {ctx : Value} (x : Ex n b M O s.heap e none ctx) (hb : b ≤ s.heap.objs.size) {Q : Unit → Shared → Prop}
    (hQ : ∀ s' T, GrowB P [e] s s' → s.heap.objs.size ≤ T → Run K P G Λ n M (T :: O) α env nm ρ s' → Ex n b M (T :: O) s'.heap e (some (T, rawInt env.locals)) ctx → Q () s') : wpAny (model prog w) A (noteFrame (.ref e) env) Q E s := by
  obtain ⟨oe, vs, h1, h2, h3, h4, h5, h6⟩ := x.at_
  have W := r.wfL f.floor
  obtain ⟨l, hl0, hl⟩ := f.roomW.frames
  rw [hfr] at hl0
  have hl0 : env :: outer = l := Option.some.inj hl0
  subst hl0
  have FF := frames_fun W hl
  have hP : P ≠ e := fun q => absurd f.floor.p (Nat.not_lt.mpr (q ▸ x.off.2.2.1))
  obtain ⟨ml, hml, _⟩ := r.act.loc
  unfold noteFrame
  simp only [hfl]
  refine wpAny_bind (wpAny_field h1 h3 h6 ?_)
  rw [if_neg (by decide)]
  refine wpAny_bind (wpAny_frameOf_fun hfr FF hfl fun h₁ hs₁ => ?_)
  have g₁ := slots_grow W (frames_in hl) hs₁
  refine wpAny_bind (wpAny_entryPlaceOf fun pl hpl => ?_)
  unfold EntryCells.newEntry newFields
  refine wpAny_bind (wpAny_newObj_type ?_ (hpl.sizeOk5 _ _ _ _ _))
  have he₁ : h₁.get? e = some oe := g₁.keep e oe (Ne.symm hP) (Firm.of (notD_fields h3)) h1
  generalize hO : ({ cls := .type "traceback", dict := none, data := .fields ([Value.none, .ref env.locals, .none, rawInt env.locals, .none] ++ (if pl.isEmpty then List.replicate 6 Value.none else pl)).toArray } : Obj) = oT
  have he₂ := Heap.get?_push_of_some (h := h₁) oT he₁
  refine wpAny_setField he₂ h3 (by omega) ?_
  have hTe : h₁.objs.size ≠ e := Nat.ne_of_gt (Heap.lt_size he₁)
  have hd₃ := Obj.data_mapFields h3 (·.setIfInBounds 1 (Value.ref h₁.objs.size))
  have he₃ := Heap.get?_update_self (Obj.mapFields (·.setIfInBounds 1 (Value.ref h₁.objs.size))) he₂ (Obj.isFreed_of_fields hd₃)
  have hT₃ : ((h₁.push oT).update e (Obj.mapFields (·.setIfInBounds 1 (Value.ref h₁.objs.size)))).get? h₁.objs.size = some oT := (Heap.get?_update_other (h₁.push oT) _ (Ne.symm hTe)).trans (Heap.get?_push_size h₁ (by rw [← hO]; rfl))
  have g₂ : GrowB P [e] { s with heap := h₁ } { s with heap := (h₁.push oT).update e (Obj.mapFields (·.setIfInBounds 1 (Value.ref h₁.objs.size))) } := by
    refine GrowB.but (s := { s with heap := h₁ }) (tk := s.toks) (fun c o hc ho => ?_) (fun q => hP (List.mem_singleton.mp q)) ?_
    · rw [Heap.get?_update_other _ _ (fun q => hc (List.mem_singleton.mpr q.symm))]
      exact Heap.get?_push_of_some _ ho
    · rw [Heap.size_after_update, Heap.size_push]; exact Nat.le_succ _
  have hsz₁ : h₁.objs.size = s.heap.objs.size := hs₁.1
  have hTn : s.heap.objs.size ≤ h₁.objs.size := Nat.le_of_eq hsz₁.symm
  have g : GrowB P [e] s _ := (GrowB.of (N := [e]) g₁).trans g₂
  have r₁ := r.grow g₁
  have r₂ := r₁.keepB f.floor g₂ (fun a h => by rw [List.mem_singleton.mp h]; exact x.off.1) (fun a h => by rw [List.mem_singleton.mp h]; exact x.off.2.1) (fun a h => by rw [List.mem_singleton.mp h]; exact x.off.2.2.1)
  have hTlt : h₁.objs.size < ((h₁.push oT).update e (Obj.mapFields (·.setIfInBounds 1 (Value.ref h₁.objs.size)))).objs.size := Heap.lt_size hT₃
  have hTO : h₁.objs.size ∉ O := fun q => by have := r₁.lt _ q; exact Nat.lt_irrefl _ this
  have hTn' : n ≤ h₁.objs.size := Nat.le_trans (r.MN _ r.act.locM) (Nat.le_trans (Nat.le_of_lt hml.lt) hTn)
  refine hQ _ h₁.objs.size g hTn ⟨r₂.tk, r₁.act.moreO (O' := h₁.objs.size :: O) (fun a h => ?_) (fun a h => List.mem_cons_of_mem _ (r₁.act.MO a h)) |>.keep (List.mem_cons_of_mem _ r₁.hP) g₂ (fun a h => ?_), List.mem_cons_of_mem _ r.hP, fun a h => ?_, r₂.wf, r₂.MN, r₂.freeN⟩ ⟨⟨List.mem_cons_of_mem _ x.off.1, x.off.2⟩, fun T fl q => ?_, _, _, he₃, ?_, hd₃, ?_, ?_, ?_, hTe, _, _, hT₃, by rw [← hO], ?_⟩
  · rcases List.mem_cons.mp h with rfl | h
    · exact .inr (Nat.le_refl _)
    · exact .inl h
  · rw [List.mem_singleton.mp h]
    refine ⟨List.mem_cons_of_mem _ x.off.1, x.off.2.1, fun y bb hy e' hc => ?_⟩
    exact absurd (r₁.freeN y bb e hy e' hc) (Nat.not_lt.mpr x.off.2.2.1)
  · rcases List.mem_cons.mp h with rfl | h
    · exact hTlt
    · exact r₂.lt a h
  · cases q
    exact ⟨List.mem_cons_self, fun hm => hTO (r.act.MO _ hm), hTn', Nat.le_trans hb hTn⟩
  · rw [Obj.cls_mapFields]; exact h2
  · rw [Array.size_setIfInBounds]; exact h4
  · rw [Array.getElem?_setIfInBounds_ne (by decide)]; exact h5
  · rw [Array.getElem?_setIfInBounds_self_of_lt (by omega)]
  · rcases hpl with rfl | ⟨_, _, _, _, _, _, _, rfl⟩ <;> simp
end
end Mine
end
section
open PySem PySem.Spec PySem.Calls PyProof.Rows PySem.W
set_option maxRecDepth 100000
namespace Mine
variable [Inhabited Base]
variable {K : Frag} {P : Addr} {G : Str → Option Value} {Λ : List Addr}
theorem GrowB.near {M N : List Addr} {s₀ s s' : Shared} (g : GrowB P M s₀ s) (g' : GrowB P N s s') (h : ∀ b ∈ N, b ∈ M ∨ s₀.heap.objs.size ≤ b) : GrowB P M s₀ s' :=
  ((g.less (N' := M ++ N) fun b hb => .inl (List.mem_append_left _ hb)).trans (g'.less fun b hb => .inl (List.mem_append_right _ hb))).less fun b hb => (List.mem_append.mp hb).elim .inl (h b)
noncomputable abbrev TB := Option (Addr × Value)
noncomputable def tbNew (t : TB) : Prop := t = none
noncomputable def tbIn (L : Addr) (t : TB) : Prop := ∃ T, t = some (T, rawInt L)
noncomputable def tbAny (L : Addr) (t : TB) : Prop := tbNew t ∨ tbIn L t
noncomputable def tbOut (t : TB) : Prop := ∃ T, t = some (T, .none)
noncomputable def tbHas (t : TB) : Prop := ∃ T f, t = some (T, f)
/-- an exception flies, or is held; the frame stands -/
structure Fly (K : Frag) (P : Addr) (G : Str → Option Value) (Λ : List Addr) (n : Nat) (M O : List Addr) (α : Str → Addr) (env : Env) (nm : NK) (ρ : En) (s₀ : Shared) (tp : TB → Prop) (cp : Value → Prop) (e : Addr) (O' : List Addr) (s : Shared) : Prop where
  g : GrowB P M s₀ s
  eO : Ext O O' s₀
  r : Run K P G Λ n M O' α env nm ρ s
  x : ∃ tb ctx, tp tb ∧ cp ctx ∧ Ex n s₀.heap.objs.size M O' s.heap e tb ctx
section
variable {prog : Program} {w : World} {n b k : Nat} {A : Around} {E : Value → Shared → Prop} {M O O' N : List Addr} {α : Str → Addr} {env : Env} {nm : NK} {ρ ρ' : En} {s₀ s s' : Shared} {tp tq : TB → Prop} {cp : Value → Prop} {e : Addr} {outer : List Env}

theorem Fly.imp (x : Fly K P G Λ n M O α env nm ρ s₀ tp cp e O' s) (h : ∀ t, tp t → tq t) : Fly K P G Λ n M O α env nm ρ s₀ tq cp e O' s :=
  ⟨x.g, x.eO, x.r, let ⟨tb, ctx, h1, h2, h3⟩ := x.x; ⟨tb, ctx, h _ h1, h2, h3⟩⟩
theorem Fly.impc {cq : Value → Prop} (x : Fly K P G Λ n M O α env nm ρ s₀ tp cp e O' s) (h : ∀ t, cp t → cq t) : Fly K P G Λ n M O α env nm ρ s₀ tp cq e O' s :=
  ⟨x.g, x.eO, x.r, let ⟨tb, ctx, h1, h2, h3⟩ := x.x; ⟨tb, ctx, h1, h _ h2, h3⟩⟩
theorem ex_flight {x y : Value} (f : FrmW K P Λ k A env nm n) (r : Run K P G Λ n M O' α env nm ρ s) {T : Addr} {ctx : Value} (h : Ex n b M O' s.heap e (some (T, x)) ctx) (fr : Option Addr) (hy : fr.elim Value.none (fun f => rawInt f) = y) {Q : Unit → Shared → Prop}
    (hQ : ∀ s', GrowB P [T] s s' → Run K P G Λ n M O' α env nm ρ s' → Ex n b M O' s'.heap e (some (T, y)) ctx → Q () s') : wpAny (model prog w) A (setFlight (.ref e) fr) Q E s := by
  obtain ⟨oe, vs, h1, h2, h3, h4, h5, h6, hTe, oT, ts, h7, h8, h9⟩ := h.at_
  have offT := h.offT T x rfl
  have hP : P ≠ T := fun q => absurd f.floor.p (Nat.not_lt.mpr (q ▸ offT.2.2.1))
  unfold setFlight
  refine wpAny_bind (wpAny_field h1 h3 h6 ?_)
  rw [if_pos (show (Value.ref T != Value.none) = true from by simp)]
  have h3lt : 3 < ts.size := (Array.getElem?_eq_some_iff.mp h9).1
  refine wpAny_setField h7 h8 h3lt ?_
  rw [hy]
  have g : GrowB P [T] s { s with heap := s.heap.update T (Obj.mapFields (·.setIfInBounds 3 y)) } := by
    refine GrowB.but (tk := s.toks) (fun c o hc ho => ?_) (fun q => hP (List.mem_singleton.mp q)) ?_
    · rw [Heap.get?_update_other _ _ (fun q => hc (List.mem_singleton.mpr q.symm))]; exact ho
    · rw [Heap.size_after_update]; exact Nat.le_refl _
  have hd := Obj.data_mapFields h8 (·.setIfInBounds 3 y)
  refine hQ _ g (r.keepB f.floor g (fun a h => by rw [List.mem_singleton.mp h]; exact offT.1) (fun a h => by rw [List.mem_singleton.mp h]; exact offT.2.1) (fun a h => by rw [List.mem_singleton.mp h]; exact offT.2.2.1)) ⟨h.off, fun T' fl q => by cases q; exact offT, oe, vs, ?_, h2, h3, h4, h5, h6, hTe, _, _, Heap.get?_update_self _ h7 (Obj.isFreed_of_fields hd), hd, ?_⟩
  · show (s.heap.update T _).get? e = _
    rw [Heap.get?_update_other _ _ hTe]; exact h1
  · rw [Array.getElem?_setIfInBounds_self_of_lt h3lt]

theorem Fly.flight (f : FrmW K P Λ k A env nm n) (x : Fly K P G Λ n M O α env nm ρ s₀ tbHas cp e O' s) (fr : Option Addr) (hq : ∀ T, tq (some (T, fr.elim Value.none (fun f => rawInt f)))) {Q : Unit → Shared → Prop}
    (hQ : ∀ s', Fly K P G Λ n M O α env nm ρ s₀ tq cp e O' s' → Q () s') : wpAny (model prog w) A (setFlight (.ref e) fr) Q E s := by
  obtain ⟨tb, ctx, ⟨T, fl, rfl⟩, hc, h⟩ := x.x
  exact ex_flight f x.r h fr rfl fun s' g r' h' => hQ s' ⟨x.g.near g fun b hb => by rw [List.mem_singleton.mp hb]; exact .inr (h.offT T fl rfl).2.2.2, x.eO, r', _, ctx, hq T, hc, h'⟩
theorem tbIn_has {L : Addr} {t : TB} (h : tbIn L t) : tbHas t := let ⟨T, e⟩ := h; ⟨T, _, e⟩
theorem tbOut_has {t : TB} (h : tbOut t) : tbHas t := let ⟨T, e⟩ := h; ⟨T, _, e⟩
theorem Fly.note (hfr : A.frames = some (env :: outer)) (hfl : env.frame = some env.locals) (f : FrmW K P Λ k A env nm n) (x : Fly K P G Λ n M O α env nm ρ s₀ (tbAny env.locals) cp e O' s) {Q : Unit → Shared → Prop}
    (hQ : ∀ s' O', Fly K P G Λ n M O α env nm ρ s₀ (tbIn env.locals) cp e O' s' → Q () s') : wpAny (model prog w) A (noteFrame (.ref e) env) Q E s := by
  obtain ⟨tb, ctx, ht, hc, h⟩ := x.x
  rcases ht with rfl | ⟨T, rfl⟩
  · refine note_sound hfr hfl f x.r h x.g.size fun s' T g hT r' h' => hQ s' (T :: O') ⟨x.g.near g fun b hb => by rw [List.mem_singleton.mp hb]; exact .inr h.off.2.2.2, x.eO.trans (Ext.cons hT) x.g.size, r', _, ctx, ⟨T, rfl⟩, hc, h'⟩
  · obtain ⟨oe, vs, h1, h2, h3, h4, h5, h6, hTe, oT, ts, h7, h8, h9⟩ := h.at_
    exact wpAny_noteFrame_inFlight hfl h1 h3 h6 h7 h8 h9 (hQ s O' ⟨x.g, x.eO, x.r, _, ctx, ⟨T, rfl⟩, hc, h⟩)
/-- behind a block or a loop of the frame's own -/
theorem Fly.noted (hfr : A.frames = some (env :: outer)) (hfl : env.frame = some env.locals) (f : FrmW K P Λ k A env nm n) (x : Fly K P G Λ n M O α env nm ρ s₀ (tbAny env.locals) cp e O' s)
    (hE : ∀ s' O', Fly K P G Λ n M O α env nm ρ s₀ (tbIn env.locals) cp e O' s' → E (.ref e) s') : notedBy (model prog w) A env E (.ref e) s := x.note hfr hfl f hE
theorem Fly.cameBack (hfl : env.frame = some env.locals) (f : FrmW K P Λ k A env nm n) (x : Fly K P G Λ n M O α env nm ρ s₀ tbHas cp e O' s)
    (hE : ∀ s', Fly K P G Λ n M O α env nm ρ s₀ (tbIn env.locals) cp e O' s' → E (.ref e) s') : cameBackBy (model prog w) A env E (.ref e) s := by
  obtain ⟨tb, ctx, ⟨T, fl, rfl⟩, hc, h⟩ := x.x
  obtain ⟨oe, vs, h1, h2, h3, h4, h5, h6, _⟩ := h.at_
  unfold cameBackBy
  refine wpAny_bind (wpAny_field h1 h3 h6 ?_)
  rw [if_neg (by simp)]
  rw [hfl]
  exact x.flight f (some env.locals) (fun T => ⟨T, rfl⟩) fun s' x' => hE s' x'
/-- passed on behind a finally -/
theorem Fly.passOn {α' : Type} {what : String} {Q : α' → Shared → Prop} (hfl : env.frame = some env.locals) (f : FrmW K P Λ k A env nm n) (x : Fly K P G Λ n M O α env nm ρ s₀ tbHas cp e O' s)
    (hE : ∀ s', Fly K P G Λ n M O α env nm ρ s₀ (tbIn env.locals) cp e O' s' → E (.ref e) s') : wpAny (model prog w) A (passOn what (.ref e) env : Sem α') Q E s := by
  obtain ⟨tb, ctx, ⟨T, fl, rfl⟩, hc, h⟩ := x.x
  obtain ⟨oe, vs, h1, h2, h3, h4, h5, h6, _⟩ := h.at_
  unfold PySem.passOn
  refine wpAny_bind (wpAny_field h1 h3 h6 ?_)
  rw [if_neg (by simp)]
  first
    | refine wpAny_bind (wpAny_pure ?_)
    | skip
  rw [hfl]
  exact wpAny_bind (x.flight f (some env.locals) (fun T => ⟨T, rfl⟩) fun s' x' => wpAny_throw (hE s' x'))
end
end Mine
end
section
open PySem PySem.Spec PySem.Calls PyProof.Rows PySem.W
set_option maxRecDepth 100000
namespace Mine
variable [Inhabited Base]
variable {K : Frag} {P : Addr} {G : Str → Option Value} {Λ : List Addr}
theorem wpAny_with_sizeE {α : Type} {M : Model} {A : Around} {s : Shared} {t : Sem α} {Q : α → Shared → Prop} {E : Value → Shared → Prop}
    (h : wpAny M A t Q (fun e s' => s.heap.objs.size ≤ s'.heap.objs.size → E e s') s) : wpAny M A t Q E s := by
  have key : wpAny M A t (fun a s' => s.heap.objs.size ≤ s'.heap.objs.size ∧ Q a s') (fun e s' => s.heap.objs.size ≤ s'.heap.objs.size ∧ (s.heap.objs.size ≤ s'.heap.objs.size → E e s')) s :=
    fun Γ p hΓ => wp_size M Γ s.heap.objs.size t _ _ p s (Nat.le_refl _) (h Γ p hΓ)
  exact wpAny_mono key (fun _ _ x => x.2) fun _ _ x => x.2 x.1
/-- names alone -/
noncomputable def recN (_ : NK) (ρ : En) (e : Expr) : Option PyData := match e with
  | .Name x _ => match getB ρ x with
    | some (.val d) => some d
    | _ => none
  | _ => none
section
variable {prog : Program} {w : World} {n b k : Nat} {A : Around} {E : Value → Shared → Prop} {M O O' N : List Addr} {α : Str → Addr} {env : Env} {nm : NK} {ρ ρ' : En} {s₀ s s' : Shared} {e : Addr} {outer : List Env}
theorem recN_sound : ESound prog w K P G k recN := by
  intro nm ρ e d h Λ A O env s Q E H hQ
  unfold recN at h
  split at h
  · rename_i x p
    split at h
    · rename_i d' hb
      cases h
      obtain ⟨v, hl, hr⟩ := H.sees x _ hb
      exact load_sound H.toHereW hl (hQ v s Grow.refl hr)
    · cases h
  · cases h

theorem load_val (f : FrmW K P Λ k A env nm n) (r : Run K P G Λ n M O α env nm ρ s) {x : Str} {d : PyData} {p : Pos} (hx : getB ρ x = some (.val d)) {Q : Value → Shared → Prop} (hQ : ∀ v, Rep O s.heap d v → Q v s) : wpAny (model prog w) A (eval (.Name x p) env) Q E s := by
  obtain ⟨v, hl, hr⟩ := r.act.load f.names hx
  exact load_sound (r.hereW f) hl (hQ v hr)
theorem itemF_nat {zs : List PyData} {i : Nat} {d : PyData} (h : zs[i]? = some d) (hi : i ≤ 100000) : itemF (.list zs) (.int (Int.ofNat i)) = some d := by
  have hlt : i < zs.length := (List.getElem?_eq_some_iff.mp h).1
  have h1 : smallInt (Int.ofNat i) = true := Nat.ble_eq_true_of_le (by show i ≤ 4294967296; omega)
  have h2 : placeF (Int.ofNat i) zs.length = some i := by
    show (match Nat.blt i zs.length with | true => some i | false => none) = some i
    have : Nat.blt i zs.length = true := by simpa [Nat.blt_eq] using hlt
    rw [this]
  show (match smallInt (Int.ofNat i) with
    | true => (match placeF (Int.ofNat i) zs.length with
      | some j => zs[j]?
      | none => none)
    | false => none) = some d
  rw [h1, h2]; exact h
theorem item_in (f : FrmW K P Λ k A env nm n) (r : Run K P G Λ n M O α env nm ρ s) {X kk : Str} {zs : List PyData} {i : Nat} {d : PyData} {pX pk pp : Pos} (hX : getB ρ X = some (.val (.list zs))) (hk : getB ρ kk = some (.val (.int (Int.ofNat i)))) (hi : i ≤ 100000) (hz : zs[i]? = some d) {Q : Value → Shared → Prop}
    (hQ : ∀ v s', Grow P s s' → Rep O s'.heap d v → Q v s') : wpAny (model prog w) A (eval (.Subscript (.Name X pX) (.Name kk pk) pp) env) Q E s :=
  Subscript_ (load_val f r hX fun v rv => load_val f r hk fun u ru => item_tail r.hP (itemF_nat hz hi) (.inl rv) ru hQ)
theorem item_oob (f : FrmW K P Λ k A env nm n) (r : Run K P G Λ n M O α env nm ρ s) (wm : Warm A s) {X kk : Str} {zs : List PyData} {i : Nat} {pX pk pp : Pos} (hX : getB ρ X = some (.val (.list zs))) (hk : getB ρ kk = some (.val (.int (Int.ofNat i)))) (hi : i ≤ 100000) (hz : zs.length ≤ i) {Q : Value → Shared → Prop}
    (hE : ∀ e O' s', Grow P s s' → Fly K P G Λ n M O α env nm ρ s tbNew (fun c => A.handled = none → c = .none) e O' s' → E (.ref e) s') : wpAny (model prog w) A (eval (.Subscript (.Name X pX) (.Name kk pk) pp) env) Q E s := by
  refine Subscript_ (load_val f r hX fun v rv => load_val f r hk fun u ru => ?_)
  obtain ⟨t, rfl⟩ := ru.int_inv
  obtain ⟨a, vs, rfl, _, hl, hr⟩ := rv.list_inv
  have hlen := hr.length
  simp only [Array.length_toList] at hlen
  refine tail_sound hl.typeIs PySem.slot_list_getitem.lookup (wpAny_with_toks (Nat.le_refl _) (wpAny_with_sizeE (getItem_out wm hl (by rw [hlen]; exact Int.ofNat_le.mpr hz) (fits_nat hi) fun h' tk e x => ?_)))
  intro hsz htk
  obtain ⟨g, r', ctx, hc, hx⟩ := r.raised f x htk hsz
  refine hE e (e :: O) _ g ⟨GrowB.of g, ⟨fun a h => List.mem_cons_of_mem _ h, fun a h => ?_⟩, r', none, ctx, rfl, hc, hx⟩
  rcases List.mem_cons.mp h with rfl | h
  · exact .inr hx.off.2.2.2
  · exact .inl h

/-- x = X[k] -/
theorem asg_in (f : FrmW K P Λ k A env nm n) (r : Run K P G Λ n M O α env nm ρ s) {x X kk : Str} {zs : List PyData} {i : Nat} {d : PyData} {px pX pk pp sp : Pos} (hX : getB ρ X = some (.val (.list zs))) (hk : getB ρ kk = some (.val (.int (Int.ofNat i)))) (hi : i ≤ 100000) (hz : zs[i]? = some d) (hs : storeB nm ρ x (.val d) = some ρ') {Q : Flow → Shared → Prop}
    (hQ : ∀ s', GrowB P M s s' → Run K P G Λ n M O α env nm ρ' s' → Q .next s') : wpAny (model prog w) A (exec (.Assign [.Name x px] (.Subscript (.Name X pX) (.Name kk pk) pp) sp) env) Q E s :=
  wpAny_Assign_Name (item_in f r hX hk hi hz fun v s₁ g rv => store_val f hs (r.grow g) rv fun s₂ g₂ r₂ => hQ s₂ ((GrowB.of g).trans g₂) r₂) (swaps_plain rfl)
theorem asg_out (f : FrmW K P Λ k A env nm n) (r : Run K P G Λ n M O α env nm ρ s) (wm : Warm A s) {x X kk : Str} {zs : List PyData} {i : Nat} {px pX pk pp sp : Pos} (hX : getB ρ X = some (.val (.list zs))) (hk : getB ρ kk = some (.val (.int (Int.ofNat i)))) (hi : i ≤ 100000) (hz : zs.length ≤ i) {Q : Flow → Shared → Prop}
    (hE : ∀ e O' s', Grow P s s' → Fly K P G Λ n M O α env nm ρ s tbNew (fun c => A.handled = none → c = .none) e O' s' → E (.ref e) s') : wpAny (model prog w) A (exec (.Assign [.Name x px] (.Subscript (.Name X pX) (.Name kk pk) pp) sp) env) Q E s :=
  wpAny_Assign_Name (item_oob f r wm hX hk hi hz hE) (swaps_plain rfl)
/-- k += 1 -/
theorem incr (f : FrmW K P Λ k A env nm n) (r : Run K P G Λ n M O α env nm ρ s) {kk : Str} {i : Nat} {c : Nat} {pk pc sp : Pos} (hk : getB ρ kk = some (.val (.int (Int.ofNat i)))) (hs : storeB nm ρ kk (.val (.int (Int.ofNat (i + 1)))) = some ρ') {Q : Flow → Shared → Prop}
    (hQ : ∀ s', GrowB P M s s' → Run K P G Λ n M O α env nm ρ' s' → Q .next s') : wpAny (model prog w) A (exec (.AugAssign (.Name kk pk) .Add (.Constant (.int 1) c pc) sp) env) Q E s := by
  obtain ⟨va, hl, hb⟩ := r.act.load f.names hk
  obtain ⟨t, rfl⟩ := Rep.int_inv (O := O) (h := s.heap) hb
  have ld : ∀ {Q' : Value → Shared → Prop}, Q' (.int (Int.ofNat i) t) s → wpAny (model prog w) A (loadName env kk) Q' E s := by
    intro Q' hq
    have H := r.hereW f
    rcases hl with ⟨h1, _, mm, h3, h4⟩ | ⟨h1, c, h2, _, h4⟩
    · exact wpAny_loadName_local f.kind h1 h3 h4 hq
    · rcases h1 with h1 | h1
      · exact wpAny_loadName_cell f.kind h1 h2 h4 hq
      · exact wpAny_loadName_free f.kind h1 h2 h4 hq (namesOk_of H.nok (H.kindBack h1).choose_spec).2
  refine wpAny_AugAssign_Name (ld (constF_sound (O := O) (P := P) (d := .int 1) rfl fun v s₁ g₁ r₁ => ?_))
  obtain ⟨u, rfl⟩ := r₁.int_inv
  refine PySem.P.iadd_int (store_val f hs (r.grow (g₁.trans (Grow.toks _))) Rep.int' fun s₂ g₂ r₂ => hQ _ ((GrowB.of (g₁.trans (Grow.toks _))).trans g₂) r₂)
end
end Mine
end
section
open PySem PySem.Spec PySem.Calls PyProof.Rows PySem.W
set_option maxRecDepth 100000
namespace Mine
variable [Inhabited Base]
variable {K : Frag} {P : Addr} {G : Str → Option Value} {Λ : List Addr}
section
variable {prog : Program} {w : World} {n b k : Nat} {A : Around} {E : Value → Shared → Prop} {M O O' N : List Addr} {α : Str → Addr} {env : Env} {nm : NK} {ρ ρ' : En} {s₀ s s' : Shared} {e : Addr} {outer : List Env}

/-- e < a, e > a -/
theorem cmpNames (f : FrmW K P Λ k A env nm n) (r : Run K P G Λ n M O α env nm ρ s) {x y : Str} {d1 d2 : PyData} {op : CmpOp} {c : Bool} {px py pp : Pos} (hx : getB ρ x = some (.val d1)) (hy : getB ρ y = some (.val d2)) (hc : cmpF op d1 d2 = some c) {Q : Bool → Shared → Prop} (hQ : Q c s) :
    wpAny (model prog w) A (isTrue (.Compare (.Name x px) [op] [.Name y py] pp) env (eval (.Compare (.Name x px) [op] [.Name y py] pp) env)) Q E s :=
  wpAny_isTrue_Compare1 (load_val f r hx fun v rv => load_val f r hy fun u ru => cmpF_sound (O := O) f.roomW hc rv ru (wpAny_truthy_bool hQ)) (noSet_marks rfl)

/-- while X[k] == y: it does not turn -/
theorem wh_stop (f : FrmW K P Λ k A env nm n) (r : Run K P G Λ n M O α env nm ρ s) {X kk y : Str} {zs : List PyData} {i : Nat} {z1 z2 : Str} {pX pk pp py pc sp : Pos} {body : List Stmt} (hX : getB ρ X = some (.val (.list zs))) (hk : getB ρ kk = some (.val (.int (Int.ofNat i)))) (hi : i ≤ 100000) (hz : zs[i]? = some (.str z1))
    (hy : getB ρ y = some (.val (.str z2))) (hc : z1 ≠ z2) {Q : Flow → Shared → Prop} (hQ : ∀ s', Grow P s s' → Q .next s') :
    wpAny (model prog w) A (exec (.While (.Compare (.Subscript (.Name X pX) (.Name kk pk) pp) [.Eq] [.Name y py] pc) body [] sp) env) Q E s := by
  refine wpAny_While (codeAny_whileLoop (fun _ s' => s' = s) ?_ 0 rfl)
  rintro m s' rfl
  refine wpAny_isTrue_Compare1 (item_in f r hX hk hi hz fun v s₁ g rv => load_val f (r.grow g) hy fun u ru => ?_) (noSet_marks rfl)
  obtain ⟨t1, rfl⟩ := rv.str_inv
  obtain ⟨t2, rfl⟩ := ru.str_inv
  refine eq_str (wpAny_truthy_bool ?_)
  rw [show (z1 == z2) = false by simpa using hc]
  simp only [Bool.false_eq_true, if_false]
  exact wpAny_execs_nil (hQ _ g)
theorem wh_out (hfr : A.frames = some (env :: outer)) (hfl : env.frame = some env.locals) (f : FrmW K P Λ k A env nm n) (r : Run K P G Λ n M O α env nm ρ s) (wm : Warm A s) {X kk y : Str} {zs : List PyData} {i : Nat} {pX pk pp py pc sp : Pos} {body : List Stmt} (hX : getB ρ X = some (.val (.list zs))) (hk : getB ρ kk = some (.val (.int (Int.ofNat i)))) (hi : i ≤ 100000) (hz : zs.length ≤ i)
    {Q : Flow → Shared → Prop} (hE : ∀ e O' s', GrowB P M s s' → Fly K P G Λ n M O α env nm ρ s (tbAny env.locals) (fun c => A.handled = none → c = .none) e O' s' → E (.ref e) s') :
    wpAny (model prog w) A (exec (.While (.Compare (.Subscript (.Name X pX) (.Name kk pk) pp) [.Eq] [.Name y py] pc) body [] sp) env) Q E s := by
  refine wpAny_While (codeAny_whileLoop (fun _ s' => s' = s) ?_ 0 rfl)
  rintro m s' rfl
  refine wpAny_isTrue_Compare1 (item_oob f r wm hX hk hi hz fun e O' s₁ g x => ?_) (noSet_marks rfl)
  refine (x.imp fun t h => .inl h).noted hfr hfl f fun s₂ O₂ x₂ => ?_
  exact (x₂.imp fun t => tbIn_has).cameBack hfl f fun s₃ x₃ => hE e O₂ s₃ x₃.g (x₃.imp fun t h => .inr h)

theorem slicePick_drop (items : Array Value) (k : Nat) : slicePick items (some (k : Int)) none none = (items.toList.drop k).toArray := by
  have e : slicePick items (some (k : Int)) none none = slicePick items (some ((min k items.size : Nat) : Int)) (some ((items.size : Nat) : Int)) none := by
    have e1 : sliceBounds (some (k : Int)) none none items.size = sliceBounds (some ((min k items.size : Nat) : Int)) (some ((items.size : Nat) : Int)) none items.size := by
      have h1 : ¬ ((k : Int) < 0) := by omega
      have h2 : ¬ (((min k items.size : Nat) : Int) < 0) := by omega
      have h4 : ¬ (((items.size : Nat) : Int) < 0) := by omega
      have h3 : (1 : Int) > 0 := by decide
      simp only [sliceBounds, Option.getD_none, h1, h2, h3, h4, if_true, if_false, Prod.mk.injEq, and_true]
      refine ⟨?_, ?_⟩
      · omega
      · first | rfl | (simp; done) | omega
    unfold slicePick
    rw [e1]
  rw [e, slicePick_run items (min k items.size) items.size (Nat.le_refl _) (Nat.min_le_right _ _)]
  congr 1
  have hl : items.toList.length = items.size := by simp
  rw [Nat.min_def]
  split
  · rw [List.take_of_length_le (by rw [List.length_drop]; omega)]
  · rename_i h
    rw [List.drop_eq_nil_of_le (by omega), List.drop_eq_nil_of_le (by omega)]
    simp
theorem Reps.drop {h : Heap} : ∀ {ds : List PyData} {vs : List Value} (n : Nat), Reps O h ds vs → Reps O h (ds.drop n) (vs.drop n)
  | _, _, 0, x => by simpa using x
  | [], vs, n + 1, x => by unfold Reps at x; subst x; simpa using Reps.nil
  | d :: ds, vs, n + 1, x => by
    unfold Reps at x
    obtain ⟨v, r, rfl, h1, h2⟩ := x
    simpa using Reps.drop n h2

/-- m.extend(X[k:]) -/
theorem extend_tail (f : FrmW K P Λ k A env nm n) (r : Run K P G Λ n M O α env nm ρ s) {m X kk : Str} {ms zs : List PyData} {i : Nat} {pm pX pk pp ap ep sp slp : Pos} (hl : lineEq ap ep = true) (hm : getB ρ m = some (.own ms)) (hX : getB ρ X = some (.val (.list zs))) (hk : getB ρ kk = some (.val (.int (Int.ofNat i)))) (hms : ms.length ≤ 1000) (hzs : zs.length ≤ 1000)
    {Q : Flow → Shared → Prop} (hQ : ∀ s', GrowB P M s s' → Run K P G Λ n M O α env nm (putB ρ m (.own (ms ++ zs.drop i))) s' → Q .next s') :
    wpAny (model prog w) A (exec (.Expr (.Call (.Attribute (.Name m pm) "extend" ap) [.Subscript (.Name X pX) (.Slice (some (.Name kk pk)) none none slp) pp] [] ep) sp) env) Q E s := by
  obtain ⟨v, hv, hb⟩ := r.act.load f.names hm
  obtain ⟨rfl, vs, ⟨c, hpl⟩, hrs⟩ := hb
  have hpl2 := starEach_plain (env := env) (pos := ep) (es := [.Subscript (.Name X pX) (.Slice (some (.Name kk pk)) none none slp) pp]) (fun y hy => by rw [List.mem_singleton.mp hy]; rfl)
  refine wpAny_Expr ?_ (by unfold interactive; rw [f.kind]; rfl) (swaps_plain rfl)
  refine wpAny_Call_method_lateS (plainBase_eq rfl) ?_ (beq_iff_eq.mpr (Nat.eq_of_beq_eq_true hl)) (load_sound (r.hereW f) hv ?_)
  · simp only [Bool.and_eq_true, decide_eq_true_eq]
    refine ⟨⟨?_, rfl⟩, by simp⟩
    rw [List.all_eq_true]
    intro y hy
    have := List.any_eq_false.mp hpl2 y hy
    simpa using this
  · refine ⟨"list", "list.extend", F.plainAttrs_list, F.slot_list_extend, F.type_list_extend, ⟨_, hpl, rfl⟩, fun a ea => by cases ea; exact ⟨_, hpl, rfl⟩, ?_⟩
    refine Calls.callWith_builtin hpl2 ?_
    rw [starEach_cons rfl]
    refine evalArgs_plain (spliced_cons (Subscript_ (load_val f r hX fun lv rl => wpAny_Slice ?_)))
    show wpAny (model prog w) A (eval (.Name kk pk) env) _ E s
    refine load_val f r hk fun iv ri => ?_
    obtain ⟨t, rfl⟩ := ri.int_inv
    refine wpAny_pure (wpAny_pure ?_)
    obtain ⟨a, zv, rfl, haO, hlz, hrz⟩ := rl.list_inv
    have hzlen := hrz.length
    simp only [Array.length_toList] at hzlen
    have g₁ : Grow P s { s with heap := s.heap.push { cls := .type "slice", data := .fields #[.int (Int.ofNat i) t, .none, .none] } } := Grow.push
    have hlz₁ : (s.heap.push { cls := .type "slice", data := .fields #[.int (Int.ofNat i) t, .none, .none] }).IsList a zv := isList_at hlz fun o _ e => Heap.get?_push_of_some _ e
    refine tail_sound hlz₁.typeIs PySem.slot_list_getitem.lookup (wpAny_getItem_list_slice hlz₁ (Heap.IsSliceOf.new _ _ _ _) (.int _ _) .none .none (by intro e; cases e) ?_ (by rw [line_big, hzlen]; omega))
    refine spliced_nil ?_
    have g₂ : Grow P { s with heap := s.heap.push { cls := .type "slice", data := .fields #[.int (Int.ofNat i) t, .none, .none] } } { s with heap := (s.heap.push { cls := .type "slice", data := .fields #[.int (Int.ofNat i) t, .none, .none] }).push { cls := .type "list", data := .seq (slicePick zv (some (Int.ofNat i)) none none) } } :=
      Grow.push (s := { s with heap := s.heap.push { cls := .type "slice", data := .fields #[.int (Int.ofNat i) t, .none, .none] } })
    have g := g₁.trans g₂
    have hM := (r.act.own m ms hm).1
    have hαP : α m ≠ P := fun q => r.act.MP (q ▸ hM)
    have hp₂ := g.keep _ _ hαP (Firm.of (notD_seq rfl)) hpl
    have hnew := Heap.get?_push_size (s.heap.push { cls := .type "slice", data := .fields #[.int (Int.ofNat i) t, .none, .none] }) (o := { cls := .type "list", data := .seq (slicePick zv (some (Int.ofNat i)) none none) }) rfl
    have hvs : vs.size = ms.length := by have := hrs.length; simpa using this
    have hpick : slicePick zv (some (Int.ofNat i)) none none = (zv.toList.drop i).toArray := slicePick_drop zv i
    have hpsz : (slicePick zv (some (Int.ofNat i)) none none).size ≤ 1000 := by rw [hpick, List.size_toArray, List.length_drop, Array.length_toList]; omega
    have hline : vs.size + (slicePick zv (some (Int.ofNat i)) none none).size ≤ sizeLine := by rw [line_big]; omega
    refine call_meets PySem.F.slot_list_extend ⟨_, hp₂, rfl⟩ PySem.F.entry_list_extend (PySem.F.args_list_extend_2 _ _) (AutoSeq1.list_extend_list_list_0 (α m) vs c _ _ _ (extend_door hline) (Nat.le_trans (Nat.le_add_right _ _) hline)) ⟨hp₂, hnew, ?_⟩
    have hu := Heap.get?_update_self (Obj.mapSeq fun x => x ++ slicePick zv (some (Int.ofNat i)) none none) hp₂ (by rw [mapSeq_app]; rfl)
    rw [mapSeq_app] at hu
    have R := (r.grow g).ownSet f (tk := s.toks) hm (Heap.SameBut.update ..) ⟨_, hu⟩ (ys := ms ++ zs.drop i) (by
      have hpl' : (slicePick zv (some (Int.ofNat i)) none none).toList = zv.toList.drop i := by rw [hpick]
      rw [Array.toList_append, hpl']
      exact Reps.append (Reps.grow r.hP g hrs) (Reps.drop i (Reps.grow r.hP g hrz)))
    exact hQ _ ((GrowB.of g).trans R.1) R.2
end
end Mine
end
section
open PySem PySem.Spec PySem.Calls PyProof.Rows PySem.W
set_option maxRecDepth 100000
namespace Mine
noncomputable abbrev pw := PySem.Challenge.pw_in0156_01
noncomputable def addO (Φ : Orc) (f : Str) (sp : List PyData → Option PyData) : Orc := fun g ds => match nameEq g f with
  | true => sp ds
  | false => Φ g ds
/-- what a def's evaluation owes to what is said of it -/
noncomputable def Says (Φ : Orc) (f : Str) (sp : List PyData → Option PyData) : Prop := ∀ ds d, sp ds = some d → callF Φ pw f ds = some d

noncomputable def spAnd : List PyData → Option PyData | [a, b] => binF .BitAnd a b | _ => none
noncomputable def spOr : List PyData → Option PyData | [a, b] => binF .BitOr a b | _ => none
noncomputable def spLsh : List PyData → Option PyData | [a, b] => binF .LShift a b | _ => none
noncomputable def spRsh : List PyData → Option PyData | [a, b] => binF .RShift a b | _ => none
noncomputable def spEq : List PyData → Option PyData | [a, b] => (match cmpF .Eq a b with | some c => some (.bool c) | none => none) | _ => none
noncomputable def back (x : Option PyData) : Option PyData := match (match (match x with | some d => some (Fl.ret d) | none => none) with | some (.next ρ') => some (Fl.next ρ') | y => y) with
  | some (.ret d) => some d
  | some (.next _) => some .none
  | _ => none
theorem back_some (d : PyData) : back (some d) = some d := rfl
section
variable (Φ : Orc)
theorem and_says : Says Φ "and_" spAnd := by
  intro ds d h
  unfold spAnd at h
  split at h
  · rename_i a b
    have e : callF Φ pw "and_" [a, b] = back (binF .BitAnd a b) := by kernel_rfl
    rw [e, h]; rfl
  · cases h
theorem or_says : Says Φ "or_" spOr := by
  intro ds d h
  unfold spOr at h
  split at h
  · rename_i a b
    have e : callF Φ pw "or_" [a, b] = back (binF .BitOr a b) := by kernel_rfl
    rw [e, h]; rfl
  · cases h
theorem lsh_says : Says Φ "lshift" spLsh := by
  intro ds d h
  unfold spLsh at h
  split at h
  · rename_i a b
    have e : callF Φ pw "lshift" [a, b] = back (binF .LShift a b) := by kernel_rfl
    rw [e, h]; rfl
  · cases h
theorem rsh_says : Says Φ "rshift" spRsh := by
  intro ds d h
  unfold spRsh at h
  split at h
  · rename_i a b
    have e : callF Φ pw "rshift" [a, b] = back (binF .RShift a b) := by kernel_rfl
    rw [e, h]; rfl
  · cases h
theorem eq_says : Says Φ "eq" spEq := by
  intro ds d h
  unfold spEq at h
  split at h
  · rename_i a b
    have e : callF Φ pw "eq" [a, b] = back (match cmpF .Eq a b with | some c => some (.bool c) | none => none) := by kernel_rfl
    rw [e, h]; rfl
  · cases h
end
end Mine
end
section
open PySem PySem.Spec PySem.Calls PyProof.Rows PySem.W
set_option maxRecDepth 100000
namespace Mine
section
variable {rec : NK → En → Expr → Option PyData} {xs : NK → En → List Stmt → Option Fl} {nm : NK} {ρ ρ' ρ'' : En} {Φ : Orc}
/-- a comprehension's turns, where each item tells its test and what it gives -/
theorem pturns_filter {t : Expr} {ifs : List Expr} {inner : En → Option (List PyData)} {p : PyData → Bool} {g : PyData → List PyData} : ∀ {items : List PyData},
    (∀ d ∈ items, ∃ ρ', bindTo nm ρ t d = some ρ' ∧ ptests rec nm ρ' ifs = some (p d) ∧ (p d = true → inner ρ' = some (g d))) → pturns rec nm ρ t ifs inner items = some ((items.filter p).flatMap g)
  | [], _ => rfl
  | d :: r, h => by
    obtain ⟨ρ', h1, h2, h3⟩ := h d List.mem_cons_self
    have ih := pturns_filter (items := r) fun x hx => h x (List.mem_cons_of_mem _ hx)
    unfold pturns
    rw [h1]
    dsimp only
    rw [h2]
    cases hp : p d with
    | true =>
      dsimp only
      rw [h3 hp]
      dsimp only
      rw [ih, List.filter_cons_of_pos hp]
      rfl
    | false =>
      dsimp only
      rw [ih, List.filter_cons_of_neg (by rw [hp]; decide)]
theorem pfor_next {t : Expr} {body : List Stmt} {d : PyData} {r : List PyData} (h1 : bindTo nm ρ t d = some ρ') (h2 : xs nm ρ' body = some (.next ρ'')) : pfor xs nm t body (d :: r) ρ = pfor xs nm t body r ρ'' := by
  rw [pfor, h1]; dsimp only; rw [h2]
theorem pfor_ret {t : Expr} {body : List Stmt} {d v : PyData} {r : List PyData} (h1 : bindTo nm ρ t d = some ρ') (h2 : xs nm ρ' body = some (.ret v)) : pfor xs nm t body (d :: r) ρ = some (.ret v) := by
  rw [pfor, h1]; dsimp only; rw [h2]
/-- a loop that is never left early -/
noncomputable def pforN (xs : NK → En → List Stmt → Option Fl) (nm : NK) (t : Expr) (body : List Stmt) : List PyData → En → Option En
  | [], ρ => some ρ
  | d :: r, ρ => match bindTo nm ρ t d with
    | some ρ' => match xs nm ρ' body with
      | some (.next ρ'') => pforN xs nm t body r ρ''
      | _ => none
    | none => none
theorem pforN_append {t : Expr} {body : List Stmt} : ∀ {l r : List PyData} {ρ : En}, pforN xs nm t body l ρ = some ρ' → pfor xs nm t body (l ++ r) ρ = pfor xs nm t body r ρ'
  | [], r, ρ, h => by cases h; rfl
  | d :: l, r, ρ, h => by
    rw [List.cons_append]
    rw [pforN] at h
    split at h
    · rename_i ρ₁ hb
      split at h
      · rename_i ρ₂ hx
        rw [pfor_next hb hx]
        exact pforN_append h
      · cases h
    · cases h
theorem pforN_done {t : Expr} {body : List Stmt} {l : List PyData} (h : pforN xs nm t body l ρ = some ρ') : pfor xs nm t body l ρ = some (.next ρ') := by
  have := pforN_append (r := []) h
  rw [List.append_nil] at this
  rw [this]; rfl
theorem pwhile_true {t : Expr} {body : List Stmt} {n : Nat} (h1 : ptest rec nm ρ 6 t = some true) (h2 : xs nm ρ body = some (.next ρ')) : pwhile rec xs nm t body (n + 1) ρ = pwhile rec xs nm t body n ρ' := by
  rw [pwhile, h1]; dsimp only; rw [h2]
theorem pwhile_false {t : Expr} {body : List Stmt} {n : Nat} (h1 : ptest rec nm ρ 6 t = some false) : pwhile rec xs nm t body (n + 1) ρ = some (.next ρ) := by
  rw [pwhile, h1]
theorem pexec_if {t : Expr} {b o : List Stmt} {p : Pos} {n : Nat} {c : Bool} (h : ptest (pev Φ 12) nm ρ 6 t = some c) :
    pexec Φ (n + 1) nm ρ (.If t b o p) = if c = true then pexecs (pexec Φ n) nm ρ b else pexecs (pexec Φ n) nm ρ o := by
  show pifS (pev Φ 12) (fun nm ρ b => pexecs (pexec Φ n) nm ρ b) nm ρ t b o = _
  unfold pifS
  rw [h]
  cases c <;> rfl
theorem pexecs_next {one : NK → En → Stmt → Option Fl} {st : Stmt} {r : List Stmt} (h : one nm ρ st = some (.next ρ')) : pexecs one nm ρ (st :: r) = pexecs one nm ρ' r := by
  rw [pexecs, h]
theorem pexecs_ret {one : NK → En → Stmt → Option Fl} {st : Stmt} {r : List Stmt} {v : PyData} (h : one nm ρ st = some (.ret v)) : pexecs one nm ρ (st :: r) = some (.ret v) := by
  rw [pexecs, h]
theorem pexecs_app {one : NK → En → Stmt → Option Fl} : ∀ {l r : List Stmt} {ρ : En}, pexecs one nm ρ l = some (.next ρ') → pexecs one nm ρ (l ++ r) = pexecs one nm ρ' r
  | [], r, ρ, h => by rw [pexecs] at h; cases h; rfl
  | st :: l, r, ρ, h => by
    rw [pexecs] at h
    rw [List.cons_append]
    split at h
    · rename_i ρ₁ h1
      rw [pexecs_next h1]
      exact pexecs_app h
    · rename_i hne
      exact absurd h (hne ρ')
/-- one def's answer told beforehand -/
noncomputable def setO (Φ : Orc) (f : Str) (r : Option PyData) : Orc := fun g ds => match nameEq g f with
  | true => r
  | false => Φ g ds
end

/-- parts of the program, by place -/
noncomputable def bodyOf (f : Str) : List Stmt := match pw.theDef f with
  | some (_, b, _) => b
  | none => []
noncomputable def namesOf (f : Str) : NK := match pw.theDef f with
  | some (_, _, s) => s.names
  | none => []
noncomputable def paramsOf (f : Str) : List Str := match pw.theDef f with
  | some (a, _, _) => params a
  | none => []
noncomputable def nth : List Stmt → Nat → Stmt
  | [], _ => .Pass ⟨0, 0, 0, 0⟩
  | s :: _, 0 => s
  | _ :: r, n + 1 => nth r n
noncomputable def forT : Stmt → Expr | .For t _ _ _ _ => t | _ => .Name "" ⟨0, 0, 0, 0⟩
noncomputable def forI : Stmt → Expr | .For _ i _ _ _ => i | _ => .Name "" ⟨0, 0, 0, 0⟩
noncomputable def forB : Stmt → List Stmt | .For _ _ b _ _ => b | _ => []
noncomputable def ifT : Stmt → Expr | .If t _ _ _ => t | _ => .Name "" ⟨0, 0, 0, 0⟩
noncomputable def ifB : Stmt → List Stmt | .If _ b _ _ => b | _ => []
noncomputable def ifO : Stmt → List Stmt | .If _ _ o _ => o | _ => []
noncomputable def whT : Stmt → Expr | .While t _ _ _ => t | _ => .Name "" ⟨0, 0, 0, 0⟩
noncomputable def whB : Stmt → List Stmt | .While _ b _ _ => b | _ => []
noncomputable def appE : Stmt → Expr | .Expr (.Call _ [e] _ _) _ => e | _ => .Name "" ⟨0, 0, 0, 0⟩
noncomputable def appN : Stmt → Str | .Expr (.Call (.Attribute (.Name x _) _ _) _ _ _) _ => x | _ => ""
noncomputable def appP : Stmt → Nat → Pos | .Expr (.Call (.Attribute (.Name _ p) _ _) _ _ _) _, 0 => p | .Expr (.Call (.Attribute _ _ p) _ _ _) _, 1 => p | .Expr (.Call _ _ _ p) _, 2 => p | .Expr _ p, _ => p | _, _ => ⟨0, 0, 0, 0⟩
noncomputable def callA : Expr → Nat → Expr | .Call _ as _ _, n => (as.drop n).head? |>.getD (.Name "" ⟨0, 0, 0, 0⟩) | _, _ => .Name "" ⟨0, 0, 0, 0⟩
noncomputable def callQ : Expr → Pos | .Call _ _ _ p => p | _ => ⟨0, 0, 0, 0⟩
noncomputable def fnP : Expr → Pos | .Call (.Name _ p) _ _ _ => p | .Call (.Attribute _ _ p) _ _ _ => p | _ => ⟨0, 0, 0, 0⟩
noncomputable def methO : Expr → Expr | .Call (.Attribute o _ _) _ _ _ => o | _ => .Name "" ⟨0, 0, 0, 0⟩
noncomputable def tupE : Expr → Nat → Expr | .Tuple as _ _, n => (as.drop n).head? |>.getD (.Name "" ⟨0, 0, 0, 0⟩) | .List as _, n => (as.drop n).head? |>.getD (.Name "" ⟨0, 0, 0, 0⟩) | _, _ => .Name "" ⟨0, 0, 0, 0⟩
noncomputable def tupK : Expr → Nat | .Tuple _ k _ => k | _ => 0
noncomputable def exP : Expr → Pos | .Tuple _ _ p => p | .List _ p => p | .Compare _ _ _ p => p | .ListComp _ _ _ p => p | .BoolOp _ _ p => p | .BinOp _ _ _ p => p | _ => ⟨0, 0, 0, 0⟩
section
variable {rec : NK → En → Expr → Option PyData} {nm : NK} {ρ : En} {Φ : Orc}
theorem pevs_one {a : Expr} {d : PyData} (h : rec nm ρ a = some d) (n1 : noStar a = true) : pevs rec nm ρ [a] = some [d] := by
  rw [pevs, n1]; dsimp only; rw [h]; rfl
theorem pevs_two {a b : Expr} {d e : PyData} (h1 : rec nm ρ a = some d) (h2 : rec nm ρ b = some e) (n1 : noStar a = true) (n2 : noStar b = true) : pevs rec nm ρ [a, b] = some [d, e] := by
  rw [pevs, n1]; dsimp only; rw [h1, pevs_one h2 n2]
theorem pev_call {n : Nat} {f : Str} {p q : Pos} {args : List Expr} {ds : List PyData} (hb : getB ρ f = none) (hk : getK nm f = some .globalImplicit) (hl : (nameEq f "len" || nameEq f "indexOf") = false) (ha : pevs (pev Φ n) nm ρ args = some ds) (hn : Nat.ble args.length 10 = true) :
    pev Φ (n + 1) nm ρ (.Call (.Name f p) args [] q) = Φ f ds := by
  rw [Bool.or_eq_false_iff] at hl
  show onT (isNone? (getB ρ f) && isGlob (getK nm f)) (pcallN Φ (pev Φ n) nm ρ f args) = _
  rw [hb, hk]
  show pcallN Φ (pev Φ n) nm ρ f args = _
  unfold pcallN lenArg
  rw [hl.1]
  show onO (pevs (pev Φ n) nm ρ args) _ = _
  rw [ha]
  show guard' (Nat.ble args.length 10) _ = _
  rw [hn, idxCase_none hl.2]; rfl
theorem pev_tuple {n : Nat} {es : List Expr} {k : Nat} {p : Pos} {ds : List PyData} (h : pevs (pev Φ n) nm ρ es = some ds) (hn : Nat.ble ds.length 1000 = true) : pev Φ (n + 1) nm ρ (.Tuple es k p) = some (.tuple ds) := by
  show onO (pevs (pev Φ n) nm ρ es) (fun ds => guard' (Nat.ble ds.length 1000) (some (.tuple ds))) = _
  rw [h]
  show guard' (Nat.ble ds.length 1000) _ = _
  rw [hn]; rfl
theorem pev_meth {n : Nat} {o : Expr} {m : Str} {ap p : Pos} {args : List Expr} {ds : List PyData} {d : PyData} (hb : plainBase o = true) (hl : lineEq ap p = true) (ho : pev Φ n nm ρ o = some d) (ha : pevs (pev Φ n) nm ρ args = some ds) (hn : Nat.ble args.length 10 = true) :
    pev Φ (n + 1) nm ρ (.Call (.Attribute o m ap) args [] p) = methF m d ds := by
  show pcallM (pev Φ n) nm ρ o m ap p args = _
  unfold pcallM
  rw [hb, hl, ho, ha, hn]; rfl
theorem pexec_append {n : Nat} {x : Str} {p1 p2 p3 p4 : Pos} {e : Expr} {xs : List PyData} {d : PyData} (hs : noStar e = true) (hl : lineEq p2 p3 = true) (hx : getB ρ x = some (.own xs)) (he : pev Φ 12 nm ρ e = some d) (hn : xs.length ≤ 1000) :
    pexec Φ (n + 1) nm ρ (.Expr (.Call (.Attribute (.Name x p1) "append" p2) [e] [] p3) p4) = some (.next (putB ρ x (.own (xs ++ [d])))) := by
  show onT (nameEq "append" "append" && lineEq p2 p3) (pput (pev Φ 12) nm ρ x e) = _
  rw [(nameEq_iff _ _).mpr rfl, hl]
  show pput (pev Φ 12) nm ρ x e = _
  unfold pput
  rw [hs, hx, he]
  show onT (Nat.ble xs.length 1000) _ = _
  rw [Nat.ble_eq_true_of_le hn]; rfl
theorem pev_lenOwn {n : Nat} {x : Str} {p q r : Pos} {ys : List PyData} (hb : getB ρ "len" = none) (hk : getK nm "len" = some .globalImplicit) (hx : getB ρ x = some (.own ys)) (hn : ys.length ≤ 100000) : pev Φ (n + 1) nm ρ (.Call (.Name "len" p) [.Name x q] [] r) = some (.int ys.length) := by
  show onT (isNone? (getB ρ "len") && isGlob (getK nm "len")) (pcallN Φ (pev Φ n) nm ρ "len" [.Name x q]) = _
  rw [hb, hk]
  show pcallN Φ (pev Φ n) nm ρ "len" [.Name x q] = _
  unfold pcallN lenArg
  rw [(nameEq_iff "len" "len").mpr rfl]
  show plen Φ ρ x = _
  unfold plen
  rw [hx]
  show guard' (Nat.ble ys.length 100000) (some (.int ys.length)) = _
  rw [Nat.ble_eq_true_of_le hn]; rfl
theorem ptest_cmp {n : Nat} {l r : Expr} {op : CmpOp} {p : Pos} {a b : PyData} {c : Bool} (hs : noSet r = true) (h1 : rec nm ρ l = some a) (h2 : rec nm ρ r = some b) (h : cmpF op a b = some c) : ptest rec nm ρ (n + 1) (.Compare l [op] [r] p) = some c := by
  show pcmp1 rec nm ρ l op r = _
  unfold pcmp1
  rw [hs]; dsimp only; rw [h1]; dsimp only; rw [h2]; exact h
theorem ptest_and {n : Nat} {x y : Expr} {p : Pos} {c : Bool} (h1 : ptest rec nm ρ n x = some true) (h2 : ptest rec nm ρ n y = some c) : ptest rec nm ρ (n + 1) (.BoolOp .And [x, y] p) = some c := by
  show andO (ptest rec nm ρ n x) (ptest rec nm ρ n y) = _
  rw [h1]; exact h2
theorem ptest_and_f {n : Nat} {x y : Expr} {p : Pos} (h1 : ptest rec nm ρ n x = some false) : ptest rec nm ρ (n + 1) (.BoolOp .And [x, y] p) = some false := by
  show andO (ptest rec nm ρ n x) (ptest rec nm ρ n y) = _
  rw [h1]; rfl
end
noncomputable def boE : Expr → Nat → Expr | .BoolOp _ as _, n => (as.drop n).head? |>.getD (.Name "" ⟨0, 0, 0, 0⟩) | _, _ => .Name "" ⟨0, 0, 0, 0⟩
noncomputable def cmL : Expr → Expr | .Compare l _ _ _ => l | e => e
noncomputable def cmR : Expr → Expr | .Compare _ _ (r :: _) _ => r | e => e
noncomputable def nmP : Expr → Pos | .Name _ p => p | _ => ⟨0, 0, 0, 0⟩
noncomputable def lcElt : Expr → Expr | .ListComp e _ _ _ => e | e => e
noncomputable def lcT : Expr → Expr | .ListComp _ (⟨t, _, _, _⟩ :: _) _ _ => t | e => e
noncomputable def lcI : Expr → Expr | .ListComp _ (⟨_, i, _, _⟩ :: _) _ _ => i | e => e
noncomputable def lcIfs : Expr → List Expr | .ListComp _ (⟨_, _, fs, _⟩ :: _) _ _ => fs | _ => []
noncomputable def lcScope (e : Expr) (d : Scope) : Scope := match e with | .ListComp _ _ s _ => s | _ => d
noncomputable def scNames : Expr → NK | .ListComp _ _ s _ => s.names | _ => []
theorem pev_comp1 {Φ : Orc} {n : Nat} {nm : NK} {ρ ρ' : En} {elt t it : Expr} {ifs : List Expr} {scope : Scope} {p : Pos} {items ys : List PyData} (h1 : piter (pev Φ n) nm ρ it = some items) (h2 : (blockOk nm scope.names && isFunK scope.kind) = true) (h3 : closed ρ scope.names = some ρ') (h4 : freshT ρ' t = true)
    (h5 : pturns (pev Φ n) scope.names ρ' t ifs (pelt (pev Φ n) scope.names elt) items = some ys) (h6 : ys.length ≤ 1000) : pev Φ (n + 1) nm ρ (.ListComp elt [⟨t, it, ifs, .ofNat 0⟩] scope p) = some (.list ys) := by
  show onT (blockOk nm scope.names && isFunK scope.kind) (onO (piter (pev Φ n) nm ρ it) fun items => onO (closed ρ scope.names) fun ρ' => onT (freshT ρ' t) (onO (pturns (pev Φ n) scope.names ρ' t ifs (pelt (pev Φ n) scope.names elt) items) fun xs => guard' (Nat.ble xs.length 1000) (some (.list xs)))) = _
  rw [h2, h1]
  show onO (closed ρ scope.names) _ = _
  rw [h3]
  show onT (freshT ρ' t) _ = _
  rw [h4, h5]
  show guard' (Nat.ble ys.length 1000) _ = _
  rw [Nat.ble_eq_true_of_le h6]; rfl
theorem ptests_one {rec : NK → En → Expr → Option PyData} {nm : NK} {ρ : En} {x : Expr} {c : Bool} (h : ptest rec nm ρ 6 x = some c) : ptests rec nm ρ [x] = some c := by
  rw [ptests, h]; cases c <;> rfl
/-- lists whose items are well shaped and not deep -/
theorem shaped_list {n : Nat} : ∀ {xs : List PyData}, (∀ x ∈ xs, x.canLay0 = true ∧ x.depth ≤ n) → PyData.canLayAll0 xs = true ∧ PyData.depthAll xs ≤ n
  | [], _ => ⟨by simp [PyData.canLayAll0], by simp [PyData.depthAll]⟩
  | x :: xs, h => by
    obtain ⟨h1, h2⟩ := shaped_list fun y hy => h y (List.mem_cons_of_mem _ hy)
    obtain ⟨h3, h4⟩ := h x List.mem_cons_self
    exact ⟨by simp [PyData.canLayAll0, h1, h3], by simp only [PyData.depthAll]; omega⟩
theorem shapedB_list {n : Nat} {xs : List PyData} (hn : n < 60) (h : ∀ x ∈ xs, x.canLay0 = true ∧ x.depth ≤ n) : shapedB (.list xs) = true := by
  obtain ⟨h1, h2⟩ := shaped_list h
  unfold shapedB SeqAt.shaped
  have e1 : (PyData.list xs).canLay0 = PyData.canLayAll0 xs := by simp only [PyData.canLay0]
  have e2 : (PyData.list xs).depth = PyData.depthAll xs + 1 := by simp only [PyData.depth]
  rw [e1, e2, h1, decide_eq_true (by omega)]
  rfl
theorem pexec_asgComp {Φ : Orc} {n : Nat} {nm : NK} {ρ ρ' : En} {x : Str} {p p2 p3 : Pos} {elt : Expr} {gens : List Comprehension} {scope : Scope} {d : PyData} (h : pev Φ 13 nm ρ (.ListComp elt gens scope p2) = some d) (hs : storeB nm ρ x (.val d) = some ρ') :
    pexec Φ (n + 1) nm ρ (.Assign [.Name x p] (.ListComp elt gens scope p2) p3) = some (.next ρ') := by
  show onO (pev Φ 13 nm ρ (.ListComp elt gens scope p2)) (fun d => onO (storeB nm ρ x (.val d)) fun ρ' => some (Fl.next ρ')) = _
  rw [h]
  show onO (storeB nm ρ x (.val d)) _ = _
  rw [hs]; rfl
noncomputable def asgX : Stmt → Pos | .Assign [.Name _ p] _ _ => p | _ => ⟨0, 0, 0, 0⟩
noncomputable def asgP : Stmt → Pos | .Assign _ _ p => p | _ => ⟨0, 0, 0, 0⟩
end Mine
end
section
open PySem PySem.Spec PySem.Calls PyProof.Rows PySem.W
namespace Mine
/-! a statement's and an expression's parts -/
noncomputable def sTgt : Stmt → Expr | .Assign (t :: _) _ _ => t | .AugAssign t _ _ _ => t | .For t _ _ _ _ => t | _ => .Name "" ⟨0, 0, 0, 0⟩
noncomputable def sTg2 : Stmt → Expr | .Assign (_ :: t :: _) _ _ => t | _ => .Name "" ⟨0, 0, 0, 0⟩
noncomputable def sVal : Stmt → Expr | .Assign _ v _ => v | .AugAssign _ _ v _ => v | .For _ v _ _ _ => v | .Expr v _ => v | .Return (some v) _ => v | .While v _ _ _ => v | .If v _ _ _ => v | _ => .Name "" ⟨0, 0, 0, 0⟩
noncomputable def sBod : Stmt → List Stmt | .While _ b _ _ => b | .If _ b _ _ => b | .For _ _ b _ _ => b | .Try b _ _ _ _ => b | _ => []
noncomputable def sEls : Stmt → List Stmt | .If _ _ b _ => b | .For _ _ _ b _ => b | .Try _ _ _ b _ => b | _ => []
noncomputable def sHan : Stmt → ExceptHandler | .Try _ (h :: _) _ _ _ => h | _ => .ExceptHandler none none [] ⟨0, 0, 0, 0⟩
noncomputable def hTyp : ExceptHandler → Expr | .ExceptHandler (some t) _ _ _ => t | _ => .Name "" ⟨0, 0, 0, 0⟩
noncomputable def hBod : ExceptHandler → List Stmt | .ExceptHandler _ _ b _ => b
noncomputable def hPos : ExceptHandler → Pos | .ExceptHandler _ _ _ p => p
/-- what an expression begins with -/
noncomputable def e1 : Expr → Expr | .Call f _ _ _ => f | .Attribute o _ _ => o | .Subscript o _ _ => o | .Compare o _ _ _ => o | .Slice (some o) _ _ _ => o | .BoolOp _ (o :: _) _ => o | .Tuple (o :: _) _ _ => o | _ => .Name "" ⟨0, 0, 0, 0⟩
/-- what comes second -/
noncomputable def e2 : Expr → Expr | .Call _ (a :: _) _ _ => a | .Subscript _ i _ => i | .Compare _ _ (r :: _) _ => r | .BoolOp _ (_ :: o :: _) _ => o | .Tuple (_ :: o :: _) _ _ => o | _ => .Name "" ⟨0, 0, 0, 0⟩
noncomputable def e3 : Expr → Expr | .Call _ (_ :: a :: _) _ _ => a | _ => .Name "" ⟨0, 0, 0, 0⟩
end Mine
end
section
open PySem PySem.Spec PySem.Calls PyProof.Rows PySem.W
set_option maxRecDepth 100000
namespace Mine
/-! the shapes of sorted_list_difference's statements -/
section
variable (x X k y m e : Str) (s : Stmt) (c : Expr)
noncomputable abbrev shAsg : Stmt := .Assign [.Name x (sTgt s).pos] (.Subscript (.Name X (e1 (sVal s)).pos) (.Name k (e2 (sVal s)).pos) (sVal s).pos) s.pos
noncomputable abbrev shInc : Stmt := .AugAssign (.Name k (sTgt s).pos) .Add (.Constant (.int 1) 0 (sVal s).pos) s.pos
noncomputable abbrev shWh : Stmt := .While (.Compare (.Subscript (.Name X (e1 (e1 (sVal s))).pos) (.Name k (e2 (e1 (sVal s))).pos) (e1 (sVal s)).pos) [.Eq] [.Name y (e2 (sVal s)).pos] (sVal s).pos) (sBod s) [] s.pos
noncomputable abbrev shApp : Stmt := .Expr (.Call (.Attribute (.Name m (e1 (e1 (sVal s))).pos) "append" (e1 (sVal s)).pos) [.Name e (e2 (sVal s)).pos] [] (sVal s).pos) s.pos
noncomputable abbrev shExt : Stmt := .Expr (.Call (.Attribute (.Name m (e1 (e1 (sVal s))).pos) "extend" (e1 (sVal s)).pos) [.Subscript (.Name X (e1 (e2 (sVal s))).pos) (.Slice (some (.Name k (e1 (e2 (e2 (sVal s)))).pos)) none none (e2 (e2 (sVal s))).pos) (e2 (sVal s)).pos] [] (sVal s).pos) s.pos
noncomputable abbrev shCmp (o : CmpOp) : Expr := .Compare (.Name x (e1 c).pos) [o] [.Name y (e2 c).pos] c.pos
end
noncomputable def sldB : List Stmt := bodyOf "sorted_list_difference"
noncomputable def sldNm : NK := namesOf "sorted_list_difference"
noncomputable def uW : Stmt := nth sldB 3
noncomputable def uT : Stmt := nth (sBod uW) 0
noncomputable def uI : Stmt := nth (sBod uT) 2
noncomputable def uJ : Stmt := nth (sEls uI) 0
noncomputable def uF : Stmt := nth (sEls uJ) 1
noncomputable def uH : ExceptHandler := sHan uT
noncomputable def u1 : Stmt := nth (sBod uT) 0
noncomputable def u2 : Stmt := nth (sBod uT) 1
noncomputable def uA1 : Stmt := nth (sBod uI) 0
noncomputable def uA2 : Stmt := nth (sBod uI) 1
noncomputable def uA3 : Stmt := nth (sBod uI) 2
noncomputable def uB1 : Stmt := nth (sBod uJ) 0
noncomputable def uB2 : Stmt := nth (sBod uJ) 1
noncomputable def uB3 : Stmt := nth (sBod uJ) 2
noncomputable def uD1 : Stmt := nth (sEls uJ) 0
noncomputable def uD2 : Stmt := nth (sBod uF) 0
noncomputable def uD3 : Stmt := nth (sEls uF) 0
noncomputable def uD4 : Stmt := nth (sEls uF) 1
noncomputable def uH1 : Stmt := nth (hBod uH) 0
noncomputable def uH2 : Stmt := nth (hBod uH) 1
noncomputable abbrev sd1 : Stmt := shAsg "e" "expected" "i" u1
noncomputable abbrev sd2 : Stmt := shAsg "a" "actual" "j" u2
noncomputable abbrev sdC1 : Expr := shCmp "e" "a" (sVal uI) .Lt
noncomputable abbrev sdA1 : Stmt := shApp "missing" "e" uA1
noncomputable abbrev sdA2 : Stmt := shInc "i" uA2
noncomputable abbrev sdA3 : Stmt := shWh "expected" "i" "e" uA3
noncomputable abbrev sdC2 : Expr := shCmp "e" "a" (sVal uJ) .Gt
noncomputable abbrev sdB1 : Stmt := shApp "unexpected" "a" uB1
noncomputable abbrev sdB2 : Stmt := shInc "j" uB2
noncomputable abbrev sdB3 : Stmt := shWh "actual" "j" "a" uB3
noncomputable abbrev sdD1 : Stmt := shInc "i" uD1
noncomputable abbrev sdD2 : Stmt := shWh "expected" "i" "e" uD2
noncomputable abbrev sdD3 : Stmt := shInc "j" uD3
noncomputable abbrev sdD4 : Stmt := shWh "actual" "j" "a" uD4
noncomputable abbrev sdH1 : Stmt := shExt "expected" "i" "missing" uH1
noncomputable abbrev sdH2 : Stmt := shExt "actual" "j" "unexpected" uH2
noncomputable abbrev sdHd : ExceptHandler := .ExceptHandler (some (.Name "IndexError" (hTyp uH).pos)) none [sdH1, sdH2, .Break (nth (hBod uH) 2).pos] (hPos uH)
noncomputable abbrev sdTry : Stmt := .Try [sd1, sd2, .If sdC1 [sdA1, sdA2, sdA3] [.If sdC2 [sdB1, sdB2, sdB3] [sdD1, .Try [sdD2] [] [] [sdD3, sdD4] uF.pos] uJ.pos] uI.pos] [sdHd] [] [] uT.pos
noncomputable abbrev sd0 : Stmt := .Assign [.Name "i" (sTgt (nth sldB 0)).pos, .Name "j" (sTg2 (nth sldB 0)).pos] (.Constant (.int 0) 0 (sVal (nth sldB 0)).pos) (nth sldB 0).pos
theorem sld_body : sldB = [sd0, nth sldB 1, nth sldB 2, .While (.Constant (.bool true) 0 (sVal uW).pos) [sdTry] [] uW.pos, nth sldB 4] := by kernel_rfl
theorem lnA1 : lineEq (e1 (sVal uA1)).pos (sVal uA1).pos = true := by kernel_rfl
theorem lnB1 : lineEq (e1 (sVal uB1)).pos (sVal uB1).pos = true := by kernel_rfl
theorem lnH1 : lineEq (e1 (sVal uH1)).pos (sVal uH1).pos = true := by kernel_rfl
theorem lnH2 : lineEq (e1 (sVal uH2)).pos (sVal uH2).pos = true := by kernel_rfl
end Mine
end
section
open PySem PySem.Spec PySem.Calls PyProof.Rows PySem.W
set_option maxRecDepth 100000
namespace Mine
variable [Inhabited Base]
variable {K : Frag} {P : Addr} {G : Str → Option Value} {Λ : List Addr}
noncomputable def iN (i : Nat) : PyData := .int (Int.ofNat i)
noncomputable def qT : Option (PyData × Option PyData) → En
  | none => []
  | some (e, none) => [("e", .val e)]
  | some (e, some a) => [("e", .val e), ("a", .val a)]
noncomputable abbrev sD (X : List Str) : List PyData := X.map PyData.str
noncomputable def qS (xs ys : List PyData) (i j : Nat) (m u : List PyData) (o : Option (PyData × Option PyData)) : En :=
  ("expected", .val (.list xs)) :: ("actual", .val (.list ys)) :: ("i", .val (iN i)) :: ("j", .val (iN j)) :: ("missing", .own m) :: ("unexpected", .own u) :: qT o
noncomputable def setE (e : PyData) : Option (PyData × Option PyData) → Option (PyData × Option PyData)
  | none => some (e, none)
  | some (_, a) => some (e, a)
section
variable (xs ys : List PyData) (i j : Nat) (m u : List PyData) (o : Option (PyData × Option PyData))
theorem gExp : getB (qS xs ys i j m u o) "expected" = some (.val (.list xs)) := by kernel_rfl
theorem gAct : getB (qS xs ys i j m u o) "actual" = some (.val (.list ys)) := by kernel_rfl
theorem gI : getB (qS xs ys i j m u o) "i" = some (.val (.int (Int.ofNat i))) := by kernel_rfl
theorem gJ : getB (qS xs ys i j m u o) "j" = some (.val (.int (Int.ofNat j))) := by kernel_rfl
theorem gM : getB (qS xs ys i j m u o) "missing" = some (.own m) := by kernel_rfl
theorem gU : getB (qS xs ys i j m u o) "unexpected" = some (.own u) := by kernel_rfl
theorem gE (e : PyData) (a : Option PyData) : getB (qS xs ys i j m u (some (e, a))) "e" = some (.val e) := by cases a <;> kernel_rfl
theorem gA (e a : PyData) : getB (qS xs ys i j m u (some (e, some a))) "a" = some (.val a) := by kernel_rfl
theorem pM (m' : List PyData) : putB (qS xs ys i j m u o) "missing" (.own m') = qS xs ys i j m' u o := by kernel_rfl
theorem pU (u' : List PyData) : putB (qS xs ys i j m u o) "unexpected" (.own u') = qS xs ys i j m u' o := by kernel_rfl
theorem stI : storeB sldNm (qS xs ys i j m u o) "i" (.val (.int (Int.ofNat (i + 1)))) = some (qS xs ys (i + 1) j m u o) := by kernel_rfl
theorem stJ : storeB sldNm (qS xs ys i j m u o) "j" (.val (.int (Int.ofNat (j + 1)))) = some (qS xs ys i (j + 1) m u o) := by kernel_rfl
theorem stE (e : PyData) : storeB sldNm (qS xs ys i j m u o) "e" (.val e) = some (qS xs ys i j m u (setE e o)) := by
  cases o with
  | none => kernel_rfl
  | some p => obtain ⟨e', a⟩ := p; cases a <;> kernel_rfl
theorem stA (e a : PyData) (b : Option PyData) : storeB sldNm (qS xs ys i j m u (some (e, b))) "a" (.val a) = some (qS xs ys i j m u (some (e, some a))) := by
  cases b <;> kernel_rfl
theorem kIE : getK sldNm "IndexError" = some .globalImplicit := by kernel_rfl
end
section
variable {prog : Program} {w : World} {n b k : Nat} {A : Around} {E : Value → Shared → Prop} {M O O' N : List Addr} {α : Str → Addr} {env : Env} {nm : NK} {ρ ρ' : En} {s₀ s s' : Shared} {e : Addr} {outer : List Env}
theorem FrmW.mark (f : FrmW K P Λ k A env nm n) (v : Option Value) : FrmW K P Λ k (A.mark v) env nm n := ⟨f.roomW.mark v, f.kind, f.glb, f.blt, f.names, f.nok, f.floor⟩
theorem Fly.before {tp : TB → Prop} {cp : Value → Prop} {O₁ : List Addr} (g : GrowB P M s₀ s) (eo : Ext O O₁ s₀) (x : Fly K P G Λ n M O₁ α env nm ρ s tp cp e O' s') : Fly K P G Λ n M O α env nm ρ s₀ tp cp e O' s' := by
  obtain ⟨g', eo', r, tb, ctx, h1, h2, h3⟩ := x
  refine ⟨g.trans g', eo.trans eo' g.size, r, tb, ctx, h1, h2, ⟨h3.off.1, h3.off.2.1, h3.off.2.2.1, Nat.le_trans g.size h3.off.2.2.2⟩, fun T fl q => ?_, h3.at_⟩
  obtain ⟨q1, q2, q3, q4⟩ := h3.offT T fl q
  exact ⟨q1, q2, q3, Nat.le_trans g.size q4⟩
/-- while an exception is held the frame goes on -/
theorem Fly.go {tp : TB → Prop} {cp : Value → Prop} (fl : Floor K P Λ n) (x : Fly K P G Λ n M O α env nm ρ s₀ tp cp e O' s) (g : GrowB P M s s') (r : Run K P G Λ n M O' α env nm ρ' s') : Fly K P G Λ n M O α env nm ρ' s₀ tp cp e O' s' := by
  obtain ⟨g', eo', r', tb, ctx, h1, h2, h3⟩ := x
  exact ⟨g'.trans g, eo', r, tb, ctx, h1, h2, h3.keep fl.p g h3.off.2.1 fun T f' q => (h3.offT T f' q).2.1⟩

theorem ie_exc : isSubtype (.type "IndexError") (.type "BaseException") = pure true := by rw [isSubtype_type]; kernel_rfl
theorem ie_self : isSubtype (.type "IndexError") (.type "IndexError") = pure true := by rw [isSubtype_type]; kernel_rfl
theorem ie_nt : isSubtype (.type ((Manifest.find? "IndexError").elim "type" fun x => x.metatype)) (.type "tuple") = pure false := by rw [isSubtype_type]; kernel_rfl

theorem sld_handler (hfr : A.frames = some (env :: outer)) (hfl : env.frame = some env.locals) (f : Frm K P Λ k A env sldNm n) (hG : G "IndexError" = some (.type "IndexError")) 
    {xs ys : List PyData} {i j : Nat} {m u : List PyData} {o : Option (PyData × Option PyData)} {cp : Value → Prop} (hx : xs.length ≤ 100) (hy : ys.length ≤ 100) (hm : m.length ≤ 500) (hu : u.length ≤ 500)
    (x : Fly K P G Λ n M O α env sldNm (qS xs ys i j m u o) s₀ (tbAny env.locals) cp e O' s) {Q : Flow → Shared → Prop}
    (hQ : ∀ O' s', GrowB P M s₀ s' → Ext O O' s₀ → Run K P G Λ n M O' α env sldNm (qS xs ys i j (m ++ xs.drop i) (u ++ ys.drop j) o) s' → Q .brk s') :
    wpAny (model prog w) A (noteFrame (.ref e) env) (fun _ s₂ => wpAny (model prog w) A (setFlight (.ref e) none) (fun _ s₃ => wpAny (model prog w) A (handleBy (.ref e) env [sdHd]) Q E s₃) E s₂) E s := by
  refine x.note hfr hfl f.toFrmW fun s₁ O₁ x₁ => ?_
  refine (x₁.imp fun t => tbIn_has).flight (tq := tbOut) f.toFrmW none (fun T => ⟨T, rfl⟩) fun s₂ x₂ => ?_
  have fm := f.toFrmW.mark (some (.ref e))
  refine wpAny_handleBy_builtin (X := "IndexError") (T := "IndexError") (b := true) ie_exc ie_nt ie_self ?_
  refine global_sound (x₂.r.hereW fm) kIE hG ⟨rfl, ?_, ?_⟩
  · obtain ⟨tb, ctx, _, _, h⟩ := x₂.x
    obtain ⟨oe, vs, e1, e2, _⟩ := h.at_
    exact ⟨oe, e1, e2⟩
  · rw [if_pos rfl]
    refine (x₂.imp fun t => tbOut_has).flight (tq := tbOut) fm none (fun T => ⟨T, rfl⟩) fun s₃ x₃ => ?_
    refine wpAny_execs_cons (extend_tail fm x₃.r lnH1 (gM ..) (gExp ..) (gI ..) (by omega) (by omega) fun s₄ g₄ r₄ => ?_)
    rw [pM] at r₄
    refine wpAny_execs_cons (extend_tail fm r₄ lnH2 (gU ..) (gAct ..) (gJ ..) (by omega) (by omega) fun s₅ g₅ r₅ => ?_)
    rw [pU] at r₅
    exact wpAny_execs_cons (wpAny_Break (hQ O₁ s₅ (x₃.g.trans (g₄.trans g₅)) x₃.eO r₅))
end
end Mine
end
section
open PySem PySem.Spec PySem.Calls PyProof.Rows PySem.W
set_option maxRecDepth 100000
namespace Mine
variable [Inhabited Base]
variable {K : Frag} {P : Addr} {G : Str → Option Value} {Λ : List Addr}
noncomputable abbrev ltS (x y : Str) : Prop := x.cps.toList < y.cps.toList
/-- one pass -/
inductive Stp (X Y : List Str) (i j : Nat) (m u : List PyData) : Nat → Nat → List PyData → List PyData → Prop
  | lt {x y : Str} : X[i]? = some x → Y[j]? = some y → ltS x y → Stp X Y i j m u (i + 1) j (m ++ [.str x]) u
  | gt {x y : Str} : X[i]? = some x → Y[j]? = some y → ¬ ltS x y → ltS y x → Stp X Y i j m u i (j + 1) m (u ++ [.str y])
  | eq {x y : Str} : X[i]? = some x → Y[j]? = some y → ¬ ltS x y → ¬ ltS y x → Stp X Y i j m u (i + 1) (j + 1) m u
theorem cmp_lt (x y : Str) : cmpF .Lt (.str x) (.str y) = some (decide (ltS x y)) := rfl
theorem cmp_gt (x y : Str) : cmpF .Gt (.str x) (.str y) = some (decide (ltS y x)) := rfl
theorem recN_name {nm : NK} {ρ : En} {x : Str} {p : Pos} {d : PyData} (h : getB ρ x = some (.val d)) : recN nm ρ (.Name x p) = some d := by
  show (match getB ρ x with | some (.val d) => some d | _ => none) = some d
  rw [h]
theorem get_sD {X : List Str} {i : Nat} {x : Str} (h : X[i]? = some x) : (sD X)[i]? = some (.str x) := by simp [sD, List.getElem?_map, h]
section
variable {prog : Program} {w : World} {n b k : Nat} {A : Around} {E : Value → Shared → Prop} {M O O' N : List Addr} {α : Str → Addr} {env : Env} {s₀ s s' : Shared} {e : Addr} {outer : List Env}

theorem sld_pass (hfr : A.frames = some (env :: outer)) (hfl : env.frame = some env.locals) (f : Frm K P Λ k A env sldNm n) (hG : G "IndexError" = some (.type "IndexError"))
    {X Y : List Str} (upX : ∀ i x x', X[i]? = some x → X[i + 1]? = some x' → x' ≠ x) (upY : ∀ i x x', Y[i]? = some x → Y[i + 1]? = some x' → x' ≠ x) (hX : X.length ≤ 100) (hY : Y.length ≤ 100)
    {i j : Nat} {m u : List PyData} {o : Option (PyData × Option PyData)} (r : Run K P G Λ n M O α env sldNm (qS (sD X) (sD Y) i j m u o) s) (hi : i ≤ X.length) (hj : j ≤ Y.length) (hm : m.length ≤ 300) (hu : u.length ≤ 300) {Q : Flow → Shared → Prop}
    (hnext : ∀ O' s' i' j' m' u' o', GrowB P M s s' → Ext O O' s → Run K P G Λ n M O' α env sldNm (qS (sD X) (sD Y) i' j' m' u' o') s' → Stp X Y i j m u i' j' m' u' → i' ≤ X.length → j' ≤ Y.length → Q .next s')
    (hbrk : ∀ O' s' i' j' m' u' o', GrowB P M s s' → Ext O O' s → Run K P G Λ n M O' α env sldNm (qS (sD X) (sD Y) i' j' (m' ++ (sD X).drop i') (u' ++ (sD Y).drop j') o') s' → (X.length ≤ i' ∨ Y.length ≤ j') → ((i' = i ∧ j' = j ∧ m' = m ∧ u' = u) ∨ Stp X Y i j m u i' j' m' u') → Q .brk s') :
    wpAny (model prog w) A (exec sdTry env) Q E s := by
  have lX : (sD X).length = X.length := List.length_map _
  have lY : (sD Y).length = Y.length := List.length_map _
  -- the handler takes whatever flies
  have hand : ∀ {e : Addr} {O' : List Addr} {s' : Shared} {i' j' : Nat} {m' u' : List PyData} {o' : Option (PyData × Option PyData)} {cp : Value → Prop}, Fly K P G Λ n M O α env sldNm (qS (sD X) (sD Y) i' j' m' u' o') s (tbAny env.locals) cp e O' s' → m'.length ≤ 500 → u'.length ≤ 500 → (X.length ≤ i' ∨ Y.length ≤ j') → ((i' = i ∧ j' = j ∧ m' = m ∧ u' = u) ∨ Stp X Y i j m u i' j' m' u') →
      wpAny (model prog w) A (noteFrame (.ref e) env) (fun _ s₂ => wpAny (model prog w) A (setFlight (.ref e) none) (fun _ s₃ => wpAny (model prog w) A (handleBy (.ref e) env [sdHd]) Q E s₃) E s₂) E s' := by
    intro e O' s' i' j' m' u' o' cp x hm' hu' he hs
    exact sld_handler hfr hfl f hG (by omega) (by omega) hm' hu' x fun O₂ s₂ g₂ eo₂ r₂ => hbrk O₂ s₂ i' j' m' u' o' g₂ eo₂ r₂ he hs
  refine wpAny_Try_except ?_
  have cold : Warm A s := .inl f.handled
  have coldA : ∀ {t : Shared}, Warm A t := .inl f.handled
  by_cases hiX : X.length ≤ i
  · exact wpAny_execs_cons (asg_out f.toFrmW r cold (gExp ..) (gI ..) (by omega) (by omega) fun e O' s' g x => hand (x.imp fun t h => .inl h) (by omega) (by omega) (.inl hiX) (.inl ⟨rfl, rfl, rfl, rfl⟩))
  have hiX := Nat.lt_of_not_le hiX
  obtain ⟨x, hx⟩ : ∃ x, X[i]? = some x := ⟨X[i], List.getElem?_eq_getElem hiX⟩
  refine wpAny_execs_cons (asg_in f.toFrmW r (gExp ..) (gI ..) (by omega) (get_sD hx) (stE ..) fun s₁ g₁ r₁ => ?_)
  have oe : ∃ ob, setE (.str x) o = some (.str x, ob) := by
    cases o with
    | none => exact ⟨_, rfl⟩
    | some p => exact ⟨_, rfl⟩
  obtain ⟨ob, oe⟩ := oe
  rw [oe] at r₁
  by_cases hjY : Y.length ≤ j
  · exact wpAny_execs_cons (asg_out f.toFrmW r₁ coldA (gAct ..) (gJ ..) (by omega) (by omega) fun e O' s' g x => hand ((x.before g₁ Ext.refl).imp fun t h => .inl h) (by omega) (by omega) (.inr hjY) (.inl ⟨rfl, rfl, rfl, rfl⟩))
  have hjY := Nat.lt_of_not_le hjY
  obtain ⟨y, hy⟩ : ∃ y, Y[j]? = some y := ⟨Y[j], List.getElem?_eq_getElem hjY⟩
  refine wpAny_execs_cons (asg_in f.toFrmW r₁ (gAct ..) (gJ ..) (by omega) (get_sD hy) (stA ..) fun s₂ g₂ r₂ => ?_)
  have g₁₂ := g₁.trans g₂
  refine wpAny_execs_cons (wpAny_If (cmpNames f.toFrmW r₂ (gE ..) (gA ..) (cmp_lt x y) ?_))
  by_cases hlt : ltS x y
  · simp only [hlt, decide_true, if_true]
    refine wpAny_execs_cons (append_sound (rec := recN) recN_sound f r₂ lnA1 (gM ..) (recN_name (gE ..)) rfl (by omega) fun s₃ g₃ r₃ => ?_)
    rw [pM] at r₃
    refine wpAny_execs_cons (incr f.toFrmW r₃ (gI ..) (stI ..) fun s₄ g₄ r₄ => ?_)
    have gA' := (g₁₂.trans g₃).trans g₄
    have stp : Stp X Y i j m u (i + 1) j (m ++ [.str x]) u := .lt hx hy hlt
    rcases Nat.lt_or_ge (i + 1) X.length with hi1 | hi1
    · obtain ⟨x', hx'⟩ : ∃ x', X[i + 1]? = some x' := ⟨X[i + 1], List.getElem?_eq_getElem hi1⟩
      refine wpAny_execs_cons (wh_stop f.toFrmW r₄ (gExp ..) (gI ..) (by omega) (get_sD hx') (gE ..) (upX i x x' hx hx') fun s₅ g₅ => ?_)
      exact wpAny_execs_nil (wpAny_execs_nil (wpAny_execs_nil (hnext O s₅ _ _ _ _ _ (gA'.trans (GrowB.of g₅)) Ext.refl (r₄.grow g₅) stp (by omega) hj)))
    · exact wpAny_execs_cons (wh_out hfr hfl f.toFrmW r₄ coldA (gExp ..) (gI ..) (by omega) (by omega) fun e O' s' g x => hand (x.before gA' Ext.refl) (by simp; omega) (by omega) (.inl hi1) (.inr stp))
  · simp only [hlt, decide_false, Bool.false_eq_true, if_false]
    refine wpAny_execs_cons (wpAny_If (cmpNames f.toFrmW r₂ (gE ..) (gA ..) (cmp_gt x y) ?_))
    by_cases hgt : ltS y x
    · simp only [hgt, decide_true, if_true]
      refine wpAny_execs_cons (append_sound (rec := recN) recN_sound f r₂ lnB1 (gU ..) (recN_name (gA ..)) rfl (by omega) fun s₃ g₃ r₃ => ?_)
      rw [pU] at r₃
      refine wpAny_execs_cons (incr f.toFrmW r₃ (gJ ..) (stJ ..) fun s₄ g₄ r₄ => ?_)
      have gA' := (g₁₂.trans g₃).trans g₄
      have stp : Stp X Y i j m u i (j + 1) m (u ++ [.str y]) := .gt hx hy hlt hgt
      rcases Nat.lt_or_ge (j + 1) Y.length with hj1 | hj1
      · obtain ⟨y', hy'⟩ : ∃ y', Y[j + 1]? = some y' := ⟨Y[j + 1], List.getElem?_eq_getElem hj1⟩
        refine wpAny_execs_cons (wh_stop f.toFrmW r₄ (gAct ..) (gJ ..) (by omega) (get_sD hy') (gA ..) (upY j y y' hy hy') fun s₅ g₅ => ?_)
        exact wpAny_execs_nil (wpAny_execs_nil (wpAny_execs_nil (wpAny_execs_nil (hnext O s₅ _ _ _ _ _ (gA'.trans (GrowB.of g₅)) Ext.refl (r₄.grow g₅) stp hi (by omega)))))
      · exact wpAny_execs_cons (wh_out hfr hfl f.toFrmW r₄ coldA (gAct ..) (gJ ..) (by omega) (by omega) fun e O' s' g x => hand (x.before gA' Ext.refl) (by omega) (by simp; omega) (.inr hj1) (.inr stp))
    · simp only [hgt, decide_false, Bool.false_eq_true, if_false]
      refine wpAny_execs_cons (incr f.toFrmW r₂ (gI ..) (stI ..) fun s₃ g₃ r₃ => ?_)
      have gA' := g₁₂.trans g₃
      have stp : Stp X Y i j m u (i + 1) (j + 1) m u := .eq hx hy hlt hgt
      refine wpAny_execs_cons (wpAny_Try_finally ?_)
      rcases Nat.lt_or_ge (i + 1) X.length with hi1 | hi1
      · obtain ⟨x', hx'⟩ : ∃ x', X[i + 1]? = some x' := ⟨X[i + 1], List.getElem?_eq_getElem hi1⟩
        refine wpAny_execs_cons (wh_stop f.toFrmW r₃ (gExp ..) (gI ..) (by omega) (get_sD hx') (gE ..) (upX i x x' hx hx') fun s₄ g₄ => ?_)
        have r₄ := r₃.grow g₄
        refine wpAny_execs_nil (wpAny_execs_nil ?_)
        refine wpAny_execs_cons (incr f.toFrmW r₄ (gJ ..) (stJ ..) fun s₅ g₅ r₅ => ?_)
        have gB' := (gA'.trans (GrowB.of g₄)).trans g₅
        rcases Nat.lt_or_ge (j + 1) Y.length with hj1 | hj1
        · obtain ⟨y', hy'⟩ : ∃ y', Y[j + 1]? = some y' := ⟨Y[j + 1], List.getElem?_eq_getElem hj1⟩
          refine wpAny_execs_cons (wh_stop f.toFrmW r₅ (gAct ..) (gJ ..) (by omega) (get_sD hy') (gA ..) (upY j y y' hy hy') fun s₆ g₆ => ?_)
          exact wpAny_execs_nil (wpAny_execs_nil (wpAny_execs_nil (wpAny_execs_nil (wpAny_execs_nil (hnext O s₆ _ _ _ _ _ (gB'.trans (GrowB.of g₆)) Ext.refl (r₅.grow g₆) stp (by omega) (by omega))))))
        · refine wpAny_execs_cons (wh_out hfr hfl f.toFrmW r₅ coldA (gAct ..) (gJ ..) (by omega) (by omega) fun e O' s' g x => ?_)
          refine (x.before gB' Ext.refl).noted hfr hfl f.toFrmW fun s₆ O₆ x₆ => ?_
          refine (x₆.imp fun t => tbIn_has).cameBack hfl f.toFrmW fun s₇ x₇ => ?_
          exact hand (x₇.imp fun t h => .inr h) (by omega) (by omega) (.inr hj1) (.inr stp)
      · refine wpAny_execs_cons (wh_out hfr hfl f.toFrmW r₃ coldA (gExp ..) (gI ..) (by omega) (by omega) fun e O' s' g x => ?_)
        have x := (x.before gA' Ext.refl).impc (cq := fun c => c = .none) fun c h => h f.handled
        refine x.note hfr hfl f.toFrmW fun s₄ O₄ x₄ => ?_
        refine ⟨ref_ne_byPass e, (x₄.imp fun t h => .inr h).note hfr hfl f.toFrmW fun s₅ O₅ x₅ => ?_⟩
        refine (x₅.imp fun t => tbIn_has).flight (tq := tbOut) f.toFrmW none (fun T => ⟨T, rfl⟩) fun s₆ x₆ => ?_
        have fm := f.toFrmW.mark (some (.ref e))
        have wm : ∀ {t : Shared} {ρ' : En} {O'' : List Addr}, Fly K P G Λ n M O α env sldNm ρ' s tbOut (fun c => c = .none) e O'' t → Warm (A.mark (some (.ref e))) t := fun x => by
          obtain ⟨tb, ctx, _, rfl, h⟩ := x.x
          exact h.warm
        refine wpAny_execs_cons (incr fm x₆.r (gJ ..) (stJ ..) fun s₇ g₇ r₇ => ?_)
        have x₇ := x₆.go f.floor g₇ r₇
        rcases Nat.lt_or_ge (j + 1) Y.length with hj1 | hj1
        · obtain ⟨y', hy'⟩ : ∃ y', Y[j + 1]? = some y' := ⟨Y[j + 1], List.getElem?_eq_getElem hj1⟩
          refine wpAny_execs_cons (wh_stop fm x₇.r (gAct ..) (gJ ..) (by omega) (get_sD hy') (gA ..) (upY j y y' hy hy') fun s₈ g₈ => ?_)
          refine wpAny_execs_nil ?_
          have x₈ := x₇.go f.floor (GrowB.of g₈) (x₇.r.grow g₈)
          refine (x₈.imp fun t => tbOut_has).passOn hfl f.toFrmW fun s₉ x₉ => ?_
          exact hand (x₉.imp fun t h => .inr h) (by omega) (by omega) (.inl hi1) (.inr stp)
        · refine wpAny_execs_cons (wh_out (A := A.mark (some (.ref e))) hfr hfl fm x₇.r (wm x₇) (gAct ..) (gJ ..) (by omega) (by omega) fun e₂ O₈ s₈ g₈ x₈ => ?_)
          refine (x₈.before x₇.g x₇.eO).noted (A := A.mark (some (.ref e))) hfr hfl fm fun s₉ O₉ x₉ => ?_
          refine (x₉.imp fun t => tbIn_has).cameBack hfl f.toFrmW fun s₁₀ x₁₀ => ?_
          exact hand (x₁₀.imp fun t h => .inr h) (by omega) (by omega) (.inr hj1) (.inr stp)
end
end Mine
end
section
open PySem PySem.Spec PySem.Calls PyProof.Rows PySem.W
set_option maxRecDepth 100000
namespace Mine
/-- what is left of either list without the other one's -/
inductive Mg : List Str → List Str → List Str → List Str → Prop
  | nilL {q : List Str} : Mg [] q [] q
  | nilR {p : List Str} : Mg p [] p []
  | lt {x y : Str} {p q a b : List Str} : ltS x y → Mg p (y :: q) a b → Mg (x :: p) (y :: q) (x :: a) b
  | gt {x y : Str} {p q a b : List Str} : ¬ ltS x y → ltS y x → Mg (x :: p) q a b → Mg (x :: p) (y :: q) a (y :: b)
  | eq {x y : Str} {p q a b : List Str} : ¬ ltS x y → ¬ ltS y x → Mg p q a b → Mg (x :: p) (y :: q) a b
theorem drop_at {α : Type} {X : List α} {i : Nat} {x : α} (h : X[i]? = some x) : X.drop i = x :: X.drop (i + 1) := by
  obtain ⟨hl, rfl⟩ := List.getElem?_eq_some_iff.mp h
  exact List.drop_eq_getElem_cons hl
theorem Mg.inv {x y : Str} {p q a b : List Str} (h : Mg (x :: p) (y :: q) a b) : (ltS x y ∧ ∃ a', a = x :: a' ∧ Mg p (y :: q) a' b) ∨ (¬ ltS x y ∧ ltS y x ∧ ∃ b', b = y :: b' ∧ Mg (x :: p) q a b') ∨ (¬ ltS x y ∧ ¬ ltS y x ∧ Mg p q a b) := by
  cases h with
  | lt h1 h2 => exact .inl ⟨h1, _, rfl, h2⟩
  | gt h1 h2 h3 => exact .inr (.inl ⟨h1, h2, _, rfl, h3⟩)
  | eq h1 h2 h3 => exact .inr (.inr ⟨h1, h2, h3⟩)
noncomputable def MgT (X Y : List Str) (i j : Nat) (m u Mf Uf : List PyData) : Prop := ∃ a b, Mg (X.drop i) (Y.drop j) a b ∧ m ++ sD a = Mf ∧ u ++ sD b = Uf
theorem MgT.step {X Y : List Str} {i j i' j' : Nat} {m u m' u' Mf Uf : List PyData} (h : MgT X Y i j m u Mf Uf) (s : Stp X Y i j m u i' j' m' u') : MgT X Y i' j' m' u' Mf Uf := by
  obtain ⟨a, b, hm, h1, h2⟩ := h
  cases s with
  | lt hx hy hlt =>
    rw [drop_at hx, drop_at hy] at hm
    rcases hm.inv with ⟨_, a', e, hm⟩ | ⟨h', _⟩ | ⟨h', _⟩
    · exact ⟨_, _, by rw [drop_at hy]; exact hm, by rw [← h1, e]; simp [sD], h2⟩
    · exact absurd hlt h'
    · exact absurd hlt h'
  | gt hx hy hn hgt =>
    rw [drop_at hx, drop_at hy] at hm
    rcases hm.inv with ⟨h', _⟩ | ⟨_, _, b', e, hm⟩ | ⟨_, h', _⟩
    · exact absurd h' hn
    · exact ⟨_, _, by rw [drop_at hx]; exact hm, h1, by rw [← h2, e]; simp [sD]⟩
    · exact absurd hgt h'
  | eq hx hy hn hg =>
    rw [drop_at hx, drop_at hy] at hm
    rcases hm.inv with ⟨h', _⟩ | ⟨_, h', _⟩ | ⟨_, _, hm⟩
    · exact absurd h' hn
    · exact absurd h' hg
    · exact ⟨_, _, hm, h1, h2⟩
theorem MgT.stop {X Y : List Str} {i j : Nat} {m u Mf Uf : List PyData} (h : MgT X Y i j m u Mf Uf) (he : X.length ≤ i ∨ Y.length ≤ j) : m ++ (sD X).drop i = Mf ∧ u ++ (sD Y).drop j = Uf := by
  obtain ⟨a, b, hm, h1, h2⟩ := h
  rw [← List.map_drop, ← List.map_drop, ← h1, ← h2]
  rcases he with he | he
  · rw [List.drop_eq_nil_of_le he] at hm ⊢
    generalize Y.drop j = q at hm ⊢
    cases hm with
    | nilL => exact ⟨rfl, rfl⟩
    | nilR => exact ⟨rfl, rfl⟩
  · rw [List.drop_eq_nil_of_le he] at hm ⊢
    generalize X.drop i = p at hm ⊢
    cases hm with
    | nilL => exact ⟨rfl, rfl⟩
    | nilR => exact ⟨rfl, rfl⟩
theorem Stp.less {X Y : List Str} {i j i' j' : Nat} {m u m' u' : List PyData} (s : Stp X Y i j m u i' j' m' u') (h1 : m.length ≤ i) (h2 : u.length ≤ j) : (X.length - i') + (Y.length - j') < (X.length - i) + (Y.length - j) ∧ m'.length ≤ i' ∧ u'.length ≤ j' ∧ i' ≤ X.length ∧ j' ≤ Y.length ∨ (i' ≤ X.length ∧ j' ≤ Y.length → False) := by
  cases s with
  | lt hx hy _ =>
    have h3 := (List.getElem?_eq_some_iff.mp hx).1
    have h4 := (List.getElem?_eq_some_iff.mp hy).1
    left; simp; omega
  | gt hx hy _ _ =>
    have h3 := (List.getElem?_eq_some_iff.mp hx).1
    have h4 := (List.getElem?_eq_some_iff.mp hy).1
    left; simp; omega
  | eq hx hy _ _ =>
    have h3 := (List.getElem?_eq_some_iff.mp hx).1
    have h4 := (List.getElem?_eq_some_iff.mp hy).1
    left; omega
variable [Inhabited Base]
variable {K : Frag} {P : Addr} {G : Str → Option Value} {Λ : List Addr}
section
variable {prog : Program} {w : World} {n b k : Nat} {A : Around} {E : Value → Shared → Prop} {M O O' N : List Addr} {α : Str → Addr} {env : Env} {s₀ s s' : Shared} {e : Addr} {outer : List Env}
theorem sld_while (hfr : A.frames = some (env :: outer)) (hfl : env.frame = some env.locals) (f : Frm K P Λ k A env sldNm n) (hG : G "IndexError" = some (.type "IndexError")) {X Y : List Str} (upX : ∀ i x x', X[i]? = some x → X[i + 1]? = some x' → x' ≠ x) (upY : ∀ i x x', Y[i]? = some x → Y[i + 1]? = some x' → x' ≠ x) (hX : X.length ≤ 100) (hY : Y.length ≤ 100)
    {i j : Nat} {m u Mf Uf : List PyData} {o : Option (PyData × Option PyData)} (r : Run K P G Λ n M O α env sldNm (qS (sD X) (sD Y) i j m u o) s) (hi : i ≤ X.length) (hj : j ≤ Y.length) (hm : m.length ≤ i) (hu : u.length ≤ j) (hT : MgT X Y i j m u Mf Uf) {c : Nat} {p : Pos} {R : Result → Shared → Prop}
    (hR : ∀ O' s' i' j' o', GrowB P M s s' → Ext O O' s → Run K P G Λ n M O' α env sldNm (qS (sD X) (sD Y) i' j' Mf Uf o') s' → R (.ok .next) s') :
    codeAny (model prog w) A (.whileLoop (.Constant (.bool true) c p) [sdTry] [] env) R s := by
  refine codeAny_whileLoop (fun N s' => ∃ i j m u o O', N = (X.length - i) + (Y.length - j) ∧ GrowB P M s s' ∧ Ext O O' s ∧ Run K P G Λ n M O' α env sldNm (qS (sD X) (sD Y) i j m u o) s' ∧ i ≤ X.length ∧ j ≤ Y.length ∧ m.length ≤ i ∧ u.length ≤ j ∧ MgT X Y i j m u Mf Uf) ?_ _ ⟨i, j, m, u, o, O, rfl, GrowB.refl, Ext.refl, r, hi, hj, hm, hu, hT⟩
  rintro N s₁ ⟨i, j, m, u, o, O₁, rfl, g, eo, r, hi, hj, hm, hu, hT⟩
  show wpAny (model prog w) A (do let v ← eval (.Constant (.bool true) c p) env; standAt _; holding [v] (truthy v)) _ _ s₁
  rw [eval_Constant]
  refine wpAny_bind (wpAny_pure (wpAny_bind (wpAny_standAt (wpAny_holding (wpAny_truthy_bool ?_)))))
  simp only [if_true]
  refine wpAny_execs_cons (sld_pass hfr hfl f hG upX upY hX hY r hi hj (by omega) (by omega) (fun O₂ s₂ i' j' m' u' o' g₂ eo₂ r₂ st hi' hj' => ?_) (fun O₂ s₂ i' j' m' u' o' g₂ eo₂ r₂ he st => ?_))
  · refine wpAny_execs_nil ?_
    rcases st.less hm hu with ⟨q1, q2, q3, q4, q5⟩ | q
    · exact ⟨_, q1, i', j', m', u', o', O₂, rfl, g.trans g₂, eo.trans eo₂ g.size, r₂, q4, q5, q2, q3, hT.step st⟩
    · exact absurd ⟨hi', hj'⟩ q
  · have hT' : MgT X Y i' j' m' u' Mf Uf := by
      rcases st with ⟨rfl, rfl, rfl, rfl⟩ | st
      · exact hT
      · exact hT.step st
    obtain ⟨e1, e2⟩ := hT'.stop he
    rw [e1, e2] at r₂
    exact hR O₂ s₂ i' j' o' (g.trans g₂) (eo.trans eo₂ g.size) r₂
end
end Mine
end
section
open PySem PySem.Spec PySem.Calls PyProof.Rows PySem.W
set_option maxRecDepth 100000
namespace Mine
/-- leaf contracts -/
noncomputable def spLen : List PyData → Option PyData
  | [.str x] => guard' (strFit x) (some (.int x.length))
  | [.list xs] => guard' (Nat.ble xs.length 100000) (some (.int xs.length))
  | _ => none
noncomputable def sABC : Str := ⟨#[97, 98, 99]⟩
noncomputable def sFIG : Str := ⟨#[48, 49, 50, 51]⟩
noncomputable def Φ0 : Orc := addO (fun _ _ => none) "len" spLen
noncomputable def Φ1 : Orc := addO (addO (addO (addO (addO Φ0 "and_" spAnd) "or_" spOr) "lshift" spLsh) "rshift" spRsh) "eq" spEq

noncomputable def nmD (i j : Nat) : PyData := .str ⟨#[97 + i, 48 + j]⟩
noncomputable def sel (m w : Nat) (x : PyData) : List PyData := match Nat.testBit m w with
  | true => [x]
  | false => []
noncomputable def blk (i m : Nat) : List PyData := sel m 3 (nmD i 0) ++ (sel m 2 (nmD i 1) ++ (sel m 1 (nmD i 2) ++ sel m 0 (nmD i 3)))
noncomputable def lst (a b c : Nat) : List PyData := blk 0 a ++ (blk 1 b ++ blk 2 c)
noncomputable def iD (n : Nat) : PyData := .int (Int.ofNat n)
noncomputable def rowsD (a b c : Nat) : PyData := .list [iD a, iD b, iD c]

theorem lt8 {l : Nat} (h : l < 8) : l = 0 ∨ l = 1 ∨ l = 2 ∨ l = 3 ∨ l = 4 ∨ l = 5 ∨ l = 6 ∨ l = 7 := by revert l; decide
theorem lt16 {l : Nat} (h : l < 16) : l = 0 ∨ l = 1 ∨ l = 2 ∨ l = 3 ∨ l = 4 ∨ l = 5 ∨ l = 6 ∨ l = 7 ∨ l = 8 ∨ l = 9 ∨ l = 10 ∨ l = 11 ∨ l = 12 ∨ l = 13 ∨ l = 14 ∨ l = 15 := by revert l; decide
/-! equations over a few numbers: all at once -/
noncomputable def mapA {α : Type} (F : Nat → α) (l : List Nat) : List α := @List.rec Nat (fun _ => List α) [] (fun a _ ih => F a :: ih) l
noncomputable def mapB {α : Type} (F : Nat → α) (l : List Nat) : List α := @List.rec Nat (fun _ => List α) [] (fun a _ ih => F a :: ih) l
theorem ev_at {α : Type} {F G : Nat → α} : ∀ {l : List Nat}, mapA F l = mapB G l → ∀ x, x ∈ l → F x = G x
  | [], _, _, h => nomatch h
  | a :: r, h, x, hx => by
    have h : F a :: mapA F r = G a :: mapB G r := h
    rcases List.mem_cons.mp hx with e | hx
    · rw [e]; exact (List.cons.inj h).1
    · exact ev_at (List.cons.inj h).2 x hx
noncomputable def n3 : List Nat := [0, 1, 2]
noncomputable def n4 : List Nat := [0, 1, 2, 3]
noncomputable def n8 : List Nat := [0, 1, 2, 3, 4, 5, 6, 7]
noncomputable def n16 : List Nat := [0, 1, 2, 3, 4, 5, 6, 7, 8, 9, 10, 11, 12, 13, 14, 15]
theorem in3 : ∀ l, l < 3 → l ∈ n3 := by decide
theorem in4 : ∀ l, l < 4 → l ∈ n4 := by decide
theorem in8 : ∀ l, l < 8 → l ∈ n8 := by decide
theorem in16 : ∀ l, l < 16 → l ∈ n16 := by decide
section
variable {α : Type}
theorem ev3 {F G : Nat → α} (h : mapA F n3 = mapB G n3) : ∀ l, l < 3 → F l = G l := fun l hl => ev_at h l (in3 l hl)
theorem ev4 {F G : Nat → α} (h : mapA F n4 = mapB G n4) : ∀ l, l < 4 → F l = G l := fun l hl => ev_at h l (in4 l hl)
theorem ev8 {F G : Nat → α} (h : mapA F n8 = mapB G n8) : ∀ l, l < 8 → F l = G l := fun l hl => ev_at h l (in8 l hl)
theorem ev16 {F G : Nat → α} (h : mapA F n16 = mapB G n16) : ∀ l, l < 16 → F l = G l := fun l hl => ev_at h l (in16 l hl)
theorem ev88 {F G : Nat → Nat → α} (h : mapA (fun x => mapA (F x) n8) n8 = mapB (fun x => mapB (G x) n8) n8) : ∀ l, l < 8 → ∀ k, k < 8 → F l k = G l k := fun l hl => ev8 (ev8 h l hl)
theorem ev816 {F G : Nat → Nat → α} (h : mapA (fun x => mapA (F x) n16) n8 = mapB (fun x => mapB (G x) n16) n8) : ∀ l, l < 8 → ∀ k, k < 16 → F l k = G l k := fun l hl => ev16 (ev8 h l hl)
theorem ev1616 {F G : Nat → Nat → α} (h : mapA (fun x => mapA (F x) n16) n16 = mapB (fun x => mapB (G x) n16) n16) : ∀ l, l < 16 → ∀ k, k < 16 → F l k = G l k := fun l hl => ev16 (ev16 h l hl)
theorem ev34 {F G : Nat → Nat → α} (h : mapA (fun x => mapA (F x) n4) n3 = mapB (fun x => mapB (G x) n4) n3) : ∀ l, l < 3 → ∀ k, k < 4 → F l k = G l k := fun l hl => ev4 (ev3 h l hl)
theorem ev38 {F G : Nat → Nat → α} (h : mapA (fun x => mapA (F x) n8) n3 = mapB (fun x => mapB (G x) n8) n3) : ∀ l, l < 3 → ∀ k, k < 8 → F l k = G l k := fun l hl => ev8 (ev3 h l hl)
theorem ev416 {F G : Nat → Nat → α} (h : mapA (fun x => mapA (F x) n16) n4 = mapB (fun x => mapB (G x) n16) n4) : ∀ l, l < 4 → ∀ k, k < 16 → F l k = G l k := fun l hl => ev16 (ev4 h l hl)
end

/-! the rows of a listing -/
noncomputable def rwFor : Stmt := nth (bodyOf "_law_rows") 1
noncomputable def rwNm : NK := namesOf "_law_rows"
noncomputable def rwX : NK → En → List Stmt → Option Fl := fun nm ρ b => pexecs (pexec Φ1 7) nm ρ b
/-- the frame behind the first rows: with or without the loop's names -/
noncomputable def rwS (L : PyData) (a b c : Nat) : Option (B × B) → En
  | none => [("listing", .val L), ("rows", .own [iD a, iD b, iD c])]
  | some (x, y) => [("listing", .val L), ("rows", .own [iD a, iD b, iD c]), ("name", x), ("k", y)]
noncomputable def wit (i m : Nat) (o : Option (B × B)) : Option (B × B) := match Nat.testBit m 0 with
  | true => some (.val (nmD i 3), .val (iD i))
  | false => match Nat.testBit m 1 with
    | true => some (.val (nmD i 2), .val (iD i))
    | false => match Nat.testBit m 2 with
      | true => some (.val (nmD i 1), .val (iD i))
      | false => match Nat.testBit m 3 with
        | true => some (.val (nmD i 0), .val (iD i))
        | false => o
set_option maxHeartbeats 4000000
theorem rw_a (L : PyData) (a : Nat) (h : a < 16) : pforN rwX rwNm (forT rwFor) (forB rwFor) (blk 0 a) (rwS L 0 0 0 none) = some (rwS L a 0 0 (wit 0 a none)) := by
  revert a; exact ev16 (by kernel_rfl)
theorem rw_b0 (L : PyData) (a b : Nat) (h : b < 16) : pforN rwX rwNm (forT rwFor) (forB rwFor) (blk 1 b) (rwS L a 0 0 none) = some (rwS L a b 0 (wit 1 b none)) := by
  revert b; exact ev16 (by kernel_rfl)
theorem rw_b1 (L : PyData) (a b : Nat) (x y : B) (h : b < 16) : pforN rwX rwNm (forT rwFor) (forB rwFor) (blk 1 b) (rwS L a 0 0 (some (x, y))) = some (rwS L a b 0 (wit 1 b (some (x, y)))) := by
  revert b; exact ev16 (by kernel_rfl)
theorem rw_c0 (L : PyData) (a b c : Nat) (h : c < 16) : pforN rwX rwNm (forT rwFor) (forB rwFor) (blk 2 c) (rwS L a b 0 none) = some (rwS L a b c (wit 2 c none)) := by
  revert c; exact ev16 (by kernel_rfl)
theorem rw_c1 (L : PyData) (a b c : Nat) (x y : B) (h : c < 16) : pforN rwX rwNm (forT rwFor) (forB rwFor) (blk 2 c) (rwS L a b 0 (some (x, y))) = some (rwS L a b c (wit 2 c (some (x, y)))) := by
  revert c; exact ev16 (by kernel_rfl)

theorem rows_eval (a b c : Nat) (ha : a < 16) (hb : b < 16) (hc : c < 16) : callF Φ1 pw "_law_rows" [.list (lst a b c)] = some (rowsD a b c) := by
  have key : ∀ (o : Option (B × B)), pexecs (pexec Φ1 8) rwNm (rwS (.list (lst a b c)) a b c o) ((bodyOf "_law_rows").drop 2) = some (.ret (rowsD a b c)) := by
    intro o
    cases o with
    | none => kernel_rfl
    | some p => cases p; kernel_rfl
  have loop : ∃ o, pfor rwX rwNm (forT rwFor) (forB rwFor) (lst a b c) (rwS (.list (lst a b c)) 0 0 0 none) = some (.next (rwS (.list (lst a b c)) a b c o)) := by
    generalize PyData.list (lst a b c) = L
    unfold lst
    rw [pforN_append (rw_a L a ha)]
    have nb : ∀ o, pforN rwX rwNm (forT rwFor) (forB rwFor) (blk 1 b) (rwS L a 0 0 o) = some (rwS L a b 0 (wit 1 b o)) := fun o => match o with
      | none => rw_b0 L a b hb
      | some (x, y) => rw_b1 L a b x y hb
    have nc : ∀ o, pforN rwX rwNm (forT rwFor) (forB rwFor) (blk 2 c) (rwS L a b 0 o) = some (rwS L a b c (wit 2 c o)) := fun o => match o with
      | none => rw_c0 L a b c hc
      | some (x, y) => rw_c1 L a b c x y hc
    rw [pforN_append (nb _)]
    exact ⟨_, pforN_done (nc _)⟩
  obtain ⟨o, loop⟩ := loop
  have st : pexec Φ1 8 rwNm (rwS (.list (lst a b c)) 0 0 0 none) rwFor = pfor rwX rwNm (forT rwFor) (forB rwFor) (lst a b c) (rwS (.list (lst a b c)) 0 0 0 none) := by kernel_rfl
  have e1 : callF Φ1 pw "_law_rows" [.list (lst a b c)] = (match pexecs (pexec Φ1 8) rwNm (rwS (.list (lst a b c)) 0 0 0 none) (rwFor :: (bodyOf "_law_rows").drop 2) with
      | some (.ret d) => some d
      | some (.next _) => some .none
      | _ => none) := by kernel_rfl
  rw [e1, pexecs_next (st.trans loop), key o]
end Mine
end
section
open PySem PySem.Spec PySem.Calls PyProof.Rows PySem.W
set_option maxRecDepth 100000
set_option maxHeartbeats 4000000
namespace Mine
noncomputable def selN (m w c : Nat) : List Nat := match Nat.testBit m w with
  | true => [c]
  | false => []
noncomputable def letsL (l : Nat) : List Nat := selN l 2 97 ++ (selN l 1 98 ++ selN l 0 99)
noncomputable def figsL (f : Nat) : List Nat := selN f 3 48 ++ (selN f 2 49 ++ (selN f 1 50 ++ selN f 0 51))
noncomputable def letsS (l : Nat) : Str := ⟨(letsL l).toArray⟩
noncomputable def figsS (f : Nat) : Str := ⟨(figsL f).toArray⟩
noncomputable def signsF (s : Str) (m : Nat) : Option PyData := match nameEq s sABC with
    | true => guard' (Nat.blt m 8) (some (.str (letsS m)))
    | false => match nameEq s sFIG with
      | true => guard' (Nat.blt m 16) (some (.str (figsS m)))
      | false => none
noncomputable def spSigns (ds : List PyData) : Option PyData := on2 ds fun a b => dStr a fun s => dInt b fun i => onNat i fun m => signsF s m
theorem blt_lt {a b : Nat} (h : Nat.blt a b = true) : a < b := by simpa [Nat.blt_eq] using h
theorem signs_l : ∀ m, m < 8 → callF Φ1 pw "_law_signs" [.str sABC, .int (.ofNat m)] = some (.str (letsS m)) := ev8 (by kernel_rfl)
theorem signs_f : ∀ m, m < 16 → callF Φ1 pw "_law_signs" [.str sFIG, .int (.ofNat m)] = some (.str (figsS m)) := ev16 (by kernel_rfl)
theorem signs_says : Says Φ1 "_law_signs" spSigns := by
  intro ds d h
  obtain ⟨a, b, e1, h1⟩ := on2_some h
  obtain ⟨s, e2, h2⟩ := dStr_some h1
  obtain ⟨i, e3, h3⟩ := dInt_some h2
  obtain ⟨m, e4, h4⟩ := onNat_some h3
  rw [e1, e2, e3, e4]
  clear h h1 h2 h3
  unfold signsF at h4
  split at h4
  · rename_i hs
    obtain ⟨hm, h5⟩ := guard'_some h4
    rw [← h5, (nameEq_iff _ _).mp hs]
    exact signs_l m (blt_lt hm)
  · split at h4
    · rename_i hs
      obtain ⟨hm, h5⟩ := guard'_some h4
      rw [← h5, (nameEq_iff _ _).mp hs]
      exact signs_f m (blt_lt hm)
    · exact no h4

/-- what the letters l share, of the rows a, b, c -/
noncomputable def sh (a b c l : Nat) : Nat :=
  let t0 := 15
  let t1 := match Nat.testBit l 2 with | true => Nat.land t0 a | false => t0
  let t2 := match Nat.testBit l 1 with | true => Nat.land t1 b | false => t1
  match Nat.testBit l 0 with | true => Nat.land t2 c | false => t2
/-- three rows -/
noncomputable def onRows {β : Type} (r : PyData) (f : Nat → Nat → Nat → Option β) : Option β := dList r fun xs => onC xs fun x q => on2 q fun y z => dInt x fun a => dInt y fun b => dInt z fun c => onNat a fun a => onNat b fun b => onNat c fun c => f a b c
theorem onRows_some {β : Type} {r : PyData} {f : Nat → Nat → Nat → Option β} {v : β} (h : onRows r f = some v) : ∃ a b c, r = rowsD a b c ∧ f a b c = some v := by
  obtain ⟨xs, e1, h1⟩ := dList_some h
  obtain ⟨x, q, e2, h2⟩ := onC_some h1
  obtain ⟨y, z, e3, h3⟩ := on2_some h2
  obtain ⟨a', e4, h4⟩ := dInt_some h3
  obtain ⟨b', e5, h5⟩ := dInt_some h4
  obtain ⟨c', e6, h6⟩ := dInt_some h5
  obtain ⟨a, e7, h7⟩ := onNat_some h6
  obtain ⟨b, e8, h8⟩ := onNat_some h7
  obtain ⟨c, e9, h9⟩ := onNat_some h8
  exact ⟨a, b, c, by rw [e1, e2, e3, e4, e5, e6, e7, e8, e9]; rfl, h9⟩
/-- three rows and a number -/
noncomputable def onRowsN (ds : List PyData) (f : Nat → Nat → Nat → Nat → Option PyData) : Option PyData := on2 ds fun r x => onRows r fun a b c => dInt x fun i => onNat i fun l => f a b c l
theorem onRowsN_some {ds : List PyData} {f : Nat → Nat → Nat → Nat → Option PyData} {d : PyData} (h : onRowsN ds f = some d) : ∃ a b c l, ds = [rowsD a b c, iD l] ∧ f a b c l = some d := by
  obtain ⟨r, x, e1, h1⟩ := on2_some h
  obtain ⟨a, b, c, e2, h2⟩ := onRows_some h1
  obtain ⟨i, e3, h3⟩ := dInt_some h2
  obtain ⟨l, e4, h4⟩ := onNat_some h3
  exact ⟨a, b, c, l, by rw [e1, e2, e3, e4]; rfl, h4⟩
noncomputable def spShared (ds : List PyData) : Option PyData := onRowsN ds fun a b c l => guard' (Nat.blt l 8) (some (iD (sh a b c l)))
theorem shared_l (a b c : Nat) : ∀ l, l < 8 → callF Φ1 pw "_law_shared" [rowsD a b c, iD l] = some (iD (sh a b c l)) := ev8 (by kernel_rfl)
theorem shared_says : Says Φ1 "_law_shared" spShared := by
  intro ds d h
  obtain ⟨a, b, c, l, e, h1⟩ := onRowsN_some h
  obtain ⟨hm, h2⟩ := guard'_some h1
  rw [e, ← h2]
  exact shared_l a b c l (blt_lt hm)
/-- the letters whose rows hold the figures f -/
noncomputable def hvT (a f : Nat) : Bool := PyData.eqv (iD (Nat.land a f)) (iD f)
noncomputable def hv (a b c f : Nat) : Nat :=
  let t1 := match hvT a f with | true => Nat.lor 0 4 | false => 0
  let t2 := match hvT b f with | true => Nat.lor t1 2 | false => t1
  match hvT c f with | true => Nat.lor t2 1 | false => t2
noncomputable def spHaving (ds : List PyData) : Option PyData := onRowsN ds fun a b c f => some (iD (hv a b c f))
noncomputable def hvFor : Stmt := nth (bodyOf "_law_having") 1
noncomputable def hvIf : Stmt := nth (forB hvFor) 0
noncomputable def hvNm : NK := namesOf "_law_having"
noncomputable def hvS (R : PyData) (f t : Nat) (k : Option Nat) : En := match k with
  | none => [("rows", .val R), ("figures", .val (iD f)), ("told", .val (iD t))]
  | some k => [("rows", .val R), ("figures", .val (iD f)), ("told", .val (iD t)), ("k", .val (iD k))]
theorem having_says : Says Φ1 "_law_having" spHaving := by
  intro ds d h
  · obtain ⟨a, b, c, f, e, h1⟩ := onRowsN_some h
    rw [e, ← h1]
    clear h h1 e
    have step : ∀ (k t x w : Nat), ptest (pev Φ1 12) hvNm (hvS (rowsD a b c) f t (some k)) 6 (ifT hvIf) = some (hvT x f) → pexecs (pexec Φ1 6) hvNm (hvS (rowsD a b c) f t (some k)) (ifB hvIf) = some (.next (hvS (rowsD a b c) f (Nat.lor t w) (some k))) →
        pexecs (pexec Φ1 7) hvNm (hvS (rowsD a b c) f t (some k)) (forB hvFor) = some (.next (hvS (rowsD a b c) f (match hvT x f with | true => Nat.lor t w | false => t) (some k))) := by
      intro k t x w h1 h2
      have e1 : pexecs (pexec Φ1 7) hvNm (hvS (rowsD a b c) f t (some k)) (forB hvFor) = (match pexec Φ1 7 hvNm (hvS (rowsD a b c) f t (some k)) (.If (ifT hvIf) (ifB hvIf) (ifO hvIf) ⟨0, 0, 0, 0⟩) with
        | some (.next ρ') => some (.next ρ')
        | x => x) := by kernel_rfl
      rw [e1, pexec_if h1]
      cases hvT x f with
      | true => rw [if_pos rfl, h2]
      | false =>
        rw [if_neg (by decide)]
        have e2 : pexecs (pexec Φ1 6) hvNm (hvS (rowsD a b c) f t (some k)) (ifO hvIf) = some (.next (hvS (rowsD a b c) f t (some k))) := by kernel_rfl
        rw [e2]
    have s0 := step 0 0 a 4 (by kernel_rfl) (by kernel_rfl)
    have s1 : ∀ t, t = 0 ∨ t = 4 → _ := fun t (ht : t = 0 ∨ t = 4) => step 1 t b 2 (by kernel_rfl) (by rcases ht with rfl | rfl <;> kernel_rfl)
    have s2 : ∀ t, t = 0 ∨ t = 4 ∨ t = 2 ∨ t = 6 → _ := fun t (ht : t = 0 ∨ t = 4 ∨ t = 2 ∨ t = 6) => step 2 t c 1 (by kernel_rfl) (by rcases ht with rfl | rfl | rfl | rfl <;> kernel_rfl)
    have r1 : ∀ x : Bool, (match x with | true => Nat.lor 0 4 | false => 0) = 0 ∨ (match x with | true => Nat.lor 0 4 | false => 0) = 4 := fun x => by cases x <;> decide
    have r2 : ∀ (x y : Bool), ((match y with | true => Nat.lor (match x with | true => Nat.lor 0 4 | false => 0) 2 | false => (match x with | true => Nat.lor 0 4 | false => 0)) = 0 ∨ (match y with | true => Nat.lor (match x with | true => Nat.lor 0 4 | false => 0) 2 | false => (match x with | true => Nat.lor 0 4 | false => 0)) = 4 ∨
        (match y with | true => Nat.lor (match x with | true => Nat.lor 0 4 | false => 0) 2 | false => (match x with | true => Nat.lor 0 4 | false => 0)) = 2 ∨ (match y with | true => Nat.lor (match x with | true => Nat.lor 0 4 | false => 0) 2 | false => (match x with | true => Nat.lor 0 4 | false => 0)) = 6) := fun x y => by cases x <;> cases y <;> decide
    have loop : pfor (fun nm ρ b => pexecs (pexec Φ1 7) nm ρ b) hvNm (forT hvFor) (forB hvFor) [iD 0, iD 1, iD 2] (hvS (rowsD a b c) f 0 none) = some (.next (hvS (rowsD a b c) f (hv a b c f) (some 2))) := by
      have b0 : bindTo hvNm (hvS (rowsD a b c) f 0 none) (forT hvFor) (iD 0) = some (hvS (rowsD a b c) f 0 (some 0)) := by kernel_rfl
      have b1 : ∀ t k k', bindTo hvNm (hvS (rowsD a b c) f t (some k)) (forT hvFor) (iD k') = some (hvS (rowsD a b c) f t (some k')) := fun t k k' => by kernel_rfl
      rw [pfor_next b0 s0, pfor_next (b1 _ 0 1) (s1 _ (r1 _)), pfor_next (b1 _ 1 2) (s2 _ (r2 _ _))]
      rfl
    have e1 : callF Φ1 pw "_law_having" [rowsD a b c, iD f] = (match pexecs (pexec Φ1 8) hvNm (hvS (rowsD a b c) f 0 none) (hvFor :: (bodyOf "_law_having").drop 2) with
      | some (.ret d) => some d
      | some (.next _) => some .none
      | _ => none) := by kernel_rfl
    have st : pexec Φ1 8 hvNm (hvS (rowsD a b c) f 0 none) hvFor = pfor (fun nm ρ b => pexecs (pexec Φ1 7) nm ρ b) hvNm (forT hvFor) (forB hvFor) [iD 0, iD 1, iD 2] (hvS (rowsD a b c) f 0 none) := by kernel_rfl
    have fin : ∀ t, pexecs (pexec Φ1 8) hvNm (hvS (rowsD a b c) f t (some 2)) ((bodyOf "_law_having").drop 2) = some (.ret (iD t)) := fun t => by kernel_rfl
    show callF Φ1 pw "_law_having" [rowsD a b c, iD f] = _
    rw [e1, pexecs_next (st.trans loop), fin]
end Mine
end
section
open PySem PySem.Spec PySem.Calls PyProof.Rows PySem.W
set_option maxRecDepth 100000
set_option maxHeartbeats 8000000
namespace Mine
noncomputable def Φ2 : Orc := addO (addO (addO Φ1 "_law_signs" spSigns) "_law_shared" spShared) "_law_having" spHaving
theorem hv_lt (a b c f : Nat) : hv a b c f < 8 := by
  unfold hv
  cases hvT a f <;> cases hvT b f <;> cases hvT c f <;> decide
noncomputable def kept (l p : Nat) : Nat := Nat.shiftRight l (p + 1)
noncomputable def begun (l p : Nat) : Nat := Nat.lor (Nat.shiftLeft (kept l p) (p + 1)) (Nat.shiftLeft 1 p)
noncomputable def wid (a b c l p : Nat) : Nat := hv a b c (sh a b c (begun l p))
noncomputable def nxStep (a b c l p : Nat) : Option Nat := match Nat.testBit l p with
  | true => none
  | false => match Nat.beq (Nat.shiftRight (wid a b c l p) (p + 1)) (kept l p) with
    | true => some (wid a b c l p)
    | false => none
noncomputable def nx (a b c l : Nat) : Int := match nxStep a b c l 0 with
  | some w => Int.ofNat w
  | none => match nxStep a b c l 1 with
    | some w => Int.ofNat w
    | none => match nxStep a b c l 2 with
      | some w => Int.ofNat w
      | none => Int.negSucc 0
noncomputable def spNext (ds : List PyData) : Option PyData := onRowsN ds fun a b c l => guard' (Nat.blt l 8) (some (.int (nx a b c l)))
noncomputable def nxFor : Stmt := nth (bodyOf "_law_next") 0
noncomputable def nxIf : Stmt := nth (forB nxFor) 0
noncomputable def nxNm : NK := namesOf "_law_next"
noncomputable def nS (R : PyData) (l : Nat) (p : Option Nat) (o : Option (Nat × Nat × Nat)) : En :=
  ("rows", .val R) :: ("letters", .val (iD l)) :: (match p with
    | none => []
    | some p => ("place", .val (iD p)) :: (match o with
      | none => []
      | some (x, y, z) => [("kept", .val (iD x)), ("begun", .val (iD y)), ("wider", .val (iD z))]))
theorem lt3 {p : Nat} (h : p < 3) : p = 0 ∨ p = 1 ∨ p = 2 := by omega
section
variable {α : Type}
theorem ev38' {F G : Nat → Nat → α} (h : mapA (fun x => mapA (F x) n3) n8 = mapB (fun x => mapB (G x) n3) n8) : ∀ l p, l < 8 → p < 3 → F l p = G l p := fun l p hl hp => ev3 (ev8 h l hl) p hp
theorem ev388 {F G : Nat → Nat → Nat → α} (h : mapA (fun x => mapA (fun y => mapA (F x y) n8) n3) n8 = mapB (fun x => mapB (fun y => mapB (G x y) n8) n3) n8) : ∀ l p w, l < 8 → p < 3 → w < 8 → F l p w = G l p w := fun l p w hl hp hw => ev8 (ev3 (ev8 h l hl) p hp) w hw
end
section
variable (a b c : Nat)
theorem nx_test (l p : Nat) (o : Option (Nat × Nat × Nat)) (hl : l < 8) (hp : p < 3) : ptest (pev Φ2 12) nxNm (nS (rowsD a b c) l (some p) o) 6 (ifT nxIf) = some (!Nat.testBit l p) := by
  cases o with
  | none => revert p l; exact ev38' (by kernel_rfl)
  | some o => obtain ⟨x, y, z⟩ := o; revert p l; exact ev38' (by kernel_rfl)
theorem nx_three (l p : Nat) (o : Option (Nat × Nat × Nat)) (hl : l < 8) (hp : p < 3) : pexecs (pexec Φ2 6) nxNm (nS (rowsD a b c) l (some p) o) ((ifB nxIf).take 3) = some (.next (nS (rowsD a b c) l (some p) (some (kept l p, begun l p, wid a b c l p)))) := by
  cases o with
  | none => revert p l; exact ev38' (by kernel_rfl)
  | some o => obtain ⟨x, y, z⟩ := o; revert p l; exact ev38' (by kernel_rfl)
theorem nx_found (R : PyData) (l p w : Nat) (hl : l < 8) (hp : p < 3) (hw : w < 8) : pexecs (pexec Φ2 6) nxNm (nS R l (some p) (some (kept l p, begun l p, w))) ((ifB nxIf).drop 3) = (match Nat.beq (Nat.shiftRight w (p + 1)) (kept l p) with
    | true => some (.ret (iD w))
    | false => some (.next (nS R l (some p) (some (kept l p, begun l p, w))))) := by
  revert w p l; exact ev388 (by kernel_rfl)

theorem nx_turn (l p : Nat) (o : Option (Nat × Nat × Nat)) (hl : l < 8) (hp : p < 3) : pexecs (pexec Φ2 7) nxNm (nS (rowsD a b c) l (some p) o) (forB nxFor) = (match nxStep a b c l p with
    | some w => some (.ret (iD w))
    | none => some (.next (nS (rowsD a b c) l (some p) (match Nat.testBit l p with | true => o | false => some (kept l p, begun l p, wid a b c l p))))) := by
  have e1 : pexecs (pexec Φ2 7) nxNm (nS (rowsD a b c) l (some p) o) (forB nxFor) = (match pexec Φ2 7 nxNm (nS (rowsD a b c) l (some p) o) (.If (ifT nxIf) (ifB nxIf) (ifO nxIf) ⟨0, 0, 0, 0⟩) with
    | some (.next ρ') => some (.next ρ')
    | x => x) := by kernel_rfl
  rw [e1, pexec_if (nx_test a b c l p o hl hp)]
  unfold nxStep
  cases hb : Nat.testBit l p with
  | true =>
    rw [if_neg (by decide)]
    have e2 : pexecs (pexec Φ2 6) nxNm (nS (rowsD a b c) l (some p) o) (ifO nxIf) = some (.next (nS (rowsD a b c) l (some p) o)) := by kernel_rfl
    rw [e2]
  | false =>
    rw [if_pos (by decide)]
    have e3 : ifB nxIf = (ifB nxIf).take 3 ++ (ifB nxIf).drop 3 := (List.take_append_drop 3 _).symm
    have hw : wid a b c l p < 8 := hv_lt ..
    rw [e3, pexecs_app (nx_three a b c l p o hl hp), nx_found (rowsD a b c) l p _ hl hp hw]
    dsimp only
    cases Nat.beq (Nat.shiftRight (wid a b c l p) (p + 1)) (kept l p) <;> rfl

theorem next_says : Says Φ2 "_law_next" spNext := by
  intro ds d h
  · obtain ⟨a, b, c, l, e, h1⟩ := onRowsN_some h
    obtain ⟨hl, h2⟩ := guard'_some h1
    have hl := blt_lt hl
    rw [e, ← h2]
    clear h h1 h2 e
    show callF Φ2 pw "_law_next" [rowsD a b c, iD l] = _
    have e1 : callF Φ2 pw "_law_next" [rowsD a b c, iD l] = (match pexecs (pexec Φ2 8) nxNm (nS (rowsD a b c) l none none) (nxFor :: (bodyOf "_law_next").drop 1) with
      | some (.ret d) => some d
      | some (.next _) => some .none
      | _ => none) := by kernel_rfl
    have st : pexec Φ2 8 nxNm (nS (rowsD a b c) l none none) nxFor = pfor (fun nm ρ b => pexecs (pexec Φ2 7) nm ρ b) nxNm (forT nxFor) (forB nxFor) [iD 0, iD 1, iD 2] (nS (rowsD a b c) l none none) := by kernel_rfl
    have b0 : bindTo nxNm (nS (rowsD a b c) l none none) (forT nxFor) (iD 0) = some (nS (rowsD a b c) l (some 0) none) := by kernel_rfl
    have b1 : ∀ o k k', bindTo nxNm (nS (rowsD a b c) l (some k) o) (forT nxFor) (iD k') = some (nS (rowsD a b c) l (some k') o) := fun o k k' => by
      rcases o with _ | ⟨x, y, z⟩ <;> kernel_rfl
    have fin : ∀ o, pexecs (pexec Φ2 8) nxNm (nS (rowsD a b c) l (some 2) o) ((bodyOf "_law_next").drop 1) = some (.ret (.int (Int.negSucc 0))) := fun o => by
      rcases o with _ | ⟨x, y, z⟩ <;> kernel_rfl
    have t0 := fun o => nx_turn a b c l 0 o hl (by decide)
    have t1 := fun o => nx_turn a b c l 1 o hl (by decide)
    have t2 := fun o => nx_turn a b c l 2 o hl (by decide)
    have one : ∀ {st : Stmt} {r : List Stmt} {ρ : En} {v : PyData}, pexec Φ2 8 nxNm ρ st = some (.ret v) → pexecs (pexec Φ2 8) nxNm ρ (st :: r) = some (.ret v) := fun h => pexecs_ret h
    rw [e1]
    unfold nx
    cases h0 : nxStep a b c l 0 with
    | some w =>
      have u := t0 none
      rw [h0] at u
      rw [one (st.trans (pfor_ret b0 u))]
      rfl
    | none =>
      have u := t0 none
      rw [h0] at u
      have st1 := st.trans (pfor_next b0 u)
      cases h1 : nxStep a b c l 1 with
      | some w =>
        have u1 := t1 (match Nat.testBit l 0 with | true => none | false => some (kept l 0, begun l 0, wid a b c l 0))
        rw [h1] at u1
        rw [one (st1.trans (pfor_ret (b1 _ 0 1) u1))]
        rfl
      | none =>
        have u1 := t1 (match Nat.testBit l 0 with | true => none | false => some (kept l 0, begun l 0, wid a b c l 0))
        rw [h1] at u1
        have st2 := st1.trans (pfor_next (b1 _ 0 1) u1)
        have u2 := t2 (match Nat.testBit l 1 with | true => (match Nat.testBit l 0 with | true => none | false => some (kept l 0, begun l 0, wid a b c l 0)) | false => some (kept l 1, begun l 1, wid a b c l 1))
        cases h2 : nxStep a b c l 2 with
        | some w =>
          rw [h2] at u2
          rw [one (st2.trans (pfor_ret (b1 _ 1 2) u2))]
          rfl
        | none =>
          rw [h2] at u2
          have st3 := st2.trans (pfor_next (b1 _ 1 2) u2)
          rw [pexecs_next (st3.trans rfl), fin]
end
end Mine
end
section
open PySem PySem.Spec PySem.Calls PyProof.Rows PySem.W
set_option maxRecDepth 100000
set_option maxHeartbeats 8000000
namespace Mine
noncomputable def Φ3 : Orc := addO Φ2 "_law_next" spNext
noncomputable def bkT (a b c l : Nat) : PyData := .tuple [.str (letsS l), .str (figsS (sh a b c l))]
/-- the blocks from the letters N on, at most n of them -/
noncomputable def bkF (a b c : Nat) : Nat → Int → List PyData
  | 0, _ => []
  | _ + 1, .negSucc _ => []
  | n + 1, .ofNat l => bkT a b c l :: bkF a b c n (nx a b c l)
/-- the walk over the blocks ends within n steps, and stays among the eight sets of letters -/
noncomputable def ends (a b c : Nat) : Nat → Int → Bool
  | _, .negSucc 0 => true
  | _, .negSucc _ => false
  | 0, .ofNat _ => false
  | n + 1, .ofNat l => match Nat.blt l 8 with
    | true => match Nat.blt (sh a b c l) 16 with
      | true => ends a b c n (nx a b c l)
      | false => false
    | false => false
noncomputable def spBlocks (ds : List PyData) : Option PyData := on1 ds fun r => onRows r fun a b c => guard' (ends a b c 8 (Int.ofNat (hv a b c 15))) (some (.list (bkF a b c 8 (Int.ofNat (hv a b c 15)))))
noncomputable def bkWh : Stmt := nth (bodyOf "_law_blocks") 2
noncomputable def bkNm : NK := namesOf "_law_blocks"
noncomputable def bS (R : PyData) (N : Int) (bl : List PyData) : En := [("rows", .val R), ("letters", .val (.int N)), ("blocks", .own bl)]
noncomputable def bkE : Expr := appE (nth (whB bkWh) 0)
section
variable (a b c : Nat)
theorem bk_c1 (l : Nat) (bl : List PyData) (hl : l < 8) : pev Φ3 11 bkNm (bS (rowsD a b c) (Int.ofNat l) bl) (tupE bkE 0) = some (.str (letsS l)) := by
  revert l; exact ev8 (by kernel_rfl)
theorem bk_c2a (l : Nat) (bl : List PyData) (hl : l < 8) : pev Φ3 10 bkNm (bS (rowsD a b c) (Int.ofNat l) bl) (callA (tupE bkE 1) 1) = some (iD (sh a b c l)) := by
  revert l; exact ev8 (by kernel_rfl)
theorem bk_c2 (l s : Nat) (bl : List PyData) (hs : s < 16) (h : pev Φ3 10 bkNm (bS (rowsD a b c) (Int.ofNat l) bl) (callA (tupE bkE 1) 1) = some (iD s)) : pev Φ3 11 bkNm (bS (rowsD a b c) (Int.ofNat l) bl) (tupE bkE 1) = some (.str (figsS s)) := by
  have f : tupE bkE 1 = .Call (.Name "_law_signs" (fnP (tupE bkE 1))) [callA (tupE bkE 1) 0, callA (tupE bkE 1) 1] [] (callQ (tupE bkE 1)) := by kernel_rfl
  have e := pev_call (Φ := Φ3) (n := 10) (nm := bkNm) (ρ := bS (rowsD a b c) (Int.ofNat l) bl) (f := "_law_signs") (p := fnP (tupE bkE 1)) (q := callQ (tupE bkE 1)) (args := [callA (tupE bkE 1) 0, callA (tupE bkE 1) 1]) (ds := [.str sFIG, iD s]) (by kernel_rfl) (by kernel_rfl) (by kernel_rfl)
    (pevs_two (by kernel_rfl) h (by kernel_rfl) (by kernel_rfl)) rfl
  have g : Φ3 "_law_signs" [.str sFIG, iD s] = guard' (Nat.blt s 16) (some (.str (figsS s))) := by kernel_rfl
  have hb : Nat.blt s 16 = true := by simpa [Nat.blt_eq] using hs
  rw [hb] at g
  exact (congrArg (pev Φ3 11 bkNm (bS (rowsD a b c) (Int.ofNat l) bl)) f).trans (e.trans g)
theorem bk_e (l : Nat) (bl : List PyData) (hl : l < 8) (hs : sh a b c l < 16) : pev Φ3 12 bkNm (bS (rowsD a b c) (Int.ofNat l) bl) bkE = some (bkT a b c l) := by
  have f : bkE = .Tuple [tupE bkE 0, tupE bkE 1] (tupK bkE) (exP bkE) := by kernel_rfl
  exact (congrArg (pev Φ3 12 bkNm (bS (rowsD a b c) (Int.ofNat l) bl)) f).trans (pev_tuple (pevs_two (bk_c1 a b c l bl hl) (bk_c2 a b c l _ bl hs (bk_c2a a b c l bl hl)) (by kernel_rfl) (by kernel_rfl)) rfl)
noncomputable def bkA : Stmt := nth (whB bkWh) 0
theorem bk_body (l : Nat) (bl : List PyData) (hl : l < 8) (hs : sh a b c l < 16) (hb : bl.length < 9) : pexecs (pexec Φ3 7) bkNm (bS (rowsD a b c) (Int.ofNat l) bl) (whB bkWh) = some (.next (bS (rowsD a b c) (nx a b c l) (bl ++ [bkT a b c l]))) := by
  have f : bkA = .Expr (.Call (.Attribute (.Name "blocks" (appP bkA 0)) "append" (appP bkA 1)) [bkE] [] (appP bkA 2)) (appP bkA 3) := by kernel_rfl
  have e1 : pexec Φ3 7 bkNm (bS (rowsD a b c) (Int.ofNat l) bl) bkA = some (.next (bS (rowsD a b c) (Int.ofNat l) (bl ++ [bkT a b c l]))) := by
    refine (congrArg (pexec Φ3 7 bkNm (bS (rowsD a b c) (Int.ofNat l) bl)) f).trans ((pexec_append (by kernel_rfl) (by kernel_rfl) (xs := bl) (by kernel_rfl) (bk_e a b c l bl hl hs) (by omega)).trans ?_)
    kernel_rfl
  have e2 : pexec Φ3 7 bkNm (bS (rowsD a b c) (Int.ofNat l) (bl ++ [bkT a b c l])) (nth (whB bkWh) 1) = some (.next (bS (rowsD a b c) (nx a b c l) (bl ++ [bkT a b c l]))) := by
    clear e1 hs; revert l; exact ev8 (by kernel_rfl)
  have e0 : pexecs (pexec Φ3 7) bkNm (bS (rowsD a b c) (Int.ofNat l) bl) (whB bkWh) = pexecs (pexec Φ3 7) bkNm (bS (rowsD a b c) (Int.ofNat l) bl) (bkA :: nth (whB bkWh) 1 :: []) := by kernel_rfl
  rw [e0, pexecs_next e1, pexecs_next e2]
  rfl
noncomputable def bkT0 : Expr := boE (whT bkWh) 0
noncomputable def bkT1 : Expr := boE (whT bkWh) 1
theorem bk_test (l : Nat) (bl : List PyData) (hl : l < 8) (hn : bl.length < 9) : ptest (pev Φ3 12) bkNm (bS (rowsD a b c) (Int.ofNat l) bl) 6 (whT bkWh) = some true := by
  have f : whT bkWh = .BoolOp .And [bkT0, bkT1] (exP (whT bkWh)) := by kernel_rfl
  have f1 : bkT1 = .Compare (cmL bkT1) [.Lt] [cmR bkT1] (exP bkT1) := by kernel_rfl
  have f2 : cmL bkT1 = .Call (.Name "len" (fnP (cmL bkT1))) [.Name "blocks" (nmP (callA (cmL bkT1) 0))] [] (callQ (cmL bkT1)) := by kernel_rfl
  have t0 : ptest (pev Φ3 12) bkNm (bS (rowsD a b c) (Int.ofNat l) bl) 5 bkT0 = some true := by
    revert l; exact ev8 (by kernel_rfl)
  have l1 : pev Φ3 12 bkNm (bS (rowsD a b c) (Int.ofNat l) bl) (cmL bkT1) = some (.int bl.length) :=
    (congrArg (pev Φ3 12 bkNm (bS (rowsD a b c) (Int.ofNat l) bl)) f2).trans (pev_lenOwn (by kernel_rfl) (by kernel_rfl) (by kernel_rfl) (by omega))
  have t1 : ptest (pev Φ3 12) bkNm (bS (rowsD a b c) (Int.ofNat l) bl) 5 bkT1 = some true :=
    (congrArg (ptest (pev Φ3 12) bkNm (bS (rowsD a b c) (Int.ofNat l) bl) 5) f1).trans (ptest_cmp (b := .int 9) (by kernel_rfl) l1 (by kernel_rfl) (by
      show some (decide ((bl.length : Int) < 9)) = some true
      rw [decide_eq_true (by omega)]))
  exact (congrArg (ptest (pev Φ3 12) bkNm (bS (rowsD a b c) (Int.ofNat l) bl) 6) f).trans (ptest_and t0 t1)
theorem bk_while (n e : Nat) : ∀ (N : Int) (bl : List PyData), ends a b c n N = true → bl.length + n ≤ 9 → pwhile (pev Φ3 12) (fun nm ρ b => pexecs (pexec Φ3 7) nm ρ b) bkNm (whT bkWh) (whB bkWh) (n + (e + 1)) (bS (rowsD a b c) N bl) = some (.next (bS (rowsD a b c) (Int.negSucc 0) (bl ++ bkF a b c n N))) := by
  induction n with
  | zero =>
    intro N bl h hb
    cases N with
    | ofNat l => cases h
    | negSucc m =>
      cases m with
      | zero =>
        rw [show bl ++ bkF a b c 0 (Int.negSucc 0) = bl from List.append_nil _, Nat.zero_add]
        exact pwhile_false (by kernel_rfl)
      | succ m => cases h
  | succ n ih =>
    intro N bl h hb
    cases N with
    | negSucc m =>
      cases m with
      | zero =>
        rw [show bl ++ bkF a b c (n + 1) (Int.negSucc 0) = bl from List.append_nil _, show n + 1 + (e + 1) = (n + 1 + e) + 1 from by omega]
        exact pwhile_false (by kernel_rfl)
      | succ m => cases h
    | ofNat l =>
      unfold ends at h
      split at h
      · rename_i hl
        split at h
        · rename_i hs
          have hl := blt_lt hl
          have hs := blt_lt hs
          rw [show n + 1 + (e + 1) = (n + (e + 1)) + 1 from by omega, pwhile_true (bk_test a b c l bl hl (by omega)) (bk_body a b c l bl hl hs (by omega)), ih _ _ h (by rw [List.length_append, List.length_singleton]; omega)]
          show _ = some (Fl.next (bS (rowsD a b c) (Int.negSucc 0) (bl ++ bkT a b c l :: bkF a b c n (nx a b c l))))
          rw [List.append_assoc]; rfl
        · cases h
      · cases h
end
theorem blocks_says : Says Φ3 "_law_blocks" spBlocks := by
  intro ds d h
  · obtain ⟨r, er, h0⟩ := on1_some h
    obtain ⟨a, b, c, e, h1⟩ := onRows_some h0
    obtain ⟨he, h2⟩ := guard'_some h1
    rw [er, e, ← h2]
    clear h h0 h1 h2 er e
    show callF Φ3 pw "_law_blocks" [rowsD a b c] = _
    have e1 : callF Φ3 pw "_law_blocks" [rowsD a b c] = (match pexecs (pexec Φ3 8) bkNm (bS (rowsD a b c) (Int.ofNat (hv a b c 15)) []) (bkWh :: (bodyOf "_law_blocks").drop 3) with
      | some (.ret d) => some d
      | some (.next _) => some .none
      | _ => none) := by kernel_rfl
    have st : pexec Φ3 8 bkNm (bS (rowsD a b c) (Int.ofNat (hv a b c 15)) []) bkWh = pwhile (pev Φ3 12) (fun nm ρ b => pexecs (pexec Φ3 7) nm ρ b) bkNm (whT bkWh) (whB bkWh) (8 + (31 + 1)) (bS (rowsD a b c) (Int.ofNat (hv a b c 15)) []) := by kernel_rfl
    have fin : ∀ bl, pexecs (pexec Φ3 8) bkNm (bS (rowsD a b c) (Int.negSucc 0) bl) ((bodyOf "_law_blocks").drop 3) = some (.ret (.list bl)) := fun bl => by kernel_rfl
    rw [e1, pexecs_next (st.trans (bk_while a b c 8 31 _ [] he (by simp))), fin]
    rfl
end Mine
end
section
open PySem PySem.Spec PySem.Calls PyProof.Rows PySem.W
set_option maxRecDepth 100000
set_option maxHeartbeats 8000000
namespace Mine
noncomputable def rowOf (a b c : Nat) : Nat → Nat
  | 0 => a
  | 1 => b
  | _ => c
theorem lt4 {p : Nat} (h : p < 4) : p = 0 ∨ p = 1 ∨ p = 2 ∨ p = 3 := by omega
theorem ev3434 {α : Type} {F G : Nat → Nat → Nat → Nat → α} (h : mapA (fun x => mapA (fun y => mapA (fun z => mapA (F x y z) n4) n3) n4) n3 = mapB (fun x => mapB (fun y => mapB (fun z => mapB (G x y z) n4) n3) n4) n3) : ∀ i j k m, i < 3 → j < 4 → k < 3 → m < 4 → F i j k m = G i j k m := fun i j k m hi hj hk hm => ev4 (ev3 (ev4 (ev3 h i hi) j hj) k hk) m hm
theorem eqv_nm (i j k m : Nat) (hi : i < 3) (hj : j < 4) (hk : k < 3) (hm : m < 4) : PyData.eqv (nmD i j) (nmD k m) = (Nat.beq i k && Nat.beq j m) := by
  revert i j k m; exact ev3434 (by kernel_rfl)
theorem any_sel (m w : Nat) (x : PyData) (p : PyData → Bool) : (sel m w x).any p = (Nat.testBit m w && p x) := by
  unfold sel; cases Nat.testBit m w <;> simp
theorem any_blk (i k j m : Nat) (hi : i < 3) (hk : k < 3) (hj : j < 4) : (blk i m).any (fun y => PyData.eqv y (nmD k j)) = (Nat.beq i k && Nat.testBit m (3 - j)) := by
  unfold blk
  simp only [List.any_append, any_sel]
  rw [eqv_nm i 0 k j hi (by decide) hk hj, eqv_nm i 1 k j hi (by decide) hk hj, eqv_nm i 2 k j hi (by decide) hk hj, eqv_nm i 3 k j hi (by decide) hk hj]
  rcases lt4 hj with rfl | rfl | rfl | rfl <;> cases Nat.beq i k <;> simp [Nat.beq]
theorem inL (a b c k j : Nat) (hk : k < 3) (hj : j < 4) : (lst a b c).any (fun y => PyData.eqv y (nmD k j)) = Nat.testBit (rowOf a b c k) (3 - j) := by
  unfold lst
  simp only [List.any_append]
  rw [any_blk 0 k j a (by decide) hk hj, any_blk 1 k j b (by decide) hk hj, any_blk 2 k j c (by decide) hk hj]
  rcases lt3 hk with rfl | rfl | rfl <;> simp [Nat.beq, rowOf]
theorem mem_sel {m w : Nat} {x y : PyData} (h : y ∈ sel m w x) : y = x := by
  unfold sel at h; cases hb : Nat.testBit m w <;> rw [hb] at h <;> simp at h; exact h
theorem mem_blk {i m : Nat} {y : PyData} (h : y ∈ blk i m) : ∃ j, j < 4 ∧ y = nmD i j := by
  unfold blk at h
  simp only [List.mem_append] at h
  rcases h with h | h | h | h
  · exact ⟨0, by decide, mem_sel h⟩
  · exact ⟨1, by decide, mem_sel h⟩
  · exact ⟨2, by decide, mem_sel h⟩
  · exact ⟨3, by decide, mem_sel h⟩
theorem mem_lst {a b c : Nat} {y : PyData} (h : y ∈ lst a b c) : ∃ i j, i < 3 ∧ j < 4 ∧ y = nmD i j := by
  unfold lst at h
  simp only [List.mem_append] at h
  rcases h with h | h | h
  · obtain ⟨j, hj, e⟩ := mem_blk h; exact ⟨0, j, by decide, hj, e⟩
  · obtain ⟨j, hj, e⟩ := mem_blk h; exact ⟨1, j, by decide, hj, e⟩
  · obtain ⟨j, hj, e⟩ := mem_blk h; exact ⟨2, j, by decide, hj, e⟩
theorem nm_fine {i j : Nat} (hi : i < 3) (hj : j < 4) : (nmD i j).canLay0 = true ∧ (nmD i j).depth ≤ 0 := by
  rcases lt3 hi with rfl | rfl | rfl <;> rcases lt4 hj with rfl | rfl | rfl | rfl <;> exact ⟨by kernel_rfl, by simp [nmD, PyData.depth]⟩
theorem shaped_lst (a b c : Nat) : shapedB (.list (lst a b c)) = true := shapedB_list (n := 0) (by decide) fun x hx => by
  obtain ⟨i, j, hi, hj, rfl⟩ := mem_lst hx
  exact nm_fine hi hj
theorem cmp_notIn (a b c i j : Nat) (hi : i < 3) (hj : j < 4) : cmpF .NotIn (nmD i j) (.list (lst a b c)) = some (!Nat.testBit (rowOf a b c i) (3 - j)) := by
  have hs : shapedB (nmD i j) = true := by rcases lt3 hi with rfl | rfl | rfl <;> rcases lt4 hj with rfl | rfl | rfl | rfl <;> kernel_rfl
  show (match shapedB (.list (lst a b c)) && shapedB (nmD i j) with
      | true => some (!(lst a b c).any fun y => PyData.eqv y (nmD i j))
      | false => none) = _
  rw [shaped_lst, hs, inL a b c i j hi hj]
  rfl
end Mine
end
section
open PySem PySem.Spec PySem.Calls PyProof.Rows PySem.W
set_option maxRecDepth 100000
set_option maxHeartbeats 8000000
namespace Mine
noncomputable def asgV : Stmt → Expr | .Assign _ v _ => v | _ => .Name "" ⟨0, 0, 0, 0⟩
noncomputable def tst (e : Expr) : Expr := match lcIfs e with | t :: _ => t | _ => e
noncomputable def dSc : Scope := ⟨.function, [], false, false, []⟩
noncomputable def dueB : List Stmt := forB (nth (bodyOf "_law_due") 1)
noncomputable def dueNm : NK := namesOf "_law_due"
/-- the figures' comprehension, its inner one; the letters' one, its inner one -/
noncomputable def dF : Expr := asgV (nth dueB 1)
noncomputable def dF2 : Expr := cmL (tst dF)
noncomputable def dL : Expr := cmL (ifT (nth dueB 2))
noncomputable def dL2 : Expr := cmL (tst dL)
noncomputable def chS (x : Nat) : PyData := .str ⟨#[x]⟩
noncomputable def chosD (l : Nat) : List PyData := (letsL l).map chS
noncomputable def figsD (f : Nat) : List PyData := (figsL f).map chS
theorem mem_selN {m w x y : Nat} (h : y ∈ selN m w x) : y = x := by
  unfold selN at h; cases hb : Nat.testBit m w <;> rw [hb] at h <;> simp at h; exact h
theorem mem_chos {l : Nat} {d : PyData} (h : d ∈ chosD l) : ∃ i, i < 3 ∧ d = chS (97 + i) := by
  obtain ⟨y, hy, rfl⟩ := List.mem_map.mp h
  unfold letsL at hy
  simp only [List.mem_append] at hy
  rcases hy with hy | hy | hy
  · exact ⟨0, by decide, by rw [mem_selN hy]⟩
  · exact ⟨1, by decide, by rw [mem_selN hy]⟩
  · exact ⟨2, by decide, by rw [mem_selN hy]⟩
theorem mem_figs {f : Nat} {d : PyData} (h : d ∈ figsD f) : ∃ j, j < 4 ∧ d = chS (48 + j) := by
  obtain ⟨y, hy, rfl⟩ := List.mem_map.mp h
  unfold figsL at hy
  simp only [List.mem_append] at hy
  rcases hy with hy | hy | hy | hy
  · exact ⟨0, by decide, by rw [mem_selN hy]⟩
  · exact ⟨1, by decide, by rw [mem_selN hy]⟩
  · exact ⟨2, by decide, by rw [mem_selN hy]⟩
  · exact ⟨3, by decide, by rw [mem_selN hy]⟩
/-- the place of a sign among its kind -/
noncomputable def plc (k : Nat) : PyData → Nat
  | .str x => match x.cps.toList with
    | [y] => y - k
    | _ => 0
  | _ => 0
noncomputable def fx (x : String) (d : PyData) : Str × B := (Str.ofString x, .val d)
section
variable (a b c : Nat)
noncomputable def LD : PyData := .list (lst a b c)
theorem due_t1 (m i j : Nat) (hi : i < 3) (hj : j < 4) : ptest (pev Φ3 (m + 5)) (scNames dF2) [fx "f" (chS (48 + j)), fx "listing" (LD a b c), fx "s" (chS (97 + i))] 6 (tst dF2) = some (!Nat.testBit (rowOf a b c i) (3 - j)) := by
  have f : tst dF2 = .Compare (cmL (tst dF2)) [.NotIn] [cmR (tst dF2)] (exP (tst dF2)) := by kernel_rfl
  refine (congrArg (ptest (pev Φ3 (m + 5)) (scNames dF2) [fx "f" (chS (48 + j)), fx "listing" (LD a b c), fx "s" (chS (97 + i))] 6) f).trans (ptest_cmp (a := nmD i j) (b := LD a b c) (by kernel_rfl) ?_ (by kernel_rfl) (cmp_notIn a b c i j hi hj))
  clear f; revert i j; exact fun i j hi hj => ev34 (F := fun i j => pev Φ3 (m + 5) (scNames dF2) [fx "f" (chS (48 + j)), fx "listing" (LD a b c), fx "s" (chS (97 + i))] (cmL (tst dF2))) (G := fun i j => some (nmD i j)) (by kernel_rfl) i hi j hj
theorem due_f2 (m l j : Nat) (hl : l < 8) (hj : j < 4) : pev Φ3 (m + 6) (scNames dF) [fx "chosen" (.list (chosD l)), fx "listing" (LD a b c), fx "f" (chS (48 + j))] dF2 = some (.list ((chosD l).filter fun d => !Nat.testBit (rowOf a b c (plc 97 d)) (3 - j))) := by
  have f : dF2 = .ListComp (lcElt dF2) [⟨lcT dF2, lcI dF2, [tst dF2], .ofNat 0⟩] (lcScope dF2 dSc) (exP dF2) := by kernel_rfl
  have hn : (lcScope dF2 dSc).names = scNames dF2 := by kernel_rfl
  refine (congrArg (pev Φ3 (m + 6) (scNames dF) [fx "chosen" (.list (chosD l)), fx "listing" (LD a b c), fx "f" (chS (48 + j))]) f).trans (pev_comp1 (items := chosD l) (ρ' := [fx "f" (chS (48 + j)), fx "listing" (LD a b c)]) (by kernel_rfl) (by kernel_rfl) (by kernel_rfl) (by kernel_rfl) ?_ ?_)
  · rw [hn]
    have := pturns_filter (rec := pev Φ3 (m + 5)) (nm := scNames dF2) (ρ := [fx "f" (chS (48 + j)), fx "listing" (LD a b c)]) (t := lcT dF2) (ifs := [tst dF2]) (inner := pelt (pev Φ3 (m + 5)) (scNames dF2) (lcElt dF2)) (p := fun d => !Nat.testBit (rowOf a b c (plc 97 d)) (3 - j)) (g := fun d => [d]) (items := chosD l) (fun d hd => ?_)
    · rw [this]; simp
    · obtain ⟨i, hi, rfl⟩ := mem_chos hd
      have hp : plc 97 (chS (97 + i)) = i := by rcases lt3 hi with rfl | rfl | rfl <;> rfl
      refine ⟨[fx "f" (chS (48 + j)), fx "listing" (LD a b c), fx "s" (chS (97 + i))], by kernel_rfl, ?_, fun _ => by kernel_rfl⟩
      rw [hp]
      exact ptests_one (due_t1 a b c m i j hi hj)
  · refine Nat.le_trans (List.length_filter_le _ _) ?_
    unfold chosD
    rw [List.length_map]
    rcases lt8 hl with rfl | rfl | rfl | rfl | rfl | rfl | rfl | rfl <;> decide
theorem ch_fine {i : Nat} (hi : i < 3) : (chS (97 + i)).canLay0 = true ∧ (chS (97 + i)).depth ≤ 0 := by
  rcases lt3 hi with rfl | rfl | rfl <;> exact ⟨by kernel_rfl, by simp [chS, PyData.depth]⟩
theorem fg_fine {j : Nat} (hj : j < 4) : (chS (48 + j)).canLay0 = true ∧ (chS (48 + j)).depth ≤ 0 := by
  rcases lt4 hj with rfl | rfl | rfl | rfl <;> exact ⟨by kernel_rfl, by simp [chS, PyData.depth]⟩
theorem cmp_nil {ys : List PyData} (h : shapedB (.list ys) = true) : cmpF .Eq (.list ys) (.list []) = some ys.isEmpty := by
  have h2 : shapedB (.list []) = true := by kernel_rfl
  show (match shapedB (.list ys) && shapedB (.list []) with
    | true => some (PyData.eqv (.list ys) (.list []))
    | false => none) = _
  rw [h, h2]
  cases ys with
  | nil => kernel_rfl
  | cons y ys => simp [PyData.eqv, PyData.eqvAll]
theorem sh_bit (l j : Nat) (hl : l < 8) (hj : j < 4) : ((chosD l).filter fun d => !Nat.testBit (rowOf a b c (plc 97 d)) (3 - j)).isEmpty = Nat.testBit (sh a b c l) (3 - j) := by
  have e0 : rowOf a b c (plc 97 (chS 97)) = a := rfl
  have e1 : rowOf a b c (plc 97 (chS 98)) = b := rfl
  have e2 : rowOf a b c (plc 97 (chS 99)) = c := rfl
  have land : ∀ x y k, Nat.testBit (Nat.land x y) k = (Nat.testBit x k && Nat.testBit y k) := fun x y k => Nat.testBit_and x y k
  have c0 : chosD 0 = [] := rfl
  have c1 : chosD 1 = [chS 99] := rfl
  have c2 : chosD 2 = [chS 98] := rfl
  have c3 : chosD 3 = [chS 98, chS 99] := rfl
  have c4 : chosD 4 = [chS 97] := rfl
  have c5 : chosD 5 = [chS 97, chS 99] := rfl
  have c6 : chosD 6 = [chS 97, chS 98] := rfl
  have c7 : chosD 7 = [chS 97, chS 98, chS 99] := rfl
  have s0 : sh a b c 0 = 15 := rfl
  have s1 : sh a b c 1 = Nat.land 15 c := rfl
  have s2 : sh a b c 2 = Nat.land 15 b := rfl
  have s3 : sh a b c 3 = Nat.land (Nat.land 15 b) c := rfl
  have s4 : sh a b c 4 = Nat.land 15 a := rfl
  have s5 : sh a b c 5 = Nat.land (Nat.land 15 a) c := rfl
  have s6 : sh a b c 6 = Nat.land (Nat.land 15 a) b := rfl
  have s7 : sh a b c 7 = Nat.land (Nat.land (Nat.land 15 a) b) c := rfl
  have t15 : Nat.testBit 15 (3 - j) = true := by rcases lt4 hj with rfl | rfl | rfl | rfl <;> decide
  rcases lt8 hl with rfl | rfl | rfl | rfl | rfl | rfl | rfl | rfl
  · rw [c0, s0, t15]; rfl
  · rw [c1, s1, land, t15]; simp only [List.filter, e2]; cases Nat.testBit c (3 - j) <;> rfl
  · rw [c2, s2, land, t15]; simp only [List.filter, e1]; cases Nat.testBit b (3 - j) <;> rfl
  · rw [c3, s3, land, land, t15]; simp only [List.filter, e1, e2]; cases Nat.testBit b (3 - j) <;> cases Nat.testBit c (3 - j) <;> rfl
  · rw [c4, s4, land, t15]; simp only [List.filter, e0]; cases Nat.testBit a (3 - j) <;> rfl
  · rw [c5, s5, land, land, t15]; simp only [List.filter, e0, e2]; cases Nat.testBit a (3 - j) <;> cases Nat.testBit c (3 - j) <;> rfl
  · rw [c6, s6, land, land, t15]; simp only [List.filter, e0, e1]; cases Nat.testBit a (3 - j) <;> cases Nat.testBit b (3 - j) <;> rfl
  · rw [c7, s7, land, land, land, t15]; simp only [List.filter, e0, e1, e2]; cases Nat.testBit a (3 - j) <;> cases Nat.testBit b (3 - j) <;> cases Nat.testBit c (3 - j) <;> rfl
theorem due_ft (m l j : Nat) (hl : l < 8) (hj : j < 4) : ptest (pev Φ3 (m + 6)) (scNames dF) [fx "chosen" (.list (chosD l)), fx "listing" (LD a b c), fx "f" (chS (48 + j))] 6 (tst dF) = some (Nat.testBit (sh a b c l) (3 - j)) := by
  have f : tst dF = .Compare dF2 [.Eq] [cmR (tst dF)] (exP (tst dF)) := by kernel_rfl
  rw [← sh_bit a b c l j hl hj]
  refine (congrArg (ptest (pev Φ3 (m + 6)) (scNames dF) [fx "chosen" (.list (chosD l)), fx "listing" (LD a b c), fx "f" (chS (48 + j))] 6) f).trans (ptest_cmp (b := .list []) (by kernel_rfl) (due_f2 a b c m l j hl hj) (by kernel_rfl) (cmp_nil ?_))
  refine shapedB_list (n := 0) (by decide) fun x hx => ?_
  obtain ⟨i, hi, rfl⟩ := mem_chos (List.mem_filter.mp hx).1
  exact ch_fine hi
theorem figs_filter (F : Nat) : ((([chS 48, chS 49, chS 50, chS 51] : List PyData).filter fun d => Nat.testBit F (3 - plc 48 d)).flatMap fun d => [d]) = figsD F := by
  have e0 : 3 - plc 48 (chS 48) = 3 := rfl
  have e1 : 3 - plc 48 (chS 49) = 2 := rfl
  have e2 : 3 - plc 48 (chS 50) = 1 := rfl
  have e3 : 3 - plc 48 (chS 51) = 0 := rfl
  unfold figsD figsL selN
  simp only [List.filter, e0, e1, e2, e3]
  cases Nat.testBit F 3 <;> cases Nat.testBit F 2 <;> cases Nat.testBit F 1 <;> cases Nat.testBit F 0 <;> rfl
theorem due_F (m l : Nat) (hl : l < 8) (nm : NK) (ρ : En) (hb : (blockOk nm (scNames dF)) = true) (hc : closed ρ (scNames dF) = some [fx "chosen" (.list (chosD l)), fx "listing" (LD a b c)]) :
    pev Φ3 (m + 7) nm ρ (.ListComp (lcElt dF) [⟨lcT dF, lcI dF, [tst dF], .ofNat 0⟩] (lcScope dF dSc) (exP dF)) = some (.list (figsD (sh a b c l))) := by
  have hn : (lcScope dF dSc).names = scNames dF := by kernel_rfl
  have hk : isFunK (lcScope dF dSc).kind = true := by kernel_rfl
  refine pev_comp1 (items := [chS 48, chS 49, chS 50, chS 51]) (ρ' := [fx "chosen" (.list (chosD l)), fx "listing" (LD a b c)]) (by kernel_rfl) (by rw [hn, hb, hk]; rfl) (by rw [hn]; exact hc) (by kernel_rfl) ?_ ?_
  · rw [hn, ← figs_filter]
    refine pturns_filter (p := fun d => Nat.testBit (sh a b c l) (3 - plc 48 d)) (g := fun d => [d]) fun d hd => ?_
    have : ∃ j, j < 4 ∧ d = chS (48 + j) := by
      rcases List.mem_cons.mp hd with rfl | hd
      · exact ⟨0, by decide, rfl⟩
      rcases List.mem_cons.mp hd with rfl | hd
      · exact ⟨1, by decide, rfl⟩
      rcases List.mem_cons.mp hd with rfl | hd
      · exact ⟨2, by decide, rfl⟩
      · exact ⟨3, by decide, List.mem_singleton.mp hd⟩
    obtain ⟨j, hj, rfl⟩ := this
    have hp : plc 48 (chS (48 + j)) = j := by rcases lt4 hj with rfl | rfl | rfl | rfl <;> rfl
    refine ⟨[fx "chosen" (.list (chosD l)), fx "listing" (LD a b c), fx "f" (chS (48 + j))], by kernel_rfl, ?_, fun _ => by kernel_rfl⟩
    rw [hp]
    exact ptests_one (due_ft a b c m l j hl hj)
  · unfold figsD
    rw [List.length_map]
    unfold figsL selN
    cases Nat.testBit (sh a b c l) 3 <;> cases Nat.testBit (sh a b c l) 2 <;> cases Nat.testBit (sh a b c l) 1 <;> cases Nat.testBit (sh a b c l) 0 <;> decide

/-! the letters' comprehension -/
theorem due_t3 (m i j : Nat) (hi : i < 3) (hj : j < 4) : ptest (pev Φ3 (m + 5)) (scNames dL2) [fx "listing" (LD a b c), fx "s" (chS (97 + i)), fx "f" (chS (48 + j))] 6 (tst dL2) = some (!Nat.testBit (rowOf a b c i) (3 - j)) := by
  have f : tst dL2 = .Compare (cmL (tst dL2)) [.NotIn] [cmR (tst dL2)] (exP (tst dL2)) := by kernel_rfl
  refine (congrArg (ptest (pev Φ3 (m + 5)) (scNames dL2) [fx "listing" (LD a b c), fx "s" (chS (97 + i)), fx "f" (chS (48 + j))] 6) f).trans (ptest_cmp (a := nmD i j) (b := LD a b c) (by kernel_rfl) ?_ (by kernel_rfl) (cmp_notIn a b c i j hi hj))
  clear f; revert i j; exact fun i j hi hj => ev34 (F := fun i j => pev Φ3 (m + 5) (scNames dL2) [fx "listing" (LD a b c), fx "s" (chS (97 + i)), fx "f" (chS (48 + j))] (cmL (tst dL2))) (G := fun i j => some (nmD i j)) (by kernel_rfl) i hi j hj
theorem figs_len (F : Nat) : (figsD F).length ≤ 4 := by
  unfold figsD
  rw [List.length_map]
  unfold figsL selN
  cases Nat.testBit F 3 <;> cases Nat.testBit F 2 <;> cases Nat.testBit F 1 <;> cases Nat.testBit F 0 <;> decide
theorem due_l2 (m F i : Nat) (hi : i < 3) : pev Φ3 (m + 6) (scNames dL) [fx "figures" (.list (figsD F)), fx "listing" (LD a b c), fx "s" (chS (97 + i))] dL2 = some (.list ((figsD F).filter fun d => !Nat.testBit (rowOf a b c i) (3 - plc 48 d))) := by
  have f : dL2 = .ListComp (lcElt dL2) [⟨lcT dL2, lcI dL2, [tst dL2], .ofNat 0⟩] (lcScope dL2 dSc) (exP dL2) := by kernel_rfl
  have hn : (lcScope dL2 dSc).names = scNames dL2 := by kernel_rfl
  refine (congrArg (pev Φ3 (m + 6) (scNames dL) [fx "figures" (.list (figsD F)), fx "listing" (LD a b c), fx "s" (chS (97 + i))]) f).trans (pev_comp1 (items := figsD F) (ρ' := [fx "listing" (LD a b c), fx "s" (chS (97 + i))]) (by kernel_rfl) (by kernel_rfl) (by kernel_rfl) (by kernel_rfl) ?_ ?_)
  · rw [hn]
    have := pturns_filter (rec := pev Φ3 (m + 5)) (nm := scNames dL2) (ρ := [fx "listing" (LD a b c), fx "s" (chS (97 + i))]) (t := lcT dL2) (ifs := [tst dL2]) (inner := pelt (pev Φ3 (m + 5)) (scNames dL2) (lcElt dL2)) (p := fun d => !Nat.testBit (rowOf a b c i) (3 - plc 48 d)) (g := fun d => [d]) (items := figsD F) (fun d hd => ?_)
    · rw [this]; simp
    · obtain ⟨j, hj, rfl⟩ := mem_figs hd
      have hp : plc 48 (chS (48 + j)) = j := by rcases lt4 hj with rfl | rfl | rfl | rfl <;> rfl
      refine ⟨[fx "listing" (LD a b c), fx "s" (chS (97 + i)), fx "f" (chS (48 + j))], by kernel_rfl, ?_, fun _ => by kernel_rfl⟩
      rw [hp]
      exact ptests_one (due_t3 a b c m i j hi hj)
  · exact Nat.le_trans (List.length_filter_le _ _) (Nat.le_trans (figs_len F) (by decide))
end
end Mine
end
section
open PySem PySem.Spec PySem.Calls PyProof.Rows PySem.W
set_option maxRecDepth 100000
set_option maxHeartbeats 8000000
namespace Mine
theorem figs_all (F x : Nat) (hF : F < 16) (hx : x < 16) : ((figsD F).filter fun d => !Nat.testBit x (3 - plc 48 d)).isEmpty = hvT x F := by
  exact ev1616 (F := fun F x => ((figsD F).filter fun d => !Nat.testBit x (3 - plc 48 d)).isEmpty) (G := fun F x => hvT x F) (by kernel_rfl) F hF x hx
section
variable (a b c : Nat)
theorem due_lt (m F i : Nat) (hF : F < 16) (hi : i < 3) (hx : rowOf a b c i < 16) : ptest (pev Φ3 (m + 6)) (scNames dL) [fx "figures" (.list (figsD F)), fx "listing" (LD a b c), fx "s" (chS (97 + i))] 6 (tst dL) = some (hvT (rowOf a b c i) F) := by
  have f : tst dL = .Compare dL2 [.Eq] [cmR (tst dL)] (exP (tst dL)) := by kernel_rfl
  rw [← figs_all F _ hF hx]
  refine (congrArg (ptest (pev Φ3 (m + 6)) (scNames dL) [fx "figures" (.list (figsD F)), fx "listing" (LD a b c), fx "s" (chS (97 + i))] 6) f).trans (ptest_cmp (b := .list []) (by kernel_rfl) (due_l2 a b c m F i hi) (by kernel_rfl) (cmp_nil ?_))
  refine shapedB_list (n := 0) (by decide) fun x hx => ?_
  obtain ⟨j, hj, rfl⟩ := mem_figs (List.mem_filter.mp hx).1
  exact fg_fine hj
/-- the letters whose rows hold F, as data -/
noncomputable def lsD (F : Nat) : List PyData := ([chS 97, chS 98, chS 99] : List PyData).filter fun d => hvT (rowOf a b c (plc 97 d)) F
theorem due_L (m F : Nat) (hF : F < 16) (ha : a < 16) (hb : b < 16) (hc : c < 16) (nm : NK) (ρ : En) (hbk : blockOk nm (scNames dL) = true) (hcl : closed ρ (scNames dL) = some [fx "figures" (.list (figsD F)), fx "listing" (LD a b c)]) : pev Φ3 (m + 7) nm ρ dL = some (.list (lsD a b c F)) := by
  have f : dL = .ListComp (lcElt dL) [⟨lcT dL, lcI dL, [tst dL], .ofNat 0⟩] (lcScope dL dSc) (exP dL) := by kernel_rfl
  have hn : (lcScope dL dSc).names = scNames dL := by kernel_rfl
  have hk : isFunK (lcScope dL dSc).kind = true := by kernel_rfl
  refine (congrArg (pev Φ3 (m + 7) nm ρ) f).trans (pev_comp1 (items := [chS 97, chS 98, chS 99]) (ρ' := [fx "figures" (.list (figsD F)), fx "listing" (LD a b c)]) (by kernel_rfl) (by rw [hn, hbk, hk]; rfl) (by rw [hn]; exact hcl) (by kernel_rfl) ?_ ?_)
  · rw [hn]
    have := pturns_filter (rec := pev Φ3 (m + 6)) (nm := scNames dL) (ρ := [fx "figures" (.list (figsD F)), fx "listing" (LD a b c)]) (t := lcT dL) (ifs := [tst dL]) (inner := pelt (pev Φ3 (m + 6)) (scNames dL) (lcElt dL)) (p := fun d => hvT (rowOf a b c (plc 97 d)) F) (g := fun d => [d]) (items := [chS 97, chS 98, chS 99]) (fun d hd => ?_)
    · rw [this]; unfold lsD; simp
    · have : ∃ i, i < 3 ∧ d = chS (97 + i) := by
        rcases List.mem_cons.mp hd with rfl | hd
        · exact ⟨0, by decide, rfl⟩
        rcases List.mem_cons.mp hd with rfl | hd
        · exact ⟨1, by decide, rfl⟩
        · exact ⟨2, by decide, List.mem_singleton.mp hd⟩
      obtain ⟨i, hi, rfl⟩ := this
      have hp : plc 97 (chS (97 + i)) = i := by rcases lt3 hi with rfl | rfl | rfl <;> rfl
      have hx : rowOf a b c i < 16 := by rcases lt3 hi with rfl | rfl | rfl <;> assumption
      refine ⟨[fx "figures" (.list (figsD F)), fx "listing" (LD a b c), fx "s" (chS (97 + i))], by kernel_rfl, ?_, fun _ => by kernel_rfl⟩
      rw [hp]
      exact ptests_one (due_lt a b c m F i hF hi hx)
  · exact Nat.le_trans (List.length_filter_le _ _) (by decide)
/-- closed: the letters l are just those that hold what they share -/
noncomputable def due1 (l : Nat) : Bool := Nat.beq (hv a b c (sh a b c l)) l
theorem due_eq (F l : Nat) (hl : l < 8) : cmpF .Eq (.list (lsD a b c F)) (.list (chosD l)) = some (Nat.beq (hv a b c F) l) := by
  have e0 : rowOf a b c (plc 97 (chS 97)) = a := rfl
  have e1 : rowOf a b c (plc 97 (chS 98)) = b := rfl
  have e2 : rowOf a b c (plc 97 (chS 99)) = c := rfl
  unfold lsD hv
  simp only [List.filter, e0, e1, e2]
  cases hvT a F <;> cases hvT b F <;> cases hvT c F <;> (revert l; exact ev8 (by kernel_rfl))

/-! the loop -/
noncomputable def dueFor : Stmt := nth (bodyOf "_law_due") 1
noncomputable def dS (ds : List PyData) (o : Option (Nat × PyData × PyData)) : En := ("listing", .val (LD a b c)) :: ("due", .own ds) :: (match o with
  | none => []
  | some (n, x, y) => [("number", .val (iD n)), ("chosen", .val x), ("figures", .val y)])
noncomputable def dS1 (ds : List PyData) (n : Nat) (o : Option (PyData × PyData)) : En := ("listing", .val (LD a b c)) :: ("due", .own ds) :: ("number", .val (iD n)) :: (match o with
  | none => []
  | some (x, y) => [("chosen", .val x), ("figures", .val y)])
noncomputable def dS2 (ds : List PyData) (n : Nat) (x : PyData) (o : Option PyData) : En := ("listing", .val (LD a b c)) :: ("due", .own ds) :: ("number", .val (iD n)) :: ("chosen", .val x) :: (match o with
  | none => []
  | some y => [("figures", .val y)])
noncomputable def dS3 (ds : List PyData) (n : Nat) (x y : PyData) : En := [("listing", .val (LD a b c)), ("due", .own ds), ("number", .val (iD n)), ("chosen", .val x), ("figures", .val y)]
theorem due_s1 (n : Nat) (hn : n < 8) (ds : List PyData) (o : Option (PyData × PyData)) : pexec Φ3 7 dueNm (dS1 a b c ds n o) (nth dueB 0) = some (.next (dS2 a b c ds n (.list (chosD n)) (o.map (·.2)))) := by
  rcases o with _ | ⟨x, y⟩ <;> (revert n; exact ev8 (by kernel_rfl))
theorem due_s2 (n : Nat) (hn : n < 8) (ds : List PyData) (o : Option PyData) : pexec Φ3 7 dueNm (dS2 a b c ds n (.list (chosD n)) o) (nth dueB 1) = some (.next (dS3 a b c ds n (.list (chosD n)) (.list (figsD (sh a b c n))))) := by
  have f : nth dueB 1 = .Assign [.Name "figures" (asgX (nth dueB 1))] (.ListComp (lcElt dF) [⟨lcT dF, lcI dF, [tst dF], .ofNat 0⟩] (lcScope dF dSc) (exP dF)) (asgP (nth dueB 1)) := by kernel_rfl
  refine (congrArg (pexec Φ3 7 dueNm (dS2 a b c ds n (.list (chosD n)) o)) f).trans (pexec_asgComp (due_F a b c 6 n hn dueNm _ (by kernel_rfl) ?_) ?_)
  · rcases o with _ | y <;> kernel_rfl
  · rcases o with _ | y <;> kernel_rfl
noncomputable def dueIf : Stmt := nth dueB 2
theorem due_test (n : Nat) (hn : n < 8) (ds : List PyData) (hF : sh a b c n < 16) (ha : a < 16) (hb : b < 16) (hc : c < 16) : ptest (pev Φ3 12) dueNm (dS3 a b c ds n (.list (chosD n)) (.list (figsD (sh a b c n)))) 6 (ifT dueIf) = some (due1 a b c n) := by
  have f : ifT dueIf = .Compare dL [.Eq] [cmR (ifT dueIf)] (exP (ifT dueIf)) := by kernel_rfl
  exact (congrArg (ptest (pev Φ3 12) dueNm (dS3 a b c ds n (.list (chosD n)) (.list (figsD (sh a b c n)))) 6) f).trans (ptest_cmp (b := .list (chosD n)) (by kernel_rfl) (due_L a b c 5 (sh a b c n) hF ha hb hc dueNm _ (by kernel_rfl) (by kernel_rfl)) (by kernel_rfl) (due_eq a b c _ n hn))
noncomputable def dueE : Expr := appE (nth (ifB dueIf) 0)
theorem due_e (n F : Nat) (hn : n < 8) (hF : F < 16) (ds : List PyData) : pev Φ3 12 dueNm (dS3 a b c ds n (.list (chosD n)) (.list (figsD F))) dueE = some (.tuple [.str (letsS n), .str (figsS F)]) := by
  exact ev816 (F := fun n F => pev Φ3 12 dueNm (dS3 a b c ds n (.list (chosD n)) (.list (figsD F))) dueE) (G := fun n F => some (.tuple [.str (letsS n), .str (figsS F)])) (by kernel_rfl) n hn F hF
/-- what one number adds -/
noncomputable def dueT (n : Nat) : List PyData := match due1 a b c n with
  | true => [bkT a b c n]
  | false => []
theorem due_turn (n : Nat) (hn : n < 8) (hF : sh a b c n < 16) (ha : a < 16) (hb : b < 16) (hc : c < 16) (ds : List PyData) (hd : ds.length ≤ 8) (o : Option (PyData × PyData)) :
    pexecs (pexec Φ3 7) dueNm (dS1 a b c ds n o) dueB = some (.next (dS3 a b c (ds ++ dueT a b c n) n (.list (chosD n)) (.list (figsD (sh a b c n))))) := by
  have e0 : pexecs (pexec Φ3 7) dueNm (dS1 a b c ds n o) dueB = pexecs (pexec Φ3 7) dueNm (dS1 a b c ds n o) (nth dueB 0 :: nth dueB 1 :: .If (ifT dueIf) (ifB dueIf) (ifO dueIf) ⟨0, 0, 0, 0⟩ :: []) := by kernel_rfl
  rw [e0, pexecs_next (due_s1 a b c n hn ds o), pexecs_next (due_s2 a b c n hn ds _)]
  have fi : pexec Φ3 7 dueNm (dS3 a b c ds n (.list (chosD n)) (.list (figsD (sh a b c n)))) (.If (ifT dueIf) (ifB dueIf) (ifO dueIf) ⟨0, 0, 0, 0⟩) = some (.next (dS3 a b c (ds ++ dueT a b c n) n (.list (chosD n)) (.list (figsD (sh a b c n))))) := by
    rw [pexec_if (due_test a b c n hn ds hF ha hb hc)]
    unfold dueT
    cases due1 a b c n with
    | true =>
      rw [if_pos rfl]
      have f : ifB dueIf = .Expr (.Call (.Attribute (.Name "due" (appP (nth (ifB dueIf) 0) 0)) "append" (appP (nth (ifB dueIf) 0) 1)) [dueE] [] (appP (nth (ifB dueIf) 0) 2)) (appP (nth (ifB dueIf) 0) 3) :: [] := by kernel_rfl
      rw [f, pexecs_next (pexec_append (by kernel_rfl) (by kernel_rfl) (xs := ds) (by kernel_rfl) (due_e a b c n _ hn hF ds) (by omega))]
      have g : ∀ xs : List PyData, pexecs (pexec Φ3 6) dueNm (putB (dS3 a b c ds n (.list (chosD n)) (.list (figsD (sh a b c n)))) "due" (.own xs)) [] = some (.next (dS3 a b c xs n (.list (chosD n)) (.list (figsD (sh a b c n))))) := fun xs => by kernel_rfl
      rw [g]
      rfl
    | false =>
      rw [if_neg (by decide)]
      have g : pexecs (pexec Φ3 6) dueNm (dS3 a b c ds n (.list (chosD n)) (.list (figsD (sh a b c n)))) (ifO dueIf) = some (.next (dS3 a b c ds n (.list (chosD n)) (.list (figsD (sh a b c n))))) := by kernel_rfl
      rw [g, show ds ++ (match false with | true => [bkT a b c n] | false => []) = ds from List.append_nil _]
  rw [pexecs_next fi]
  rfl
/-- all that is due -/
noncomputable def dueF : List PyData := dueT a b c 0 ++ (dueT a b c 1 ++ (dueT a b c 2 ++ (dueT a b c 3 ++ (dueT a b c 4 ++ (dueT a b c 5 ++ (dueT a b c 6 ++ dueT a b c 7))))))
theorem sh_lt (ha : a < 16) (hb : b < 16) (hc : c < 16) (l : Nat) (hl : l < 8) : sh a b c l < 16 := by
  have land : ∀ x y, Nat.land x y ≤ x := fun x y => Nat.and_le_left
  have h1 : ∀ x y z, Nat.land (Nat.land (Nat.land 15 x) y) z < 16 := fun x y z => by
    have := land (Nat.land (Nat.land 15 x) y) z
    have := land (Nat.land 15 x) y
    have := land 15 x
    omega
  have h2 : ∀ x y, Nat.land (Nat.land 15 x) y < 16 := fun x y => by
    have := land (Nat.land 15 x) y
    have := land 15 x
    omega
  have h3 : ∀ x, Nat.land 15 x < 16 := fun x => by have := land 15 x; omega
  rcases lt8 hl with rfl | rfl | rfl | rfl | rfl | rfl | rfl | rfl
  · exact (by decide : 15 < 16)
  · exact h3 c
  · exact h3 b
  · exact h2 b c
  · exact h3 a
  · exact h2 a c
  · exact h2 a b
  · exact h1 a b c
theorem dueT_len (n : Nat) : (dueT a b c n).length ≤ 1 := by unfold dueT; cases due1 a b c n <;> simp
theorem due_eval (ha : a < 16) (hb : b < 16) (hc : c < 16) : callF Φ3 pw "_law_due" [LD a b c] = some (.list (dueF a b c)) := by
  have e1 : callF Φ3 pw "_law_due" [LD a b c] = (match pexecs (pexec Φ3 8) dueNm (dS a b c [] none) (dueFor :: (bodyOf "_law_due").drop 2) with
      | some (.ret d) => some d
      | some (.next _) => some .none
      | _ => none) := by kernel_rfl
  have st : pexec Φ3 8 dueNm (dS a b c [] none) dueFor = pfor (fun nm ρ b => pexecs (pexec Φ3 7) nm ρ b) dueNm (forT dueFor) dueB [iD 0, iD 1, iD 2, iD 3, iD 4, iD 5, iD 6, iD 7] (dS a b c [] none) := by kernel_rfl
  have b0 : bindTo dueNm (dS a b c [] none) (forT dueFor) (iD 0) = some (dS1 a b c [] 0 none) := by kernel_rfl
  have b1 : ∀ ds k x y k', bindTo dueNm (dS3 a b c ds k x y) (forT dueFor) (iD k') = some (dS1 a b c ds k' (some (x, y))) := fun ds k x y k' => by kernel_rfl
  have fin : ∀ ds k x y, pexecs (pexec Φ3 8) dueNm (dS3 a b c ds k x y) ((bodyOf "_law_due").drop 2) = some (.ret (.list ds)) := fun ds k x y => by kernel_rfl
  have tl := dueT_len a b c
  have T : ∀ n, n < 8 → ∀ (ds : List PyData), ds.length ≤ 8 → ∀ o, _ := fun n hn ds hd o => due_turn a b c n hn (sh_lt a b c ha hb hc n hn) ha hb hc ds hd o
  have t0 := tl 0; have t1 := tl 1; have t2 := tl 2; have t3 := tl 3; have t4 := tl 4; have t5 := tl 5; have t6 := tl 6
  have loop := st.trans ((pfor_next b0 (T 0 (by decide) [] (by simp) none)).trans ((pfor_next (b1 _ _ _ _ 1) (T 1 (by decide) _ (by simp; omega) _)).trans ((pfor_next (b1 _ _ _ _ 2) (T 2 (by decide) _ (by simp; omega) _)).trans ((pfor_next (b1 _ _ _ _ 3) (T 3 (by decide) _ (by simp; omega) _)).trans
    ((pfor_next (b1 _ _ _ _ 4) (T 4 (by decide) _ (by simp; omega) _)).trans ((pfor_next (b1 _ _ _ _ 5) (T 5 (by decide) _ (by simp; omega) _)).trans ((pfor_next (b1 _ _ _ _ 6) (T 6 (by decide) _ (by simp; omega) _)).trans (pfor_next (b1 _ _ _ _ 7) (T 7 (by decide) _ (by simp; omega) _)))))))))
  rw [e1, pexecs_next (loop.trans rfl), fin]
  unfold dueF
  simp only [List.nil_append, List.append_assoc]
end
end Mine
end
section
open PySem PySem.Spec PySem.Calls PyProof.Rows PySem.W
set_option maxRecDepth 100000
set_option maxHeartbeats 8000000
namespace Mine
noncomputable def findN (p : Nat → Bool) : List Nat → Option Nat
  | [] => none
  | n :: r => match p n with
    | true => some n
    | false => findN p r
theorem findN_some {p : Nat → Bool} : ∀ {ls : List Nat} {l : Nat}, findN p ls = some l → l ∈ ls ∧ p l = true
  | [], _, h => by cases h
  | n :: r, l, h => by
    unfold findN at h
    split at h
    · rename_i hp; cases h; exact ⟨List.mem_cons_self, hp⟩
    · obtain ⟨h1, h2⟩ := findN_some h
      exact ⟨List.mem_cons_of_mem _ h1, h2⟩
noncomputable def l8 : List Nat := [0, 1, 2, 3, 4, 5, 6, 7]
noncomputable def l16 : List Nat := [0, 1, 2, 3, 4, 5, 6, 7, 8, 9, 10, 11, 12, 13, 14, 15]
theorem mem8 {l : Nat} (h : l ∈ l8) : l < 8 := (show ∀ l ∈ l8, l < 8 by decide) l h
theorem mem16 {l : Nat} (h : l ∈ l16) : l < 16 := (show ∀ l ∈ l16, l < 16 by decide) l h
/-- an item of a pattern; bar: the sign that bars -/
noncomputable def itN (bar first last : Nat) (chosen left : List Nat) : List Nat := match left with
  | [] => [63]
  | [x] => [91, bar, x, 93]
  | _ => match chosen with
    | [] => [91, bar, first, 45, last, 93]
    | [x] => [x]
    | ch => 91 :: (ch ++ [93])
noncomputable def itL (l : Nat) : Str := ⟨(itN 33 97 99 (letsL l) (letsL (7 - l))).toArray⟩
noncomputable def itF (f : Nat) : Str := ⟨(itN 33 48 51 (figsL f) (figsL (15 - f))).toArray⟩
noncomputable def ptL (l : Nat) : Str := ⟨(itN 94 97 99 (letsL l) (letsL (7 - l))).toArray⟩
noncomputable def ptF (f : Nat) : Str := ⟨(itN 94 48 51 (figsL f) (figsL (15 - f))).toArray⟩
noncomputable def itemS (s x : Str) : Option PyData := match nameEq s sABC with
    | true => onO (findN (fun l => nameEq x (letsS l)) l8) fun l => some (.str (itL l))
    | false => onT (nameEq s sFIG) (onO (findN (fun f => nameEq x (figsS f)) l16) fun f => some (.str (itF f)))
noncomputable def spItem (ds : List PyData) : Option PyData := on2 ds fun a b => dStr a fun s => dStr b fun x => itemS s x
theorem item_l : ∀ l, l < 8 → callF Φ3 pw "_law_item" [.str sABC, .str (letsS l)] = some (.str (itL l)) := ev8 (by kernel_rfl)
theorem item_f : ∀ f, f < 16 → callF Φ3 pw "_law_item" [.str sFIG, .str (figsS f)] = some (.str (itF f)) := ev16 (by kernel_rfl)
theorem item_says : Says Φ3 "_law_item" spItem := by
  intro ds d h
  obtain ⟨a, b, e1, h1⟩ := on2_some h
  obtain ⟨s, e2, h2⟩ := dStr_some h1
  obtain ⟨x, e3, h3⟩ := dStr_some h2
  rw [e1, e2, e3]
  clear h h1 h2
  unfold itemS at h3
  split at h3
  · rename_i hs
    obtain ⟨l, hl, h4⟩ := onO_some h3
    obtain ⟨q1, q2⟩ := findN_some hl
    rw [(nameEq_iff _ _).mp hs, (nameEq_iff _ _).mp q2, ← h4]
    exact item_l l (mem8 q1)
  · obtain ⟨hs, h4⟩ := onT_some h3
    obtain ⟨f, hf, h5⟩ := onO_some h4
    obtain ⟨q1, q2⟩ := findN_some hf
    rw [(nameEq_iff _ _).mp hs, (nameEq_iff _ _).mp q2, ← h5]
    exact item_f f (mem16 q1)
noncomputable def readsS (p s : Str) : Option PyData := match findN (fun i => nameEq s ⟨#[97 + i]⟩) [0, 1, 2] with
    | some i => onO (findN (fun l => nameEq p (ptL l)) l8) fun l => some (.bool (Nat.testBit l (2 - i)))
    | none => onO (findN (fun j => nameEq s ⟨#[48 + j]⟩) [0, 1, 2, 3]) fun j => onO (findN (fun f => nameEq p (ptF f)) l16) fun f => some (.bool (Nat.testBit f (3 - j)))
noncomputable def spReads (ds : List PyData) : Option PyData := on2 ds fun a b => dStr a fun p => dStr b fun s => readsS p s
theorem reads_l : ∀ i, i < 3 → ∀ l, l < 8 → callF Φ3 pw "_law_reads" [.str (ptL l), .str ⟨#[97 + i]⟩] = some (.bool (Nat.testBit l (2 - i))) := ev38 (by kernel_rfl)
theorem reads_f : ∀ j, j < 4 → ∀ f, f < 16 → callF Φ3 pw "_law_reads" [.str (ptF f), .str ⟨#[48 + j]⟩] = some (.bool (Nat.testBit f (3 - j))) := ev416 (by kernel_rfl)
theorem reads_says : Says Φ3 "_law_reads" spReads := by
  intro ds d h
  obtain ⟨a, b, e1, h1⟩ := on2_some h
  obtain ⟨p, e2, h2⟩ := dStr_some h1
  obtain ⟨s, e3, h3⟩ := dStr_some h2
  rw [e1, e2, e3]
  clear h h1 h2
  unfold readsS at h3
  split at h3
  · rename_i i hi
    obtain ⟨l, hl, h4⟩ := onO_some h3
    obtain ⟨q1, q2⟩ := findN_some hi
    obtain ⟨q3, q4⟩ := findN_some hl
    rw [(nameEq_iff _ _).mp q2, (nameEq_iff _ _).mp q4, ← h4]
    exact reads_l i (by simp at q1; omega) l (mem8 q3)
  · obtain ⟨j, hj, h4⟩ := onO_some h3
    obtain ⟨f, hf, h5⟩ := onO_some h4
    obtain ⟨q1, q2⟩ := findN_some hj
    obtain ⟨q3, q4⟩ := findN_some hf
    rw [(nameEq_iff _ _).mp q2, (nameEq_iff _ _).mp q4, ← h5]
    exact reads_f j (by simp at q1; omega) f (mem16 q3)
end Mine
end
section
open PySem PySem.Spec PySem.Calls PyProof.Rows PySem.W
set_option maxRecDepth 100000
set_option maxHeartbeats 8000000
namespace Mine
/-- the pattern of the letters l and the figures f, and its two parts -/
noncomputable def patS (l f : Nat) : Str := itL l ++ itF f
noncomputable def findLF (p : Nat → Nat → Bool) : List Nat → Option (Nat × Nat)
  | [] => none
  | l :: r => match findN (p l) l16 with
    | some f => some (l, f)
    | none => findLF p r
theorem findLF_some {p : Nat → Nat → Bool} : ∀ {ls : List Nat} {l f : Nat}, findLF p ls = some (l, f) → l ∈ ls ∧ f < 16 ∧ p l f = true
  | [], _, _, h => by cases h
  | n :: r, l, f, h => by
    unfold findLF at h
    split at h
    · rename_i g hg
      cases h
      obtain ⟨h1, h2⟩ := findN_some hg
      exact ⟨List.mem_cons_self, mem16 h1, h2⟩
    · obtain ⟨h1, h2⟩ := findLF_some h
      exact ⟨List.mem_cons_of_mem _ h1, h2⟩
noncomputable def spTr : List PyData → Option PyData
  | [.str p, .str s, .str q] => match nameEq s ⟨#[42]⟩ && nameEq q ⟨#[63]⟩ with
    | true => (match findLF (fun l f => nameEq p (patS l f)) l8 with
      | some (l, f) => some (.list [.str (ptL l), .str (ptF f)])
      | none => none)
    | false => none
  | _ => none
noncomputable def Φ4 : Orc := addO (addO (addO (addO Φ3 "_law_item" spItem) "_law_reads" spReads) "_law_blocks" spBlocks) "_translate" spTr
/-- the names that the letters l and the figures f take -/
noncomputable def tkD (l f : Nat) : List PyData := (match Nat.testBit l 2 with | true => blk 0 f | false => []) ++ ((match Nat.testBit l 1 with | true => blk 1 f | false => []) ++ (match Nat.testBit l 0 with | true => blk 2 f | false => []))
noncomputable def allD : PyData := .list (lst 15 15 15)
theorem taken_0 : ∀ f, f < 16 → callF Φ4 pw "_law_taken" [allD, .str (patS 0 f)] = some (.list (tkD 0 f)) := ev16 (by kernel_rfl)
theorem taken_1 : ∀ f, f < 16 → callF Φ4 pw "_law_taken" [allD, .str (patS 1 f)] = some (.list (tkD 1 f)) := ev16 (by kernel_rfl)
theorem taken_2 : ∀ f, f < 16 → callF Φ4 pw "_law_taken" [allD, .str (patS 2 f)] = some (.list (tkD 2 f)) := ev16 (by kernel_rfl)
theorem taken_3 : ∀ f, f < 16 → callF Φ4 pw "_law_taken" [allD, .str (patS 3 f)] = some (.list (tkD 3 f)) := ev16 (by kernel_rfl)
theorem taken_4 : ∀ f, f < 16 → callF Φ4 pw "_law_taken" [allD, .str (patS 4 f)] = some (.list (tkD 4 f)) := ev16 (by kernel_rfl)
theorem taken_5 : ∀ f, f < 16 → callF Φ4 pw "_law_taken" [allD, .str (patS 5 f)] = some (.list (tkD 5 f)) := ev16 (by kernel_rfl)
theorem taken_6 : ∀ f, f < 16 → callF Φ4 pw "_law_taken" [allD, .str (patS 6 f)] = some (.list (tkD 6 f)) := ev16 (by kernel_rfl)
theorem taken_7 : ∀ f, f < 16 → callF Φ4 pw "_law_taken" [allD, .str (patS 7 f)] = some (.list (tkD 7 f)) := ev16 (by kernel_rfl)
theorem taken_eval (l f : Nat) (hl : l < 8) (hf : f < 16) : callF Φ4 pw "_law_taken" [allD, .str (patS l f)] = some (.list (tkD l f)) := by
  rcases lt8 hl with rfl | rfl | rfl | rfl | rfl | rfl | rfl | rfl
  · exact taken_0 f hf
  · exact taken_1 f hf
  · exact taken_2 f hf
  · exact taken_3 f hf
  · exact taken_4 f hf
  · exact taken_5 f hf
  · exact taken_6 f hf
  · exact taken_7 f hf
noncomputable def eqL : List PyData → List PyData → Bool
  | [], [] => true
  | .str x :: r, .str y :: q => match nameEq x y with
    | true => eqL r q
    | false => false
  | _, _ => false
theorem eqL_eq : ∀ {xs ys : List PyData}, eqL xs ys = true → xs = ys
  | [], [], _ => rfl
  | [], y :: q, h => by cases y <;> cases h
  | x :: r, [], h => by cases x <;> cases h
  | x :: r, y :: q, h => by
    unfold eqL at h
    split at h
    · rename_i he _; cases he
    · rename_i x' r' y' q' e1 e2
      cases e1; cases e2
      split at h
      · rename_i hn
        rw [(nameEq_iff _ _).mp hn, eqL_eq h]
      · cases h
    · cases h
noncomputable def spTaken : List PyData → Option PyData
  | [.list ns, .str p] => match eqL ns (lst 15 15 15) with
    | true => (match findLF (fun l f => nameEq p (patS l f)) l8 with
      | some (l, f) => some (.list (tkD l f))
      | none => none)
    | false => none
  | _ => none
theorem taken_says : Says Φ4 "_law_taken" spTaken := by
  intro ds d h
  unfold spTaken at h
  split at h
  · rename_i ns p
    split at h
    · rename_i hn
      have := eqL_eq hn
      subst this
      split at h
      · rename_i l f hlf
        cases h
        obtain ⟨h1, h2, h3⟩ := findLF_some hlf
        have := (nameEq_iff _ _).mp h3
        subst this
        exact taken_eval l f (mem8 h1) h2
      · cases h
    · cases h
  · cases h
end Mine
end
section
open PySem PySem.Spec PySem.Calls PyProof.Rows PySem.W
set_option maxRecDepth 100000
set_option maxHeartbeats 8000000
namespace Mine
noncomputable def spList : List PyData → Option PyData
  | [.str x] => guard' (Nat.ble x.cps.size 100) (some (.list (x.cps.toList.map chS)))
  | _ => none
noncomputable def ltL : List Nat → List Nat → Bool
  | _, [] => false
  | [], _ :: _ => true
  | x :: xs, y :: ys => match Nat.blt x y with
    | true => true
    | false => match Nat.beq x y with
      | true => ltL xs ys
      | false => false
/-- texts that go up, each behind the one before -/
noncomputable def upD : List PyData → Bool
  | [] => true
  | [.str _] => true
  | .str x :: .str y :: r => match ltL x.cps.toList y.cps.toList with
    | true => upD (.str y :: r)
    | false => false
  | _ => false
noncomputable def memD (x : PyData) : List PyData → Bool
  | [] => false
  | .str y :: r => match x with
    | .str z => (match nameEq z y with
      | true => true
      | false => memD x r)
    | _ => memD x r
  | _ :: r => memD x r
noncomputable def subD (xs ys : List PyData) : List PyData := xs.filter fun x => !memD x ys
noncomputable def spDiff : List PyData → Option PyData
  | [.list xs, .list ys] => guard' (upD xs && upD ys && Nat.ble xs.length 100 && Nat.ble ys.length 100) (some (.tuple [.list (subD xs ys), .list (subD ys xs)]))
  | _ => none
noncomputable def Φ5 : Orc := addO (addO (addO (addO (addO Φ4 "_law_taken" spTaken) "list" spList) "sorted_list_difference" spDiff) "_law_rows" (callF Φ1 pw "_law_rows")) "_law_due" (callF Φ3 pw "_law_due")

noncomputable def tdNm : NK := namesOf "_law_told"
noncomputable def tdF1 : Stmt := nth (bodyOf "_law_told") 3
noncomputable def tdF2 : Stmt := nth (bodyOf "_law_told") 4
/-- the frame in the first loop -/
noncomputable def tS (L Bk : PyData) (tk : List PyData) (o : Option (PyData × PyData × PyData)) : En := ("listing", .val L) :: ("names", .val allD) :: ("blocks", .val Bk) :: ("taken", .own tk) :: (match o with
  | none => []
  | some (x, y, z) => [("letters", .val x), ("figures", .val y), ("got", .val z)])
noncomputable def tS1 (L Bk : PyData) (tk : List PyData) (x y : PyData) (o : Option PyData) : En := ("listing", .val L) :: ("names", .val allD) :: ("blocks", .val Bk) :: ("taken", .own tk) :: ("letters", .val x) :: ("figures", .val y) :: (match o with
  | none => []
  | some z => [("got", .val z)])
section
variable (L Bk : PyData) (tk : List PyData)
theorem td_s1 (l f : Nat) (hl : l < 8) (hf : f < 16) (o : Option PyData) : pexecs (pexec Φ5 7) tdNm (tS1 L Bk tk (.str (letsS l)) (.str (figsS f)) o) ((forB tdF1).take 2) = some (.next (tS1 L Bk tk (.str (letsS l)) (.str (figsS f)) (some (.list (tkD l f))))) := by
  have key : ∀ (o : Option PyData), mapA (fun l => mapA (fun f => pexecs (pexec Φ5 7) tdNm (tS1 L Bk tk (.str (letsS l)) (.str (figsS f)) o) ((forB tdF1).take 2)) n16) n8 = mapB (fun l => mapB (fun f => some (.next (tS1 L Bk tk (.str (letsS l)) (.str (figsS f)) (some (.list (tkD l f)))))) n16) n8 := fun o => by cases o <;> kernel_rfl
  exact ev816 (key o) l hl f hf
theorem td_turn (l f : Nat) (hl : l < 8) (hf : f < 16) (ht : tk.length ≤ 1000) (o : Option PyData) : pexecs (pexec Φ5 7) tdNm (tS1 L Bk tk (.str (letsS l)) (.str (figsS f)) o) (forB tdF1) = some (.next (tS L Bk (tk ++ [.list (tkD l f)]) (some (.str (letsS l), .str (figsS f), .list (tkD l f))))) := by
  have e : forB tdF1 = (forB tdF1).take 2 ++ (forB tdF1).drop 2 := (List.take_append_drop 2 _).symm
  rw [e, pexecs_app (td_s1 L Bk tk l f hl hf o)]
  have f3 : (forB tdF1).drop 2 = .Expr (.Call (.Attribute (.Name "taken" (appP (nth (forB tdF1) 2) 0)) "append" (appP (nth (forB tdF1) 2) 1)) [appE (nth (forB tdF1) 2)] [] (appP (nth (forB tdF1) 2) 2)) (appP (nth (forB tdF1) 2) 3) :: [] := by kernel_rfl
  rw [f3, pexecs_next (pexec_append (xs := tk) (d := .list (tkD l f)) (by kernel_rfl) (by kernel_rfl) (by kernel_rfl) (by kernel_rfl) ht)]
  kernel_rfl
end
/-- the data of blocks -/
noncomputable def bkP (p : Nat × Nat) : PyData := .tuple [.str (letsS p.1), .str (figsS p.2)]
noncomputable def tkP (p : Nat × Nat) : PyData := .list (tkD p.1 p.2)
theorem td_loop1 (L Bk : PyData) : ∀ (ps : List (Nat × Nat)) (tk : List PyData) (o : Option (PyData × PyData × PyData)), (∀ p ∈ ps, p.1 < 8 ∧ p.2 < 16) → tk.length + ps.length ≤ 1000 →
    ∃ o', pfor (fun nm ρ b => pexecs (pexec Φ5 7) nm ρ b) tdNm (forT tdF1) (forB tdF1) (ps.map bkP) (tS L Bk tk o) = some (.next (tS L Bk (tk ++ ps.map tkP) o'))
  | [], tk, o, _, _ => ⟨o, by rw [List.map_nil, List.map_nil, List.append_nil]; rfl⟩
  | p :: ps, tk, o, h, hn => by
    obtain ⟨hl, hf⟩ := h p List.mem_cons_self
    rw [List.length_cons] at hn
    have b : bindTo tdNm (tS L Bk tk o) (forT tdF1) (bkP p) = some (tS1 L Bk tk (.str (letsS p.1)) (.str (figsS p.2)) (o.map (·.2.2))) := by
      rcases o with _ | ⟨x, y, z⟩ <;> kernel_rfl
    obtain ⟨o', ih⟩ := td_loop1 L Bk ps (tk ++ [tkP p]) (some (.str (letsS p.1), .str (figsS p.2), .list (tkD p.1 p.2))) (fun q hq => h q (List.mem_cons_of_mem _ hq)) (by rw [List.length_append, List.length_singleton]; omega)
    refine ⟨o', ?_⟩
    rw [List.map_cons, pfor_next b (td_turn L Bk tk p.1 p.2 hl hf (by omega) _)]
    refine ih.trans ?_
    rw [List.map_cons, List.append_assoc]
    rfl
end Mine
end
section
open PySem PySem.Spec PySem.Calls PyProof.Rows PySem.W
set_option maxRecDepth 100000
namespace Mine
theorem ltL_iff : ∀ (a b : List Nat), ltL a b = true ↔ a < b
  | [], [] => by simp [ltL]
  | _ :: _, [] => by simp [ltL]
  | [], _ :: _ => by simp [ltL]
  | x :: xs, y :: ys => by
    rw [List.cons_lt_cons_iff, ← ltL_iff xs ys]
    show (match Nat.blt x y with
      | true => true
      | false => match Nat.beq x y with
        | true => ltL xs ys
        | false => false) = true ↔ _
    cases h1 : Nat.blt x y with
    | true =>
      have := blt_lt h1
      simp [this]
    | false =>
      have h2 : ¬ x < y := fun h => by have : Nat.blt x y = true := by simpa [Nat.blt_eq] using h
                                       rw [h1] at this; cases this
      cases h3 : Nat.beq x y with
      | true => have := Nat.eq_of_beq_eq_true h3; simp [h2, this]
      | false => have := Nat.ne_of_beq_eq_false h3; simp [h2, this]
theorem ltS_irrefl (x : Str) : ¬ ltS x x := List.lt_irrefl _
theorem ltS_trans {x y z : Str} (a : ltS x y) (b : ltS y z) : ltS x z := List.lt_trans a b
theorem ltS_asymm {x y : Str} (a : ltS x y) : ¬ ltS y x := List.lt_asymm a
theorem str_ext {a b : Str} (h : a.cps.toList = b.cps.toList) : a = b := by cases a; cases b; simp only at h; congr 1; exact Array.ext' h
theorem ltS_tri {x y : Str} (a : ¬ ltS x y) (b : ¬ ltS y x) : x = y := str_ext (List.le_antisymm (List.not_lt.mp b) (List.not_lt.mp a))
theorem up_list : ∀ {xs : List PyData}, upD xs = true → ∃ X : List Str, xs = sD X ∧ X.Pairwise ltS
  | [], _ => ⟨[], rfl, .nil⟩
  | [.str x], _ => ⟨[x], rfl, by simp⟩
  | .str x :: .str y :: r, h => by
    unfold upD at h
    split at h
    · rename_i hl
      obtain ⟨X, e, hp⟩ := up_list h
      cases X with
      | nil => cases e
      | cons z X =>
        injection e with e1 e2
        injection e1 with e1
        subst e1
        have hxy : ltS x y := (ltL_iff _ _).mp hl
        refine ⟨x :: y :: X, by rw [e2]; rfl, List.pairwise_cons.mpr ⟨fun z hz => ?_, hp⟩⟩
        rcases List.mem_cons.mp hz with rfl | hz
        · exact hxy
        · exact ltS_trans hxy ((List.pairwise_cons.mp hp).1 z hz)
    · cases h
  | [.none], h => by cases h
  | [.bool _], h => by cases h
  | [.int _], h => by cases h
  | [.list _], h => by cases h
  | [.tuple _], h => by cases h
  | [.dict _], h => by cases h
  | .none :: _ :: _, h => by cases h
  | .bool _ :: _ :: _, h => by cases h
  | .int _ :: _ :: _, h => by cases h
  | .list _ :: _ :: _, h => by cases h
  | .tuple _ :: _ :: _, h => by cases h
  | .dict _ :: _ :: _, h => by cases h
  | .str _ :: .none :: _, h => by cases h
  | .str _ :: .bool _ :: _, h => by cases h
  | .str _ :: .int _ :: _, h => by cases h
  | .str _ :: .list _ :: _, h => by cases h
  | .str _ :: .tuple _ :: _, h => by cases h
  | .str _ :: .dict _ :: _, h => by cases h
theorem memD_sD (x : Str) : ∀ (Y : List Str), memD (.str x) (sD Y) = decide (x ∈ Y)
  | [] => by simp [memD, sD]
  | y :: Y => by
    show (match nameEq x y with
      | true => true
      | false => memD (.str x) (sD Y)) = _
    cases h : nameEq x y with
    | true => simp [(nameEq_iff _ _).mp h]
    | false =>
      have hne : x ≠ y := fun e => by rw [(nameEq_iff _ _).mpr e] at h; cases h
      simp only
      rw [memD_sD x Y]; simp [hne]
theorem subD_sD (X Y : List Str) : subD (sD X) (sD Y) = sD (X.filter fun x => decide (x ∉ Y)) := by
  unfold subD sD
  rw [List.filter_map]
  congr 1
  apply List.filter_congr
  intro x _
  simp only [Function.comp]
  rw [show (List.map PyData.str Y) = sD Y from rfl, memD_sD]
  simp
theorem adj_ne {X : List Str} (h : X.Pairwise ltS) (i : Nat) (x x' : Str) (h1 : X[i]? = some x) (h2 : X[i + 1]? = some x') : x' ≠ x := by
  obtain ⟨l1, rfl⟩ := List.getElem?_eq_some_iff.mp h1
  obtain ⟨l2, rfl⟩ := List.getElem?_eq_some_iff.mp h2
  have := List.pairwise_iff_getElem.mp h i (i + 1) l1 l2 (Nat.lt_succ_self _)
  intro e
  rw [e] at this
  exact ltS_irrefl _ this
theorem filt_all {X : List Str} {p : Str → Bool} (h : ∀ x ∈ X, p x = true) : X.filter p = X := List.filter_eq_self.mpr h
theorem mg_ex : ∀ (N : Nat) (p q : List Str), p.length + q.length ≤ N → p.Pairwise ltS → q.Pairwise ltS → Mg p q (p.filter fun x => decide (x ∉ q)) (q.filter fun x => decide (x ∉ p))
  | _, [], q, _, _, _ => by
    rw [filt_all (X := q) (by simp)]
    exact .nilL
  | _, x :: p, [], _, _, _ => by
    rw [filt_all (X := x :: p) (by simp)]
    exact .nilR
  | 0, x :: p, y :: q, h, _, _ => by simp at h
  | N + 1, x :: p, y :: q, h, hp, hq => by
    obtain ⟨hp1, hp2⟩ := List.pairwise_cons.mp hp
    obtain ⟨hq1, hq2⟩ := List.pairwise_cons.mp hq
    simp only [List.length_cons] at h
    by_cases hlt : ltS x y
    · have hx : ∀ z ∈ y :: q, z ≠ x := fun z hz e => by
        subst e
        rcases List.mem_cons.mp hz with rfl | hz
        · exact ltS_irrefl _ hlt
        · exact ltS_irrefl _ (ltS_trans hlt (hq1 _ hz))
      have e1 : (x :: p).filter (fun z => decide (z ∉ y :: q)) = x :: p.filter (fun z => decide (z ∉ y :: q)) := by
        rw [List.filter_cons, if_pos]
        simp only [decide_eq_true_eq]
        exact fun hm => hx x hm rfl
      have e2 : (y :: q).filter (fun z => decide (z ∉ x :: p)) = (y :: q).filter (fun z => decide (z ∉ p)) := by
        apply List.filter_congr
        intro z hz
        simp [hx z hz]
      rw [e1, e2]
      exact .lt hlt (mg_ex N p (y :: q) (by simp only [List.length_cons]; omega) hp2 hq)
    · by_cases hgt : ltS y x
      · have hy : ∀ z ∈ x :: p, z ≠ y := fun z hz e => by
          subst e
          rcases List.mem_cons.mp hz with rfl | hz
          · exact ltS_irrefl _ hgt
          · exact ltS_irrefl _ (ltS_trans hgt (hp1 _ hz))
        have e1 : (y :: q).filter (fun z => decide (z ∉ x :: p)) = y :: q.filter (fun z => decide (z ∉ x :: p)) := by
          rw [List.filter_cons, if_pos]
          simp only [decide_eq_true_eq]
          exact fun hm => hy y hm rfl
        have e2 : (x :: p).filter (fun z => decide (z ∉ y :: q)) = (x :: p).filter (fun z => decide (z ∉ q)) := by
          apply List.filter_congr
          intro z hz
          simp [hy z hz]
        rw [e1, e2]
        exact .gt hlt hgt (mg_ex N (x :: p) q (by simp only [List.length_cons]; omega) hp hq2)
      · have hxy := ltS_tri hlt hgt
        subst hxy
        have ne1 : ∀ z ∈ p, z ≠ x := fun z hz e => by subst e; exact ltS_irrefl _ (hp1 _ hz)
        have ne2 : ∀ z ∈ q, z ≠ x := fun z hz e => by subst e; exact ltS_irrefl _ (hq1 _ hz)
        have e1 : (x :: p).filter (fun z => decide (z ∉ x :: q)) = p.filter (fun z => decide (z ∉ q)) := by
          rw [List.filter_cons, if_neg (by simp)]
          apply List.filter_congr
          intro z hz
          simp [ne1 z hz]
        have e2 : (x :: q).filter (fun z => decide (z ∉ x :: p)) = q.filter (fun z => decide (z ∉ p)) := by
          rw [List.filter_cons, if_neg (by simp)]
          apply List.filter_congr
          intro z hz
          simp [ne2 z hz]
        rw [e1, e2]
        exact .eq hlt hgt (mg_ex N p q (by omega) hp2 hq2)
end Mine
end
section
open PySem PySem.Spec PySem.Calls PyProof.Rows PySem.W
set_option maxRecDepth 100000
namespace Mine
variable [Inhabited Base]
variable {K : Frag} {P : Addr} {G : Str → Option Value} {Λ : List Addr}
noncomputable def qS0 (xs ys : List PyData) : En := [("expected", .val (.list xs)), ("actual", .val (.list ys))]
noncomputable def qS1 (xs ys : List PyData) : En := [("expected", .val (.list xs)), ("actual", .val (.list ys)), ("i", .val (iN 0))]
noncomputable def qS2 (xs ys : List PyData) : En := [("expected", .val (.list xs)), ("actual", .val (.list ys)), ("i", .val (iN 0)), ("j", .val (iN 0))]
section
variable (xs ys : List PyData)
theorem s0_i : storeB sldNm (qS0 xs ys) "i" (.val (.int 0)) = some (qS1 xs ys) := by kernel_rfl
theorem s0_j : storeB sldNm (qS1 xs ys) "j" (.val (.int 0)) = some (qS2 xs ys) := by kernel_rfl
noncomputable def qS3 (xs ys : List PyData) : En := [("expected", .val (.list xs)), ("actual", .val (.list ys)), ("i", .val (iN 0)), ("j", .val (iN 0)), ("missing", .own [])]
theorem s1 (Φ : Orc) : pexec Φ 8 sldNm (qS2 xs ys) (nth sldB 1) = some (.next (qS3 xs ys)) := by kernel_rfl
theorem s2 (Φ : Orc) : pexec Φ 8 sldNm (qS3 xs ys) (nth sldB 2) = some (.next (qS xs ys 0 0 [] [] none)) := by kernel_rfl
theorem s4 (Φ : Orc) (i j : Nat) (m u : List PyData) (o : Option (PyData × Option PyData)) : pexecs (pexec Φ 8) sldNm (qS xs ys i j m u o) [nth sldB 4] = some (.ret (.tuple [.list m, .list u])) := by kernel_rfl
theorem sld_unmarked : marked sldNm = false := by kernel_rfl
end
section
variable {prog : Program} {w : World} {n b k : Nat} {A : Around} {E : Value → Shared → Prop} {M O O' N : List Addr} {α : Str → Addr} {env : Env} {nm : NK} {ρ ρ₁ ρ' : En} {s₀ s s' : Shared} {e : Addr} {outer : List Env}
theorem asg_two (f : Frm K P Λ k A env nm n) (r : Run K P G Λ n M O α env nm ρ s) {x y : Str} {px py pc sp : Pos} {c : Nat} {i : Int} (h1 : storeB nm ρ x (.val (.int i)) = some ρ₁) (h2 : storeB nm ρ₁ y (.val (.int i)) = some ρ') {Q : Flow → Shared → Prop}
    (hQ : ∀ s', GrowB P M s s' → Run K P G Λ n M O α env nm ρ' s' → Q .next s') : wpAny (model prog w) A (exec (.Assign [.Name x px, .Name y py] (.Constant (.int i) c pc) sp) env) Q E s := by
  refine wpAny_Assign_two (constF_sound (O := O) (P := P) (d := .int i) rfl fun v s₁ g₁ r₁ => ?_)
  refine wpAny_assign_Name (store_val f.toFrmW h1 (r.grow g₁) r₁ fun s₂ g₂ r₂ => ?_)
  refine wpAny_assign_Name (store_val f.toFrmW h2 r₂ (g₂.rep r.hP r.act.MO r₁) fun s₃ g₃ r₃ => ?_)
  exact hQ _ (((GrowB.of g₁).trans g₂).trans g₃) r₃
theorem sld_sound {Φ : Orc} (C : CallsOk pw w K P G k Φ) (hr : G "range" = some (.type "range")) (hlen : G "len" = some (.builtin "len")) (hG : G "IndexError" = some (.type "IndexError")) {a : Addr} {sc : Scope} {body : List Stmt} {fd : FuncData} (F : FnOk pw K "sorted_list_difference" a ["expected", "actual"] sc body fd)
    {ds : List PyData} {d : PyData} (h : spDiff ds = some d) : CallOk pw w K P G (k + 1) (.ref a) ds d := by
  obtain ⟨args, hdef, _⟩ := F.def_
  have eb : body = sldB := by unfold sldB bodyOf; rw [hdef]
  have en : sc.names = sldNm := by unfold sldNm namesOf; rw [hdef]
  unfold spDiff at h
  split at h
  · rename_i xs ys
    obtain ⟨hg, h⟩ := guard'_some h
    cases h
    simp only [Bool.and_eq_true] at hg
    obtain ⟨⟨⟨ux, uy⟩, lx⟩, ly⟩ := hg
    obtain ⟨X, rfl, hX⟩ := up_list ux
    obtain ⟨Y, rfl, hY⟩ := up_list uy
    have lX : X.length ≤ 100 := by have := Nat.le_of_ble_eq_true lx; rwa [List.length_map] at this
    have lY : Y.length ≤ 100 := by have := Nat.le_of_ble_eq_true ly; rwa [List.length_map] at this
    have hb : bindPs ["expected", "actual"] [.list (sD X), .list (sD Y)] = some (qS0 (sD X) (sD Y)) := by kernel_rfl
    have hcm : ∀ env : Env, env.code = fd.code → CodeM K P G sc.names env := fun env _ => CodeM.un (by rw [en]; exact sld_unmarked)
    intro Λ₀
    refine call_frame (w := w) (G := G) (k := k) (d := .tuple [.list (subD (sD X) (sD Y)), .list (subD (sD Y) (sD X))]) F hcm hb fun A env outer n M O₀ O s Q E f cm r ho hP hlt hfr hfl hQ => ?_
    rw [en] at f cm r
    subst eb
    have X1 := pexec_sound (prog := pw) (w := w) (n := n) (O₀ := O₀) C hr hlen hP hlt 8
    have B := pexecs_sound X1
    have S1 := s1 (sD X) (sD Y) Φ
    have S2 := s2 (sD X) (sD Y) Φ
    have S4 := fun i j m u o => s4 (sD X) (sD Y) Φ i j m u o
    rw [sld_body] at S1 S2 S4 ⊢
    refine wpAny_execs_cons (asg_two f r (s0_i ..) (s0_j ..) fun s₁ g₁ r₁ => ?_)
    refine wpAny_execs_cons (X1 _ _ _ _ S1 A env M O _ s₁ _ _ f cm r₁ ho fun fw s₂ x => ?_)
    obtain ⟨rfl, M₂, O₂, α₂, g₂, eM₂, eO₂, r₂⟩ := x
    refine wpAny_execs_cons (X1 _ _ _ _ S2 A env M₂ O₂ _ s₂ _ _ f cm r₂ (fun b hb => eO₂.1 b (ho b hb)) fun fw s₃ x => ?_)
    obtain ⟨rfl, M₃, O₃, α₃, g₃, eM₃, eO₃, r₃⟩ := x
    refine wpAny_execs_cons (wpAny_While (sld_while hfr hfl f hG (adj_ne hX) (adj_ne hY) lX lY r₃ (Nat.zero_le _) (Nat.zero_le _) (Nat.le_refl _) (Nat.le_refl _) (Mf := sD (X.filter fun x => decide (x ∉ Y))) (Uf := sD (Y.filter fun x => decide (x ∉ X)))
      ⟨_, _, mg_ex _ X Y (Nat.le_refl _) hX hY, rfl, rfl⟩ fun O₄ s₄ i' j' o' g₄ eO₄ r₄ => ?_))
    refine B _ _ _ _ (S4 i' j' _ _ o') A env M₃ O₄ _ s₄ _ _ f cm r₄ (fun b hb => eO₄.1 b (eO₃.1 b (eO₂.1 b (ho b hb)))) fun fw s₅ x => ?_
    obtain ⟨v, rfl, r₅, g₅⟩ := x
    have ga : GrowB P M s s₂ := g₁.trans g₂
    have gb : GrowB P M s s₃ := ga.before ⟨eM₂.1, fun a ha => (eM₂.2 a ha).imp id fun q => Nat.le_trans g₁.size q⟩ g₃
    have eM : Ext M M₃ s := ⟨fun a ha => eM₃.1 a (eM₂.1 a ha), fun a ha => (eM₃.2 a ha).elim (fun q => (eM₂.2 a q).imp id fun q => Nat.le_trans g₁.size q) fun q => .inr (Nat.le_trans ga.size q)⟩
    refine hQ _ s₅ ⟨gb.before eM (g₄.trans g₅), .inl ⟨v, rfl, ?_⟩⟩
    rw [subD_sD, subD_sD]
    exact r₅
  · cases h
end
end Mine
end
section
open PySem PySem.Spec PySem.Calls PyProof.Rows PySem.W
set_option maxRecDepth 100000
namespace Mine
noncomputable def subV : Expr → Expr | .Subscript v _ _ => v | e => e
noncomputable def subS : Expr → Expr | .Subscript _ s _ => s | e => e
noncomputable def subP : Expr → Pos | .Subscript _ _ p => p | _ => ⟨0, 0, 0, 0⟩
noncomputable def notSlice : Expr → Bool | .Slice .. => false | _ => true
section
variable {rec : NK → En → Expr → Option PyData} {nm : NK} {ρ : En} {Φ : Orc}
theorem psub_at {v s : Expr} {o i d : PyData} (hv : pbase rec nm ρ v = some o) (hs : rec nm ρ s = some i) (hns : notSlice s = true) (hi : itemF o i = some d) : psub rec nm ρ v s = some d := by
  unfold psub
  rw [hv]
  cases s <;> first
    | exact noB hns
    | (show (match rec nm ρ _ with | some i => itemF o i | none => none) = _; rw [hs]; exact hi)
theorem pev_sub {n : Nat} {v s : Expr} {p : Pos} {o i d : PyData} (hv : pbase (pev Φ n) nm ρ v = some o) (hs : pev Φ n nm ρ s = some i) (hns : notSlice s = true) (hi : itemF o i = some d) : pev Φ (n + 1) nm ρ (.Subscript v s p) = some d := psub_at hv hs hns hi
theorem item_at {bs : List PyData} {i : Nat} {d : PyData} (hl : bs.length ≤ 1000) (hd : bs[i]? = some d) : itemF (.list bs) (.int (Int.ofNat i)) = some d := by
  have hi : i < bs.length := by
    rcases Nat.lt_or_ge i bs.length with h | h
    · exact h
    · rw [List.getElem?_eq_none h] at hd; cases hd
  have h1 : smallInt (Int.ofNat i) = true := Nat.ble_eq_true_of_le (by show i ≤ 4294967296; omega)
  have h2 : Nat.blt i bs.length = true := by simpa [Nat.blt_eq] using hi
  show (match smallInt (Int.ofNat i) with
    | true => (match (match Nat.blt i bs.length with | true => some i | false => none) with
        | some j => bs[j]?
        | none => none)
    | false => none) = some d
  rw [h1, h2]; exact hd
theorem pev_cmp {n : Nat} {l r : Expr} {op : CmpOp} {p : Pos} {a b : PyData} {c : Bool} (hs : noSet r = true) (h1 : pev Φ n nm ρ l = some a) (h2 : pev Φ n nm ρ r = some b) (h : cmpF op a b = some c) : pev Φ (n + 1) nm ρ (.Compare l [op] [r] p) = some (.bool c) := by
  show onO (pcmp1 (pev Φ n) nm ρ l op r) (fun b => some (PyData.bool b)) = _
  unfold pcmp1
  rw [hs]; dsimp only; rw [h1]; dsimp only; rw [h2]; dsimp only; rw [h]; rfl
theorem ptest_or {n : Nat} {x y : Expr} {p : Pos} {c : Bool} (h1 : ptest rec nm ρ n x = some false) (h2 : ptest rec nm ρ n y = some c) : ptest rec nm ρ (n + 1) (.BoolOp .Or [x, y] p) = some c := by
  show orO (ptest rec nm ρ n x) (ptest rec nm ρ n y) = _
  rw [h1]; exact h2
theorem cmp_bools (x y : Bool) : cmpF .NotEq (.bool x) (.bool y) = some (x != y) := by
  cases x <;> cases y <;> kernel_rfl
theorem pexec_asgCall {n : Nat} {ρ' : En} {x gn : Str} {p p3 q gp : Pos} {as : List Expr} {ks : List Keyword} {d : PyData} (h : pev Φ 12 nm ρ (.Call (.Name gn gp) as ks q) = some d) (hs : storeB nm ρ x (.val d) = some ρ') (hk : callK as = .plain := by kernel_rfl) :
    pexec Φ (n + 1) nm ρ (.Assign [.Name x p] (.Call (.Name gn gp) as ks q) p3) = some (.next ρ') := by
  show (match callK as with | .plain => storeV nm ρ x (pev Φ 12 nm ρ (.Call (.Name gn gp) as ks q)) | .join => _ | .sub => _) = _
  rw [hk]
  show storeV nm ρ x (pev Φ 12 nm ρ (.Call (.Name gn gp) as ks q)) = _
  unfold storeV storeO
  rw [h]
  show onO (storeB nm ρ x (.val d)) _ = _
  rw [hs]; rfl
end
noncomputable def callF' : Expr → Expr | .Call f _ _ _ => f | e => e
noncomputable def callAs : Expr → List Expr | .Call _ as _ _ => as | _ => []
theorem pexec_for {Φ : Orc} {n : Nat} {nm : NK} {ρ : En} {t it : Expr} {body : List Stmt} {p : Pos} {items : List PyData} (h : piter (pev Φ 12) nm ρ it = some items) : pexec Φ (n + 1) nm ρ (.For t it body [] p) = pfor (fun nm ρ b => pexecs (pexec Φ n) nm ρ b) nm t body items ρ := by
  show onO (piter (pev Φ 12) nm ρ it) _ = _
  rw [h]; rfl
noncomputable def forP : Stmt → Pos | .For _ _ _ _ p => p | _ => ⟨0, 0, 0, 0⟩
theorem lt9 {l : Nat} (h : l < 9) : l = 0 ∨ l = 1 ∨ l = 2 ∨ l = 3 ∨ l = 4 ∨ l = 5 ∨ l = 6 ∨ l = 7 ∨ l = 8 := by revert l; decide
end Mine
end
section
open PySem PySem.Spec PySem.Calls PyProof.Rows PySem.W
set_option maxRecDepth 100000
set_option maxHeartbeats 8000000
namespace Mine
noncomputable def tdJ : Stmt := tdF2
noncomputable def tdI : Stmt := nth (forB tdJ) 0
noncomputable def tdB : List Stmt := forB tdI
noncomputable abbrev O3 := Option (PyData × PyData × PyData)
noncomputable def o3 : O3 → En
  | none => []
  | some (x, y, z) => [("letters", .val x), ("figures", .val y), ("got", .val z)]
/-- the frame in the loops over pairs -/
noncomputable def uS (L Bk : PyData) (tk : List PyData) (o : O3) (t : En) : En := ("listing", .val L) :: ("names", .val allD) :: ("blocks", .val Bk) :: ("taken", .own tk) :: (match o with
  | none => t
  | some (x, y, z) => ("letters", .val x) :: ("figures", .val y) :: ("got", .val z) :: t)
noncomputable def tJ (j : Nat) : En := [("j", .val (iD j))]
noncomputable def tI (j i : Nat) : En := [("j", .val (iD j)), ("i", .val (iD i))]
noncomputable def tM (j i : Nat) (m : PyData) : En := [("j", .val (iD j)), ("i", .val (iD i)), ("more", .val m)]
noncomputable def tE (j i : Nat) (m l : PyData) : En := [("j", .val (iD j)), ("i", .val (iD i)), ("more", .val m), ("less", .val l)]
noncomputable def diffD (xs ys : List PyData) : PyData := .tuple [.list (subD xs ys), .list (subD ys xs)]
theorem diff_l (l k : Nat) (hl : l < 8) (hk : k < 8) : Φ5 "sorted_list_difference" [.list (chosD l), .list (chosD k)] = some (diffD (chosD l) (chosD k)) := by
  exact ev88 (F := fun l k => Φ5 "sorted_list_difference" [.list (chosD l), .list (chosD k)]) (G := fun l k => some (diffD (chosD l) (chosD k))) (by kernel_rfl) l hl k hk
theorem diff_f (l k : Nat) (hl : l < 16) (hk : k < 16) : Φ5 "sorted_list_difference" [.list (figsD l), .list (figsD k)] = some (diffD (figsD l) (figsD k)) := by
  exact ev1616 (F := fun l k => Φ5 "sorted_list_difference" [.list (figsD l), .list (figsD k)]) (G := fun l k => some (diffD (figsD l) (figsD k))) (by kernel_rfl) l hl k hk
theorem list_l (l : Nat) (hl : l < 8) : Φ5 "list" [.str (letsS l)] = some (.list (chosD l)) := by
  revert l; exact ev8 (by kernel_rfl)
theorem list_f (l : Nat) (hl : l < 16) : Φ5 "list" [.str (figsS l)] = some (.list (figsD l)) := by
  revert l; exact ev16 (by kernel_rfl)
section
variable (L : PyData) (bs tk : List PyData) (o : O3)
/-- `list(blocks[x][k])`, x a name that bears i -/
theorem td_part {n : Nat} {e : Expr} {x : Str} {i k : Nat} {ρ : En} {b d r : PyData} {f : Str}
    (f1 : e = .Call (.Name "list" (fnP e)) [callA e 0] [] (callQ e)) (f2 : callA e 0 = .Subscript (subV (callA e 0)) (subS (callA e 0)) (subP (callA e 0))) (f3 : subV (callA e 0) = .Subscript (subV (subV (callA e 0))) (subS (subV (callA e 0))) (subP (subV (callA e 0))))
    (hl : getB ρ "list" = none) (hk : getK tdNm "list" = some .globalImplicit)
    (hv : pbase (pev Φ5 n) tdNm ρ (subV (subV (callA e 0))) = some (.list bs)) (hs : pev Φ5 n tdNm ρ (subS (subV (callA e 0))) = some (iD i)) (hns : notSlice (subS (subV (callA e 0))) = true) (hlen : bs.length ≤ 1000) (hb : bs[i]? = some b)
    (hp : pbase (pev Φ5 (n + 1)) tdNm ρ (subV (callA e 0)) = pev Φ5 (n + 1) tdNm ρ (subV (callA e 0)))
    (hs2 : pev Φ5 (n + 1) tdNm ρ (subS (callA e 0)) = some (iD k)) (hns2 : notSlice (subS (callA e 0)) = true) (hd : itemF b (iD k) = some d) (hst : noStar (callA e 0) = true) (hr : Φ5 "list" [d] = some r) : pev Φ5 (n + 3) tdNm ρ e = some r := by
  have h1 : pev Φ5 (n + 1) tdNm ρ (subV (callA e 0)) = some b := (congrArg (pev Φ5 (n + 1) tdNm ρ) f3).trans (pev_sub hv hs hns (item_at hlen hb))
  have h2 : pev Φ5 (n + 2) tdNm ρ (callA e 0) = some d := (congrArg (pev Φ5 (n + 2) tdNm ρ) f2).trans (pev_sub (hp.trans h1) hs2 hns2 hd)
  exact (congrArg (pev Φ5 (n + 3) tdNm ρ) f1).trans ((pev_call hl hk (by kernel_rfl) (pevs_one h2 hst) rfl).trans hr)
end
noncomputable def tdMore : Expr := match nth tdB 0 with | .Assign _ v _ => v | _ => .Name "" ⟨0, 0, 0, 0⟩
noncomputable def tdLess : Expr := match nth tdB 1 with | .Assign _ v _ => v | _ => .Name "" ⟨0, 0, 0, 0⟩
section
variable (L : PyData) (bs tk : List PyData) (o : O3)
theorem td_more (i j l k f g : Nat) (t : Option (PyData × PyData)) (hl : l < 8) (hk : k < 8) (hbs : bs.length ≤ 1000) (hi : bs[i]? = some (bkP (l, f))) (hj : bs[j]? = some (bkP (k, g))) :
    pev Φ5 12 tdNm (uS L (.list bs) tk o (match t with | none => tI j i | some (x, y) => tE j i x y)) tdMore = some (diffD (chosD l) (chosD k)) := by
  have f0 : tdMore = .Call (.Name "sorted_list_difference" (fnP tdMore)) [callA tdMore 0, callA tdMore 1] [] (callQ tdMore) := by kernel_rfl
  refine (congrArg (pev Φ5 12 tdNm _) f0).trans ((pev_call ?_ (by kernel_rfl) (by kernel_rfl) (pevs_two (td_part (x := "i") (f := "") (n := 8) bs (i := i) (k := 0) (b := bkP (l, f)) (d := .str (letsS l)) (by kernel_rfl) (by kernel_rfl) (by kernel_rfl) ?_ (by kernel_rfl) ?_ ?_ (by kernel_rfl) hbs hi (by kernel_rfl) ?_ (by kernel_rfl) (by kernel_rfl) (by kernel_rfl) (list_l l hl))
    (td_part (x := "j") (f := "") (n := 8) bs (i := j) (k := 0) (b := bkP (k, g)) (d := .str (letsS k)) (by kernel_rfl) (by kernel_rfl) (by kernel_rfl) ?_ (by kernel_rfl) ?_ ?_ (by kernel_rfl) hbs hj (by kernel_rfl) ?_ (by kernel_rfl) (by kernel_rfl) (by kernel_rfl) (list_l k hk)) (by kernel_rfl) (by kernel_rfl)) rfl).trans (diff_l l k hl hk))
  all_goals (rcases o with _ | ⟨x, y, z⟩ <;> rcases t with _ | ⟨u, v⟩ <;> kernel_rfl)
theorem td_less (i j l k f g : Nat) (m : PyData) (t : Option PyData) (hf : f < 16) (hg : g < 16) (hbs : bs.length ≤ 1000) (hi : bs[i]? = some (bkP (l, f))) (hj : bs[j]? = some (bkP (k, g))) :
    pev Φ5 12 tdNm (uS L (.list bs) tk o (match t with | none => tM j i m | some y => tE j i m y)) tdLess = some (diffD (figsD g) (figsD f)) := by
  have f0 : tdLess = .Call (.Name "sorted_list_difference" (fnP tdLess)) [callA tdLess 0, callA tdLess 1] [] (callQ tdLess) := by kernel_rfl
  refine (congrArg (pev Φ5 12 tdNm _) f0).trans ((pev_call ?_ (by kernel_rfl) (by kernel_rfl) (pevs_two (td_part (x := "j") (f := "") (n := 8) bs (i := j) (k := 1) (b := bkP (k, g)) (d := .str (figsS g)) (by kernel_rfl) (by kernel_rfl) (by kernel_rfl) ?_ (by kernel_rfl) ?_ ?_ (by kernel_rfl) hbs hj (by kernel_rfl) ?_ (by kernel_rfl) (by kernel_rfl) (by kernel_rfl) (list_f g hg))
    (td_part (x := "i") (f := "") (n := 8) bs (i := i) (k := 1) (b := bkP (l, f)) (d := .str (figsS f)) (by kernel_rfl) (by kernel_rfl) (by kernel_rfl) ?_ (by kernel_rfl) ?_ ?_ (by kernel_rfl) hbs hi (by kernel_rfl) ?_ (by kernel_rfl) (by kernel_rfl) (by kernel_rfl) (list_f f hf)) (by kernel_rfl) (by kernel_rfl)) rfl).trans (diff_f g f hg hf))
  all_goals (rcases o with _ | ⟨x, y, z⟩ <;> rcases t with _ | u <;> kernel_rfl)
noncomputable def asg1 (e : Stmt) : Expr := match e with | .Assign _ v _ => v | _ => .Name "" ⟨0, 0, 0, 0⟩
noncomputable def tdIf : Stmt := nth tdB 2
noncomputable def tX : Expr := boE (ifT tdIf) 0
noncomputable def tY : Expr := boE (ifT tdIf) 1
theorem td_test (i j : Nat) (m0 m1 n0 n1 : List PyData) (h0 : shapedB (.list m0) = true) (h1 : shapedB (.list m1) = true) (h2 : shapedB (.list n0) = true) (e1 : m1.isEmpty = false) (e2 : m0.isEmpty = n0.isEmpty) :
    ptest (pev Φ5 12) tdNm (uS L (.list bs) tk o (tE j i (.tuple [.list m0, .list m1]) (.tuple [.list n0, .list n1]))) 6 (ifT tdIf) = some false := by
  have f : ifT tdIf = .BoolOp .Or [tX, tY] (exP (ifT tdIf)) := by kernel_rfl
  have fx' : tX = .Compare (cmL tX) [.Eq] [cmR tX] (exP tX) := by kernel_rfl
  have fy : tY = .Compare (cmL tY) [.NotEq] [cmR tY] (exP tY) := by kernel_rfl
  have fy1 : cmL tY = .Compare (cmL (cmL tY)) [.Eq] [cmR (cmL tY)] (exP (cmL tY)) := by kernel_rfl
  have fy2 : cmR tY = .Compare (cmL (cmR tY)) [.Eq] [cmR (cmR tY)] (exP (cmR tY)) := by kernel_rfl
  have px : ptest (pev Φ5 12) tdNm (uS L (.list bs) tk o (tE j i (.tuple [.list m0, .list m1]) (.tuple [.list n0, .list n1]))) 5 tX = some false := by
    refine (congrArg (ptest (pev Φ5 12) tdNm _ 5) fx').trans (ptest_cmp (a := .list m1) (b := .list []) (by kernel_rfl) ?_ (by kernel_rfl) (by rw [cmp_nil h1, e1]))
    rcases o with _ | ⟨x, y, z⟩ <;> kernel_rfl
  have py1 : pev Φ5 12 tdNm (uS L (.list bs) tk o (tE j i (.tuple [.list m0, .list m1]) (.tuple [.list n0, .list n1]))) (cmL tY) = some (.bool m0.isEmpty) := by
    refine (congrArg (pev Φ5 12 tdNm _) fy1).trans (pev_cmp (a := .list m0) (b := .list []) (by kernel_rfl) ?_ (by kernel_rfl) (cmp_nil h0))
    rcases o with _ | ⟨x, y, z⟩ <;> kernel_rfl
  have py2 : pev Φ5 12 tdNm (uS L (.list bs) tk o (tE j i (.tuple [.list m0, .list m1]) (.tuple [.list n0, .list n1]))) (cmR tY) = some (.bool n0.isEmpty) := by
    refine (congrArg (pev Φ5 12 tdNm _) fy2).trans (pev_cmp (a := .list n0) (b := .list []) (by kernel_rfl) ?_ (by kernel_rfl) (cmp_nil h2))
    rcases o with _ | ⟨x, y, z⟩ <;> kernel_rfl
  have py : ptest (pev Φ5 12) tdNm (uS L (.list bs) tk o (tE j i (.tuple [.list m0, .list m1]) (.tuple [.list n0, .list n1]))) 5 tY = some false := by
    refine (congrArg (ptest (pev Φ5 12) tdNm _ 5) fy).trans (ptest_cmp (by kernel_rfl) py1 py2 ?_)
    rw [cmp_bools, e2]; cases n0.isEmpty <;> rfl
  exact (congrArg (ptest (pev Φ5 12) tdNm _ 6) f).trans (ptest_or px py)
/-- two blocks that are apart, and ordered one way in the letters and the other way in the figures -/
noncomputable def okP (p q : Nat × Nat) : Bool := !(subD (chosD q.1) (chosD p.1)).isEmpty && ((subD (chosD p.1) (chosD q.1)).isEmpty == (subD (figsD q.2) (figsD p.2)).isEmpty)
theorem shaped_subL (l k : Nat) : shapedB (.list (subD (chosD l) (chosD k))) = true := shapedB_list (n := 0) (by decide) fun x hx => by
  obtain ⟨i, hi, rfl⟩ := mem_chos (List.mem_filter.mp hx).1
  exact ch_fine hi
theorem shaped_subF (l k : Nat) : shapedB (.list (subD (figsD l) (figsD k))) = true := shapedB_list (n := 0) (by decide) fun x hx => by
  obtain ⟨i, hi, rfl⟩ := mem_figs (List.mem_filter.mp hx).1
  exact fg_fine hi
theorem td_pair (i j l k f g : Nat) (t : Option (PyData × PyData)) (hl : l < 8) (hk : k < 8) (hf : f < 16) (hg : g < 16) (hbs : bs.length ≤ 1000) (hi : bs[i]? = some (bkP (l, f))) (hj : bs[j]? = some (bkP (k, g))) (hok : okP (l, f) (k, g) = true) :
    pexecs (pexec Φ5 6) tdNm (uS L (.list bs) tk o (match t with | none => tI j i | some (x, y) => tE j i x y)) tdB = some (.next (uS L (.list bs) tk o (tE j i (diffD (chosD l) (chosD k)) (diffD (figsD g) (figsD f))))) := by
  have c1 : tdMore = .Call (callF' tdMore) (callAs tdMore) [] (callQ tdMore) := by kernel_rfl
  have c2 : tdLess = .Call (callF' tdLess) (callAs tdLess) [] (callQ tdLess) := by kernel_rfl
  have e0 : tdB = .Assign [.Name "more" (asgX (nth tdB 0))] (.Call (callF' tdMore) (callAs tdMore) [] (callQ tdMore)) (asgP (nth tdB 0)) :: .Assign [.Name "less" (asgX (nth tdB 1))] (.Call (callF' tdLess) (callAs tdLess) [] (callQ tdLess)) (asgP (nth tdB 1)) :: .If (ifT tdIf) (ifB tdIf) (ifO tdIf) (match tdIf with | .If _ _ _ p => p | _ => ⟨0, 0, 0, 0⟩) :: [] := by kernel_rfl
  unfold okP at hok
  rw [Bool.and_eq_true] at hok
  have e1 : (subD (chosD k) (chosD l)).isEmpty = false := by simpa using hok.1
  have e2 : (subD (chosD l) (chosD k)).isEmpty = (subD (figsD g) (figsD f)).isEmpty := by simpa using hok.2
  have hm := td_more L bs tk o i j l k f g t hl hk hbs hi hj
  rw [c1] at hm
  have s1 : ∀ p p3, pexec Φ5 6 tdNm (uS L (.list bs) tk o (match t with | none => tI j i | some (x, y) => tE j i x y)) (.Assign [.Name "more" p] (.Call (callF' tdMore) (callAs tdMore) [] (callQ tdMore)) p3) = some (.next (uS L (.list bs) tk o (match t.map (·.2) with | none => tM j i (diffD (chosD l) (chosD k)) | some y => tE j i (diffD (chosD l) (chosD k)) y))) := fun p p3 => pexec_asgCall hm (by
    rcases o with _ | ⟨x, y, z⟩ <;> rcases t with _ | ⟨u, v⟩ <;> kernel_rfl)
  have hn := td_less L bs tk o i j l k f g (diffD (chosD l) (chosD k)) (t.map (·.2)) hf hg hbs hi hj
  rw [c2] at hn
  have s2 : ∀ p p3, pexec Φ5 6 tdNm (uS L (.list bs) tk o (match t.map (·.2) with | none => tM j i (diffD (chosD l) (chosD k)) | some y => tE j i (diffD (chosD l) (chosD k)) y)) (.Assign [.Name "less" p] (.Call (callF' tdLess) (callAs tdLess) [] (callQ tdLess)) p3) = some (.next (uS L (.list bs) tk o (tE j i (diffD (chosD l) (chosD k)) (diffD (figsD g) (figsD f))))) := fun p p3 => pexec_asgCall hn (by
    rcases o with _ | ⟨x, y, z⟩ <;> rcases t with _ | ⟨u, v⟩ <;> kernel_rfl)
  have s3 : ∀ p, pexec Φ5 6 tdNm (uS L (.list bs) tk o (tE j i (diffD (chosD l) (chosD k)) (diffD (figsD g) (figsD f)))) (.If (ifT tdIf) (ifB tdIf) (ifO tdIf) p) = some (.next (uS L (.list bs) tk o (tE j i (diffD (chosD l) (chosD k)) (diffD (figsD g) (figsD f))))) := fun p => by
    have tt : ptest (pev Φ5 12) tdNm (uS L (.list bs) tk o (tE j i (diffD (chosD l) (chosD k)) (diffD (figsD g) (figsD f)))) 6 (ifT tdIf) = some false := td_test L bs tk o i j _ _ _ (subD (figsD f) (figsD g)) (shaped_subL l k) (shaped_subL k l) (shaped_subF g f) e1 e2
    rw [pexec_if tt, if_neg (by decide)]
    kernel_rfl
  rw [e0, pexecs_next (s1 _ _), pexecs_next (s2 _ _), pexecs_next (s3 _)]
  rfl
/-- the inner loop: all that lie before j -/
noncomputable def tT (j : Nat) : Option (Nat × PyData × PyData) → En
  | none => tJ j
  | some (i, x, y) => tE j i x y
theorem td_inner (ps : List (Nat × Nat)) (hps : ∀ p ∈ ps, p.1 < 8 ∧ p.2 < 16) (hlen : ps.length ≤ 60) (j : Nat) (hj : j < ps.length) : ∀ (m i0 : Nat) (t : Option (Nat × PyData × PyData)), i0 + m = j → (∀ i, i < j → ∀ p q, ps[i]? = some p → ps[j]? = some q → okP p q = true) →
    ∃ t', pfor (fun nm ρ b => pexecs (pexec Φ5 6) nm ρ b) tdNm (forT tdI) tdB ((List.range' i0 m).map iD) (uS L (.list (ps.map bkP)) tk o (tT j t)) = some (.next (uS L (.list (ps.map bkP)) tk o (tT j t')))
  | 0, i0, t, _, _ => ⟨t, rfl⟩
  | m + 1, i0, t, hm, hok => by
    have hi : i0 < ps.length := by omega
    have pi : ps[i0]? = some ps[i0] := List.getElem?_eq_getElem hi
    have pj : ps[j]? = some ps[j] := List.getElem?_eq_getElem hj
    obtain ⟨h1, h2⟩ := hps _ (List.getElem_mem hi)
    obtain ⟨h3, h4⟩ := hps _ (List.getElem_mem hj)
    have bi : (ps.map bkP)[i0]? = some (bkP (ps[i0].1, ps[i0].2)) := by rw [List.getElem?_map, pi]; rfl
    have bj : (ps.map bkP)[j]? = some (bkP (ps[j].1, ps[j].2)) := by rw [List.getElem?_map, pj]; rfl
    have b : bindTo tdNm (uS L (.list (ps.map bkP)) tk o (tT j t)) (forT tdI) (iD i0) = some (uS L (.list (ps.map bkP)) tk o (match t.map (·.2) with | none => tI j i0 | some (x, y) => tE j i0 x y)) := by
      rcases o with _ | ⟨x, y, z⟩ <;> rcases t with _ | ⟨u, v, w⟩ <;> kernel_rfl
    have st := td_pair L (ps.map bkP) tk o i0 j ps[i0].1 ps[j].1 ps[i0].2 ps[j].2 (t.map (·.2)) h1 h3 h2 h4 (by rw [List.length_map]; omega) bi bj (hok i0 (by omega) _ _ pi pj)
    obtain ⟨t', ih⟩ := td_inner ps hps hlen j hj m (i0 + 1) (some (i0, diffD (chosD ps[i0].1) (chosD ps[j].1), diffD (figsD ps[j].2) (figsD ps[i0].2))) (by omega) hok
    refine ⟨t', ?_⟩
    rw [List.range'_succ, List.map_cons, pfor_next b st]
    exact ih
end
end Mine
end
section
open PySem PySem.Spec PySem.Calls PyProof.Rows PySem.W
set_option maxRecDepth 100000
set_option maxHeartbeats 8000000
namespace Mine
section
variable (L : PyData) (tk : List PyData) (o : O3)
theorem td_itI (bs : List PyData) (j : Nat) (t : Option (Nat × PyData × PyData)) (hj : j < 9) : piter (pev Φ5 12) tdNm (uS L (.list bs) tk o (tT j t)) (forI tdI) = some ((List.range' 0 j).map iD) := by
  rcases o with _ | ⟨x, y, z⟩ <;> rcases t with _ | ⟨u, v, w⟩ <;> rcases lt9 hj with rfl | rfl | rfl | rfl | rfl | rfl | rfl | rfl | rfl <;> kernel_rfl
theorem td_itJ (ps : List (Nat × Nat)) (h : ps.length < 9) : piter (pev Φ5 12) tdNm (uS L (.list (ps.map bkP)) tk o []) (forI tdJ) = some ((List.range' 0 ps.length).map iD) := by
  rcases o with _ | ⟨x, y, z⟩ <;>
  rcases ps with _ | ⟨p0, _ | ⟨p1, _ | ⟨p2, _ | ⟨p3, _ | ⟨p4, _ | ⟨p5, _ | ⟨p6, _ | ⟨p7, _ | ⟨p8, ps⟩⟩⟩⟩⟩⟩⟩⟩⟩ <;> first
    | (exfalso; simp at h; omega)
    | kernel_rfl
/-- the tail of the frame in the outer loop -/
noncomputable def tO : Option (Nat × Option (Nat × PyData × PyData)) → En
  | none => []
  | some (j, t) => tT j t
theorem td_outer (ps : List (Nat × Nat)) (hps : ∀ p ∈ ps, p.1 < 8 ∧ p.2 < 16) (hlen : ps.length < 9) (hok : ∀ i j : Nat, i < j → ∀ p q, ps[i]? = some p → ps[j]? = some q → okP p q = true) : ∀ (m j0 : Nat) (t : Option (Nat × Option (Nat × PyData × PyData))), j0 + m = ps.length →
    ∃ t', pfor (fun nm ρ b => pexecs (pexec Φ5 7) nm ρ b) tdNm (forT tdJ) (forB tdJ) ((List.range' j0 m).map iD) (uS L (.list (ps.map bkP)) tk o (tO t)) = some (.next (uS L (.list (ps.map bkP)) tk o (tO t')))
  | 0, j0, t, _ => ⟨t, rfl⟩
  | m + 1, j0, t, hm => by
    have b : bindTo tdNm (uS L (.list (ps.map bkP)) tk o (tO t)) (forT tdJ) (iD j0) = some (uS L (.list (ps.map bkP)) tk o (tT j0 (t.bind (·.2)))) := by
      rcases o with _ | ⟨x, y, z⟩ <;> rcases t with _ | ⟨u, _ | ⟨v, w, r⟩⟩ <;> kernel_rfl
    obtain ⟨t1, hin⟩ := td_inner L tk o ps hps (by omega) j0 (by omega) j0 0 (t.bind (·.2)) (by omega) (fun i hi p q hp hq => hok i j0 hi p q hp hq)
    have f : forB tdJ = .For (forT tdI) (forI tdI) tdB [] (forP tdI) :: [] := by kernel_rfl
    have st : pexecs (pexec Φ5 7) tdNm (uS L (.list (ps.map bkP)) tk o (tT j0 (t.bind (·.2)))) (forB tdJ) = some (.next (uS L (.list (ps.map bkP)) tk o (tT j0 t1))) := by
      rw [f, pexecs_next ((pexec_for (td_itI L tk o (ps.map bkP) j0 (t.bind (·.2)) (by omega))).trans hin)]
      rfl
    obtain ⟨t', ih⟩ := td_outer ps hps hlen hok m (j0 + 1) (some (j0, t1)) (by omega)
    refine ⟨t', ?_⟩
    rw [List.range'_succ, List.map_cons, pfor_next b st]
    exact ih
end
end Mine
end
section
open PySem PySem.Spec PySem.Calls PyProof.Rows PySem.W
set_option maxRecDepth 100000
set_option maxHeartbeats 8000000
namespace Mine
theorem pexec_ret {Φ : Orc} {n : Nat} {nm : NK} {ρ : En} {e : Expr} {p : Pos} {d : PyData} (h : pev Φ 12 nm (frozen ρ) e = some d) : pexec Φ (n + 1) nm ρ (.Return (some e) p) = some (.ret d) := by
  show onO (pev Φ 12 nm (frozen ρ) e) (fun d => some (Fl.ret d)) = _
  rw [h]; rfl
noncomputable def retE : Stmt → Expr | .Return (some e) _ => e | _ => .Name "" ⟨0, 0, 0, 0⟩
noncomputable def retP : Stmt → Pos | .Return _ p => p | _ => ⟨0, 0, 0, 0⟩
noncomputable def tdR : Expr := retE (nth (bodyOf "_law_told") 5)
noncomputable def tdR2 : Expr := cmL (tst tdR)
theorem mem_tk {l f : Nat} {y : PyData} (h : y ∈ tkD l f) : ∃ i j, i < 3 ∧ j < 4 ∧ y = nmD i j := by
  unfold tkD at h
  simp only [List.mem_append] at h
  rcases h with h | h | h
  · cases hb : Nat.testBit l 2 <;> rw [hb] at h
    · cases h
    · obtain ⟨j, hj, e⟩ := mem_blk h; exact ⟨0, j, by decide, hj, e⟩
  · cases hb : Nat.testBit l 1 <;> rw [hb] at h
    · cases h
    · obtain ⟨j, hj, e⟩ := mem_blk h; exact ⟨1, j, by decide, hj, e⟩
  · cases hb : Nat.testBit l 0 <;> rw [hb] at h
    · cases h
    · obtain ⟨j, hj, e⟩ := mem_blk h; exact ⟨2, j, by decide, hj, e⟩
theorem any_tk (l f i j : Nat) (hi : i < 3) (hj : j < 4) : (tkD l f).any (fun y => PyData.eqv y (nmD i j)) = (Nat.testBit l (2 - i) && Nat.testBit f (3 - j)) := by
  unfold tkD
  simp only [List.any_append]
  have part : ∀ (w k : Nat), k < 3 → (match Nat.testBit l w with | true => blk k f | false => ([] : List PyData)).any (fun y => PyData.eqv y (nmD i j)) = (Nat.testBit l w && (Nat.beq k i && Nat.testBit f (3 - j))) := by
    intro w k hk
    cases Nat.testBit l w
    · rfl
    · exact (any_blk k i j f hk hi hj).trans (by simp)
  have or2 : ∀ {x y u v : Bool}, x = y → u = v → (x || u) = (y || v) := fun h k => by rw [h, k]
  refine (or2 (part 2 0 (by decide)) (or2 (part 1 1 (by decide)) (part 0 2 (by decide)))).trans ?_
  rcases lt3 hi with rfl | rfl | rfl <;> simp [Nat.beq]
theorem cmp_inTk (l f i j : Nat) (hi : i < 3) (hj : j < 4) : cmpF .In (nmD i j) (.list (tkD l f)) = some (Nat.testBit l (2 - i) && Nat.testBit f (3 - j)) := by
  have hs : shapedB (nmD i j) = true := by rcases lt3 hi with rfl | rfl | rfl <;> rcases lt4 hj with rfl | rfl | rfl | rfl <;> kernel_rfl
  have ht : shapedB (.list (tkD l f)) = true := shapedB_list (n := 0) (by decide) fun x hx => by
    obtain ⟨i, j, hi, hj, rfl⟩ := mem_tk hx; exact nm_fine hi hj
  show (match shapedB (.list (tkD l f)) && shapedB (nmD i j) with
      | true => some ((tkD l f).any fun y => PyData.eqv y (nmD i j))
      | false => none) = _
  rw [ht, hs, any_tk l f i j hi hj]
  rfl
/-- the name i, j lies in the block p -/
noncomputable def inP (i j : Nat) (p : Nat × Nat) : Bool := Nat.testBit p.1 (2 - i) && Nat.testBit p.2 (3 - j)
/-- the letters and figures of a name -/
noncomputable def plI : PyData → Nat | .str x => (match x.cps.toList with | [y, _] => y - 97 | _ => 0) | _ => 0
noncomputable def plJ : PyData → Nat | .str x => (match x.cps.toList with | [_, z] => z - 48 | _ => 0) | _ => 0
section
variable (ps : List (Nat × Nat))
theorem td_r1 (m i j : Nat) (p : Nat × Nat) (hi : i < 3) (hj : j < 4) : ptest (pev Φ5 (m + 5)) (scNames tdR2) [fx "name" (nmD i j), fx "one" (tkP p)] 6 (tst tdR2) = some (inP i j p) := by
  have f : tst tdR2 = .Compare (cmL (tst tdR2)) [.In] [cmR (tst tdR2)] (exP (tst tdR2)) := by kernel_rfl
  exact (congrArg (ptest (pev Φ5 (m + 5)) (scNames tdR2) [fx "name" (nmD i j), fx "one" (tkP p)] 6) f).trans (ptest_cmp (a := nmD i j) (b := tkP p) (by kernel_rfl) (by kernel_rfl) (by kernel_rfl) (cmp_inTk p.1 p.2 i j hi hj))
theorem flat_map {α : Type} (l : List α) (p : α → Bool) (g : α → PyData) : ∀ (f : PyData → Bool), (∀ x ∈ l, f (g x) = p x) → ((l.map g).filter f).flatMap (fun d => [d]) = (l.filter p).map g := by
  intro f h
  induction l with
  | nil => rfl
  | cons x l ih =>
    have h1 := h x List.mem_cons_self
    have ih := ih fun y hy => h y (List.mem_cons_of_mem _ hy)
    rw [List.map_cons]
    cases hp : p x with
    | true => rw [List.filter_cons_of_pos (by rw [h1]; exact hp), List.filter_cons_of_pos hp, List.flatMap_cons, ih]; rfl
    | false => rw [List.filter_cons_of_neg (by rw [h1, hp]; decide), List.filter_cons_of_neg (by rw [hp]; decide), ih]
/-- turns over what a list of another kind stands for -/
theorem pturns_of {α : Type} {rec : NK → En → Expr → Option PyData} {nm : NK} {ρ : En} {t : Expr} {ifs : List Expr} {inner : En → Option (List PyData)} {p : α → Bool} {g h : α → PyData} : ∀ {l : List α},
    (∀ x ∈ l, ∃ ρ', bindTo nm ρ t (g x) = some ρ' ∧ ptests rec nm ρ' ifs = some (p x) ∧ (p x = true → inner ρ' = some [h x])) → pturns rec nm ρ t ifs inner (l.map g) = some ((l.filter p).map h)
  | [], _ => rfl
  | x :: r, hh => by
    obtain ⟨ρ', h1, h2, h3⟩ := hh x List.mem_cons_self
    have ih := pturns_of (l := r) fun y hy => hh y (List.mem_cons_of_mem _ hy)
    rw [List.map_cons]
    unfold pturns
    rw [h1]
    dsimp only
    rw [h2]
    cases hp : p x with
    | true =>
      dsimp only
      rw [h3 hp]
      dsimp only
      rw [ih, List.filter_cons_of_pos hp]
      rfl
    | false =>
      dsimp only
      rw [ih, List.filter_cons_of_neg (by rw [hp]; decide)]
theorem td_r2 (m i j : Nat) (hi : i < 3) (hj : j < 4) (hlen : ps.length ≤ 1000) : pev Φ5 (m + 6) (scNames tdR) [fx "taken" (.list (ps.map tkP)), fx "name" (nmD i j)] tdR2 = some (.list ((ps.filter (inP i j)).map tkP)) := by
  have f : tdR2 = .ListComp (lcElt tdR2) [⟨lcT tdR2, lcI tdR2, [tst tdR2], .ofNat 0⟩] (lcScope tdR2 dSc) (exP tdR2) := by kernel_rfl
  have hn : (lcScope tdR2 dSc).names = scNames tdR2 := by kernel_rfl
  refine (congrArg (pev Φ5 (m + 6) (scNames tdR) [fx "taken" (.list (ps.map tkP)), fx "name" (nmD i j)]) f).trans (pev_comp1 (items := ps.map tkP) (ρ' := [fx "name" (nmD i j)]) (by kernel_rfl) (by kernel_rfl) (by kernel_rfl) (by kernel_rfl) ?_ ?_)
  · rw [hn]
    exact pturns_of fun p hp => ⟨[fx "name" (nmD i j), fx "one" (tkP p)], by kernel_rfl, ptests_one (td_r1 m i j p hi hj), fun _ => by kernel_rfl⟩
  · rw [List.length_map]
    exact Nat.le_trans (List.length_filter_le _ _) hlen
theorem tk_fine (p : Nat × Nat) : (tkP p).canLay0 = true ∧ (tkP p).depth ≤ 1 := by
  obtain ⟨h1, h2⟩ := shaped_list (n := 0) (xs := tkD p.1 p.2) fun x hx => by
    obtain ⟨i, j, hi, hj, rfl⟩ := mem_tk hx; exact nm_fine hi hj
  refine ⟨by unfold tkP; simp only [PyData.canLay0]; exact h1, ?_⟩
  unfold tkP
  simp only [PyData.depth]
  omega
theorem td_rt (m i j : Nat) (hi : i < 3) (hj : j < 4) (hlen : ps.length ≤ 1000) : ptest (pev Φ5 (m + 6)) (scNames tdR) [fx "taken" (.list (ps.map tkP)), fx "name" (nmD i j)] 6 (tst tdR) = some (ps.any (inP i j)) := by
  have f : tst tdR = .Compare tdR2 [.NotEq] [cmR (tst tdR)] (exP (tst tdR)) := by kernel_rfl
  have hs : shapedB (.list ((ps.filter (inP i j)).map tkP)) = true := shapedB_list (n := 1) (by decide) fun x hx => by
    obtain ⟨p, _, rfl⟩ := List.mem_map.mp hx; exact tk_fine p
  have h2 : shapedB (.list []) = true := by kernel_rfl
  have hc : cmpF .NotEq (.list ((ps.filter (inP i j)).map tkP)) (.list []) = some (ps.any (inP i j)) := by
    show (match shapedB (.list ((ps.filter (inP i j)).map tkP)) && shapedB (.list []) with
      | true => some (!PyData.eqv (.list ((ps.filter (inP i j)).map tkP)) (.list []))
      | false => none) = _
    rw [hs, h2]
    show some (!PyData.eqv (.list ((ps.filter (inP i j)).map tkP)) (.list [])) = _
    have e : ∀ ys : List PyData, PyData.eqv (.list ys) (.list []) = ys.isEmpty := fun ys => by
      cases ys with
      | nil => kernel_rfl
      | cons y ys => simp [PyData.eqv, PyData.eqvAll]
    rw [e]
    congr 1
    induction ps with
    | nil => rfl
    | cons p ps ih =>
      cases hp : inP i j p with
      | true => rw [List.filter_cons_of_pos hp, List.any_cons, hp]; rfl
      | false =>
        rw [List.filter_cons_of_neg (by rw [hp]; decide), List.any_cons, hp, Bool.false_or]
        refine ih (by rw [List.length_cons] at hlen; omega) ?_
        rw [List.filter_cons_of_neg (by rw [hp]; decide)] at hs
        exact hs
  exact (congrArg (ptest (pev Φ5 (m + 6)) (scNames tdR) [fx "taken" (.list (ps.map tkP)), fx "name" (nmD i j)] 6) f).trans (ptest_cmp (b := .list []) (by kernel_rfl) (td_r2 ps m i j hi hj hlen) (by kernel_rfl) hc)
noncomputable def plc2 (d : PyData) : Bool := ps.any (inP (plI d) (plJ d))
/-- what told gives back -/
noncomputable def tdOut : List PyData := (lst 15 15 15).filter (plc2 ps)
theorem td_ret (L Bk : PyData) (o : O3) (t : Option (Nat × Option (Nat × PyData × PyData))) (hlen : ps.length ≤ 1000) : pev Φ5 12 tdNm (frozen (uS L Bk (ps.map tkP) o (tO t))) tdR = some (.list (tdOut ps)) := by
  have f : tdR = .ListComp (lcElt tdR) [⟨lcT tdR, lcI tdR, [tst tdR], .ofNat 0⟩] (lcScope tdR dSc) (exP tdR) := by kernel_rfl
  have hn : (lcScope tdR dSc).names = scNames tdR := by kernel_rfl
  refine (congrArg (pev Φ5 12 tdNm (frozen (uS L Bk (ps.map tkP) o (tO t)))) f).trans (pev_comp1 (items := lst 15 15 15) (ρ' := [fx "taken" (.list (ps.map tkP))]) ?_ (by kernel_rfl) ?_ (by kernel_rfl) ?_ ?_)
  · rcases o with _ | ⟨x, y, z⟩ <;> rcases t with _ | ⟨u, _ | ⟨v, w, r⟩⟩ <;> kernel_rfl
  · rcases o with _ | ⟨x, y, z⟩ <;> rcases t with _ | ⟨u, _ | ⟨v, w, r⟩⟩ <;> kernel_rfl
  · rw [hn]
    have := pturns_filter (rec := pev Φ5 11) (nm := scNames tdR) (ρ := [fx "taken" (.list (ps.map tkP))]) (t := lcT tdR) (ifs := [tst tdR]) (inner := pelt (pev Φ5 11) (scNames tdR) (lcElt tdR)) (p := plc2 ps) (g := fun d => [d]) (items := lst 15 15 15) (fun d hd => ?_)
    · rw [this]; unfold tdOut; simp
    · obtain ⟨i, j, hi, hj, rfl⟩ := mem_lst hd
      have e1 : plI (nmD i j) = i := by show 97 + i - 97 = i; omega
      have e2 : plJ (nmD i j) = j := by show 48 + j - 48 = j; omega
      refine ⟨[fx "taken" (.list (ps.map tkP)), fx "name" (nmD i j)], by kernel_rfl, ?_, fun _ => by kernel_rfl⟩
      unfold plc2
      rw [e1, e2]
      exact ptests_one (td_rt ps 5 i j hi hj hlen)
  · unfold tdOut
    exact Nat.le_trans (List.length_filter_le _ _) (by decide)
end
end Mine
end
section
open PySem PySem.Spec PySem.Calls PyProof.Rows PySem.W
set_option maxRecDepth 100000
set_option maxHeartbeats 8000000
namespace Mine
/-- what the plain law asks of the rows a, b, c -/
structure GoodM (a b c : Nat) (ps : List (Nat × Nat)) : Prop where
  len : ps.length < 9
  mem : ∀ p ∈ ps, p.1 < 8 ∧ p.2 < 16
  ends_ : ends a b c 8 (Int.ofNat (hv a b c 15)) = true
  bk : bkF a b c 8 (Int.ofNat (hv a b c 15)) = ps.map bkP
  due : dueF a b c = ps.map bkP
  ok : ∀ i j : Nat, i < j → ∀ p q, ps[i]? = some p → ps[j]? = some q → okP p q = true
  out : tdOut ps = lst a b c
noncomputable def td0 : Stmt := nth (bodyOf "_law_told") 0
noncomputable def td1 : Stmt := nth (bodyOf "_law_told") 1
noncomputable def asgE (s : Stmt) : Expr := match s with | .Assign _ v _ => v | _ => .Name "" ⟨0, 0, 0, 0⟩
theorem bkP_fine (p : Nat × Nat) (h1 : p.1 < 8) (h2 : p.2 < 16) : (bkP p).canLay0 = true ∧ (bkP p).depth ≤ 1 := by
  obtain ⟨l, f⟩ := p
  refine ⟨?_, ?_⟩
  · have hl : PyData.canLay0 (.str (letsS l)) = true := ev8 (F := fun l => PyData.canLay0 (.str (letsS l))) (G := fun _ => true) (by kernel_rfl) l h1
    have hf : PyData.canLay0 (.str (figsS f)) = true := ev16 (F := fun f => PyData.canLay0 (.str (figsS f))) (G := fun _ => true) (by kernel_rfl) f h2
    unfold bkP
    simp only [PyData.canLay0] at hl hf ⊢
    simp [PyData.canLayAll0, PyData.canLay0, hl, hf]
  · unfold bkP
    simp [PyData.depth, PyData.depthAll]
section
variable (a b c : Nat) (ha : a < 16) (hb : b < 16) (hc : c < 16) (ps : List (Nat × Nat)) (g : GoodM a b c ps)
noncomputable def sT0 : En := [("listing", .val (LD a b c)), ("names", .val allD)]
noncomputable def sT1 (ps : List (Nat × Nat)) : En := [("listing", .val (LD a b c)), ("names", .val allD), ("blocks", .val (.list (ps.map bkP)))]
include ha hb hc g
theorem td_st0 : pexec Φ5 8 tdNm (sT0 a b c) td0 = some (.next (sT1 a b c ps)) := by
  have f : td0 = .Assign [.Name "blocks" (asgX td0)] (.Call (.Name "_law_blocks" (fnP (asgE td0))) [callA (asgE td0) 0] [] (callQ (asgE td0))) (asgP td0) := by kernel_rfl
  have f1 : callA (asgE td0) 0 = .Call (.Name "_law_rows" (fnP (callA (asgE td0) 0))) [callA (callA (asgE td0) 0) 0] [] (callQ (callA (asgE td0) 0)) := by kernel_rfl
  have hr : Φ5 "_law_rows" [LD a b c] = some (rowsD a b c) := by
    have e : Φ5 "_law_rows" [LD a b c] = callF Φ1 pw "_law_rows" [LD a b c] := by kernel_rfl
    rw [e]; exact rows_eval a b c ha hb hc
  have hk : Φ5 "_law_blocks" [rowsD a b c] = some (.list (ps.map bkP)) := by
    have e : Φ5 "_law_blocks" [rowsD a b c] = guard' (ends a b c 8 (Int.ofNat (hv a b c 15))) (some (.list (bkF a b c 8 (Int.ofNat (hv a b c 15))))) := by kernel_rfl
    rw [e, g.ends_, g.bk]; rfl
  have p1 : pev Φ5 11 tdNm (sT0 a b c) (callA (asgE td0) 0) = some (rowsD a b c) :=
    (congrArg (pev Φ5 11 tdNm (sT0 a b c)) f1).trans ((pev_call (by kernel_rfl) (by kernel_rfl) (by kernel_rfl) (pevs_one (d := LD a b c) (by kernel_rfl) (by kernel_rfl)) rfl).trans hr)
  refine (congrArg (pexec Φ5 8 tdNm (sT0 a b c)) f).trans (pexec_asgCall ((pev_call (by kernel_rfl) (by kernel_rfl) (by kernel_rfl) (pevs_one p1 (by kernel_rfl)) rfl).trans hk) (by kernel_rfl))
theorem td_st1 : pexec Φ5 8 tdNm (sT1 a b c ps) td1 = some (.next (sT1 a b c ps)) := by
  have f : td1 = .If (ifT td1) (ifB td1) (ifO td1) (match td1 with | .If _ _ _ p => p | _ => ⟨0, 0, 0, 0⟩) := by kernel_rfl
  have ft : ifT td1 = .Compare (cmL (ifT td1)) [.NotEq] [cmR (ifT td1)] (exP (ifT td1)) := by kernel_rfl
  have fr : cmR (ifT td1) = .Call (.Name "_law_due" (fnP (cmR (ifT td1)))) [callA (cmR (ifT td1)) 0] [] (callQ (cmR (ifT td1))) := by kernel_rfl
  have hd : Φ5 "_law_due" [LD a b c] = some (.list (ps.map bkP)) := by
    have e : Φ5 "_law_due" [LD a b c] = callF Φ3 pw "_law_due" [LD a b c] := by kernel_rfl
    rw [e, due_eval a b c ha hb hc, g.due]
  have p2 : pev Φ5 12 tdNm (sT1 a b c ps) (cmR (ifT td1)) = some (.list (ps.map bkP)) :=
    (congrArg (pev Φ5 12 tdNm (sT1 a b c ps)) fr).trans ((pev_call (by kernel_rfl) (by kernel_rfl) (by kernel_rfl) (pevs_one (d := LD a b c) (by kernel_rfl) (by kernel_rfl)) rfl).trans hd)
  have fine : ∀ x ∈ ps.map bkP, x.canLay0 = true ∧ x.depth ≤ 1 := fun x hx => by
    obtain ⟨p, hp, rfl⟩ := List.mem_map.mp hx
    exact bkP_fine p (g.mem p hp).1 (g.mem p hp).2
  have hs : shapedB (.list (ps.map bkP)) = true := shapedB_list (n := 1) (by decide) fine
  have hc2 : cmpF .NotEq (.list (ps.map bkP)) (.list (ps.map bkP)) = some false := by
    show (match shapedB (.list (ps.map bkP)) && shapedB (.list (ps.map bkP)) with
      | true => some (!PyData.eqv (.list (ps.map bkP)) (.list (ps.map bkP)))
      | false => none) = _
    rw [hs]
    show some (!PyData.eqv (.list (ps.map bkP)) (.list (ps.map bkP))) = _
    rw [SeqAt.eqv_refl _ (SeqAt.canLay_of_shaped hs)]
    rfl
  have pt : ptest (pev Φ5 12) tdNm (sT1 a b c ps) 6 (ifT td1) = some false := (congrArg (ptest (pev Φ5 12) tdNm (sT1 a b c ps) 6) ft).trans (ptest_cmp (by kernel_rfl) (by kernel_rfl) p2 hc2)
  refine (congrArg (pexec Φ5 8 tdNm (sT1 a b c ps)) f).trans ?_
  rw [pexec_if pt, if_neg (by decide)]
  kernel_rfl
theorem told_eval : callF Φ5 pw "_law_told" [LD a b c, allD] = some (LD a b c) := by
  have e1 : callF Φ5 pw "_law_told" [LD a b c, allD] = (match pexecs (pexec Φ5 8) tdNm (sT0 a b c) (td0 :: td1 :: nth (bodyOf "_law_told") 2 :: .For (forT tdF1) (forI tdF1) (forB tdF1) [] (forP tdF1) :: .For (forT tdJ) (forI tdJ) (forB tdJ) [] (forP tdJ) :: .Return (some tdR) (retP (nth (bodyOf "_law_told") 5)) :: []) with
      | some (.ret d) => some d
      | some (.next _) => some .none
      | _ => none) := by kernel_rfl
  have s2 : pexec Φ5 8 tdNm (sT1 a b c ps) (nth (bodyOf "_law_told") 2) = some (.next (tS (LD a b c) (.list (ps.map bkP)) [] none)) := by kernel_rfl
  have i1 : piter (pev Φ5 12) tdNm (tS (LD a b c) (.list (ps.map bkP)) [] none) (forI tdF1) = some (ps.map bkP) := by kernel_rfl
  have hl := g.len
  obtain ⟨o1, l1⟩ := td_loop1 (LD a b c) (.list (ps.map bkP)) ps [] none g.mem (by simp; omega)
  have tu : ∀ tk, tS (LD a b c) (.list (ps.map bkP)) tk o1 = uS (LD a b c) (.list (ps.map bkP)) tk o1 [] := fun tk => by rcases o1 with _ | ⟨x, y, z⟩ <;> rfl
  obtain ⟨t2, l2⟩ := td_outer (LD a b c) (ps.map tkP) o1 ps g.mem g.len g.ok ps.length 0 none (by omega)
  have s5 : pexec Φ5 8 tdNm (uS (LD a b c) (.list (ps.map bkP)) (ps.map tkP) o1 (tO t2)) (.Return (some tdR) (retP (nth (bodyOf "_law_told") 5))) = some (.ret (LD a b c)) := by
    refine pexec_ret ((td_ret ps (LD a b c) (.list (ps.map bkP)) o1 t2 (by omega)).trans ?_)
    rw [g.out]; rfl
  rw [e1, pexecs_next (td_st0 a b c ha hb hc ps g), pexecs_next (td_st1 a b c ha hb hc ps g), pexecs_next s2, pexecs_next ((pexec_for i1).trans l1)]
  rw [List.nil_append, tu, pexecs_next ((pexec_for (td_itJ (LD a b c) (ps.map tkP) o1 ps g.len)).trans l2), pexecs_ret s5]
end
end Mine
end
section
open PySem PySem.Spec PySem.Calls PyProof.Rows PySem.W
set_option maxRecDepth 100000
set_option maxHeartbeats 8000000
namespace Mine
noncomputable def hvN (a f : Nat) : Bool := Nat.beq (Nat.land a f) f
theorem hvT_eq (a f : Nat) : hvT a f = hvN a f := by
  unfold hvT hvN iD
  rw [PyData.eqv]
  cases h : Nat.beq (Nat.land a f) f with
  | true => rw [Nat.eq_of_beq_eq_true h]; simp
  | false =>
    have := Nat.ne_of_beq_eq_false h
    simp only [beq_eq_false_iff_ne, ne_eq, Int.ofNat.injEq]
    exact this
noncomputable def hv2 (a b c f : Nat) : Nat :=
  let t1 := match hvN a f with | true => 4 | false => 0
  let t2 := match hvN b f with | true => Nat.lor t1 2 | false => t1
  match hvN c f with | true => Nat.lor t2 1 | false => t2
theorem hv_eq (a b c f : Nat) : hv a b c f = hv2 a b c f := by
  unfold hv hv2
  rw [hvT_eq, hvT_eq, hvT_eq]
  cases hvN a f <;> cases hvN b f <;> cases hvN c f <;> rfl
noncomputable def nxS2 (a b c l p : Nat) : Option Nat := match Nat.testBit l p with
  | true => none
  | false => match Nat.beq (Nat.shiftRight (hv2 a b c (sh a b c (begun l p))) (p + 1)) (kept l p) with
    | true => some (hv2 a b c (sh a b c (begun l p)))
    | false => none
theorem nxS_eq (a b c l p : Nat) : nxStep a b c l p = nxS2 a b c l p := by
  unfold nxStep nxS2 wid
  rw [hv_eq]
  try rfl
/-- the letters of the blocks, from l on -/
noncomputable def chain (a b c : Nat) : Nat → Nat → Option (List Nat)
  | 0, _ => none
  | n + 1, l => match Nat.blt l 8 with
    | false => none
    | true => match nxS2 a b c l 0 with
      | some w => (match chain a b c n w with | some r => some (l :: r) | none => none)
      | none => match nxS2 a b c l 1 with
        | some w => (match chain a b c n w with | some r => some (l :: r) | none => none)
        | none => match nxS2 a b c l 2 with
          | some w => (match chain a b c n w with | some r => some (l :: r) | none => none)
          | none => some [l]
noncomputable def psOf (a b c : Nat) (ls : List Nat) : List (Nat × Nat) := ls.map fun l => (l, sh a b c l)
theorem nx_chain {a b c n l : Nat} {ls : List Nat} (h : chain a b c (n + 1) l = some ls) : l < 8 ∧ ∃ r, ls = l :: r ∧ ((nx a b c l = Int.negSucc 0 ∧ r = []) ∨ ∃ w, nx a b c l = Int.ofNat w ∧ chain a b c n w = some r) := by
  unfold chain at h
  split at h
  · cases h
  · rename_i hl
    refine ⟨blt_lt hl, ?_⟩
    unfold nx
    rw [nxS_eq, nxS_eq, nxS_eq]
    split at h
    · rename_i w hw
      split at h
      · rename_i r hr
        cases h
        exact ⟨r, rfl, .inr ⟨w, by first | rfl | rw [hw], hr⟩⟩
      · cases h
    · rename_i h0
      split at h
      · rename_i w hw
        split at h
        · rename_i r hr
          cases h
          exact ⟨r, rfl, .inr ⟨w, by first | rfl | rw [h0, hw], hr⟩⟩
        · cases h
      · rename_i h1
        split at h
        · rename_i w hw
          split at h
          · rename_i r hr
            cases h
            exact ⟨r, rfl, .inr ⟨w, by first | rfl | rw [h0, h1, hw], hr⟩⟩
          · cases h
        · rename_i h2
          cases h
          exact ⟨[], rfl, .inl ⟨by first | rfl | rw [h0, h1, h2], rfl⟩⟩
theorem chain_bk {a b c : Nat} (ha : a < 16) (hb : b < 16) (hc : c < 16) : ∀ {n l : Nat} {ls : List Nat}, chain a b c n l = some ls → ends a b c n (Int.ofNat l) = true ∧ bkF a b c n (Int.ofNat l) = (psOf a b c ls).map bkP ∧ ls.length ≤ n ∧ ∀ x ∈ ls, x < 8
  | 0, l, ls, h => by cases h
  | n + 1, l, ls, h => by
    obtain ⟨hl, r, rfl, hr⟩ := nx_chain h
    have hs := sh_lt a b c ha hb hc l hl
    have e1 : Nat.blt l 8 = true := by simpa [Nat.blt_eq] using hl
    have e2 : Nat.blt (sh a b c l) 16 = true := by simpa [Nat.blt_eq] using hs
    have ends1 : ends a b c (n + 1) (Int.ofNat l) = ends a b c n (nx a b c l) := by
      show (match Nat.blt l 8 with
        | true => match Nat.blt (sh a b c l) 16 with
          | true => ends a b c n (nx a b c l)
          | false => false
        | false => false) = _
      rw [e1, e2]
    have bk1 : bkF a b c (n + 1) (Int.ofNat l) = bkT a b c l :: bkF a b c n (nx a b c l) := rfl
    rw [ends1, bk1]
    rcases hr with ⟨hn, rfl⟩ | ⟨w, hn, hw⟩
    · rw [hn]
      refine ⟨by cases n <;> rfl, ?_, by simp, fun x hx => by rw [List.mem_singleton.mp hx]; exact hl⟩
      have : bkF a b c n (Int.negSucc 0) = [] := by cases n <;> rfl
      rw [this]; rfl
    · rw [hn]
      obtain ⟨i1, i2, i3, i4⟩ := chain_bk ha hb hc hw
      refine ⟨i1, ?_, by rw [List.length_cons]; omega, fun x hx => ?_⟩
      · rw [i2]; rfl
      · rcases List.mem_cons.mp hx with rfl | hx
        · exact hl
        · exact i4 x hx
end Mine
end
section
open PySem PySem.Spec PySem.Calls PyProof.Rows PySem.W
set_option maxRecDepth 100000
set_option maxHeartbeats 8000000
namespace Mine
noncomputable def due2 (a b c l : Nat) : Bool := Nat.beq (hv2 a b c (sh a b c l)) l
theorem due1_eq (a b c l : Nat) : due1 a b c l = due2 a b c l := by unfold due1 due2; rw [hv_eq]
theorem due_step (a b c n : Nat) (r : List Nat) : ((n :: r).filter (due2 a b c)).map (bkT a b c) = dueT a b c n ++ (r.filter (due2 a b c)).map (bkT a b c) := by
  unfold dueT
  rw [due1_eq]
  cases h : due2 a b c n with
  | true => rw [List.filter_cons_of_pos h]; rfl
  | false => rw [List.filter_cons_of_neg (by rw [h]; decide)]; rfl
theorem dueF_eq (a b c : Nat) : dueF a b c = (l8.filter (due2 a b c)).map (bkT a b c) := by
  unfold l8 dueF
  rw [due_step, due_step, due_step, due_step, due_step, due_step, due_step, due_step]
  simp
noncomputable def okN (p q : Nat × Nat) : Bool := !Nat.beq (Nat.land q.1 p.1) q.1 && (Nat.beq (Nat.land p.1 q.1) p.1 == Nat.beq (Nat.land q.2 p.2) q.2)
theorem emp_l (k l : Nat) (hk : k < 8) (hl : l < 8) : (subD (chosD k) (chosD l)).isEmpty = Nat.beq (Nat.land k l) k := by
  exact ev88 (F := fun k l => (subD (chosD k) (chosD l)).isEmpty) (G := fun k l => Nat.beq (Nat.land k l) k) (by kernel_rfl) k hk l hl
theorem emp_f (k l : Nat) (hk : k < 16) (hl : l < 16) : (subD (figsD k) (figsD l)).isEmpty = Nat.beq (Nat.land k l) k := by
  exact ev1616 (F := fun k l => (subD (figsD k) (figsD l)).isEmpty) (G := fun k l => Nat.beq (Nat.land k l) k) (by kernel_rfl) k hk l hl
theorem ok_eq (p q : Nat × Nat) (h1 : p.1 < 8) (h2 : p.2 < 16) (h3 : q.1 < 8) (h4 : q.2 < 16) : okP p q = okN p q := by
  unfold okP okN
  rw [emp_l _ _ h3 h1, emp_l _ _ h1 h3, emp_f _ _ h4 h2]
noncomputable def pairsOk : List (Nat × Nat) → Bool
  | [] => true
  | p :: r => match r.all (okN p) with
    | true => pairsOk r
    | false => false
theorem pairs_at : ∀ {ps : List (Nat × Nat)}, pairsOk ps = true → ∀ i j : Nat, i < j → ∀ p q, ps[i]? = some p → ps[j]? = some q → okN p q = true
  | [], _, i, j, _, p, q, h, _ => by simp at h
  | x :: r, hk, i, j, hij, p, q, hp, hq => by
    unfold pairsOk at hk
    split at hk
    · rename_i ha
      cases j with
      | zero => omega
      | succ j =>
        rw [List.getElem?_cons_succ] at hq
        cases i with
        | zero =>
          rw [List.getElem?_cons_zero] at hp
          cases hp
          exact List.all_eq_true.mp ha q (List.mem_of_getElem? hq)
        | succ i =>
          rw [List.getElem?_cons_succ] at hp
          exact pairs_at hk i j (by omega) p q hp hq
    · cases hk
noncomputable def eqNs : List Nat → List Nat → Bool
  | [], [] => true
  | x :: xs, y :: ys => match Nat.beq x y with
    | true => eqNs xs ys
    | false => false
  | _, _ => false
theorem eqNs_eq : ∀ {xs ys : List Nat}, eqNs xs ys = true → xs = ys
  | [], [], _ => rfl
  | [], _ :: _, h => by cases h
  | _ :: _, [], h => by cases h
  | x :: xs, y :: ys, h => by
    unfold eqNs at h
    split at h
    · rename_i hb; rw [Nat.eq_of_beq_eq_true hb, eqNs_eq h]
    · cases h
noncomputable def eqB : Bool → Bool → Bool
  | true, true => true
  | false, false => true
  | _, _ => false
theorem eqB_eq {x y : Bool} (h : eqB x y = true) : x = y := by cases x <;> cases y <;> first | rfl | cases h
noncomputable def coverOk (a b c : Nat) (ps : List (Nat × Nat)) : Bool := [0, 1, 2].all fun i => [0, 1, 2, 3].all fun j => eqB (ps.any (inP i j)) (Nat.testBit (rowOf a b c i) (3 - j))
theorem filt_blk (i m : Nat) (p : PyData → Bool) (h : ∀ j, j < 4 → p (nmD i j) = Nat.testBit m (3 - j)) : (blk i 15).filter p = blk i m := by
  have h0 := h 0 (by decide)
  have h1 := h 1 (by decide)
  have h2 := h 2 (by decide)
  have h3 := h 3 (by decide)
  show ([nmD i 0, nmD i 1, nmD i 2, nmD i 3] : List PyData).filter p = _
  simp only [List.filter, h0, h1, h2, h3]
  unfold blk sel
  show _ = (match Nat.testBit m 3 with | true => [nmD i 0] | false => []) ++ _
  cases Nat.testBit m 3 <;> cases Nat.testBit m 2 <;> cases Nat.testBit m 1 <;> cases Nat.testBit m 0 <;> rfl
theorem out_eq (a b c : Nat) (ps : List (Nat × Nat)) (h : coverOk a b c ps = true) : tdOut ps = lst a b c := by
  have at_ : ∀ i j, i < 3 → j < 4 → plc2 ps (nmD i j) = Nat.testBit (rowOf a b c i) (3 - j) := fun i j hi hj => by
    have e1 : plI (nmD i j) = i := by show 97 + i - 97 = i; omega
    have e2 : plJ (nmD i j) = j := by show 48 + j - 48 = j; omega
    unfold plc2
    rw [e1, e2]
    have := List.all_eq_true.mp (List.all_eq_true.mp h i (by simp; omega)) j (by simp; omega)
    exact eqB_eq this
  unfold tdOut lst
  rw [List.filter_append, List.filter_append, filt_blk 0 a _ fun j hj => at_ 0 j (by decide) hj, filt_blk 1 b _ fun j hj => at_ 1 j (by decide) hj, filt_blk 2 c _ fun j hj => at_ 2 j (by decide) hj]
noncomputable def goodB (a b c : Nat) : Bool := match chain a b c 8 (hv2 a b c 15) with
  | none => false
  | some ls => match eqNs ls (l8.filter (due2 a b c)) with
    | false => false
    | true => match pairsOk (psOf a b c ls) with
      | false => false
      | true => coverOk a b c (psOf a b c ls)
theorem good_of (a b c : Nat) (ha : a < 16) (hb : b < 16) (hc : c < 16) (h : goodB a b c = true) : ∃ ps, GoodM a b c ps := by
  unfold goodB at h
  split at h
  · cases h
  · rename_i ls hls
    split at h
    · cases h
    · rename_i he
      split at h
      · cases h
      · rename_i hp
        obtain ⟨h1, h2, h3, h4⟩ := chain_bk ha hb hc hls
        have he := eqNs_eq he
        have mem : ∀ p ∈ psOf a b c ls, p.1 < 8 ∧ p.2 < 16 := fun p hp => by
          obtain ⟨l, hl, rfl⟩ := List.mem_map.mp hp
          exact ⟨h4 l hl, sh_lt a b c ha hb hc l (h4 l hl)⟩
        refine ⟨psOf a b c ls, by unfold psOf; rw [List.length_map]; omega, mem, by rw [hv_eq]; exact h1, by rw [hv_eq]; exact h2, ?_, fun i j hij p q hp' hq' => ?_, out_eq a b c _ h⟩
        · rw [dueF_eq, he, psOf, List.map_map, ← he]; rfl
        · have mp := mem p (List.mem_of_getElem? hp')
          have mq := mem q (List.mem_of_getElem? hq')
          rw [ok_eq p q mp.1 mp.2 mq.1 mq.2]
          exact pairs_at hp i j hij p q hp' hq'
theorem good_0 : (l16.all fun b => l16.all fun c => goodB 0 b c) = true := by kernel_rfl
end Mine
end
section
open PySem PySem.Spec PySem.Calls PyProof.Rows PySem.W
set_option maxRecDepth 100000
set_option maxHeartbeats 8000000
namespace Mine
theorem good_1 : (l16.all fun b => l16.all fun c => goodB 1 b c) = true := by kernel_rfl
theorem good_2 : (l16.all fun b => l16.all fun c => goodB 2 b c) = true := by kernel_rfl
theorem good_3 : (l16.all fun b => l16.all fun c => goodB 3 b c) = true := by kernel_rfl
theorem good_4 : (l16.all fun b => l16.all fun c => goodB 4 b c) = true := by kernel_rfl
theorem good_5 : (l16.all fun b => l16.all fun c => goodB 5 b c) = true := by kernel_rfl
theorem good_6 : (l16.all fun b => l16.all fun c => goodB 6 b c) = true := by kernel_rfl
theorem good_7 : (l16.all fun b => l16.all fun c => goodB 7 b c) = true := by kernel_rfl
theorem good_8 : (l16.all fun b => l16.all fun c => goodB 8 b c) = true := by kernel_rfl
theorem good_9 : (l16.all fun b => l16.all fun c => goodB 9 b c) = true := by kernel_rfl
theorem good_10 : (l16.all fun b => l16.all fun c => goodB 10 b c) = true := by kernel_rfl
theorem good_11 : (l16.all fun b => l16.all fun c => goodB 11 b c) = true := by kernel_rfl
theorem good_12 : (l16.all fun b => l16.all fun c => goodB 12 b c) = true := by kernel_rfl
theorem good_13 : (l16.all fun b => l16.all fun c => goodB 13 b c) = true := by kernel_rfl
theorem good_14 : (l16.all fun b => l16.all fun c => goodB 14 b c) = true := by kernel_rfl
theorem good_15 : (l16.all fun b => l16.all fun c => goodB 15 b c) = true := by kernel_rfl
theorem good_row (a : Nat) (h : a < 16) : (l16.all fun b => l16.all fun c => goodB a b c) = true := by
  rcases lt16 h with rfl | rfl | rfl | rfl | rfl | rfl | rfl | rfl | rfl | rfl | rfl | rfl | rfl | rfl | rfl | rfl
  · exact good_0
  · exact good_1
  · exact good_2
  · exact good_3
  · exact good_4
  · exact good_5
  · exact good_6
  · exact good_7
  · exact good_8
  · exact good_9
  · exact good_10
  · exact good_11
  · exact good_12
  · exact good_13
  · exact good_14
  · exact good_15
theorem mem_l16 {x : Nat} (h : x < 16) : x ∈ l16 := by rcases lt16 h with rfl | rfl | rfl | rfl | rfl | rfl | rfl | rfl | rfl | rfl | rfl | rfl | rfl | rfl | rfl | rfl <;> decide
theorem good_any (a b c : Nat) (ha : a < 16) (hb : b < 16) (hc : c < 16) : ∃ ps, GoodM a b c ps :=
  good_of a b c ha hb hc (List.all_eq_true.mp (List.all_eq_true.mp (good_row a ha) b (mem_l16 hb)) c (mem_l16 hc))
theorem told_any (a b c : Nat) (ha : a < 16) (hb : b < 16) (hc : c < 16) : callF Φ5 pw "_law_told" [LD a b c, allD] = some (LD a b c) := by
  obtain ⟨ps, g⟩ := good_any a b c ha hb hc
  exact told_eval a b c ha hb hc ps g
end Mine
end
section
open PySem PySem.Spec PySem.Calls PyProof.Rows PySem.W
set_option maxRecDepth 100000
set_option maxHeartbeats 8000000
namespace Mine
theorem memD_append (x : PyData) : ∀ (l r : List PyData), memD x (l ++ r) = (memD x l || memD x r)
  | [], r => rfl
  | y :: l, r => by
    have ih := memD_append x l r
    rw [List.cons_append]
    cases y with
    | str y =>
      cases x with
      | str z =>
        show (match nameEq z y with | true => true | false => memD (.str z) (l ++ r)) = ((match nameEq z y with | true => true | false => memD (.str z) l) || memD (.str z) r)
        cases nameEq z y
        · exact ih
        · rfl
      | _ => exact ih
    | _ => exact ih
theorem memD_nm (i j k m : Nat) (hi : i < 3) (hj : j < 4) (hk : k < 3) (hm : m < 4) : memD (nmD k m) [nmD i j] = (Nat.beq i k && Nat.beq j m) := by
  revert i j k m; exact ev3434 (by kernel_rfl)
theorem memD_sel (m w : Nat) (x y : PyData) : memD x (sel m w y) = (Nat.testBit m w && memD x [y]) := by
  unfold sel; cases Nat.testBit m w <;> rfl
theorem memD_blk (i k j m : Nat) (hi : i < 3) (hk : k < 3) (hj : j < 4) : memD (nmD k j) (blk i m) = (Nat.beq i k && Nat.testBit m (3 - j)) := by
  unfold blk
  simp only [memD_append, memD_sel]
  rw [memD_nm i 0 k j hi (by decide) hk hj, memD_nm i 1 k j hi (by decide) hk hj, memD_nm i 2 k j hi (by decide) hk hj, memD_nm i 3 k j hi (by decide) hk hj]
  rcases lt4 hj with rfl | rfl | rfl | rfl <;> cases Nat.beq i k <;> simp [Nat.beq]
theorem memD_lst (a b c k j : Nat) (hk : k < 3) (hj : j < 4) : memD (nmD k j) (lst a b c) = Nat.testBit (rowOf a b c k) (3 - j) := by
  unfold lst
  simp only [memD_append]
  rw [memD_blk 0 k j a (by decide) hk hj, memD_blk 1 k j b (by decide) hk hj, memD_blk 2 k j c (by decide) hk hj]
  rcases lt3 hk with rfl | rfl | rfl <;> simp [Nat.beq, rowOf]
/-- a filtered listing of all names -/
theorem filt_lst (a b c : Nat) (p : PyData → Bool) (h : ∀ i j, i < 3 → j < 4 → p (nmD i j) = Nat.testBit (rowOf a b c i) (3 - j)) : (lst 15 15 15).filter p = lst a b c := by
  unfold lst
  rw [List.filter_append, List.filter_append, filt_blk 0 a _ fun j hj => h 0 j (by decide) hj, filt_blk 1 b _ fun j hj => h 1 j (by decide) hj, filt_blk 2 c _ fun j hj => h 2 j (by decide) hj]
theorem comp_bit (x j : Nat) (hx : x < 16) (hj : j < 4) : Nat.testBit (15 - x) (3 - j) = !Nat.testBit x (3 - j) := by
  revert x j; exact fun x j hx hj => ev416 (F := fun j x => Nat.testBit (15 - x) (3 - j)) (G := fun j x => !Nat.testBit x (3 - j)) (by kernel_rfl) j hj x hx
theorem row_lt {a b c : Nat} (ha : a < 16) (hb : b < 16) (hc : c < 16) {i : Nat} (hi : i < 3) : rowOf a b c i < 16 := by
  rcases lt3 hi with rfl | rfl | rfl <;> assumption
theorem row_comp (a b c i : Nat) : rowOf (15 - a) (15 - b) (15 - c) i = 15 - rowOf a b c i := by
  unfold rowOf; split <;> rfl
/-- the rest of the names -/
theorem rest_sub (a b c : Nat) (ha : a < 16) (hb : b < 16) (hc : c < 16) : subD (lst 15 15 15) (lst a b c) = lst (15 - a) (15 - b) (15 - c) := by
  unfold subD
  refine filt_lst _ _ _ _ fun i j hi hj => ?_
  rw [memD_lst a b c i j hi hj, row_comp, comp_bit _ j (row_lt ha hb hc hi) hj]
theorem none_sub (a b c : Nat) : subD (lst a b c) (lst 15 15 15) = [] := by
  unfold subD
  rw [List.filter_eq_nil_iff]
  intro x hx
  obtain ⟨i, j, hi, hj, rfl⟩ := mem_lst hx
  rw [memD_lst 15 15 15 i j hi hj]
  rcases lt3 hi with rfl | rfl | rfl <;> rcases lt4 hj with rfl | rfl | rfl | rfl <;> decide
theorem up_all : (l16.all fun a => l16.all fun b => l16.all fun c => upD (lst a b c)) = true := by kernel_rfl
theorem up_lst (a b c : Nat) (ha : a < 16) (hb : b < 16) (hc : c < 16) : upD (lst a b c) = true :=
  List.all_eq_true.mp (List.all_eq_true.mp (List.all_eq_true.mp up_all a (mem_l16 ha)) b (mem_l16 hb)) c (mem_l16 hc)
theorem len_blk (i m : Nat) : (blk i m).length ≤ 4 := by
  unfold blk sel
  cases Nat.testBit m 3 <;> cases Nat.testBit m 2 <;> cases Nat.testBit m 1 <;> cases Nat.testBit m 0 <;> simp
theorem len_lst (a b c : Nat) : (lst a b c).length ≤ 12 := by
  unfold lst
  have := len_blk 0 a
  have := len_blk 1 b
  have := len_blk 2 c
  simp only [List.length_append]; omega
theorem diff_lst (a b c : Nat) (ha : a < 16) (hb : b < 16) (hc : c < 16) : spDiff [LD a b c, allD] = some (.tuple [.list [], LD (15 - a) (15 - b) (15 - c)]) := by
  show guard' (upD (lst a b c) && upD (lst 15 15 15) && Nat.ble (lst a b c).length 100 && Nat.ble (lst 15 15 15).length 100) (some (.tuple [.list (subD (lst a b c) (lst 15 15 15)), .list (subD (lst 15 15 15) (lst a b c))])) = _
  rw [up_lst a b c ha hb hc, up_lst 15 15 15 (by decide) (by decide) (by decide), Nat.ble_eq_true_of_le (Nat.le_trans (len_lst a b c) (by decide)), Nat.ble_eq_true_of_le (Nat.le_trans (len_lst 15 15 15) (by decide)), none_sub, rest_sub a b c ha hb hc]
  rfl
end Mine
end
section
open PySem PySem.Spec PySem.Calls PyProof.Rows PySem.W
set_option maxRecDepth 100000
set_option maxHeartbeats 8000000
namespace Mine
noncomputable def Φ6 : Orc := addO Φ5 "_law_told" (callF Φ5 pw "_law_told")
noncomputable def lwNm : NK := namesOf "law"
noncomputable def lwS (k : Nat) : Stmt := nth (bodyOf "law") k
noncomputable def scD (is : List Int) : PyData := .list (is.map PyData.int)
noncomputable def w0 (is : List Int) : En := [("script", .val (scD is))]
noncomputable def w1 (is : List Int) : En := [("script", .val (scD is)), ("names", .val allD)]
theorem lw_0 (is : List Int) : pexec Φ6 8 lwNm (w0 is) (lwS 0) = some (.next (w1 is)) := by kernel_rfl
/-- the numbers that law draws from -/
noncomputable def drawn (is : List Int) : List Int := match is.take 10 with
  | [] => [0, 5, 1]
  | x :: r => x :: r
noncomputable def lwD : Expr := match lwS 1 with | .Assign _ v _ => v | _ => .Name "" ⟨0, 0, 0, 0⟩
noncomputable def lwIt : Expr := lcI lwD
theorem pev_orT {Φ : Orc} {n : Nat} {nm : NK} {ρ : En} {x y : Expr} {p : Pos} {d : PyData} (h : pev Φ n nm ρ x = some d) (t : truthF d = some true) : pev Φ (n + 1) nm ρ (.BoolOp .Or [x, y] p) = some d := by
  have e : pev Φ (n + 1) nm ρ (.BoolOp .Or [x, y] p) = (match pev Φ n nm ρ x with
    | some d => match truthF d with
      | some true => some d
      | some false => pev Φ n nm ρ y
      | none => none
    | none => none) := rfl
  rw [e, h]; dsimp only; rw [t]
theorem pev_orF {Φ : Orc} {n : Nat} {nm : NK} {ρ : En} {x y : Expr} {p : Pos} {d : PyData} (h : pev Φ n nm ρ x = some d) (t : truthF d = some false) : pev Φ (n + 1) nm ρ (.BoolOp .Or [x, y] p) = pev Φ n nm ρ y := by
  have e : pev Φ (n + 1) nm ρ (.BoolOp .Or [x, y] p) = (match pev Φ n nm ρ x with
    | some d => match truthF d with
      | some true => some d
      | some false => pev Φ n nm ρ y
      | none => none
    | none => none) := rfl
  rw [e, h]; dsimp only; rw [t]
theorem lw_slice (is : List Int) (hn : is.length ≤ 2097152) : pev Φ6 11 lwNm (w1 is) (boE lwIt 0) = some (.list ((is.take 10).map PyData.int)) := by
  have e : pev Φ6 11 lwNm (w1 is) (boE lwIt 0) = guard' (Nat.ble 10 1000 && Nat.ble (is.map PyData.int).length 2097152) (some (.list ((is.map PyData.int).take 10))) := by kernel_rfl
  rw [e, List.length_map, Nat.ble_eq_true_of_le hn, List.map_take]
  rfl
theorem lw_it (is : List Int) (hn : is.length ≤ 2097152) : pev Φ6 12 lwNm (w1 is) lwIt = some (.list ((drawn is).map PyData.int)) := by
  have f : lwIt = .BoolOp .Or [boE lwIt 0, boE lwIt 1] (exP lwIt) := by kernel_rfl
  have hs := lw_slice is hn
  have hl : (is.take 10).length ≤ 10 := by rw [List.length_take]; omega
  unfold drawn
  cases ht : is.take 10 with
  | nil =>
    rw [ht] at hs
    refine (congrArg (pev Φ6 12 lwNm (w1 is)) f).trans ((pev_orF hs (by kernel_rfl)).trans ?_)
    kernel_rfl
  | cons x r =>
    rw [ht] at hs hl
    refine (congrArg (pev Φ6 12 lwNm (w1 is)) f).trans (pev_orT hs ?_)
    show (match Nat.ble ((x :: r).map PyData.int).length 100000 with
      | true => some (!((x :: r).map PyData.int).isEmpty)
      | false => none) = some true
    rw [List.length_map, Nat.ble_eq_true_of_le (by omega)]
    rfl
end Mine
end
section
open PySem PySem.Spec PySem.Calls PyProof.Rows PySem.W
set_option maxRecDepth 100000
set_option maxHeartbeats 8000000
namespace Mine
noncomputable def dr (is : List Int) : List Int := (drawn is).map fun x => x.fmod ((11 + 1 : Nat) : Int)
noncomputable def intsD (D : List Int) : PyData := .list (D.map PyData.int)
noncomputable def w2 (is D : List Int) : En := [("script", .val (scD is)), ("names", .val allD), ("drawn", .val (intsD D))]
theorem drawn_len (is : List Int) : (drawn is).length ≤ 10 := by
  unfold drawn
  have hl : (is.take 10).length ≤ 10 := by rw [List.length_take]; omega
  split
  · decide
  · rename_i h; rw [h] at hl; exact hl
theorem lw_1 (is : List Int) (hn : is.length ≤ 2097152) : pexec Φ6 8 lwNm (w1 is) (lwS 1) = some (.next (w2 is (dr is))) := by
  have f : lwS 1 = .Assign [.Name "drawn" (asgX (lwS 1))] (.ListComp (lcElt lwD) [⟨lcT lwD, lwIt, [], .ofNat 0⟩] (lcScope lwD dSc) (exP lwD)) (asgP (lwS 1)) := by kernel_rfl
  have fi : lwIt = .BoolOp .Or [boE lwIt 0, boE lwIt 1] (exP lwIt) := by kernel_rfl
  have hn' : (lcScope lwD dSc).names = scNames lwD := by kernel_rfl
  have it : piter (pev Φ6 12) lwNm (w1 is) lwIt = some ((drawn is).map PyData.int) := by
    have h := lw_it is hn
    rw [fi] at h ⊢
    show onO (pev Φ6 12 lwNm (w1 is) (.BoolOp .Or [boE lwIt 0, boE lwIt 1] (exP lwIt))) itemsF = _
    rw [h]; rfl
  refine (congrArg (pexec Φ6 8 lwNm (w1 is)) f).trans (pexec_asgComp (d := intsD (dr is)) (pev_comp1 (items := (drawn is).map PyData.int) (ρ' := []) it (by kernel_rfl) (by kernel_rfl) (by kernel_rfl) ?_ ?_) (by kernel_rfl))
  · rw [hn']
    have := pturns_of (rec := pev Φ6 12) (nm := scNames lwD) (ρ := []) (t := lcT lwD) (ifs := []) (inner := pelt (pev Φ6 12) (scNames lwD) (lcElt lwD)) (p := fun _ => true) (g := PyData.int) (h := fun x => .int (x.fmod ((11 + 1 : Nat) : Int))) (l := drawn is) fun x _ => ⟨[fx "x" (.int x)], by kernel_rfl, rfl, fun _ => by kernel_rfl⟩
    rw [this]
    unfold dr
    rw [List.filter_eq_self.mpr fun _ _ => rfl, List.map_map]
    rfl
  · unfold dr
    rw [List.length_map, List.length_map]
    exact Nat.le_trans (drawn_len is) (by decide)

/-! the listing -/
noncomputable def bitD (D : List Int) (n : Nat) : Bool := (D.map PyData.int).any fun y => PyData.eqv y (iD n)
noncomputable def nmAt (n : Nat) : PyData := nmD (n / 4) (n % 4)
noncomputable def mk4 (a b c d : Bool) : Nat := (match a with | true => 8 | false => 0) + ((match b with | true => 4 | false => 0) + ((match c with | true => 2 | false => 0) + (match d with | true => 1 | false => 0)))
theorem mk4_lt (a b c d : Bool) : mk4 a b c d < 16 := by cases a <;> cases b <;> cases c <;> cases d <;> decide
noncomputable def mkR (p : Nat → Bool) (i : Nat) : Nat := mk4 (p (4 * i)) (p (4 * i + 1)) (p (4 * i + 2)) (p (4 * i + 3))
theorem blk_mk (i : Nat) (a b c d : Bool) : blk i (mk4 a b c d) = (match a with | true => [nmD i 0] | false => []) ++ ((match b with | true => [nmD i 1] | false => []) ++ ((match c with | true => [nmD i 2] | false => []) ++ (match d with | true => [nmD i 3] | false => []))) := by
  cases a <;> cases b <;> cases c <;> cases d <;> kernel_rfl
theorem filt4 (p : Nat → Bool) (x y z u : Nat) : ([x, y, z, u].filter p).map nmAt = (match p x with | true => [nmAt x] | false => []) ++ ((match p y with | true => [nmAt y] | false => []) ++ ((match p z with | true => [nmAt z] | false => []) ++ (match p u with | true => [nmAt u] | false => []))) := by
  simp only [List.filter_cons, List.filter_nil]
  cases p x <;> cases p y <;> cases p z <;> cases p u <;> rfl
theorem lst_mask (p : Nat → Bool) : ((List.range 12).filter p).map nmAt = lst (mkR p 0) (mkR p 1) (mkR p 2) := by
  have e : List.range 12 = [0, 1, 2, 3] ++ ([4, 5, 6, 7] ++ [8, 9, 10, 11]) := by decide
  rw [e, List.filter_append, List.filter_append, List.map_append, List.map_append, filt4, filt4, filt4]
  unfold lst mkR
  rw [blk_mk, blk_mk, blk_mk]
  rfl
noncomputable def w3 (is D : List Int) (a b c : Nat) : En := [("script", .val (scD is)), ("names", .val allD), ("drawn", .val (intsD D)), ("listing", .val (LD a b c))]
theorem int_fine (i : Int) : (PyData.int i).canLay0 = true ∧ (PyData.int i).depth ≤ 0 := ⟨by simp [PyData.canLay0], by simp [PyData.depth]⟩
theorem cmp_bit (D : List Int) (n : Nat) : cmpF .In (iD n) (intsD D) = some (bitD D n) := by
  have h1 : shapedB (.list (D.map PyData.int)) = true := shapedB_list (n := 0) (by decide) fun x hx => by
    obtain ⟨i, _, rfl⟩ := List.mem_map.mp hx; exact int_fine i
  have h2 : shapedB (iD n) = true := by
    unfold iD shapedB SeqAt.shaped
    obtain ⟨h3, h4⟩ := int_fine (Int.ofNat n)
    rw [h3, decide_eq_true (by omega)]; rfl
  show onT (shapedB (.list (D.map PyData.int)) && shapedB (iD n)) _ = _
  rw [h1, h2]; rfl
noncomputable def lwL : Expr := asgV (lwS 2)
theorem lt12 {n : Nat} (h : n < 12) : n = 0 ∨ n = 1 ∨ n = 2 ∨ n = 3 ∨ n = 4 ∨ n = 5 ∨ n = 6 ∨ n = 7 ∨ n = 8 ∨ n = 9 ∨ n = 10 ∨ n = 11 := by revert n; decide
theorem lw_2 (is D : List Int) : pexec Φ6 8 lwNm (w2 is D) (lwS 2) = some (.next (w3 is D (mkR (bitD D) 0) (mkR (bitD D) 1) (mkR (bitD D) 2))) := by
  have f : lwS 2 = .Assign [.Name "listing" (asgX (lwS 2))] (.ListComp (lcElt lwL) [⟨lcT lwL, lcI lwL, [tst lwL], .ofNat 0⟩] (lcScope lwL dSc) (exP lwL)) (asgP (lwS 2)) := by kernel_rfl
  have hn' : (lcScope lwL dSc).names = scNames lwL := by kernel_rfl
  have ft : tst lwL = .Compare (cmL (tst lwL)) [.In] [cmR (tst lwL)] (exP (tst lwL)) := by kernel_rfl
  refine (congrArg (pexec Φ6 8 lwNm (w2 is D)) f).trans (pexec_asgComp (d := LD (mkR (bitD D) 0) (mkR (bitD D) 1) (mkR (bitD D) 2)) (pev_comp1 (items := (List.range 12).map iD) (ρ' := [fx "drawn" (intsD D), fx "names" allD]) (by kernel_rfl) (by kernel_rfl) (by kernel_rfl) (by kernel_rfl) ?_ ?_) (by kernel_rfl))
  · rw [hn']
    have := pturns_of (rec := pev Φ6 12) (nm := scNames lwL) (ρ := [fx "drawn" (intsD D), fx "names" allD]) (t := lcT lwL) (ifs := [tst lwL]) (inner := pelt (pev Φ6 12) (scNames lwL) (lcElt lwL)) (p := bitD D) (g := iD) (h := nmAt) (l := List.range 12) fun n hn => ⟨[fx "drawn" (intsD D), fx "names" allD, fx "n" (iD n)], by kernel_rfl,
      ptests_one ((congrArg (ptest (pev Φ6 12) (scNames lwL) [fx "drawn" (intsD D), fx "names" allD, fx "n" (iD n)] 6) ft).trans (ptest_cmp (a := iD n) (b := intsD D) (by kernel_rfl) (by kernel_rfl) (by kernel_rfl) (cmp_bit D n))), fun _ => by
        rcases lt12 (List.mem_range.mp hn) with rfl | rfl | rfl | rfl | rfl | rfl | rfl | rfl | rfl | rfl | rfl | rfl <;> kernel_rfl⟩
    rw [this, lst_mask]
  · exact Nat.le_trans (len_lst _ _ _) (by decide)
end Mine
end
section
open PySem PySem.Spec PySem.Calls PyProof.Rows PySem.W
set_option maxRecDepth 100000
set_option maxHeartbeats 8000000
namespace Mine
section
variable (is D : List Int) (a b c : Nat) (ha : a < 16) (hb : b < 16) (hc : c < 16)
noncomputable def w4 : En := [("script", .val (scD is)), ("names", .val allD), ("drawn", .val (intsD D)), ("listing", .val (LD a b c)), ("rest", .val (LD (15 - a) (15 - b) (15 - c)))]
noncomputable def w5 : En := [("script", .val (scD is)), ("names", .val allD), ("drawn", .val (intsD D)), ("listing", .val (LD a b c)), ("rest", .val (LD (15 - a) (15 - b) (15 - c))), ("some", .val (LD a b c))]
noncomputable def w6 : En := [("script", .val (scD is)), ("names", .val allD), ("drawn", .val (intsD D)), ("listing", .val (LD a b c)), ("rest", .val (LD (15 - a) (15 - b) (15 - c))), ("some", .val (LD a b c)), ("others", .val (LD (15 - a) (15 - b) (15 - c)))]
noncomputable def lwR : Expr := asgV (lwS 3)
include ha hb hc
theorem lw_3 : pexec Φ6 8 lwNm (w3 is D a b c) (lwS 3) = some (.next (w4 is D a b c)) := by
  have f : lwS 3 = .Assign [.Name "rest" (asgX (lwS 3))] (.ListComp (lcElt lwR) [⟨lcT lwR, lcI lwR, [tst lwR], .ofNat 0⟩] (lcScope lwR dSc) (exP lwR)) (asgP (lwS 3)) := by kernel_rfl
  have hn' : (lcScope lwR dSc).names = scNames lwR := by kernel_rfl
  have ft : tst lwR = .Compare (cmL (tst lwR)) [.NotIn] [cmR (tst lwR)] (exP (tst lwR)) := by kernel_rfl
  refine (congrArg (pexec Φ6 8 lwNm (w3 is D a b c)) f).trans (pexec_asgComp (d := LD (15 - a) (15 - b) (15 - c)) (pev_comp1 (items := lst 15 15 15) (ρ' := [fx "listing" (LD a b c)]) (by kernel_rfl) (by kernel_rfl) (by kernel_rfl) (by kernel_rfl) ?_ ?_) (by kernel_rfl))
  · rw [hn']
    have := pturns_filter (rec := pev Φ6 12) (nm := scNames lwR) (ρ := [fx "listing" (LD a b c)]) (t := lcT lwR) (ifs := [tst lwR]) (inner := pelt (pev Φ6 12) (scNames lwR) (lcElt lwR)) (p := fun d => !Nat.testBit (rowOf a b c (plI d)) (3 - plJ d)) (g := fun d => [d]) (items := lst 15 15 15) (fun d hd => ?_)
    · rw [this]
      have e : (lst 15 15 15).filter (fun d => !Nat.testBit (rowOf a b c (plI d)) (3 - plJ d)) = lst (15 - a) (15 - b) (15 - c) := filt_lst _ _ _ _ fun i j hi hj => by
        have e1 : plI (nmD i j) = i := by show 97 + i - 97 = i; omega
        have e2 : plJ (nmD i j) = j := by show 48 + j - 48 = j; omega
        rw [e1, e2, row_comp, comp_bit _ _ (row_lt ha hb hc hi) hj]
      rw [e]
      simp
    · obtain ⟨i, j, hi, hj, rfl⟩ := mem_lst hd
      have e1 : plI (nmD i j) = i := by show 97 + i - 97 = i; omega
      have e2 : plJ (nmD i j) = j := by show 48 + j - 48 = j; omega
      refine ⟨[fx "listing" (LD a b c), fx "name" (nmD i j)], by kernel_rfl, ?_, fun _ => by kernel_rfl⟩
      rw [e1, e2]
      exact ptests_one ((congrArg (ptest (pev Φ6 12) (scNames lwR) [fx "listing" (LD a b c), fx "name" (nmD i j)] 6) ft).trans (ptest_cmp (a := nmD i j) (b := LD a b c) (by kernel_rfl) (by kernel_rfl) (by kernel_rfl) (cmp_notIn a b c i j hi hj)))
  · exact Nat.le_trans (len_lst _ _ _) (by decide)
theorem told_6 : Φ6 "_law_told" [LD a b c, allD] = some (LD a b c) := by
  have e : Φ6 "_law_told" [LD a b c, allD] = callF Φ5 pw "_law_told" [LD a b c, allD] := by kernel_rfl
  rw [e]; exact told_any a b c ha hb hc
theorem lw_4 : pexec Φ6 8 lwNm (w4 is D a b c) (lwS 4) = some (.next (w5 is D a b c)) := by
  have f : lwS 4 = .Assign [.Name "some" (asgX (lwS 4))] (.Call (.Name "_law_told" (fnP (asgE (lwS 4)))) [callA (asgE (lwS 4)) 0, callA (asgE (lwS 4)) 1] [] (callQ (asgE (lwS 4)))) (asgP (lwS 4)) := by kernel_rfl
  exact (congrArg (pexec Φ6 8 lwNm (w4 is D a b c)) f).trans (pexec_asgCall ((pev_call (by kernel_rfl) (by kernel_rfl) (by kernel_rfl) (pevs_two (d := LD a b c) (e := allD) (by kernel_rfl) (by kernel_rfl) (by kernel_rfl) (by kernel_rfl)) rfl).trans (told_6 a b c ha hb hc)) (by kernel_rfl))
theorem lw_5 : pexec Φ6 8 lwNm (w5 is D a b c) (lwS 5) = some (.next (w6 is D a b c)) := by
  have f : lwS 5 = .Assign [.Name "others" (asgX (lwS 5))] (.Call (.Name "_law_told" (fnP (asgE (lwS 5)))) [callA (asgE (lwS 5)) 0, callA (asgE (lwS 5)) 1] [] (callQ (asgE (lwS 5)))) (asgP (lwS 5)) := by kernel_rfl
  exact (congrArg (pexec Φ6 8 lwNm (w5 is D a b c)) f).trans (pexec_asgCall ((pev_call (by kernel_rfl) (by kernel_rfl) (by kernel_rfl) (pevs_two (d := LD (15 - a) (15 - b) (15 - c)) (e := allD) (by kernel_rfl) (by kernel_rfl) (by kernel_rfl) (by kernel_rfl)) rfl).trans (told_6 (15 - a) (15 - b) (15 - c) (by omega) (by omega) (by omega))) (by kernel_rfl))
omit ha hb hc
theorem ne_self (xs : List PyData) (h : shapedB (.list xs) = true) : cmpF .NotEq (.list xs) (.list xs) = some false := by
  show (match shapedB (.list xs) && shapedB (.list xs) with
    | true => some (!PyData.eqv (.list xs) (.list xs))
    | false => none) = _
  rw [h]
  show some (!PyData.eqv (.list xs) (.list xs)) = _
  rw [SeqAt.eqv_refl _ (SeqAt.canLay_of_shaped h)]
  rfl
noncomputable def lwI : Stmt := lwS 6
theorem lw_6 : pexec Φ6 8 lwNm (w6 is D a b c) (lwS 6) = some (.next (w6 is D a b c)) := by
  have f : lwS 6 = .If (ifT lwI) (ifB lwI) (ifO lwI) (match lwI with | .If _ _ _ p => p | _ => ⟨0, 0, 0, 0⟩) := by kernel_rfl
  have ft : ifT lwI = .BoolOp .Or [boE (ifT lwI) 0, boE (ifT lwI) 1] (exP (ifT lwI)) := by kernel_rfl
  have f0 : boE (ifT lwI) 0 = .Compare (cmL (boE (ifT lwI) 0)) [.NotEq] [cmR (boE (ifT lwI) 0)] (exP (boE (ifT lwI) 0)) := by kernel_rfl
  have f1 : boE (ifT lwI) 1 = .Compare (cmL (boE (ifT lwI) 1)) [.NotEq] [cmR (boE (ifT lwI) 1)] (exP (boE (ifT lwI) 1)) := by kernel_rfl
  have t0 : ptest (pev Φ6 12) lwNm (w6 is D a b c) 5 (boE (ifT lwI) 0) = some false := (congrArg (ptest (pev Φ6 12) lwNm (w6 is D a b c) 5) f0).trans (ptest_cmp (a := LD a b c) (b := LD a b c) (by kernel_rfl) (by kernel_rfl) (by kernel_rfl) (ne_self _ (shaped_lst a b c)))
  have t1 : ptest (pev Φ6 12) lwNm (w6 is D a b c) 5 (boE (ifT lwI) 1) = some false := (congrArg (ptest (pev Φ6 12) lwNm (w6 is D a b c) 5) f1).trans (ptest_cmp (a := LD (15 - a) (15 - b) (15 - c)) (b := LD (15 - a) (15 - b) (15 - c)) (by kernel_rfl) (by kernel_rfl) (by kernel_rfl) (ne_self _ (shaped_lst _ _ _)))
  have pt : ptest (pev Φ6 12) lwNm (w6 is D a b c) 6 (ifT lwI) = some false := (congrArg (ptest (pev Φ6 12) lwNm (w6 is D a b c) 6) ft).trans (ptest_or t0 t1)
  refine (congrArg (pexec Φ6 8 lwNm (w6 is D a b c)) f).trans ?_
  rw [pexec_if pt, if_neg (by decide)]
  kernel_rfl
include ha hb hc
noncomputable def lwE : Expr := retE (lwS 7)
theorem lw_7 : pexec Φ6 8 lwNm (w6 is D a b c) (lwS 7) = some (.ret (.bool true)) := by
  have f : lwS 7 = .Return (some lwE) (retP (lwS 7)) := by kernel_rfl
  have fe : lwE = .Compare (cmL lwE) [.Eq] [cmR lwE] (exP lwE) := by kernel_rfl
  have fl : cmL lwE = .Call (.Name "sorted_list_difference" (fnP (cmL lwE))) [callA (cmL lwE) 0, callA (cmL lwE) 1] [] (callQ (cmL lwE)) := by kernel_rfl
  have hd : Φ6 "sorted_list_difference" [LD a b c, allD] = some (.tuple [.list [], LD (15 - a) (15 - b) (15 - c)]) := by
    have e : Φ6 "sorted_list_difference" [LD a b c, allD] = spDiff [LD a b c, allD] := by kernel_rfl
    rw [e]; exact diff_lst a b c ha hb hc
  have pl : pev Φ6 11 lwNm (frozen (w6 is D a b c)) (cmL lwE) = some (.tuple [.list [], LD (15 - a) (15 - b) (15 - c)]) :=
    (congrArg (pev Φ6 11 lwNm (frozen (w6 is D a b c))) fl).trans ((pev_call (by kernel_rfl) (by kernel_rfl) (by kernel_rfl) (pevs_two (d := LD a b c) (e := allD) (by kernel_rfl) (by kernel_rfl) (by kernel_rfl) (by kernel_rfl)) rfl).trans hd)
  have hs : shapedB (.tuple [.list [], LD (15 - a) (15 - b) (15 - c)]) = true := by
    obtain ⟨h1, h2⟩ := shaped_list (n := 0) (xs := lst (15 - a) (15 - b) (15 - c)) fun x hx => by
      obtain ⟨i, j, hi, hj, rfl⟩ := mem_lst hx; exact nm_fine hi hj
    unfold shapedB SeqAt.shaped LD
    have e1 : (PyData.tuple [.list [], .list (lst (15 - a) (15 - b) (15 - c))]).canLay0 = true := by simp [PyData.canLay0, PyData.canLayAll0, h1]
    have e2 : (PyData.tuple [.list [], .list (lst (15 - a) (15 - b) (15 - c))]).depth ≤ 64 := by simp [PyData.depth, PyData.depthAll]; omega
    rw [e1, decide_eq_true e2]; rfl
  have hc' : cmpF .Eq (.tuple [.list [], LD (15 - a) (15 - b) (15 - c)]) (.tuple [.list [], LD (15 - a) (15 - b) (15 - c)]) = some true := by
    show (match shapedB (.tuple [.list [], LD (15 - a) (15 - b) (15 - c)]) && shapedB (.tuple [.list [], LD (15 - a) (15 - b) (15 - c)]) with
      | true => some (PyData.eqv (.tuple [.list [], LD (15 - a) (15 - b) (15 - c)]) (.tuple [.list [], LD (15 - a) (15 - b) (15 - c)]))
      | false => none) = _
    rw [hs]
    show some (PyData.eqv _ _) = _
    rw [SeqAt.eqv_refl _ (SeqAt.canLay_of_shaped hs)]
  have pe : pev Φ6 12 lwNm (frozen (w6 is D a b c)) lwE = some (.bool true) := (congrArg (pev Φ6 12 lwNm (frozen (w6 is D a b c))) fe).trans (pev_cmp (by kernel_rfl) pl (by kernel_rfl) hc')
  exact (congrArg (pexec Φ6 8 lwNm (w6 is D a b c)) f).trans (pexec_ret pe)
end
theorem mkR_lt (p : Nat → Bool) (i : Nat) : mkR p i < 16 := mk4_lt ..
theorem law_eval (is : List Int) (hn : is.length ≤ 2097152) : callF Φ6 pw "law" [scD is] = some (.bool true) := by
  have e1 : callF Φ6 pw "law" [scD is] = (match pexecs (pexec Φ6 8) lwNm (w0 is) [lwS 0, lwS 1, lwS 2, lwS 3, lwS 4, lwS 5, lwS 6, lwS 7] with
      | some (.ret d) => some d
      | some (.next _) => some .none
      | _ => none) := by kernel_rfl
  rw [e1, pexecs_next (lw_0 is), pexecs_next (lw_1 is hn), pexecs_next (lw_2 is (dr is)), pexecs_next (lw_3 is (dr is) _ _ _ (mkR_lt _ _) (mkR_lt _ _) (mkR_lt _ _)), pexecs_next (lw_4 is (dr is) _ _ _ (mkR_lt _ _) (mkR_lt _ _) (mkR_lt _ _)), pexecs_next (lw_5 is (dr is) _ _ _ (mkR_lt _ _) (mkR_lt _ _) (mkR_lt _ _)), pexecs_next (lw_6 is (dr is) _ _ _), pexecs_ret (lw_7 is (dr is) _ _ _ (mkR_lt _ _) (mkR_lt _ _) (mkR_lt _ _))]
end Mine
end
section
open PySem PySem.Spec PySem.Calls PyProof.Rows PySem.W
set_option maxRecDepth 100000
namespace Mine
variable [Inhabited Base]
variable {K : Frag} {P : Addr} {G : Str → Option Value}
section
variable {prog : Program} {w : World} {k : Nat}
theorem len_small {n : Nat} (h : n ≤ 100000) : (n : Int) < 2 ^ 63 := Int.lt_of_le_of_lt (Int.ofNat_le.mpr h) big63'
where big63' : ((100000 : Nat) : Int) < 2 ^ 63 := by decide
theorem len_ok {ds : List PyData} {d : PyData} (h : spLen ds = some d) : CallOk prog w K P G k (.builtin "len") ds d := by
  intro Λ A O s vs Q E room htk hP hlt wf rs hQ
  unfold spLen at h
  split at h
  · rename_i x
    obtain ⟨hg, h⟩ := guard'_some h
    cases h
    unfold Reps at rs
    obtain ⟨v, r, rfl, r1, r2⟩ := rs
    unfold Reps at r2
    subst r2
    obtain ⟨t, rfl⟩ := r1.str_inv
    have hx := strFit_le hg
    exact PySem.P.len_str (by have := len_small hx; omega) (hQ _ _ (Grow.toks _) Rep.int')
  · rename_i xs
    obtain ⟨hg, h⟩ := guard'_some h
    cases h
    unfold Reps at rs
    obtain ⟨v, r, rfl, r1, r2⟩ := rs
    unfold Reps at r2
    subst r2
    obtain ⟨a, vs, rfl, _, hl, hr⟩ := r1.list_inv
    have hsz : vs.size = xs.length := by have := hr.length; simpa using this
    refine call_len_list hl (by rw [hsz]; exact len_small (Nat.le_of_ble_eq_true hg)) ?_
    rw [hsz]
    exact hQ _ _ (Grow.toks _) Rep.int'
  · cases h
theorem reps_signs {O : List Addr} {h : Heap} : ∀ {cs : List Nat} {vs : List Value}, vs.length = cs.length → (∀ (j : Nat) (v : Value), vs[j]? = some v → ∃ c u, cs[j]? = some c ∧ v = Value.str ⟨#[c]⟩ u) → Reps O h (cs.map chS) vs
  | [], [], _, _ => Reps.nil
  | [], _ :: _, h, _ => by cases h
  | _ :: _, [], h, _ => by cases h
  | c :: cs, v :: vs, hl, hv => by
    obtain ⟨c', u, e1, e2⟩ := hv 0 v rfl
    cases e1
    subst e2
    exact Reps.cons Rep.str' (reps_signs (by simpa using hl) fun j v hj => hv (j + 1) v (by simpa using hj))
theorem list_ok {ds : List PyData} {d : PyData} (h : spList ds = some d) : CallOk prog w K P G k (.type "list") ds d := by
  intro Λ A O s vs Q E room htk hP hlt wf rs hQ
  unfold spList at h
  split at h
  · rename_i x
    obtain ⟨hg, h⟩ := guard'_some h
    cases h
    unfold Reps at rs
    obtain ⟨v, r, rfl, r1, r2⟩ := rs
    unfold Reps at r2
    subst r2
    obtain ⟨t, rfl⟩ := r1.str_inv
    have hx : x.cps.size ≤ 100 := Nat.le_of_ble_eq_true hg
    refine wpAny_with_toks (Nat.le_refl _) (wpAny_with_size (call_list_str room.handled x t (fun h' tk acc' c' hk hS hI => ?_) (by rw [line_big]; omega)))
    intro hsz htk'
    have g : Grow P s { s with heap := h', toks := tk } := Grow.of_keep hk hsz htk'
    refine hQ _ _ g (Rep.list' (fun hm => Nat.lt_irrefl _ (hlt _ hm)) ⟨_, hS, rfl, c', rfl⟩ (reps_signs (by have := hI.1; simpa using this) fun j v hj => ?_))
    obtain ⟨c, u, e1, e2⟩ := hI.2 j v (by simpa using hj)
    exact ⟨c, u, by simpa using e1, e2⟩
  · cases h
end
end Mine
end
section
open PySem PySem.Spec PySem.Calls PyProof.Rows PySem.W
set_option maxRecDepth 100000
namespace Mine
section
variable {prog : Program} {w : World} {A : Around} {E : Value → Shared → Prop} {s : Shared}
theorem get_same {h h' : Heap} {a b : Addr} {o : Obj} (x : Heap.SameBut a h h') (hb : b ≠ a) (e : h.get? b = some o) : h'.get? b = some o := (x.2 b hb).trans e
theorem nextOf_sign {it : Addr} {x : Str} {t : Tok} {i c : Nat} {Q : Value → Shared → Prop} (hit : s.heap.IsStrIter it (strIterType x) x t i) (hx : x.cps[i]? = some c)
    (hQ : ∀ h', h'.IsStrIter it (strIterType x) x t (i + 1) → Heap.SameBut it s.heap h' → Q (.str ⟨#[c]⟩ s.toks) { s with heap := h', toks := s.toks + 1 }) :
    wpAny (model prog w) A (Builtin.SmallTypes.nextOf (.ref it)) Q E s := by
  unfold strIterType at hit hQ
  split at hit
  · rename_i h
    rw [if_pos h] at hQ
    exact wpAny_nextOf_ascii_item hit hx hQ
  · rename_i h
    rw [if_neg h] at hQ
    exact wpAny_nextOf_wide_item hit hx hQ
/-- enumerate's next pair over a text of plain signs: the sign is made anew -/
theorem enum_next {e it : Addr} {x : Str} {t : Tok} {i c : Nat} {old : Value} {Q : Option Value → Shared → Prop} (he : IsEnum s.heap e it (i : Int) old) (hit : s.heap.IsStrIter it (strIterType x) x t i) (hx : x.cps[i]? = some c) (hne : e ≠ it)
    (hQ : ∀ h' T, s.heap.objs.size ≤ T → IsEnumOut h' e it ((i : Int) + 1) (.str ⟨#[c]⟩ s.toks) T → h'.IsStrIter it (strIterType x) x t (i + 1) → h'.get? T = some { cls := .type "tuple", data := .seq #[.int i (s.toks + 1), .str ⟨#[c]⟩ s.toks] } →
      h'.objs.size = s.heap.objs.size + 1 → (∀ b o, b ≠ e → b ≠ it → s.heap.get? b = some o → h'.get? b = some o) → Q (some (.ref T)) { s with heap := h', toks := s.toks + 1 + 1 }) :
    wpAny (model prog w) A (pyNext (.ref e)) Q E s := by
  have hT : s.TypeIs (.ref e) "enumerate" := ⟨_, he, rfl⟩
  unfold pyNext
  refine wpAny_bind (wpAny_attempt (wpAny_callSpecial?_slot (name := Str.ofString "__next__") hT F.slot_enumerate_next (wpAny_call_entry F.slot_enumerate_next hT F.entry_enumerate_next ?_ (F.args_enumerate_next_1 _))))
  show wpAny _ _ (field (.ref e) 2 >>= _) _ _ _
  refine wpAny_bind (wpAny_field he rfl (x := .ref it) rfl ?_)
  refine wpAny_bind (nextOf_sign hit hx fun h₁ hit₁ hs₁ => ?_)
  have he₁ : IsEnum h₁ e it (i : Int) old := get_same hs₁ hne he
  show wpAny _ _ (field (.ref e) 3 >>= _) _ _ _
  refine wpAny_bind (wpAny_field he₁ rfl (x := rawInt i) rfl ?_)
  show wpAny _ _ (field (.ref e) 4 >>= _) _ _ _
  refine wpAny_bind (wpAny_field he₁ rfl (x := .none) rfl ?_)
  show wpAny _ _ (mkInt i >>= _) _ _ _
  refine wpAny_bind (wpAny_mkInt ?_)
  show wpAny _ _ (setField (.ref e) 3 (rawInt ((i : Int) + 1)) >>= _) _ _ _
  refine wpAny_bind (wpAny_setField_rec (s := { s with heap := h₁, toks := s.toks + 1 + 1 }) he₁ (by simp) fun h₂ he₂ hs₂ => ?_)
  have he₂' : IsEnum h₂ e it ((i : Int) + 1) old := he₂
  show wpAny _ _ (setField (.ref e) 4 .none >>= _) _ _ _
  refine wpAny_bind (wpAny_setField_rec (s := { s with heap := h₂, toks := s.toks + 1 + 1 }) he₂' (by simp) fun h₃ he₃ hs₃ => ?_)
  have he₃' : IsEnum h₃ e it ((i : Int) + 1) old := he₃
  show wpAny _ _ (newTuple [.int i (s.toks + 1), .str ⟨#[c]⟩ s.toks] >>= _) _ _ _
  refine wpAny_bind (wpAny_newTuple ?_)
  have hsz : h₃.objs.size = s.heap.objs.size := (hs₃.1.trans hs₂.1).trans hs₁.1
  have he₄ : IsEnum (h₃.push { cls := .type "tuple", data := .seq #[.int i (s.toks + 1), .str ⟨#[c]⟩ s.toks] }) e it ((i : Int) + 1) old := Heap.get?_push_of_some _ he₃'
  have ht₄ := Heap.get?_push_size h₃ (o := { cls := .type "tuple", data := .seq #[.int i (s.toks + 1), .str ⟨#[c]⟩ s.toks] }) rfl
  have hz₄ : (h₃.push { cls := .type "tuple", data := .seq #[.int i (s.toks + 1), .str ⟨#[c]⟩ s.toks] }).objs.size = s.heap.objs.size + 1 := by rw [Heap.size_push, hsz]
  have hk₄ : ∀ b o, b ≠ e → b ≠ it → s.heap.get? b = some o → (h₃.push { cls := .type "tuple", data := .seq #[.int i (s.toks + 1), .str ⟨#[c]⟩ s.toks] }).get? b = some o := fun b o hbe hbi hb =>
    Heap.get?_push_of_some _ (get_same hs₃ hbe (get_same hs₂ hbe (get_same hs₁ hbi hb)))
  have hit₄ : (h₃.push { cls := .type "tuple", data := .seq #[.int i (s.toks + 1), .str ⟨#[c]⟩ s.toks] }).IsStrIter it (strIterType x) x t (i + 1) := by
    obtain ⟨o, ho, r⟩ := hit₁
    exact ⟨o, Heap.get?_push_of_some _ (get_same hs₃ (Ne.symm hne) (get_same hs₂ (Ne.symm hne) ho)), r⟩
  have hTs : s.heap.objs.size ≤ h₃.objs.size := Nat.le_of_eq hsz.symm
  have hTe : h₃.objs.size ≠ e := Nat.ne_of_gt (Heap.lt_size he₃')
  generalize h₃.push { cls := .type "tuple", data := .seq #[.int i (s.toks + 1), .str ⟨#[c]⟩ s.toks] } = h₄ at he₄ ht₄ hz₄ hk₄ hit₄
  generalize h₃.objs.size = T at ht₄ hTs hTe
  show wpAny _ _ (Builtin.SmallTypes.ownedTupleIsFree (.ref e) >>= _) _ _ _
  refine wpAny_bind ?_
  unfold Builtin.SmallTypes.ownedTupleIsFree
  refine wpAny_bind (wpAny_field he₄ rfl (x := .none) rfl (wpAny_pure ?_))
  simp only [if_true]
  refine wpAny_bind (wpAny_rule ?_)
  refine wpAny_bind (wpAny_field he₄ rfl (x := old) rfl ?_)
  refine wpAny_bind (wpAny_setField_rec (s := { s with heap := h₄, toks := s.toks + 1 + 1 }) he₄ (by simp) fun h₅ he₅ hs₅ => ?_)
  have he₅' : IsEnum h₅ e it ((i : Int) + 1) (.str ⟨#[c]⟩ s.toks) := he₅
  show wpAny _ _ (Builtin.SmallTypes.ownedTupleHandOut (.ref e) (.ref T) >>= _) _ _ _
  refine wpAny_bind ?_
  unfold Builtin.SmallTypes.ownedTupleHandOut
  refine wpAny_bind (wpAny_setField_rec (s := { s with heap := h₅, toks := s.toks + 1 + 1 }) he₅' (by simp) fun h₆ he₆ hs₆ => ?_)
  have he₆' : IsEnumOut h₆ e it ((i : Int) + 1) (.str ⟨#[c]⟩ s.toks) T := he₆
  refine wpAny_setField_rec (s := { s with heap := h₆, toks := s.toks + 1 + 1 }) he₆' (by simp) fun h₇ he₇ hs₇ => ?_
  have he₇' : IsEnumOut h₇ e it ((i : Int) + 1) (.str ⟨#[c]⟩ s.toks) T := he₇
  have up : ∀ {b : Addr} {o : Obj}, b ≠ e → h₄.get? b = some o → h₇.get? b = some o := fun hb y => get_same hs₇ hb (get_same hs₆ hb (get_same hs₅ hb y))
  refine wpAny_bind (wpAny_letGo (wpAny_pure ⟨_, rfl, wpAny_pure (hQ h₇ T hTs he₇' ?_ (up hTe ht₄) ?_ fun b o hbe hbi hb => up hbe (hk₄ b o hbe hbi hb))⟩))
  · obtain ⟨o, ho, r⟩ := hit₄
    exact ⟨o, up (Ne.symm hne) ho, r⟩
  · exact ((hs₇.1.trans hs₆.1).trans hs₅.1).trans hz₄
/-- texts that differ, made apart, are no one object -/
theorem isSame_ne {y z : Str} {u v : Tok} {Q : Bool → Shared → Prop} (hu : u ≠ 0) (hv : v ≠ 0) (huv : u ≠ v) (hyz : y ≠ z) (h : Q false s) : wpAny (model prog w) A (isSame (.str y u) (.str z v)) Q E s := by
  show wpAny (model prog w) A (isSame.created (y == z) u v) Q E s
  unfold isSame.created
  rw [show (u == 0 || v == 0) = false by simp [hu, hv], show (u == v) = false by simpa using huv, show (y == z) = false by simpa using hyz]
  simp only [Bool.false_eq_true, if_false, Bool.not_false, if_true]
  exact wpAny_pure h
end
end Mine
end
section
open PySem PySem.Spec PySem.Calls PyProof.Rows PySem.W
set_option maxRecDepth 100000
set_option maxHeartbeats 400000
namespace Mine
theorem idxIn_get : ∀ {l : List Nat} {x k : Nat} {d : PyData}, idxIn l x k = some d → ∃ i, d = .int (Int.ofNat (k + i)) ∧ l[i]? = some x ∧ ∀ j, j < i → ∀ c, l[j]? = some c → c ≠ x
  | [], _, _, _, h => by cases h
  | c :: r, x, k, d, h => by
    unfold idxIn at h
    split at h
    · rename_i hc
      cases h
      exact ⟨0, rfl, by simpa using Nat.eq_of_beq_eq_true hc, fun j hj => absurd hj (Nat.not_lt_zero _)⟩
    · rename_i hc
      obtain ⟨i, h1, h2, h3⟩ := idxIn_get h
      refine ⟨i + 1, by rw [h1]; congr 2; omega, by simpa using h2, fun j hj c' hc' => ?_⟩
      cases j with
      | zero => simp at hc'; rw [← hc']; exact Nat.ne_of_beq_eq_false hc
      | succ j => exact h3 j (by omega) c' (by simpa using hc')
/-! indexOf's one statement: where its parts stand -/
noncomputable def ixF : Stmt := nth (bodyOf "indexOf") 0
noncomputable def ixI : Stmt := nth (sBod ixF) 0
noncomputable def ixR : Stmt := nth (sBod ixI) 0
noncomputable def ixA : Expr := e1 (sVal ixI)
noncomputable def ixB : Expr := e2 (sVal ixI)
noncomputable def ixp1 : Pos := (e1 (sTgt ixF)).pos
noncomputable def ixp2 : Pos := (e2 (sTgt ixF)).pos
noncomputable def ixp3 : Pos := (sTgt ixF).pos
noncomputable def ixp4 : Pos := (e1 (sVal ixF)).pos
noncomputable def ixp5 : Pos := (e2 (sVal ixF)).pos
noncomputable def ixp6 : Pos := (sVal ixF).pos
theorem idx_body : bodyOf "indexOf" = [.For (.Tuple [.Name "i" ixp1, .Name "j" ixp2] 0 ixp3) (.Call (.Name "enumerate" ixp4) [.Name "a" ixp5] [] ixp6) [.If (.BoolOp .Or [.Compare (.Name "j" (e1 ixA).pos) [.Is] [.Name "b" (e2 ixA).pos] ixA.pos, .Compare (.Name "j" (e1 ixB).pos) [.Eq] [.Name "b" (e2 ixB).pos] ixB.pos] (sVal ixI).pos) [.Return (some (.Name "i" (sVal ixR).pos)) ixR.pos] [] ixI.pos] (sEls ixF) ixF.pos] := by kernel_rfl
noncomputable def idxNm : NK := namesOf "indexOf"
theorem idx_unmarked : marked idxNm = false := by kernel_rfl
theorem kA : getK idxNm "a" = some .local := by kernel_rfl
theorem kB : getK idxNm "b" = some .local := by kernel_rfl
theorem kI : getK idxNm "i" = some .local := by kernel_rfl
theorem kJ : getK idxNm "j" = some .local := by kernel_rfl
theorem kEn : getK idxNm "enumerate" = some .globalImplicit := by kernel_rfl
theorem pick_two {x y : Str} (m : Str → Option Value) (kd : Str → Option NameKind) (va vb : Value) (hxy : x ≠ y) (ha : kd x = some .local) (hb : kd y = some .local) : bindL kd ([x, y].zip [va, vb]) m x = some va ∧ bindL kd ([x, y].zip [va, vb]) m y = some vb := by
  constructor
  · show (if kd y = some .local then fun z => if z = y then some vb else (if kd x = some .local then fun z => if z = x then some va else m z else m) z else (if kd x = some .local then fun z => if z = x then some va else m z else m)) x = some va
    rw [if_pos hb, if_neg hxy, if_pos ha, if_pos rfl]
  · show (if kd y = some .local then fun z => if z = y then some vb else (if kd x = some .local then fun z => if z = x then some va else m z else m) z else (if kd x = some .local then fun z => if z = x then some va else m z else m)) y = some vb
    rw [if_pos hb, if_pos rfl]
variable [Inhabited Base]
variable {K : Frag} {P : Addr} {G : Str → Option Value} {Λ : List Addr}
section
variable {prog : Program} {w : World} {n k : Nat} {A : Around} {E : Value → Shared → Prop} {M O : List Addr} {α : Str → Addr} {env : Env} {nm : NK} {ρ : En} {s s' : Shared}
theorem loadM (f : FrmW K P Λ k A env nm n) {m : Str → Option Value} (hn : s.heap.Ns env.locals m) {x : Str} {v : Value} {p : Pos} (hx : env.kindOf x = some .local) (hd : (x == ("__debug__" : Str)) = false) (hv : m x = some v) {Q : Value → Shared → Prop} (hQ : Q v s) : wpAny (model prog w) A (eval (.Name x p) env) Q E s :=
  wpAny_Name (wpAny_loadName_local f.kind hx hn hv hQ) hd
theorem dA : (("a" : Str) == ("__debug__" : Str)) = false := by decide +kernel
theorem dB : (("b" : Str) == ("__debug__" : Str)) = false := by decide +kernel
theorem dI : (("i" : Str) == ("__debug__" : Str)) = false := by decide +kernel
theorem dJ : (("j" : Str) == ("__debug__" : Str)) = false := by decide +kernel
theorem nij : ("i" : Str) ≠ "j" := by decide +kernel
theorem nbi : ("b" : Str) ≠ "i" := by decide +kernel
theorem nbj : ("b" : Str) ≠ "j" := by decide +kernel

/-- the test: j is b or j == b -/
theorem idx_test (f : FrmW K P Λ k A env nm n) {m : Str → Option Value} (hn : s.heap.Ns env.locals m) (hj : env.kindOf "j" = some .local) (hb : env.kindOf "b" = some .local) {y z : Str} {u v : Tok} (mj : m "j" = some (.str y u)) (mb : m "b" = some (.str z v)) (hu : u ≠ 0) (hv : v ≠ 0) (huv : u ≠ v) (nb : NoneBooked s.heap)
    {p7 p8 p9 p10 p11 p12 p13 : Pos} {Q : Bool → Shared → Prop} (hQ : Q (decide (y = z)) s) :
    wpAny (model prog w) A (isTrue (.BoolOp .Or [.Compare (.Name "j" p7) [.Is] [.Name "b" p8] p9, .Compare (.Name "j" p10) [.Eq] [.Name "b" p11] p12] p13) env (eval (.BoolOp .Or [.Compare (.Name "j" p7) [.Is] [.Name "b" p8] p9, .Compare (.Name "j" p10) [.Eq] [.Name "b" p11] p12] p13) env)) Q E s := by
  show wpAny (model prog w) A (do match BoolOp.Or, ← isTrue (.Compare (.Name "j" p7) [.Is] [.Name "b" p8] p9) env (eval (.Compare (.Name "j" p7) [.Is] [.Name "b" p8] p9) env) with | BoolOp.And, false => pure false | BoolOp.Or, true => pure true | _, _ => (do match BoolOp.Or, ← isTrue (.Compare (.Name "j" p10) [.Eq] [.Name "b" p11] p12) env (eval (.Compare (.Name "j" p10) [.Eq] [.Name "b" p11] p12) env) with | BoolOp.And, false => pure false | BoolOp.Or, true => pure true | _, _ => pure false)) Q E s
  have snd : wpAny (model prog w) A (do match BoolOp.Or, ← isTrue (.Compare (.Name "j" p10) [.Eq] [.Name "b" p11] p12) env (eval (.Compare (.Name "j" p10) [.Eq] [.Name "b" p11] p12) env) with | BoolOp.And, false => pure false | BoolOp.Or, true => pure true | _, _ => pure false) Q E s := by
    refine wpAny_bind (wpAny_isTrue_Compare1 (loadM f hn hj dJ mj (loadM f hn hb dB mb (eq_str (wpAny_truthy_bool ?_)))) (noSet_marks rfl))
    by_cases h : y = z
    · subst h
      rw [show (y == y) = true by simp]
      rw [decide_eq_true rfl] at hQ
      exact wpAny_pure hQ
    · rw [show (y == z) = false by simpa using h]
      rw [decide_eq_false h] at hQ
      exact wpAny_pure hQ
  refine wpAny_bind (wpAny_isTrue_Compare1 (loadM f hn hj dJ mj (loadM f hn hb dB mb ?_)) (noSet_marks rfl))
  by_cases h : y = z
  · show wpAny (model prog w) A (do return Value.bool (← isSame (.str y u) (.str z v)) : Sem Value) _ E s
    refine wpAny_bind (wpAny_isSame_str (by simp [hu, hv]) nb fun b => wpAny_pure (wpAny_truthy_bool ?_))
    cases b with
    | true => rw [decide_eq_true h] at hQ; exact wpAny_pure hQ
    | false => exact snd
  · show wpAny (model prog w) A (do return Value.bool (← isSame (.str y u) (.str z v)) : Sem Value) _ E s
    exact wpAny_bind (isSame_ne hu hv huv h (wpAny_pure (wpAny_truthy_bool snd)))

theorem idx_ok {a₀ : Addr} {sc : Scope} {body : List Stmt} {fd : FuncData} (F : FnOk pw K "indexOf" a₀ ["a", "b"] sc body fd) (hG : G "indexOf" = some (.ref a₀)) (hEn : G "enumerate" = some (.type "enumerate")) (hNB : ∀ h, K.In h → NoneBooked h) : IdxOk pw w K P G (k + 1) := by
  obtain ⟨args, hdef, _⟩ := F.def_
  have eb : body = bodyOf "indexOf" := by unfold bodyOf; rw [hdef]
  have en : sc.names = idxNm := by unfold idxNm namesOf; rw [hdef]
  obtain ⟨oF, hoF, hdF⟩ := F.there
  refine ⟨.ref a₀, hG, Callee.fn hoF hdF, ?_⟩
  intro Λ A O₀ s a b t u d Q E room htk hP hlt wf ht hu hut hd hQ
  obtain ⟨x, hbx, hd1⟩ := on1_some hd
  obtain ⟨hg, hd⟩ := guard'_some hd1
  clear hd1
  have hsz : a.cps.size ≤ 10 := Nat.le_of_ble_eq_true hg
  obtain ⟨q, rfl, hq, hlow⟩ := idxIn_get hd
  rw [Nat.zero_add] at hQ
  have hbs : b = ⟨#[x]⟩ := by cases b; simp only at hbx; congr 1; exact Array.ext' hbx
  subst hbs
  have hcm : ∀ env : Env, env.code = fd.code → CodeM K P G sc.names env := fun env _ => CodeM.un (by rw [en]; exact idx_unmarked)
  refine call_frameV (ds := [.str a, .str ⟨#[x]⟩]) (d := .int (Int.ofNat q)) (ρ := [("a", .val (.str a)), ("b", .val (.str ⟨#[x]⟩))]) F hcm rfl room htk hP hlt wf (Reps.cons Rep.str' (Reps.cons Rep.str' Reps.nil)) ?_ hQ
  intro A env outer n M O s₁ Q E f cm r ho hP hlt' hfr hfl htk₁ hNs hkd hQ
  rw [en] at f cm r hkd
  subst eb
  rw [idx_body]
  have ka : env.kindOf "a" = some .local := (hkd _).trans kA
  have kb : env.kindOf "b" = some .local := (hkd _).trans kB
  have ki : env.kindOf "i" = some .local := (hkd _).trans kI
  have kj : env.kindOf "j" = some .local := (hkd _).trans kJ
  obtain ⟨ma, mb⟩ := pick_two (fun _ => none) env.kindOf (.str a t) (.str ⟨#[x]⟩ u) (show ("a" : Str) ≠ "b" by decide +kernel) ka kb
  generalize (bindL env.kindOf ((["a", "b"] : List Str).zip [.str a t, .str ⟨#[x]⟩ u]) fun _ => none) = m at hNs ma mb
  have H := r.hereW f.toFrmW
  have hpl := starEach_plain (env := env) (pos := ixp6) (es := [.Name "a" ixp5]) (fun y hy => by rw [List.mem_singleton.mp hy]; rfl)
  refine wpAny_execs_cons (wpAny_For (wpAny_Call_Name_kw (global_sound H kEn hEn (PySem.callWith_type hpl ?_))) (fun _ => rfl))
  refine evalArgs_plain (spliced_cons (loadM f.toFrmW hNs ka dA ma (spliced_nil ?_)))
  refine call_enumerate_str fun h0 hE hS hz hk => ?_
  refine wpAny_pyIter_enum hE ?_
  have hL : env.locals < s₁.heap.objs.size := hNs.lt
  have hLP : env.locals ≠ P := fun e => r.act.MP (e ▸ r.act.locM)
  have hPlt : P < s₁.heap.objs.size := r.lt P r.hP
  generalize hit : s₁.heap.objs.size = it at hE hS hz hL hPlt
  generalize hee : it + 1 = e at hE
  have hei : e ≠ it := by rw [← hee]; exact Nat.succ_ne_self it
  have heL : e ≠ env.locals := by rw [← hee]; exact Nat.ne_of_gt (Nat.lt_succ_of_lt hL)
  have hiL : it ≠ env.locals := Nat.ne_of_gt hL
  have heP : e ≠ P := by rw [← hee]; exact Nat.ne_of_gt (Nat.lt_succ_of_lt hPlt)
  have hiP : it ≠ P := Nat.ne_of_gt hPlt
  have hie : it ≤ e := by rw [← hee]; exact Nat.le_succ it
  have hN : ∀ b ∈ [env.locals, e, it], n ≤ b := fun b hb => by
    have := r.MN _ r.act.locM
    simp only [List.mem_cons, List.not_mem_nil, or_false] at hb
    rcases hb with rfl | hb | hb
    · exact this
    · rw [hb]; exact Nat.le_trans (Nat.le_trans this (Nat.le_of_lt hL)) hie
    · rw [hb]; exact Nat.le_trans this (Nat.le_of_lt hL)
  have hPN : P ∉ [env.locals, e, it] := by
    simp only [List.mem_cons, List.not_mem_nil, or_false]
    rintro (h | h | h)
    · exact hLP h.symm
    · exact heP h.symm
    · exact hiP h.symm
  refine codeAny_forLoop_any (fun N s' => ∃ i h' tk m' old, N = q - i ∧ i ≤ q ∧ s' = { s₁ with heap := h', toks := tk } ∧ IsEnum h' e it (i : Int) old ∧ h'.IsStrIter it (strIterType a) a t i ∧ h'.Ns env.locals m' ∧ m' "b" = some (.str ⟨#[x]⟩ u) ∧ u < tk ∧ GrowB P [env.locals, e, it] s₁ s') ?_ q
    ⟨0, h0, s₁.toks, m, .none, rfl, Nat.zero_le _, rfl, hE, hS, hNs.at fun o e' => hk _ o e', mb, Nat.lt_of_lt_of_le hut htk₁, GrowB.but (tk := s₁.toks) (fun b o _ e' => hk b o e') hPN (by omega)⟩
  rintro N s' ⟨i, h', tk, m', old, rfl, hiq, rfl, hE', hS', hn', mb', hutk, g⟩
  have hql : q < a.cps.size := by have := (List.getElem?_eq_some_iff.mp hq).1; simpa using this
  have hia : i < a.cps.size := Nat.lt_of_le_of_lt hiq hql
  obtain ⟨c, hc⟩ : ∃ c, a.cps[i]? = some c := ⟨a.cps[i], Array.getElem?_eq_getElem hia⟩
  refine enum_next (s := { s₁ with heap := h', toks := tk }) hE' hS' hc hei fun h₂ T hT hEO hS₂ hTt hz₂ hk₂ => ?_
  have hTsz : it ≤ T := by have := g.size; rw [hit] at this; exact Nat.le_trans this hT
  have g₂ : GrowB P [env.locals, e, it] { s₁ with heap := h', toks := tk } { s₁ with heap := h₂, toks := tk + 1 + 1 } := GrowB.but (s := { s₁ with heap := h', toks := tk }) (fun b o hb e' => hk₂ b o (fun q => hb (by simp [q])) (fun q => hb (by simp [q])) e') hPN (by show h'.objs.size ≤ h₂.objs.size; rw [hz₂]; exact Nat.le_succ _)
  have hn₂ : h₂.Ns env.locals m' := hn'.at fun o e' => hk₂ _ o (Ne.symm heL) (Ne.symm hiL) e'
  refine wpAny_letOwnedTupleGo_enum (s := { s₁ with heap := h₂, toks := tk + 1 + 1 }) hEO fun h₃ hE₃ hs₃ => ?_
  have hTe : T ≠ e := fun q => by
    have h1 := Heap.lt_size hE'
    have h2 : h'.objs.size ≤ T := hT
    rw [q] at h2
    exact Nat.lt_irrefl _ (Nat.lt_of_lt_of_le h1 h2)
  have ht₃ : h₃.IsTuple T #[.int (i : Int) (tk + 1), .str ⟨#[c]⟩ tk] := ⟨_, get_same hs₃ hTe hTt, rfl, _, rfl⟩
  have hn₃ : h₃.Ns env.locals m' := hn₂.at fun o e' => get_same hs₃ (Ne.symm heL) e'
  have hS₃ : h₃.IsStrIter it (strIterType a) a t (i + 1) := by obtain ⟨o, ho, rr⟩ := hS₂; exact ⟨o, get_same hs₃ (Ne.symm hei) ho, rr⟩
  have g₃ : GrowB P [env.locals, e, it] { s₁ with heap := h₂, toks := tk + 1 + 1 } { s₁ with heap := h₃, toks := tk + 1 + 1 } := GrowB.same (s := { s₁ with heap := h₂, toks := tk + 1 + 1 }) (by simp) heP hs₃
  generalize hvs : (#[.int (i : Int) (tk + 1), .str ⟨#[c]⟩ tk] : Array Value) = vs at ht₃
  have hsz : vs.size = 2 := by rw [← hvs]; rfl
  have hvl : vs.toList = [.int (i : Int) (tk + 1), .str ⟨#[c]⟩ tk] := by rw [← hvs]
  rw [arm_assign_Tuple]
  refine wpAny_bind (wpAny_standAt ?_)
  unfold unpack
  show wpAny (model pw w) A (do assignInOrder [assign (.Name "i" ixp1) env, assign (.Name "j" ixp2) env] (← holding [.ref T] (unpackItems (.ref T) 2 none))) _ _ _
  rw [← hsz]
  refine wpAny_bind (wpAny_holding (wpAny_with_size (wpAny_unpackItems_tuple (s := { s₁ with heap := h₃, toks := tk + 1 + 1 }) f.handled ht₃ fun h₄ hx₄ hsz₄ => ?_)))
  rw [hvl]
  have k₄ : ∀ b o, h₃.get? b = some o → h₄.get? b = some o := fun b o e' => hx₄ b o (Nat.ne_of_lt (Heap.lt_size e')) e'
  have g₄ : GrowB P [env.locals, e, it] { s₁ with heap := h₃, toks := tk + 1 + 1 } { s₁ with heap := h₄, toks := tk + 1 + 1 } := GrowB.but (s := { s₁ with heap := h₃, toks := tk + 1 + 1 }) (fun b o _ e' => k₄ b o e') hPN hsz₄
  have hn₄ : h₄.Ns env.locals m' := hn₃.at fun o e' => k₄ _ o e'
  refine assignInOrder_cons (wpAny_assign_Name (wpAny_storeName_local ki hn₄ (fun h₅ hn₅ hs₅ => ?_) (kind_hp f.kind)))
  refine assignInOrder_cons (wpAny_assign_Name (wpAny_storeName_local kj hn₅ (fun h₆ hn₆ hs₆ => ?_) (kind_hp f.kind)))
  refine assignInOrder_nil ?_
  have g₅ : GrowB P [env.locals, e, it] { s₁ with heap := h₄, toks := tk + 1 + 1 } { s₁ with heap := h₅, toks := tk + 1 + 1 + 1 } := GrowB.same (s := { s₁ with heap := h₄, toks := tk + 1 + 1 }) (by simp) hLP hs₅
  have g₆ : GrowB P [env.locals, e, it] { s₁ with heap := h₅, toks := tk + 1 + 1 + 1 } { s₁ with heap := h₆, toks := tk + 1 + 1 + 1 + 1 } := GrowB.same (s := { s₁ with heap := h₅, toks := tk + 1 + 1 + 1 }) (by simp) hLP hs₆
  have gA := ((((g.trans g₂).trans g₃).trans g₄).trans g₅).trans g₆
  have hE₆ : IsEnum h₆ e it ((i + 1 : Nat) : Int) (.str ⟨#[c]⟩ tk) := get_same hs₆ heL (get_same hs₅ heL (k₄ _ _ (by simpa using hE₃)))
  have hS₆ : h₆.IsStrIter it (strIterType a) a t (i + 1) := by obtain ⟨o, ho, rr⟩ := hS₃; exact ⟨o, get_same hs₆ hiL (get_same hs₅ hiL (k₄ _ _ ho)), rr⟩
  have nb : NoneBooked h₆ := hNB _ (gA.wf' r.wf f.floor hN).X
  generalize hm₆ : (fun y => if y = ("j" : Str) then some (Value.str ⟨#[c]⟩ tk) else (fun y => if y = ("i" : Str) then some (Value.int (i : Int) (tk + 1)) else m' y) y) = m₆ at hn₆
  have mi : m₆ "i" = some (.int (i : Int) (tk + 1)) := by rw [← hm₆]; simp only [if_neg nij, if_pos]
  have mj : m₆ "j" = some (.str ⟨#[c]⟩ tk) := by rw [← hm₆]; simp only [if_pos]
  have mb₆ : m₆ "b" = some (.str ⟨#[x]⟩ u) := by rw [← hm₆]; simp only [if_neg nbj, if_neg nbi]; exact mb'
  have htk0 : tk ≠ 0 := fun e' => Nat.not_lt_zero u (e' ▸ hutk)
  refine wpAny_execs_cons (wpAny_If (idx_test f.toFrmW hn₆ kj kb mj mb₆ htk0 hu (Nat.ne_of_gt hutk) nb ?_))
  rcases Nat.lt_or_ge i q with hlt | hge
  · have hne : (⟨#[c]⟩ : Str) ≠ ⟨#[x]⟩ := fun e' => hlow i hlt c (by simpa using hc) (by injection e' with e'; simpa using e')
    rw [decide_eq_false hne]
    simp only [Bool.false_eq_true, if_false]
    exact wpAny_execs_nil (wpAny_execs_nil ⟨q - (i + 1), by omega, i + 1, h₆, _, m₆, _, rfl, hlt, rfl, hE₆, hS₆, hn₆, mb₆, Nat.lt_succ_of_lt (Nat.lt_succ_of_lt (Nat.lt_succ_of_lt (Nat.lt_succ_of_lt hutk))), gA⟩)
  · have hiq' : i = q := Nat.le_antisymm hiq hge
    subst hiq'
    have hcx : c = x := by
      have h1 : a.cps.toList[i]? = some c := by simpa using hc
      rw [hq] at h1; exact (Option.some.inj h1).symm
    subst hcx
    rw [decide_eq_true rfl]
    simp only [if_true]
    refine wpAny_execs_cons (wpAny_Return_some (loadM f.toFrmW hn₆ ki dI mi ?_))
    refine hQ _ _ ⟨gA.less fun b hb => ?_, .inl ⟨_, rfl, Rep.int'⟩⟩
    simp only [List.mem_cons, List.not_mem_nil, or_false] at hb
    rcases hb with rfl | hb | hb
    · exact .inl r.act.locM
    · right; rw [hb, hit]; exact hie
    · right; rw [hb, hit]; exact Nat.le_refl _
end
end Mine
end
section
open PySem PySem.Spec PySem.Calls PyProof.Rows PySem.W
set_option maxRecDepth 100000
namespace Mine
noncomputable def escSigns : List Nat := [97, 98, 99, 48, 49, 50, 51]
noncomputable def spEsc : List PyData → Option PyData
  | [.str x] => match x.cps.toList with
    | [c] => guard' (escSigns.any fun y => Nat.beq c y) (some (.str x))
    | _ => none
  | _ => none
section
variable {prog : Program} {w : World} {A : Around} {E : Value → Shared → Prop} {s : Shared}
theorem forIn_one {α β : Type} {m : Type → Type} [Monad m] [LawfulMonad m] (c : α) (b : β) (f : α → β → m (ForInStep β)) : forIn (#[c] : Array α) b f = (f c b >>= fun r => match r with | .done b => pure b | .yield b => pure b) := by
  rw [← Array.forIn_toList]
  simp [List.forIn_cons]
  congr 1
open Builtin Builtin.Str in
theorem lookup_keep {a : Addr} {f : Int → Option Value} {c : Nat} {Q : Mapped → Shared → Prop} (hd : (a == sysModules) = false) (hh : A.handled = none) (hm : s.heap.MapOf (intKind prog w) a f) (hv : f (c : Int) = none)
    (h : ∀ h' tk, (∀ b o, s.heap.get? b = some o → h'.get? b = some o) → Q .keep { s with heap := h', toks := tk }) : wpAny (model prog w) A (tableLookup (.ref a) c) Q E s := by
  unfold tableLookup
  refine wpAny_bind (wpAny_attempt (wpAny_bind (wpAny_mkInt ?_)))
  refine wpAny_getItem_missing_of (knd := intKind prog w) (k := (c : Int)) (intKind_is ..) hd hh hm hv fun h' e hx => ?_
  obtain ⟨ob, t, h1, h2, h3⟩ := hx.there
  refine wpAny_bind (wpAny_isInstance (T := "KeyError") (b := true) ⟨ob, h1, h2⟩ (by rw [isSubtype_type]; kernel_rfl) ?_)
  simp only [if_true]
  exact wpAny_bind (wpAny_rule (wpAny_pure (h _ _ hx.keeps)))
open Builtin Builtin.Str in
theorem translate_one {a : Addr} {f : Int → Option Value} {c : Nat} {t : Tok} {P' : Fin → Shared → Prop} (hc : c < 128) (hd : (a == sysModules) = false) (hh : A.handled = none) (hm : s.heap.MapOf (intKind prog w) a f) (hv : f (c : Int) = none)
    (h : ∀ h' tk tk', (∀ b o, s.heap.get? b = some o → h'.get? b = some o) → P' (.done (.ret (.str ⟨#[c]⟩ tk))) { s with heap := h', toks := tk' }) :
    wpAny (model prog w) A (Builtin.«str.translate» ⟨[.str ⟨#[c]⟩ t, .ref a], []⟩) P' E s := by
  unfold Builtin.«str.translate»
  refine wpAny_bind (m := strOneArg "translate" _) (wpAny_of_eq (a := (Value.str ⟨#[c]⟩ t, (⟨#[c]⟩ : Str), Value.ref a)) (by first | rfl | kernel_rfl) ?_)
  dsimp only
  rw [if_neg (by simp [Str.length])]
  simp only [pure_bind]
  rw [forIn_one]
  have h128 : (#[c].all fun x => decide (x < 128)) = true := by simp [hc]
  rw [h128]
  dsimp only
  rw [if_neg (show ¬ (tooLong 0 = true) by decide +kernel)]
  simp only [List.lookup_nil, if_true]
  refine wpAny_bind (wpAny_bind (wpAny_bind ?_))
  refine lookup_keep hd hh hm hv fun h' tk hk => ?_
  show wpAny (model prog w) A (pure (ForInStep.yield (([⟨#[c]⟩] : List Str), 0 + 1, true, ([(c, some c)] : List (Nat × Option Nat)), false))) _ _ _
  refine wpAny_pure (wpAny_pure ?_)
  dsimp only
  rw [if_neg (show ¬ (tooLong (0 + 1) = true) by decide +kernel)]
  unfold retStr
  refine wpAny_bind (wpAny_mkStr ?_ (by show (_ : Nat) ≤ sizeLine; simp [Str.length]; decide))
  exact wpAny_pure (h _ _ _ hk)
end
/-! escape's first statement: where its parts stand -/
noncomputable def esI : Stmt := nth (bodyOf "escape") 0
noncomputable def esR : Stmt := nth (sBod esI) 0
noncomputable def esC : Expr := sVal esI
noncomputable def esT : Expr := sVal esR
noncomputable def s1p : Pos := (e1 esC).pos
noncomputable def s2p : Pos := (e2 esC).pos
noncomputable def s3p : Pos := (e3 esC).pos
noncomputable def s4p : Pos := esC.pos
noncomputable def s5p : Pos := (e1 (e1 esT)).pos
noncomputable def sap : Pos := (e1 esT).pos
noncomputable def s6p : Pos := (e2 esT).pos
noncomputable def s7p : Pos := esT.pos
theorem esc_body : bodyOf "escape" = [.If (.Call (.Name "isinstance" s1p) [.Name "pattern" s2p, .Name "str" s3p] [] s4p) [.Return (some (.Call (.Attribute (.Name "pattern" s5p) "translate" sap) [.Name "_special_chars_map" s6p] [] s7p)) esR.pos] (sEls esI) esI.pos] := by kernel_rfl
theorem esc_line : lineEq sap s7p = true := by kernel_rfl
noncomputable def escNm : NK := namesOf "escape"
theorem esc_unmarked : marked escNm = false := by kernel_rfl
theorem ekI : getK escNm "isinstance" = some .globalImplicit := by kernel_rfl
theorem ekS : getK escNm "str" = some .globalImplicit := by kernel_rfl
theorem ekM : getK escNm "_special_chars_map" = some .globalImplicit := by kernel_rfl
variable [Inhabited Base]
variable {K : Frag} {P : Addr} {G : Str → Option Value} {Λ : List Addr}
/-- the table of the signs that escape changes -/
noncomputable def MapAt (K : Frag) (a : Addr) : Prop := ∃ o es ep, K.lookup a = some o ∧ o.cls = .type "dict" ∧ (o.dict = none ∧ o.slots = #[]) ∧ o.data = .dict es ep ∧ IntKeys es ∧ ∀ c ∈ escSigns, findBy Value.isInt es (Int.ofNat c) = none
theorem esc_ok {w : World} {k : Nat} {a₀ a : Addr} {sc : Scope} {body : List Stmt} {fd : FuncData} (F : FnOk pw K "escape" a₀ ["pattern"] sc body fd) (hI : G "isinstance" = some (.builtin "isinstance")) (hS : G "str" = some (.type "str")) (hM : G "_special_chars_map" = some (.ref a)) (hMa : MapAt K a) (had : (a == sysModules) = false)
    {ds : List PyData} {d : PyData} (h : spEsc ds = some d) : CallOk pw w K P G (k + 1) (.ref a₀) ds d := by
  obtain ⟨args, hdef, _⟩ := F.def_
  have eb : body = bodyOf "escape" := by unfold bodyOf; rw [hdef]
  have en : sc.names = escNm := by unfold escNm namesOf; rw [hdef]
  unfold spEsc at h
  split at h
  · rename_i x
    split at h
    · rename_i c hc
      obtain ⟨hg, h⟩ := guard'_some h
      cases h
      have hx : x = ⟨#[c]⟩ := by cases x; simp only at hc; congr 1; exact Array.ext' hc
      subst hx
      obtain ⟨y, hy, hcy⟩ := List.any_eq_true.mp hg
      have hcm : c ∈ escSigns := by rw [Nat.eq_of_beq_eq_true hcy]; exact hy
      have hc128 : c < 128 := by
        have : ∀ z ∈ escSigns, z < 128 := by decide
        exact this c hcm
      have hcode : ∀ env : Env, env.code = fd.code → CodeM K P G sc.names env := fun env _ => CodeM.un (by rw [en]; exact esc_unmarked)
      intro Λ₀
      refine call_frame (w := w) (G := G) (k := k) (d := .str ⟨#[c]⟩) (ρ := [("pattern", .val (.str ⟨#[c]⟩))]) F hcode rfl fun A env outer n M O₀ O s Q E f cm r ho hP hlt hfr hfl hQ => ?_
      rw [en] at f cm r
      subst eb
      rw [esc_body]
      have hpat : getB ([("pattern", B.val (.str ⟨#[c]⟩))] : En) "pattern" = some (.val (.str ⟨#[c]⟩)) := by kernel_rfl
      obtain ⟨pv, hpl, hpr⟩ := r.act.load f.names hpat
      obtain ⟨t, rfl⟩ := Rep.str_inv (O := O) (h := s.heap) hpr
      have H := r.hereW f.toFrmW
      have pl1 := starEach_plain (env := env) (pos := s4p) (es := [.Name "pattern" s2p, .Name "str" s3p]) (fun y hy => by
        rcases List.mem_cons.mp hy with rfl | hy
        · rfl
        · rw [List.mem_singleton.mp hy]; rfl)
      have pl2 := starEach_plain (env := env) (pos := s7p) (es := [.Name "_special_chars_map" s6p]) (fun y hy => by rw [List.mem_singleton.mp hy]; rfl)
      refine wpAny_execs_cons (wpAny_If ?_)
      show wpAny (model pw w) A (do let v ← eval (.Call (.Name "isinstance" s1p) [.Name "pattern" s2p, .Name "str" s3p] [] s4p) env; standAt _; holding [v] (truthy v)) _ E s
      refine wpAny_bind (wpAny_Call_Name_kw (global_sound H ekI hI (Calls.callWith_builtin pl1 (evalArgs_plain (spliced_cons (load_sound H hpl (spliced_cons (global_sound H ekS hS (spliced_nil ?_)))))))))
      refine call_isinstance_yes (Tx := "str") (typeIs_str _ _ _) (by first | rfl | kernel_rfl) (by rw [isSubtype_type]; kernel_rfl) ?_
      refine wpAny_bind (wpAny_standAt (wpAny_holding (wpAny_truthy_bool ?_)))
      simp only [if_true]
      refine wpAny_execs_cons (wpAny_Return_some ?_)
      refine wpAny_Call_method_lateS (plainBase_eq rfl) ?_ (beq_iff_eq.mpr (Nat.eq_of_beq_eq_true esc_line)) (load_sound H hpl ?_)
      · simp only [Bool.and_eq_true, decide_eq_true_eq]
        refine ⟨⟨?_, rfl⟩, by simp⟩
        rw [List.all_eq_true]
        intro y hy
        have := List.any_eq_false.mp pl2 y hy
        simpa using this
      · refine ⟨"str", "str.translate", PySem.F.plainAttrs_str, PySem.F.slot_str_translate, PySem.F.type_str_translate, typeIs_str _ _ _, (fun a e => nomatch e), ?_⟩
        refine Calls.callWith_builtin pl2 (evalArgs_plain (spliced_cons (global_sound H ekM hM (spliced_nil ?_))))
        obtain ⟨om, es, ep, m1, m2, m3, m4, m5, m6⟩ := hMa
        have hm : s.heap.MapOf (intKind pw w) a (findBy Value.isInt es) := Heap.IntMap.mapOf ⟨om, es, ep, r.wf.X _ _ m1, m2, m4, m5, fun _ => rfl⟩ fun o' ho' => by
          rw [r.wf.X _ _ m1] at ho'; cases ho'; exact m3
        refine wpAny_with_toks (Nat.le_refl _) (wpAny_with_size (wpAny_call_entry PySem.F.slot_str_translate (typeIs_str _ _ _) PySem.F.entry_str_translate (translate_one (A := A.in1) hc128 had f.handled hm (m6 c hcm) fun h' tk tk' hk => ⟨_, rfl, fun hsz htk => ?_⟩) (PySem.F.args_str_translate_2 _ _)))
        have g : Grow P s { s with heap := h', toks := tk' } := Grow.of_keep hk hsz htk
        exact hQ _ _ ⟨GrowB.of g, .inl ⟨_, rfl, Rep.str'⟩⟩
    · cases h
  · cases h
end Mine
end
section
open PySem PySem.Spec PySem.Calls PyProof.Rows PySem.W
set_option maxRecDepth 100000
set_option maxHeartbeats 8000000
namespace Mine
noncomputable def ΦT : Orc := addO Φ0 "escape" spEsc
theorem tr_0 (f : Nat) (h : f < 16) : callN ΦT 12 pw "_translate" [.str (patS 0 f), .str ⟨#[42]⟩, .str ⟨#[63]⟩] = some (.list [.str (ptL 0), .str (ptF f)]) := by revert f; exact ev16 (by kernel_rfl)
theorem tr_1 (f : Nat) (h : f < 16) : callN ΦT 12 pw "_translate" [.str (patS 1 f), .str ⟨#[42]⟩, .str ⟨#[63]⟩] = some (.list [.str (ptL 1), .str (ptF f)]) := by revert f; exact ev16 (by kernel_rfl)
theorem tr_2 (f : Nat) (h : f < 16) : callN ΦT 12 pw "_translate" [.str (patS 2 f), .str ⟨#[42]⟩, .str ⟨#[63]⟩] = some (.list [.str (ptL 2), .str (ptF f)]) := by revert f; exact ev16 (by kernel_rfl)
theorem tr_3 (f : Nat) (h : f < 16) : callN ΦT 12 pw "_translate" [.str (patS 3 f), .str ⟨#[42]⟩, .str ⟨#[63]⟩] = some (.list [.str (ptL 3), .str (ptF f)]) := by revert f; exact ev16 (by kernel_rfl)
theorem tr_4 (f : Nat) (h : f < 16) : callN ΦT 12 pw "_translate" [.str (patS 4 f), .str ⟨#[42]⟩, .str ⟨#[63]⟩] = some (.list [.str (ptL 4), .str (ptF f)]) := by revert f; exact ev16 (by kernel_rfl)
theorem tr_5 (f : Nat) (h : f < 16) : callN ΦT 12 pw "_translate" [.str (patS 5 f), .str ⟨#[42]⟩, .str ⟨#[63]⟩] = some (.list [.str (ptL 5), .str (ptF f)]) := by revert f; exact ev16 (by kernel_rfl)
theorem tr_6 (f : Nat) (h : f < 16) : callN ΦT 12 pw "_translate" [.str (patS 6 f), .str ⟨#[42]⟩, .str ⟨#[63]⟩] = some (.list [.str (ptL 6), .str (ptF f)]) := by revert f; exact ev16 (by kernel_rfl)
theorem tr_7 (f : Nat) (h : f < 16) : callN ΦT 12 pw "_translate" [.str (patS 7 f), .str ⟨#[42]⟩, .str ⟨#[63]⟩] = some (.list [.str (ptL 7), .str (ptF f)]) := by revert f; exact ev16 (by kernel_rfl)
theorem tr_any (l f : Nat) (hl : l < 8) (h : f < 16) : callN ΦT 12 pw "_translate" [.str (patS l f), .str ⟨#[42]⟩, .str ⟨#[63]⟩] = some (.list [.str (ptL l), .str (ptF f)]) := by
  rcases lt8 hl with rfl | rfl | rfl | rfl | rfl | rfl | rfl | rfl
  · exact tr_0 f h
  · exact tr_1 f h
  · exact tr_2 f h
  · exact tr_3 f h
  · exact tr_4 f h
  · exact tr_5 f h
  · exact tr_6 f h
  · exact tr_7 f h
theorem tr_says {ds : List PyData} {d : PyData} (h : spTr ds = some d) : callN ΦT 12 pw "_translate" ds = some d := by
  unfold spTr at h
  split at h
  · split at h
    · rename_i p s q hc
      rw [Bool.and_eq_true] at hc
      have h1 := (nameEq_iff _ _).mp hc.1
      have h2 := (nameEq_iff _ _).mp hc.2
      subst h1 h2
      split at h
      · rename_i l f hf
        cases h
        obtain ⟨hl, hf16, he⟩ := findLF_some hf
        rw [(nameEq_iff _ _).mp he]
        exact tr_any l f (mem8 hl) hf16
      · cases h
    · cases h
  · cases h
end Mine
end
section
open PySem PySem.Spec PySem.Calls PyProof.Rows PySem.W
set_option maxRecDepth 100000
namespace Mine
variable [Inhabited Base]
variable {K : Frag} {P : Addr} {G : Str → Option Value}
section
variable {prog : Program} {w : World} {k k' : Nat} {Φ : Orc}
theorem CallOk.le {fv : Value} {ds : List PyData} {d : PyData} (h : CallOk prog w K P G k fv ds d) (hk : k ≤ k') : CallOk prog w K P G k' fv ds d :=
  fun A O s vs Q E room => h A O s vs Q E (room.le hk)
theorem IdxOk.le (h : IdxOk prog w K P G k) (hk : k ≤ k') : IdxOk prog w K P G k' :=
  let ⟨fv, h1, h2, h3⟩ := h
  ⟨fv, h1, h2, fun A O s a b t u d Q E room => h3 A O s a b t u d Q E (room.le hk)⟩
theorem CallsOk.le (h : CallsOk prog w K P G k Φ) (hk : k ≤ k') : CallsOk prog w K P G k' Φ :=
  ⟨fun f ds d e => let ⟨fv, h1, h2, h3⟩ := h.calls f ds d e; ⟨fv, h1, h2, h3.le hk⟩, h.idx.le hk⟩
noncomputable def Spk (prog : Program) (w : World) (K : Frag) (P : Addr) (G : Str → Option Value) (k : Nat) (f : Str) (sp : List PyData → Option PyData) : Prop := ∀ ds d, sp ds = some d → ∃ fv, G f = some fv ∧ Callee K fv ∧ CallOk prog w K P G k fv ds d
theorem Spk.le {f : Str} {sp : List PyData → Option PyData} (h : Spk prog w K P G k f sp) (hk : k ≤ k') : Spk prog w K P G k' f sp := fun ds d e => let ⟨fv, h1, h2, h3⟩ := h ds d e; ⟨fv, h1, h2, h3.le hk⟩
theorem CallsOk.add {f : Str} {sp : List PyData → Option PyData} (h : CallsOk prog w K P G k Φ) (x : Spk prog w K P G k f sp) : CallsOk prog w K P G k (addO Φ f sp) := by
  refine ⟨fun g ds d e => ?_, h.idx⟩
  unfold addO at e
  split at e
  · rename_i hn
    rw [(nameEq_iff _ _).mp hn]
    exact x ds d e
  · exact h.calls g ds d e
end
/-- a def of the program stands in the written part, and its name in the globals -/
noncomputable def FnAt (K : Frag) (G : Str → Option Value) (f : Str) : Prop := ∃ a sc body fd, FnOk pw K f a (paramsOf f) sc body fd ∧ G f = some (.ref a)
/-- what stands around law -/
structure Facts (K : Frag) (P : Addr) (G : Str → Option Value) : Prop where
  fn : ∀ f ∈ (["eq", "and_", "lshift", "or_", "rshift", "indexOf", "escape", "sorted_list_difference", "_law_signs", "_law_rows", "_law_shared", "_law_having", "_law_next", "_law_blocks", "_law_due", "_law_item", "_law_reads", "_law_taken", "_law_told", "law"] : List Str), FnAt K G f
  tr : ∃ a sc body fd, FnOk pw K "_translate" a (paramsOf "_translate") sc body fd ∧ G "_translate" = some (.ref a) ∧ ∀ env : Env, env.code = fd.code → CodeM K P G sc.names env
  range : G "range" = some (.type "range")
  len : G "len" = some (.builtin "len")
  list : G "list" = some (.type "list")
  enum : G "enumerate" = some (.type "enumerate")
  isi : G "isinstance" = some (.builtin "isinstance")
  str : G "str" = some (.type "str")
  ie : G "IndexError" = some (.type "IndexError")
  nb : ∀ h, K.In h → NoneBooked h
  map : ∃ a, G "_special_chars_map" = some (.ref a) ∧ MapAt K a ∧ (a == sysModules) = false
section
variable {w : World} {k m : Nat} {Φ : Orc}
theorem fn_names {f : Str} {a : Addr} {ps : List Str} {sc : Scope} {body : List Stmt} {fd : FuncData} (F : FnOk pw K f a ps sc body fd) : sc.names = namesOf f := by
  obtain ⟨args, hdef, _⟩ := F.def_
  unfold namesOf; rw [hdef]
theorem spk_fn (X : Facts K P G) (C : CallsOk pw w K P G k Φ) {f : Str} (F : FnAt K G f) (hu : marked (namesOf f) = false) {sp : List PyData → Option PyData} (says : ∀ ds d, sp ds = some d → callN Φ m pw f ds = some d) : Spk pw w K P G (k + 1) f sp := by
  intro ds d e
  obtain ⟨a, sc, body, fd, F, hg⟩ := F
  obtain ⟨o, ho, hd⟩ := F.there
  exact ⟨_, hg, Callee.fn ho hd, callN_sound C X.range X.len F (fun env _ => CodeM.un (by rw [fn_names F]; exact hu)) (says ds d e)⟩
theorem c0 (X : Facts K P G) : CallsOk pw w K P G 1 Φ0 := by
  have idx : IdxOk pw w K P G 1 := by
    obtain ⟨a, sc, body, fd, F, hg⟩ := X.fn "indexOf" (by decide +kernel)
    have e : paramsOf "indexOf" = (["a", "b"] : List Str) := by kernel_rfl
    rw [e] at F
    exact idx_ok F hg X.enum X.nb
  refine CallsOk.add ⟨fun _ _ _ e => (nomatch e), idx⟩ fun ds d e => ⟨_, X.len, Callee.bi _, len_ok e⟩
theorem c1 (X : Facts K P G) : CallsOk pw w K P G 2 Φ1 := by
  have C := c0 (w := w) X
  have go : ∀ (f : Str) (sp : List PyData → Option PyData), f ∈ (["eq", "and_", "lshift", "or_", "rshift", "indexOf", "escape", "sorted_list_difference", "_law_signs", "_law_rows", "_law_shared", "_law_having", "_law_next", "_law_blocks", "_law_due", "_law_item", "_law_reads", "_law_taken", "_law_told", "law"] : List Str) → marked (namesOf f) = false → Says Φ0 f sp → Spk pw w K P G 2 f sp :=
    fun f sp hf hu hs => spk_fn X C (X.fn f hf) hu hs
  exact (((((C.le (by decide)).add (go "and_" spAnd (by decide +kernel) (by kernel_rfl) (and_says _))).add (go "or_" spOr (by decide +kernel) (by kernel_rfl) (or_says _))).add (go "lshift" spLsh (by decide +kernel) (by kernel_rfl) (lsh_says _))).add (go "rshift" spRsh (by decide +kernel) (by kernel_rfl) (rsh_says _))).add (go "eq" spEq (by decide +kernel) (by kernel_rfl) (eq_says _))
theorem c2 (X : Facts K P G) : CallsOk pw w K P G 3 Φ2 := by
  have C := c1 (w := w) X
  exact (((C.le (by decide)).add (spk_fn X C (X.fn "_law_signs" (by decide +kernel)) (by kernel_rfl) signs_says)).add (spk_fn X C (X.fn "_law_shared" (by decide +kernel)) (by kernel_rfl) shared_says)).add (spk_fn X C (X.fn "_law_having" (by decide +kernel)) (by kernel_rfl) having_says)
theorem c3 (X : Facts K P G) : CallsOk pw w K P G 4 Φ3 := by
  have C := c2 (w := w) X
  exact (C.le (by decide)).add (spk_fn X C (X.fn "_law_next" (by decide +kernel)) (by kernel_rfl) next_says)
theorem cT (X : Facts K P G) : CallsOk pw w K P G 1 ΦT := by
  have C := c0 (w := w) X
  refine C.add fun ds d e => ?_
  obtain ⟨a, sc, body, fd, F, hg⟩ := X.fn "escape" (by decide +kernel)
  have ep : paramsOf "escape" = (["pattern"] : List Str) := by kernel_rfl
  rw [ep] at F
  obtain ⟨o, ho, hd⟩ := F.there
  obtain ⟨am, hm, hMa, had⟩ := X.map
  exact ⟨_, hg, Callee.fn ho hd, esc_ok (k := 0) F X.isi X.str hm hMa had e⟩
theorem c4 (X : Facts K P G) : CallsOk pw w K P G 5 Φ4 := by
  have C := c3 (w := w) X
  have tr : Spk pw w K P G 2 "_translate" spTr := fun ds d e => by
    obtain ⟨a, sc, body, fd, F, hg, hc⟩ := X.tr
    obtain ⟨o, ho, hd⟩ := F.there
    exact ⟨_, hg, Callee.fn ho hd, callN_sound (cT X) X.range X.len F hc (tr_says e)⟩
  exact ((((C.le (by decide)).add (spk_fn X C (X.fn "_law_item" (by decide +kernel)) (by kernel_rfl) item_says)).add (spk_fn X C (X.fn "_law_reads" (by decide +kernel)) (by kernel_rfl) reads_says)).add (spk_fn X C (X.fn "_law_blocks" (by decide +kernel)) (by kernel_rfl) blocks_says)).add (tr.le (by decide))
theorem c5 (X : Facts K P G) : CallsOk pw w K P G 6 Φ5 := by
  have C := c4 (w := w) X
  have sl : Spk pw w K P G 2 "sorted_list_difference" spDiff := fun ds d e => by
    obtain ⟨a, sc, body, fd, F, hg⟩ := X.fn "sorted_list_difference" (by decide +kernel)
    have ep : paramsOf "sorted_list_difference" = (["expected", "actual"] : List Str) := by kernel_rfl
    rw [ep] at F
    obtain ⟨o, ho, hd⟩ := F.there
    exact ⟨_, hg, Callee.fn ho hd, sld_sound (c0 X) X.range X.len X.ie F e⟩
  have li : Spk pw w K P G 6 "list" spList := fun ds d e => ⟨_, X.list, Callee.ty _, list_ok e⟩
  have ro : Spk pw w K P G 3 "_law_rows" (callF Φ1 pw "_law_rows") := spk_fn X (c1 X) (X.fn "_law_rows" (by decide +kernel)) (by kernel_rfl) fun ds d e => e
  have du : Spk pw w K P G 5 "_law_due" (callF Φ3 pw "_law_due") := spk_fn X (c3 X) (X.fn "_law_due" (by decide +kernel)) (by kernel_rfl) fun ds d e => e
  exact (((((C.le (by decide)).add (spk_fn X C (X.fn "_law_taken" (by decide +kernel)) (by kernel_rfl) taken_says)).add li).add (sl.le (by decide))).add (ro.le (by decide))).add (du.le (by decide))
theorem c6 (X : Facts K P G) : CallsOk pw w K P G 7 Φ6 := by
  have C := c5 (w := w) X
  exact (C.le (by decide)).add (spk_fn X C (X.fn "_law_told" (by decide +kernel)) (by kernel_rfl) fun ds d e => e)
theorem law_ok (X : Facts K P G) {is : List Int} (hn : is.length ≤ 2097152) : ∃ fv, G "law" = some fv ∧ CallOk pw w K P G 8 fv [scD is] (.bool true) := by
  obtain ⟨fv, h1, _, h3⟩ := spk_fn (m := 8) X (c6 (w := w) X) (X.fn "law" (by decide +kernel)) (by kernel_rfl) (sp := callF Φ6 pw "law") (fun ds d e => e) [scD is] (.bool true) (law_eval is hn)
  exact ⟨fv, h1, h3⟩
end
end Mine
end
section
open PySem PySem.Spec PySem.Calls PyProof.Rows PySem.W
set_option maxRecDepth 100000
namespace Mine
variable [Inhabited Base]
variable {K : Frag} {P : Addr} {G : Str → Option Value} {Λ : List Addr}
theorem reps_ints {O : List Addr} {h : Heap} : ∀ {vs : List Value} {is : List Int}, IntsAre vs is → Reps O h (is.map PyData.int) vs := by
  intro vs is hi
  induction hi with
  | nil => exact Reps.nil
  | cons _ _ _ ih => exact Reps.cons Rep.int' ih
theorem law_code {w : World} (X : Facts K P G) {a : Addr} (hg : G "law" = some (.ref a)) {is : List Int} (hn : is.length ≤ 2097152) {A : Around} {s : Shared} {l : Addr} {vs : List Value} (room : Room Λ 8 A) (wf : WF K P G Λ s.heap) (hl : s.heap.IsList l vs.toArray) (hi : IntsAre vs is) {R : Result → Shared → Prop}
    (hR : ∀ s', Grow P s s' → R (.ok (.ret (.bool true))) s') : codeAny (model pw w) A (.call (.ref a) ⟨[.ref l], []⟩) R s := by
  obtain ⟨a', sc, body, fd, F, hg'⟩ := X.fn "law" (by decide +kernel)
  rw [hg] at hg'
  have ea : a = a' := by injection hg' with hg'; injection hg'
  subst ea
  have ep : paramsOf "law" = (["script"] : List Str) := by kernel_rfl
  rw [ep] at F
  have hx : sc.names.lookup (Str.ofString "script") = some NameKind.local := by
    rw [fn_names F, ← getK_eq]; kernel_rfl
  obtain ⟨ps, hp, _⟩ := wf.tab
  have hPlt := Heap.lt_size hp
  have hlP : l ∉ [P] := fun q => by
    rw [List.mem_singleton.mp q] at hl
    obtain ⟨o, ho, hc, _⟩ := hl
    rw [hp] at ho; cases ho; cases hc
  refine callN_code (m := 8) (O₀ := [P]) (c6 X) X.range X.len F (fun env _ => CodeM.un (by rw [fn_names F]; kernel_rfl)) (law_eval is hn) room (enters_one F hx room wf) List.mem_cons_self (fun b hb => by rw [List.mem_singleton.mp hb]; exact hPlt) wf
    (Reps.cons (Rep.list' hlP hl (reps_ints (by simpa using hi))) Reps.nil) fun v s' g r => ?_
  rw [r.bool_inv]
  exact hR s' g
end Mine
end
section
open PySem PySem.Spec PySem.Calls PyProof.Rows PySem.W
set_option maxRecDepth 100000
namespace Mine
noncomputable def scOf (f : Str) : Scope := match pw.theDef f with
  | some (_, _, s) => s
  | none => default
noncomputable def argsOf (f : Str) : Arguments := match pw.theDef f with
  | some (a, _, _) => a
  | none => ⟨[], [], none, [], [], none, []⟩
/-- a def's object -/
noncomputable def mkFn (f : Str) (c : Addr) (md : Value) : Obj := { cls := .type "function", data := .func { name := f, qualname := f, params := argsOf f, body := .stmts (bodyOf f), scope := scOf f, globals := mainGlobals, closure := [], defaults := .none, kwdefaults := .none, pyModule := md, code := .ref c } }
/-- a def's code -/
noncomputable def mkCode (f : Str) (t line na r8 r11 : Nat) (v13 v14 : Value) (r15 k t18 : Nat) : Obj := { cls := .type "code", data := .fields #[.str f t, .str f (t + 1), .str "/claim/cut.py" (t + 2), .int line 0, .int na 0, .int 0 0, .int 0 0, .int 3 0, .ref r8, .bool true, .int 276 0, .ref r11, .none, v13, v14, .ref r15, .int k 0, .int line 0, .str "/claim/cut.py" t18] }
noncomputable def strEnts (p : Params) (l : List (Str × Nat × Value)) : Data := .dict (l.map fun (x, t, v) => ⟨PyData.keyHash p x, .str x t, v⟩).toArray l.length
noncomputable def mapEnts (l : List (Nat × Nat × Nat)) : Data := .dict (l.map fun (i, t, u) => ⟨Int.ofNat i, .int (Int.ofNat i) t, .str ⟨#[92, i]⟩ u⟩).toArray l.length
noncomputable def num3 (x t v : Nat) : Nat × Nat × Nat := (x, t, v)
noncomputable def at2 (a : Addr) (o : Obj) : Addr × Obj := (a, o)
noncomputable def ent3 (x : Str) (t : Nat) (v : Value) : Str × Nat × Value := (x, t, v)
noncomputable def stEnts : List (Str × Nat × Value) := [ent3 ⟨#[105, 109, 112, 111, 114, 116, 46, 108, 111, 97, 100, 101, 100, 46, 95, 115, 114, 101]⟩ 183 (.bool true), ent3 "class._frozen_importlib.BuiltinImporter" 185 (.ref 14), ent3 ⟨#[119, 97, 116, 99, 104, 101, 100, 46, 105, 109, 112, 111, 114, 116]⟩ 206 (.ref 18), ent3 "class._frozen_importlib.ModuleSpec" 216 (.ref 22), ent3 "sys.modules.booked-epoch" 245 (.int 3 0), ent3 ⟨#[105, 109, 112, 111, 114, 116, 46, 108, 97, 116, 101, 114, 45, 108, 97, 105, 100, 46, 95, 115, 114, 101]⟩ 270 (.bool true), ent3 "watched.library" 272 (.ref 27), ent3 "watched.library-objects" 0 (.str "\x0c" 0), ent3 "watched.library-deep._sre" 273 (.str "\x04\x00\x00\x0b\x04\x00\x00\x0b\x04\x00\x00\x03\x04\x00\x00\x0b\x08\x04dict\x02" 0)]
noncomputable def mnEnts : List (Str × Nat × Value) := [ent3 "__name__" 165 (.str "law_in0156_01" 564), ent3 "__doc__" 166 .none, ent3 "__package__" 167 .none, ent3 "__loader__" 168 (.builtin "__main__.__loader__#opaque"), ent3 "__spec__" 169 .none, ent3 "__annotations__" 170 (.ref 6), ent3 "__builtins__" 171 (.ref 4), ent3 "__file__" 173 (.str "/claim/cut.py" 172), ent3 "__cached__" 174 .none, ent3 "_sre" 275 (.ref 12), ent3 "eq" 291 (.ref 38), ent3 "and_" 299 (.ref 45), ent3 "lshift" 307 (.ref 52), ent3 "or_" 315 (.ref 59), ent3 "rshift" 323 (.ref 66), ent3 "indexOf" 333 (.ref 73), ent3 "_twin_re_1" 371 (.ref 78), ent3 "_special_chars_map" 519 (.ref 80), ent3 "escape" 526 (.ref 90), ent3 "_translate" 547 (.ref 97), ent3 "sorted_list_difference" 563 (.ref 104), ent3 "_law_signs" 571 (.ref 109), ent3 "_law_rows" 581 (.ref 116), ent3 "_law_shared" 591 (.ref 123), ent3 "_law_having" 601 (.ref 130), ent3 "_law_next" 613 (.ref 137), ent3 "_law_blocks" 622 (.ref 144), ent3 "_law_due" 628 (.ref 149), ent3 "_law_item" 634 (.ref 154), ent3 "_law_reads" 645 (.ref 161), ent3 "_law_taken" 651 (.ref 166), ent3 "_law_told" 657 (.ref 171), ent3 "law" 663 (.ref 176)]
/-- what is known of the heap behind the top -/
noncomputable def K0 (p : Params) : Frag := [at2 2 { cls := .none, data := strEnts p stEnts },
  at2 3 { cls := .type "dict", data := strEnts p mnEnts },
  at2 80 { cls := .type "dict", data := mapEnts [num3 40 375 379, num3 41 381 385, num3 91 387 391, num3 93 393 397, num3 123 399 403, num3 125 405 409, num3 63 411 415, num3 42 417 421, num3 43 423 427, num3 45 429 433, num3 124 435 439, num3 94 441 445, num3 36 447 451, num3 92 453 457, num3 46 459 463, num3 38 465 469, num3 126 471 475, num3 35 477 481, num3 32 483 487, num3 9 489 493, num3 10 495 499, num3 13 501 505, num3 11 507 511, num3 12 513 517] },
  at2 77 twinCode, at2 78 (twinObj 77 335 370),
  at2 37 (mkCode "eq" 284 3 2 32 33 (.ref 34) (.ref 35) 36 289 290), at2 38 (mkFn "eq" 37 (.str "cpy313.operator" 282)),
  at2 44 (mkCode "and_" 292 5 2 39 40 (.ref 41) (.ref 42) 43 297 298), at2 45 (mkFn "and_" 44 (.str "cpy313.operator" 282)),
  at2 51 (mkCode "lshift" 300 7 2 46 47 (.ref 48) (.ref 49) 50 305 306), at2 52 (mkFn "lshift" 51 (.str "cpy313.operator" 282)),
  at2 58 (mkCode "or_" 308 9 2 53 54 (.ref 55) (.ref 56) 57 313 314), at2 59 (mkFn "or_" 58 (.str "cpy313.operator" 282)),
  at2 65 (mkCode "rshift" 316 11 2 60 61 (.ref 62) (.ref 63) 64 321 322), at2 66 (mkFn "rshift" 65 (.str "cpy313.operator" 282)),
  at2 72 (mkCode "indexOf" 324 13 2 67 68 (.ref 69) (.ref 70) 71 331 332), at2 73 (mkFn "indexOf" 72 (.str "cpy313.operator" 282)),
  at2 89 (mkCode "escape" 520 22 1 84 85 (.ref 86) (.ref 87) 88 524 525), at2 90 (mkFn "escape" 89 (.str "re" 372)),
  at2 96 (mkCode "_translate" 529 29 3 91 92 (.ref 93) (.ref 94) 95 545 546), at2 97 (mkFn "_translate" 96 (.str "cpy313.fnmatch" 527)),
  at2 103 (mkCode "sorted_list_difference" 550 92 2 98 99 (.ref 100) (.ref 101) 102 561 562), at2 104 (mkFn "sorted_list_difference" 103 (.str "cpy313.unittest.util" 548)),
  at2 108 (mkCode "_law_signs" 566 125 2 105 106 .none .none 107 569 570), at2 109 (mkFn "_law_signs" 108 (.str "law_in0156_01" 564)),
  at2 115 (mkCode "_law_rows" 572 128 1 110 111 (.ref 112) (.ref 113) 114 579 580), at2 116 (mkFn "_law_rows" 115 (.str "law_in0156_01" 564)),
  at2 122 (mkCode "_law_shared" 582 134 2 117 118 (.ref 119) (.ref 120) 121 589 590), at2 123 (mkFn "_law_shared" 122 (.str "law_in0156_01" 564)),
  at2 129 (mkCode "_law_having" 592 140 2 124 125 (.ref 126) (.ref 127) 128 599 600), at2 130 (mkFn "_law_having" 129 (.str "law_in0156_01" 564)),
  at2 136 (mkCode "_law_next" 602 146 2 131 132 (.ref 133) (.ref 134) 135 611 612), at2 137 (mkFn "_law_next" 136 (.str "law_in0156_01" 564)),
  at2 143 (mkCode "_law_blocks" 614 155 1 138 139 (.ref 140) (.ref 141) 142 620 621), at2 144 (mkFn "_law_blocks" 143 (.str "law_in0156_01" 564)),
  at2 148 (mkCode "_law_due" 623 162 1 145 146 .none .none 147 626 627), at2 149 (mkFn "_law_due" 148 (.str "law_in0156_01" 564)),
  at2 153 (mkCode "_law_item" 629 170 2 150 151 .none .none 152 632 633), at2 154 (mkFn "_law_item" 153 (.str "law_in0156_01" 564)),
  at2 160 (mkCode "_law_reads" 635 181 2 155 156 (.ref 157) (.ref 158) 159 643 644), at2 161 (mkFn "_law_reads" 160 (.str "law_in0156_01" 564)),
  at2 165 (mkCode "_law_taken" 646 192 2 162 163 .none .none 164 649 650), at2 166 (mkFn "_law_taken" 165 (.str "law_in0156_01" 564)),
  at2 170 (mkCode "_law_told" 652 197 2 167 168 .none .none 169 655 656), at2 171 (mkFn "_law_told" 170 (.str "law_in0156_01" 564)),
  at2 175 (mkCode "law" 658 214 1 172 173 .none .none 174 661 662), at2 176 (mkFn "law" 175 (.str "law_in0156_01" 564))]
/-- the addresses of that part -/
noncomputable def ad : List Addr := [2, 3, 80, 77, 78, 37, 38, 44, 45, 51, 52, 58, 59, 65, 66, 72, 73, 89, 90, 96, 97, 103, 104, 108, 109, 115, 116, 122, 123, 129, 130, 136, 137, 143, 144, 148, 149, 153, 154, 160, 161, 165, 166, 170, 171, 175, 176]
theorem ad_eq (p : Params) : ad = (K0 p).map (·.1) := rfl
end Mine
end
section
open PySem PySem.Spec PySem.Calls PyProof.Rows PySem.W
set_option maxRecDepth 100000
namespace Mine
noncomputable def lookG : List (Str × Value) → Str → Option Value
  | [], _ => none
  | (k, v) :: r, x => match nameEq x k with
    | true => some v
    | false => lookG r x
theorem lookG_mem : ∀ {l : List (Str × Value)} {x : Str} {v : Value}, lookG l x = some v → (x, v) ∈ l
  | (k, u) :: r, x, v, h => by
    unfold lookG at h
    split at h
    · rename_i e
      cases h
      rw [(nameEq_iff _ _).mp e]; exact List.mem_cons_self
    · exact List.mem_cons_of_mem _ (lookG_mem h)
noncomputable def gTab : List (Str × Value) := [("eq", .ref 38), ("and_", .ref 45), ("lshift", .ref 52), ("or_", .ref 59), ("rshift", .ref 66), ("indexOf", .ref 73), ("escape", .ref 90), ("sorted_list_difference", .ref 104), ("_law_signs", .ref 109), ("_law_rows", .ref 116), ("_law_shared", .ref 123), ("_law_having", .ref 130), ("_law_next", .ref 137), ("_law_blocks", .ref 144), ("_law_due", .ref 149), ("_law_item", .ref 154), ("_law_reads", .ref 161), ("_law_taken", .ref 166), ("_law_told", .ref 171), ("law", .ref 176), ("_translate", .ref 97), ("_twin_re_1", .ref 78), ("_special_chars_map", .ref 80)]
noncomputable def gBlt : List (Str × Value) := [("range", .type "range"), ("len", .builtin "len"), ("list", .type "list"), ("enumerate", .type "enumerate"), ("isinstance", .builtin "isinstance"), ("str", .type "str"), ("IndexError", .type "IndexError")]
noncomputable def G0 : Str → Option Value := lookG (gTab ++ gBlt)
noncomputable def objAt (K : Frag) (a : Addr) : Obj := (K.lookup a).getD { cls := .none, data := .plain }
noncomputable def fdAt (K : Frag) (a : Addr) : FuncData := match (objAt K a).data with | .func fd => fd | _ => default
noncomputable def esAt (K : Frag) (a : Addr) : Array DictEntry := match (objAt K a).data with | .dict es _ => es | _ => #[]
noncomputable def epAt (K : Frag) (a : Addr) : Nat := match (objAt K a).data with | .dict _ n => n | _ => 0
theorem lenS {α : Type} {l : List α} {n : Nat} (h : l.length = n + 1) : ∃ u r, l = u :: r ∧ r.length = n := by
  cases l with
  | nil => exact absurd h (Nat.succ_ne_zero n).symm
  | cons u r => exact ⟨u, r, rfl, Nat.succ.inj h⟩
theorem bnd1 {fd : FuncData} {ps : List Str} (hl : ps.length = 1) (h : ∀ u, bindArgs fd ⟨[u], []⟩ = pure (ps.zip [u])) : ∀ vals, vals.length = ps.length → bindArgs fd ⟨vals, []⟩ = pure (ps.zip vals) := fun vals hv => by
  obtain ⟨u, e⟩ := List.length_eq_one_iff.mp (hv.trans hl)
  rw [e]; exact h u
theorem bnd2 {fd : FuncData} {ps : List Str} (hl : ps.length = 2) (h : ∀ u v, bindArgs fd ⟨[u, v], []⟩ = pure (ps.zip [u, v])) : ∀ vals, vals.length = ps.length → bindArgs fd ⟨vals, []⟩ = pure (ps.zip vals) := fun vals hv => by
  obtain ⟨u, r, e, h1⟩ := lenS (hv.trans hl)
  obtain ⟨v, e1⟩ := List.length_eq_one_iff.mp h1
  rw [e, e1]; exact h u v
theorem bnd3 {fd : FuncData} {ps : List Str} (hl : ps.length = 3) (h : ∀ u v t, bindArgs fd ⟨[u, v, t], []⟩ = pure (ps.zip [u, v, t])) : ∀ vals, vals.length = ps.length → bindArgs fd ⟨vals, []⟩ = pure (ps.zip vals) := fun vals hv => by
  obtain ⟨u, r, e, h1⟩ := lenS (hv.trans hl)
  obtain ⟨v, q, e1, h2⟩ := lenS h1
  obtain ⟨t, e2⟩ := List.length_eq_one_iff.mp h2
  rw [e, e1, e2]; exact h u v t
section
variable (p : Params)
theorem bd_eq (u v : Value) : bindArgs (fdAt (K0 p) 38) ⟨[u, v], []⟩ = pure ((paramsOf "eq").zip [u, v]) := by kernel_rfl
theorem fok_eq : FnOk pw (K0 p) "eq" 38 (paramsOf "eq") (scOf "eq") (bodyOf "eq") (fdAt (K0 p) 38) :=
  ⟨⟨objAt (K0 p) 38, by kernel_rfl, by kernel_rfl⟩, by kernel_rfl, by kernel_rfl, by kernel_rfl, by kernel_rfl, by kernel_rfl, by kernel_rfl, by kernel_rfl, by kernel_rfl, by kernel_rfl, bnd2 (by kernel_rfl) (bd_eq p), ⟨argsOf "eq", by kernel_rfl, by kernel_rfl⟩, by kernel_rfl⟩
theorem bd_and_ (u v : Value) : bindArgs (fdAt (K0 p) 45) ⟨[u, v], []⟩ = pure ((paramsOf "and_").zip [u, v]) := by kernel_rfl
theorem fok_and_ : FnOk pw (K0 p) "and_" 45 (paramsOf "and_") (scOf "and_") (bodyOf "and_") (fdAt (K0 p) 45) :=
  ⟨⟨objAt (K0 p) 45, by kernel_rfl, by kernel_rfl⟩, by kernel_rfl, by kernel_rfl, by kernel_rfl, by kernel_rfl, by kernel_rfl, by kernel_rfl, by kernel_rfl, by kernel_rfl, by kernel_rfl, bnd2 (by kernel_rfl) (bd_and_ p), ⟨argsOf "and_", by kernel_rfl, by kernel_rfl⟩, by kernel_rfl⟩
theorem bd_lshift (u v : Value) : bindArgs (fdAt (K0 p) 52) ⟨[u, v], []⟩ = pure ((paramsOf "lshift").zip [u, v]) := by kernel_rfl
theorem fok_lshift : FnOk pw (K0 p) "lshift" 52 (paramsOf "lshift") (scOf "lshift") (bodyOf "lshift") (fdAt (K0 p) 52) :=
  ⟨⟨objAt (K0 p) 52, by kernel_rfl, by kernel_rfl⟩, by kernel_rfl, by kernel_rfl, by kernel_rfl, by kernel_rfl, by kernel_rfl, by kernel_rfl, by kernel_rfl, by kernel_rfl, by kernel_rfl, bnd2 (by kernel_rfl) (bd_lshift p), ⟨argsOf "lshift", by kernel_rfl, by kernel_rfl⟩, by kernel_rfl⟩
theorem bd_or_ (u v : Value) : bindArgs (fdAt (K0 p) 59) ⟨[u, v], []⟩ = pure ((paramsOf "or_").zip [u, v]) := by kernel_rfl
theorem fok_or_ : FnOk pw (K0 p) "or_" 59 (paramsOf "or_") (scOf "or_") (bodyOf "or_") (fdAt (K0 p) 59) :=
  ⟨⟨objAt (K0 p) 59, by kernel_rfl, by kernel_rfl⟩, by kernel_rfl, by kernel_rfl, by kernel_rfl, by kernel_rfl, by kernel_rfl, by kernel_rfl, by kernel_rfl, by kernel_rfl, by kernel_rfl, bnd2 (by kernel_rfl) (bd_or_ p), ⟨argsOf "or_", by kernel_rfl, by kernel_rfl⟩, by kernel_rfl⟩
theorem bd_rshift (u v : Value) : bindArgs (fdAt (K0 p) 66) ⟨[u, v], []⟩ = pure ((paramsOf "rshift").zip [u, v]) := by kernel_rfl
theorem fok_rshift : FnOk pw (K0 p) "rshift" 66 (paramsOf "rshift") (scOf "rshift") (bodyOf "rshift") (fdAt (K0 p) 66) :=
  ⟨⟨objAt (K0 p) 66, by kernel_rfl, by kernel_rfl⟩, by kernel_rfl, by kernel_rfl, by kernel_rfl, by kernel_rfl, by kernel_rfl, by kernel_rfl, by kernel_rfl, by kernel_rfl, by kernel_rfl, bnd2 (by kernel_rfl) (bd_rshift p), ⟨argsOf "rshift", by kernel_rfl, by kernel_rfl⟩, by kernel_rfl⟩
theorem bd_indexOf (u v : Value) : bindArgs (fdAt (K0 p) 73) ⟨[u, v], []⟩ = pure ((paramsOf "indexOf").zip [u, v]) := by kernel_rfl
theorem fok_indexOf : FnOk pw (K0 p) "indexOf" 73 (paramsOf "indexOf") (scOf "indexOf") (bodyOf "indexOf") (fdAt (K0 p) 73) :=
  ⟨⟨objAt (K0 p) 73, by kernel_rfl, by kernel_rfl⟩, by kernel_rfl, by kernel_rfl, by kernel_rfl, by kernel_rfl, by kernel_rfl, by kernel_rfl, by kernel_rfl, by kernel_rfl, by kernel_rfl, bnd2 (by kernel_rfl) (bd_indexOf p), ⟨argsOf "indexOf", by kernel_rfl, by kernel_rfl⟩, by kernel_rfl⟩
theorem bd_escape (u : Value) : bindArgs (fdAt (K0 p) 90) ⟨[u], []⟩ = pure ((paramsOf "escape").zip [u]) := by kernel_rfl
theorem fok_escape : FnOk pw (K0 p) "escape" 90 (paramsOf "escape") (scOf "escape") (bodyOf "escape") (fdAt (K0 p) 90) :=
  ⟨⟨objAt (K0 p) 90, by kernel_rfl, by kernel_rfl⟩, by kernel_rfl, by kernel_rfl, by kernel_rfl, by kernel_rfl, by kernel_rfl, by kernel_rfl, by kernel_rfl, by kernel_rfl, by kernel_rfl, bnd1 (by kernel_rfl) (bd_escape p), ⟨argsOf "escape", by kernel_rfl, by kernel_rfl⟩, by kernel_rfl⟩
theorem bd_sorted_list_difference (u v : Value) : bindArgs (fdAt (K0 p) 104) ⟨[u, v], []⟩ = pure ((paramsOf "sorted_list_difference").zip [u, v]) := by kernel_rfl
theorem fok_sorted_list_difference : FnOk pw (K0 p) "sorted_list_difference" 104 (paramsOf "sorted_list_difference") (scOf "sorted_list_difference") (bodyOf "sorted_list_difference") (fdAt (K0 p) 104) :=
  ⟨⟨objAt (K0 p) 104, by kernel_rfl, by kernel_rfl⟩, by kernel_rfl, by kernel_rfl, by kernel_rfl, by kernel_rfl, by kernel_rfl, by kernel_rfl, by kernel_rfl, by kernel_rfl, by kernel_rfl, bnd2 (by kernel_rfl) (bd_sorted_list_difference p), ⟨argsOf "sorted_list_difference", by kernel_rfl, by kernel_rfl⟩, by kernel_rfl⟩
theorem bd__law_signs (u v : Value) : bindArgs (fdAt (K0 p) 109) ⟨[u, v], []⟩ = pure ((paramsOf "_law_signs").zip [u, v]) := by kernel_rfl
theorem fok__law_signs : FnOk pw (K0 p) "_law_signs" 109 (paramsOf "_law_signs") (scOf "_law_signs") (bodyOf "_law_signs") (fdAt (K0 p) 109) :=
  ⟨⟨objAt (K0 p) 109, by kernel_rfl, by kernel_rfl⟩, by kernel_rfl, by kernel_rfl, by kernel_rfl, by kernel_rfl, by kernel_rfl, by kernel_rfl, by kernel_rfl, by kernel_rfl, by kernel_rfl, bnd2 (by kernel_rfl) (bd__law_signs p), ⟨argsOf "_law_signs", by kernel_rfl, by kernel_rfl⟩, by kernel_rfl⟩
theorem bd__law_rows (u : Value) : bindArgs (fdAt (K0 p) 116) ⟨[u], []⟩ = pure ((paramsOf "_law_rows").zip [u]) := by kernel_rfl
theorem fok__law_rows : FnOk pw (K0 p) "_law_rows" 116 (paramsOf "_law_rows") (scOf "_law_rows") (bodyOf "_law_rows") (fdAt (K0 p) 116) :=
  ⟨⟨objAt (K0 p) 116, by kernel_rfl, by kernel_rfl⟩, by kernel_rfl, by kernel_rfl, by kernel_rfl, by kernel_rfl, by kernel_rfl, by kernel_rfl, by kernel_rfl, by kernel_rfl, by kernel_rfl, bnd1 (by kernel_rfl) (bd__law_rows p), ⟨argsOf "_law_rows", by kernel_rfl, by kernel_rfl⟩, by kernel_rfl⟩
theorem bd__law_shared (u v : Value) : bindArgs (fdAt (K0 p) 123) ⟨[u, v], []⟩ = pure ((paramsOf "_law_shared").zip [u, v]) := by kernel_rfl
theorem fok__law_shared : FnOk pw (K0 p) "_law_shared" 123 (paramsOf "_law_shared") (scOf "_law_shared") (bodyOf "_law_shared") (fdAt (K0 p) 123) :=
  ⟨⟨objAt (K0 p) 123, by kernel_rfl, by kernel_rfl⟩, by kernel_rfl, by kernel_rfl, by kernel_rfl, by kernel_rfl, by kernel_rfl, by kernel_rfl, by kernel_rfl, by kernel_rfl, by kernel_rfl, bnd2 (by kernel_rfl) (bd__law_shared p), ⟨argsOf "_law_shared", by kernel_rfl, by kernel_rfl⟩, by kernel_rfl⟩
theorem bd__law_having (u v : Value) : bindArgs (fdAt (K0 p) 130) ⟨[u, v], []⟩ = pure ((paramsOf "_law_having").zip [u, v]) := by kernel_rfl
theorem fok__law_having : FnOk pw (K0 p) "_law_having" 130 (paramsOf "_law_having") (scOf "_law_having") (bodyOf "_law_having") (fdAt (K0 p) 130) :=
  ⟨⟨objAt (K0 p) 130, by kernel_rfl, by kernel_rfl⟩, by kernel_rfl, by kernel_rfl, by kernel_rfl, by kernel_rfl, by kernel_rfl, by kernel_rfl, by kernel_rfl, by kernel_rfl, by kernel_rfl, bnd2 (by kernel_rfl) (bd__law_having p), ⟨argsOf "_law_having", by kernel_rfl, by kernel_rfl⟩, by kernel_rfl⟩
theorem bd__law_next (u v : Value) : bindArgs (fdAt (K0 p) 137) ⟨[u, v], []⟩ = pure ((paramsOf "_law_next").zip [u, v]) := by kernel_rfl
theorem fok__law_next : FnOk pw (K0 p) "_law_next" 137 (paramsOf "_law_next") (scOf "_law_next") (bodyOf "_law_next") (fdAt (K0 p) 137) :=
  ⟨⟨objAt (K0 p) 137, by kernel_rfl, by kernel_rfl⟩, by kernel_rfl, by kernel_rfl, by kernel_rfl, by kernel_rfl, by kernel_rfl, by kernel_rfl, by kernel_rfl, by kernel_rfl, by kernel_rfl, bnd2 (by kernel_rfl) (bd__law_next p), ⟨argsOf "_law_next", by kernel_rfl, by kernel_rfl⟩, by kernel_rfl⟩
theorem bd__law_blocks (u : Value) : bindArgs (fdAt (K0 p) 144) ⟨[u], []⟩ = pure ((paramsOf "_law_blocks").zip [u]) := by kernel_rfl
theorem fok__law_blocks : FnOk pw (K0 p) "_law_blocks" 144 (paramsOf "_law_blocks") (scOf "_law_blocks") (bodyOf "_law_blocks") (fdAt (K0 p) 144) :=
  ⟨⟨objAt (K0 p) 144, by kernel_rfl, by kernel_rfl⟩, by kernel_rfl, by kernel_rfl, by kernel_rfl, by kernel_rfl, by kernel_rfl, by kernel_rfl, by kernel_rfl, by kernel_rfl, by kernel_rfl, bnd1 (by kernel_rfl) (bd__law_blocks p), ⟨argsOf "_law_blocks", by kernel_rfl, by kernel_rfl⟩, by kernel_rfl⟩
theorem bd__law_due (u : Value) : bindArgs (fdAt (K0 p) 149) ⟨[u], []⟩ = pure ((paramsOf "_law_due").zip [u]) := by kernel_rfl
theorem fok__law_due : FnOk pw (K0 p) "_law_due" 149 (paramsOf "_law_due") (scOf "_law_due") (bodyOf "_law_due") (fdAt (K0 p) 149) :=
  ⟨⟨objAt (K0 p) 149, by kernel_rfl, by kernel_rfl⟩, by kernel_rfl, by kernel_rfl, by kernel_rfl, by kernel_rfl, by kernel_rfl, by kernel_rfl, by kernel_rfl, by kernel_rfl, by kernel_rfl, bnd1 (by kernel_rfl) (bd__law_due p), ⟨argsOf "_law_due", by kernel_rfl, by kernel_rfl⟩, by kernel_rfl⟩
theorem bd__law_item (u v : Value) : bindArgs (fdAt (K0 p) 154) ⟨[u, v], []⟩ = pure ((paramsOf "_law_item").zip [u, v]) := by kernel_rfl
theorem fok__law_item : FnOk pw (K0 p) "_law_item" 154 (paramsOf "_law_item") (scOf "_law_item") (bodyOf "_law_item") (fdAt (K0 p) 154) :=
  ⟨⟨objAt (K0 p) 154, by kernel_rfl, by kernel_rfl⟩, by kernel_rfl, by kernel_rfl, by kernel_rfl, by kernel_rfl, by kernel_rfl, by kernel_rfl, by kernel_rfl, by kernel_rfl, by kernel_rfl, bnd2 (by kernel_rfl) (bd__law_item p), ⟨argsOf "_law_item", by kernel_rfl, by kernel_rfl⟩, by kernel_rfl⟩
theorem bd__law_reads (u v : Value) : bindArgs (fdAt (K0 p) 161) ⟨[u, v], []⟩ = pure ((paramsOf "_law_reads").zip [u, v]) := by kernel_rfl
theorem fok__law_reads : FnOk pw (K0 p) "_law_reads" 161 (paramsOf "_law_reads") (scOf "_law_reads") (bodyOf "_law_reads") (fdAt (K0 p) 161) :=
  ⟨⟨objAt (K0 p) 161, by kernel_rfl, by kernel_rfl⟩, by kernel_rfl, by kernel_rfl, by kernel_rfl, by kernel_rfl, by kernel_rfl, by kernel_rfl, by kernel_rfl, by kernel_rfl, by kernel_rfl, bnd2 (by kernel_rfl) (bd__law_reads p), ⟨argsOf "_law_reads", by kernel_rfl, by kernel_rfl⟩, by kernel_rfl⟩
theorem bd__law_taken (u v : Value) : bindArgs (fdAt (K0 p) 166) ⟨[u, v], []⟩ = pure ((paramsOf "_law_taken").zip [u, v]) := by kernel_rfl
theorem fok__law_taken : FnOk pw (K0 p) "_law_taken" 166 (paramsOf "_law_taken") (scOf "_law_taken") (bodyOf "_law_taken") (fdAt (K0 p) 166) :=
  ⟨⟨objAt (K0 p) 166, by kernel_rfl, by kernel_rfl⟩, by kernel_rfl, by kernel_rfl, by kernel_rfl, by kernel_rfl, by kernel_rfl, by kernel_rfl, by kernel_rfl, by kernel_rfl, by kernel_rfl, bnd2 (by kernel_rfl) (bd__law_taken p), ⟨argsOf "_law_taken", by kernel_rfl, by kernel_rfl⟩, by kernel_rfl⟩
theorem bd__law_told (u v : Value) : bindArgs (fdAt (K0 p) 171) ⟨[u, v], []⟩ = pure ((paramsOf "_law_told").zip [u, v]) := by kernel_rfl
theorem fok__law_told : FnOk pw (K0 p) "_law_told" 171 (paramsOf "_law_told") (scOf "_law_told") (bodyOf "_law_told") (fdAt (K0 p) 171) :=
  ⟨⟨objAt (K0 p) 171, by kernel_rfl, by kernel_rfl⟩, by kernel_rfl, by kernel_rfl, by kernel_rfl, by kernel_rfl, by kernel_rfl, by kernel_rfl, by kernel_rfl, by kernel_rfl, by kernel_rfl, bnd2 (by kernel_rfl) (bd__law_told p), ⟨argsOf "_law_told", by kernel_rfl, by kernel_rfl⟩, by kernel_rfl⟩
theorem bd_law (u : Value) : bindArgs (fdAt (K0 p) 176) ⟨[u], []⟩ = pure ((paramsOf "law").zip [u]) := by kernel_rfl
theorem fok_law : FnOk pw (K0 p) "law" 176 (paramsOf "law") (scOf "law") (bodyOf "law") (fdAt (K0 p) 176) :=
  ⟨⟨objAt (K0 p) 176, by kernel_rfl, by kernel_rfl⟩, by kernel_rfl, by kernel_rfl, by kernel_rfl, by kernel_rfl, by kernel_rfl, by kernel_rfl, by kernel_rfl, by kernel_rfl, by kernel_rfl, bnd1 (by kernel_rfl) (bd_law p), ⟨argsOf "law", by kernel_rfl, by kernel_rfl⟩, by kernel_rfl⟩
theorem bd__translate (u v t : Value) : bindArgs (fdAt (K0 p) 97) ⟨[u, v, t], []⟩ = pure ((paramsOf "_translate").zip [u, v, t]) := by kernel_rfl
theorem fok__translate : FnOk pw (K0 p) "_translate" 97 (paramsOf "_translate") (scOf "_translate") (bodyOf "_translate") (fdAt (K0 p) 97) :=
  ⟨⟨objAt (K0 p) 97, by kernel_rfl, by kernel_rfl⟩, by kernel_rfl, by kernel_rfl, by kernel_rfl, by kernel_rfl, by kernel_rfl, by kernel_rfl, by kernel_rfl, by kernel_rfl, by kernel_rfl, bnd3 (by kernel_rfl) (bd__translate p), ⟨argsOf "_translate", by kernel_rfl, by kernel_rfl⟩, by kernel_rfl⟩

end
end Mine
end
section
open PySem PySem.Spec PySem.Calls PyProof.Rows PySem.W
set_option maxRecDepth 100000
namespace Mine
section
variable (p : Params)
noncomputable def strKeyB (e : DictEntry) : Bool := match e.key with | .str _ _ => true | _ => false
noncomputable def intKeyB (e : DictEntry) : Bool := match e.key with | .int i _ => decide (e.hash = hashInt i) | _ => false
theorem st_there : (K0 p).lookup cStatics = some (objAt (K0 p) cStatics) := by kernel_rfl
theorem st_data : (objAt (K0 p) cStatics).data = .dict (esAt (K0 p) cStatics) (epAt (K0 p) cStatics) := by kernel_rfl
theorem st_keys : (esAt (K0 p) cStatics).toList.all strKeyB = true := by kernel_rfl
theorem st_none : nsFind (esAt (K0 p) cStatics) sharingNotToldKey = none := by kernel_rfl
theorem nb0 (h : Heap) (X : (K0 p).In h) : NoneBooked h := by
  refine ⟨nsFind (esAt (K0 p) cStatics), ⟨_, _, _, X _ _ (st_there p), st_data p, fun e he => ?_, fun _ => rfl⟩, st_none p⟩
  have := List.all_eq_true.mp (st_keys p) e (by simpa using he)
  unfold strKeyB at this
  split at this
  · rename_i n t hk; exact ⟨n, t, hk⟩
  · cases this
theorem mp_there : (K0 p).lookup 80 = some (objAt (K0 p) 80) := by kernel_rfl
theorem mp_cls : (objAt (K0 p) 80).cls = .type "dict" := by kernel_rfl
theorem mp_dict : (objAt (K0 p) 80).dict = none := by kernel_rfl
theorem mp_slots : (objAt (K0 p) 80).slots = #[] := by kernel_rfl
theorem mp_data : (objAt (K0 p) 80).data = .dict (esAt (K0 p) 80) (epAt (K0 p) 80) := by kernel_rfl
theorem mp_keys : (esAt (K0 p) 80).toList.all intKeyB = true := by kernel_rfl
theorem mp_none : (escSigns.all fun c => (findBy Value.isInt (esAt (K0 p) 80) (Int.ofNat c)).isNone) = true := by kernel_rfl
theorem map0 : MapAt (K0 p) 80 := by
  refine ⟨_, _, _, mp_there p, mp_cls p, ⟨mp_dict p, mp_slots p⟩, mp_data p, fun e he => ?_, fun c hc => ?_⟩
  · have := List.all_eq_true.mp (mp_keys p) e (by simpa using he)
    unfold intKeyB at this
    split at this
    · rename_i i t hk; exact ⟨i, t, hk, of_decide_eq_true this⟩
    · cases this
  · have := List.all_eq_true.mp (mp_none p) c hc
    simpa using this
theorem tw_a : (K0 p).lookup 78 = some (twinObj 77 335 370) := by kernel_rfl
theorem tw_b : (K0 p).lookup 77 = some twinCode := by kernel_rfl
theorem tr_code : (fdAt (K0 p) 97).code = .ref 96 := by kernel_rfl
theorem tr_hd : codeHdIn (K0 p) 96 92 = true := by kernel_rfl
theorem facts0 : Facts (K0 p) 92 G0 where
  fn := by
    intro f hf
    simp only [List.mem_cons, List.not_mem_nil, or_false] at hf
    rcases hf with rfl | rfl | rfl | rfl | rfl | rfl | rfl | rfl | rfl | rfl | rfl | rfl | rfl | rfl | rfl | rfl | rfl | rfl | rfl | rfl
    · exact ⟨_, _, _, _, fok_eq p, by kernel_rfl⟩
    · exact ⟨_, _, _, _, fok_and_ p, by kernel_rfl⟩
    · exact ⟨_, _, _, _, fok_lshift p, by kernel_rfl⟩
    · exact ⟨_, _, _, _, fok_or_ p, by kernel_rfl⟩
    · exact ⟨_, _, _, _, fok_rshift p, by kernel_rfl⟩
    · exact ⟨_, _, _, _, fok_indexOf p, by kernel_rfl⟩
    · exact ⟨_, _, _, _, fok_escape p, by kernel_rfl⟩
    · exact ⟨_, _, _, _, fok_sorted_list_difference p, by kernel_rfl⟩
    · exact ⟨_, _, _, _, fok__law_signs p, by kernel_rfl⟩
    · exact ⟨_, _, _, _, fok__law_rows p, by kernel_rfl⟩
    · exact ⟨_, _, _, _, fok__law_shared p, by kernel_rfl⟩
    · exact ⟨_, _, _, _, fok__law_having p, by kernel_rfl⟩
    · exact ⟨_, _, _, _, fok__law_next p, by kernel_rfl⟩
    · exact ⟨_, _, _, _, fok__law_blocks p, by kernel_rfl⟩
    · exact ⟨_, _, _, _, fok__law_due p, by kernel_rfl⟩
    · exact ⟨_, _, _, _, fok__law_item p, by kernel_rfl⟩
    · exact ⟨_, _, _, _, fok__law_reads p, by kernel_rfl⟩
    · exact ⟨_, _, _, _, fok__law_taken p, by kernel_rfl⟩
    · exact ⟨_, _, _, _, fok__law_told p, by kernel_rfl⟩
    · exact ⟨_, _, _, _, fok_law p, by kernel_rfl⟩
  tr := ⟨_, _, _, _, fok__translate p, by kernel_rfl, fun env he => ⟨fun _ => ⟨96, he.trans (tr_code p), fun h X => codeHd_of_K X (tr_hd p)⟩, fun _ => ⟨78, by kernel_rfl, fun h X => ⟨77, 335, 370, X _ _ (tw_a p), X _ _ (tw_b p)⟩⟩⟩⟩
  range := by kernel_rfl
  len := by kernel_rfl
  list := by kernel_rfl
  enum := by kernel_rfl
  isi := by kernel_rfl
  str := by kernel_rfl
  ie := by kernel_rfl
  nb := nb0 p
  map := ⟨80, by kernel_rfl, map0 p, by decide⟩
noncomputable def refEq : Option (Option Value) → Value → Bool
  | some (some (.ref a)), .ref b => Nat.beq a b
  | _, _ => false
noncomputable def isNN : Option (Option Value) → Bool
  | some none => true
  | _ => false
theorem gt_all : (gTab.all fun q => refEq (nsIn (K0 p) mainGlobals q.1) q.2) = true := by kernel_rfl
theorem gb_all : (gBlt.all fun q => isNN (nsIn (K0 p) mainGlobals q.1)) = true := by kernel_rfl
theorem refEq_some {x : Option (Option Value)} {v : Value} (h : refEq x v = true) : x = some (some v) := by
  unfold refEq at h
  split at h
  · rw [Nat.eq_of_beq_eq_true h]
  · cases h
theorem isNN_some {x : Option (Option Value)} (h : isNN x = true) : x = some none := by
  unfold isNN at h
  split at h
  · rfl
  · cases h
theorem blt_boot : ∀ q ∈ gBlt, bootBuiltins q.1 = some q.2 ∧ q.1 ≠ "__name__" := by
  intro q hq
  unfold gBlt at hq
  simp only [List.mem_cons, List.not_mem_nil, or_false] at hq
  rcases hq with rfl | rfl | rfl | rfl | rfl | rfl | rfl <;> exact ⟨by kernel_rfl, by decide +kernel⟩
theorem no92 : (K0 p).lookup 92 = none := by kernel_rfl
end
end Mine
end
section
open PySem PySem.Spec PySem.Calls PyProof.Rows PySem.W
set_option maxRecDepth 100000
namespace Mine
theorem cd_there (p : Params) : (K0 p).lookup 96 = some (objAt (K0 p) 96) := by kernel_rfl
noncomputable def fsAt (K : Frag) (a : Addr) : Array Value := match (objAt K a).data with | .fields vs => vs | _ => #[]
theorem cd_cls (p : Params) : (objAt (K0 p) 96).cls = .type "code" := by kernel_rfl
theorem cd_data (p : Params) : (objAt (K0 p) 96).data = .fields (fsAt (K0 p) 96) := by kernel_rfl
theorem cd_tab (p : Params) : (fsAt (K0 p) 96)[11]? = some (.ref 92) := by kernel_rfl
theorem glob0 {pv : Program} {loose : List Str} {mean : ExcName → Option Value} {mg mb : Str → Option Value} {h : Heap} {p : Params} (X : (K0 p).In h) (T : Top pv loose mean mg mb h) : ∀ x v, G0 x = some v → mg x = some v ∨ (mg x = none ∧ mb x = some v) := by
  intro x v e
  have hm := lookG_mem e
  rcases List.mem_append.mp hm with hm | hm
  · have := List.all_eq_true.mp (gt_all p) _ hm
    exact .inl (mg_of X T.g (refEq_some this))
  · have := List.all_eq_true.mp (gb_all p) _ hm
    obtain ⟨h1, h2⟩ := blt_boot _ hm
    exact .inr ⟨mg_none_of X T.g (isNN_some this), (T.builtins _ h2).trans h1⟩
section
variable [Inhabited Base]
theorem wf0 {pv : Program} {loose : List Str} {mean : ExcName → Option Value} {mg mb : Str → Option Value} {h : Heap} {p : Params} (X : (K0 p).In h) (hT : h.get? 92 = some (tabObj #[])) (T : Top pv loose mean mg mb h) (hb : fbase = h.objs.size) {ob : Obj} (h1 : mg "__builtins__" = some (.ref bmA)) (h2 : bmA ≠ builtinsNs) (h3 : h.get? bmA = some ob) (h4 : ob.cls = .type "module") (h5 : ob.dict = some builtinsNs) (h6 : ob.data = .plain) :
    WF (K0 p) 92 G0 [] h := by
  have hg3 : bmA ≠ mainGlobals := fun q => by
    obtain ⟨o, es, ep, ho, hd, _⟩ := T.g
    rw [← q, h3] at ho; cases ho
    rw [h6] at hd; cases hd
  have hbP : bmA ≠ 92 := fun q => by
    rw [q, hT] at h3; cases h3; cases h6
  refine ⟨X, fun a o e q => ?_, fun a o e => ?_, ?_, ?_, ⟨mg, ob, T.g, h1, h2, hg3, hbP, h3, h4, h5, h6⟩, Nat.le_of_eq hb, fun L hL => (nomatch hL), ⟨mg, mb, T.g, T.b, glob0 X T⟩, T.nolimit, ⟨#[], hT, trivial⟩⟩
  · rw [q, no92] at e; cases e
  · rw [hb]; exact Heap.lt_size (X _ _ e)
  · rw [hb]; exact Heap.lt_size hT
  · rw [hb]; exact Heap.lt_size h3
theorem old0 {s s' : Shared} {p : Params} (X : (K0 p).In s.heap) (hT : s.heap.get? 92 = some (tabObj #[])) (hb : fbase = s.heap.objs.size) (g : Grow 92 s s') : OldK s.heap s'.heap := by
  obtain ⟨more, ht, _⟩ := g.tab #[] hT (trivial)
  have kp : ∀ b o, b ≠ 92 → s.heap.get? b = some o → s'.heap.get? b = some o := fun b o hbP e => g.keep b o hbP (fun _ => by rw [hb]; exact Heap.lt_size e) e
  refine ⟨fun b o e => ?_, fun b o e => ?_⟩
  · by_cases hbP : b = 92
    · subst hbP
      rw [hT] at e; cases e
      exact .inr (.inl ⟨⟨96, _, _, X _ _ (cd_there p), cd_cls p, cd_data p, cd_tab p⟩, rfl, #[], more, rfl, ht⟩)
    · exact .inl (kp b o hbP e)
  · by_cases hbP : b = 92
    · subst hbP; exact ⟨_, ht⟩
    · exact ⟨o, kp b o hbP e⟩
end
theorem room0 : Room [] 8 callerA := ⟨⟨⟨[], rfl, fun e he => (nomatch he)⟩, by decide, by decide⟩, rfl⟩
theorem law_top {pv : Program} {loose : List Str} {mean : ExcName → Option Value} {mg mb : Str → Option Value} {w : World} {s : Shared} (X : (K0 w.params).In s.heap) (hT : s.heap.get? 92 = some (tabObj #[])) (T : Top pv loose mean mg mb s.heap) (hg : s.gens = #[]) {fa : Addr} (hm : mg "law" = some (.ref fa))
    {l : Addr} {vs : List Value} {is : List Int} (hl : s.heap.IsList l vs.toArray) (hi : IntsAre vs is) (hn : is.length ≤ 63) {R : Result → Shared → Prop} (hR : ∀ s', OldK s.heap s'.heap → s'.os = s.os → AllBare s'.gens → R (.ok (.ret (.bool true))) s') :
    codeAny (model pw w) callerA (.call (.ref fa) ⟨[.ref l], []⟩) R s := by
  obtain ⟨bm, ob, h1, h2, h3, h4, h5, h6⟩ := T.bmain
  letI : Inhabited Base := ⟨⟨s.heap.objs.size, bm⟩⟩
  have hfa : G0 "law" = some (.ref fa) := by
    have e : G0 "law" = some (.ref 176) := by kernel_rfl
    rcases glob0 X T _ _ e with h | ⟨h, _⟩
    · rw [hm] at h; rw [h]; exact e
    · rw [hm] at h; cases h
  exact law_code (facts0 w.params) hfa (Nat.le_trans hn (by decide)) room0 (wf0 X hT T rfl h1 h2 h3 h4 h5 h6) hl hi fun s' g => hR s' (old0 X hT rfl g) g.os (g.gens (.of_eq hg))
end Mine
end
section
open PySem PySem.W PyProof.Rows
set_option maxRecDepth 100000
set_option maxHeartbeats 8000000
namespace Mine
noncomputable def notName : Stmt → Bool
  | .Assign [.Name x _] _ _ => !(x == (Str.ofString "__name__"))
  | _ => true
/-- the program without the lines that name its parts -/
noncomputable def view : Program := { pw with main := { pw.main with body := pw.main.body.filter notName } }
theorem dkS : (defOf view (Str.ofString "law")).isSome = true := by kernel_rfl
noncomputable def dk := (defOf view (Str.ofString "law")).get dkS
noncomputable abbrev hk : Hook := kmHook K0 ad ad_eq [92]
noncomputable abbrev lsN : List Str := [Str.ofString "_twin_re_1", Str.ofString "_special_chars_map"]
noncomputable abbrev xt : Shared → Bool := fun s => xlAt view [] s && recOk PySem.Challenge.rw_in0156_01.row.records s
/-- the top's run in a world, what it leaves -/
noncomputable abbrev HlP (w : World) : Prop := (openEnds treeTable pw w 4158).map (fun s => (openSeen view lsN (importedModules pw.main.body) xt true s, hk.obs s)) = some (openGood view lsN, hk.val w)
theorem hlFF (w : World) : HlP ((w.withFollow "special-get-raises" false).withFollow "comprehension-iter-twice" false) := by
  unfold HlP openEnds fencedOpening topFrom openGood expectedOf
  rw [PySem.W.Fast.te14364793385576792824, PySem.W.Fast.te10274390034422433532, PySem.W.Fast.te14289696077712309145, PySem.W.Fast.te1435165496053646825, PySem.W.Fast.te8920871248978507458, PySem.W.Fast.te14082659384304107361, PySem.W.Fast.te5923862056798008813, PySem.W.Fast.te4187177175401517315, PySem.W.Fast.te3399658132070893891, PySem.W.Fast.te3247288618530077131, PySem.W.Fast.te821141287760084731]
  kernel_rfl
theorem hlTF (w : World) : HlP ((w.withFollow "special-get-raises" true).withFollow "comprehension-iter-twice" false) := by
  unfold HlP openEnds fencedOpening topFrom openGood expectedOf
  rw [PySem.W.Fast.te14364793385576792824, PySem.W.Fast.te10274390034422433532, PySem.W.Fast.te14289696077712309145, PySem.W.Fast.te1435165496053646825, PySem.W.Fast.te8920871248978507458, PySem.W.Fast.te14082659384304107361, PySem.W.Fast.te5923862056798008813, PySem.W.Fast.te4187177175401517315, PySem.W.Fast.te3399658132070893891, PySem.W.Fast.te3247288618530077131, PySem.W.Fast.te821141287760084731]
  kernel_rfl
theorem hlFT (w : World) : HlP ((w.withFollow "special-get-raises" false).withFollow "comprehension-iter-twice" true) := by
  unfold HlP openEnds fencedOpening topFrom openGood expectedOf
  rw [PySem.W.Fast.te14364793385576792824, PySem.W.Fast.te10274390034422433532, PySem.W.Fast.te14289696077712309145, PySem.W.Fast.te1435165496053646825, PySem.W.Fast.te8920871248978507458, PySem.W.Fast.te14082659384304107361, PySem.W.Fast.te5923862056798008813, PySem.W.Fast.te4187177175401517315, PySem.W.Fast.te3399658132070893891, PySem.W.Fast.te3247288618530077131, PySem.W.Fast.te821141287760084731]
  kernel_rfl
theorem hlTT (w : World) : HlP ((w.withFollow "special-get-raises" true).withFollow "comprehension-iter-twice" true) := by
  unfold HlP openEnds fencedOpening topFrom openGood expectedOf
  rw [PySem.W.Fast.te14364793385576792824, PySem.W.Fast.te10274390034422433532, PySem.W.Fast.te14289696077712309145, PySem.W.Fast.te1435165496053646825, PySem.W.Fast.te8920871248978507458, PySem.W.Fast.te14082659384304107361, PySem.W.Fast.te5923862056798008813, PySem.W.Fast.te4187177175401517315, PySem.W.Fast.te3399658132070893891, PySem.W.Fast.te3247288618530077131, PySem.W.Fast.te821141287760084731]
  kernel_rfl
theorem hl_all (w : World) : HlP w := byRow2 "comprehension-iter-twice" (P := HlP) (byRow2 "special-get-raises" (P := fun w => HlP (w.withFollow "comprehension-iter-twice" false)) hlFF hlTF) (byRow2 "special-get-raises" (P := fun w => HlP (w.withFollow "comprehension-iter-twice" true)) hlFT hlTT) w
theorem ws : OpenLaw.wellSaid PySem.Challenge.rw_in0156_01 = true := by
  unfold OpenLaw.wellSaid
  rw [PySem.W.Fast.te17960256430627541270, PySem.W.Fast.te10501279942588096481, PySem.W.Fast.te8179353310426384613, PySem.W.Fast.te8326940854005059898, PySem.W.Fast.te9558739934217749035, PySem.W.Fast.te16286561074155671207, PySem.W.Fast.sDec_eq, PySem.W.Fast.named_eq, PySem.W.Fast.te6984425678791042302, PySem.W.Fast.te12879404354523853263, PySem.W.Fast.te482687673346738481, PySem.W.Fast.te17119622794617984870, PySem.W.Fast.te10792542408131684335]
  kernel_rfl
end Mine
end
section
open PySem PySem.W PyProof.Rows
set_option maxRecDepth 100000 in
set_option maxHeartbeats 8000000 in
theorem PySem.Challenge.cw_in0156_01_holds : PySem.Challenge.rw_in0156_01.Holds := by
  w_on
  refine holds_law Mine.ws fun said => ?_
  refine holds_open (d := Mine.dk.1) (kwd := Mine.dk.2) (q := Mine.view) (loose := Mine.lsN) (Xt := Mine.xt) (XP := XL Mine.view []) (Yf := Hook.obs Mine.hk) (Ya := Hook.val Mine.hk) (YP := Hook.says Mine.hk) (N := 4158) Mine.hl_all (Hook.of _) (Hook.keeps _) (fun s e => xl_of s (Bool.and_eq_true_iff.mp e).1) XL.keeps ?a1 ?a2 ?a3 (fun s e => recFacts_of (Bool.and_eq_true_iff.mp e).2) ?a4 ?a5 ?a6 ⟨rfl, rfl, rfl, rfl, rfl, by decide +kernel⟩ ?hw ?hc
  case a1 => exact (Option.some_get Mine.dkS).symm
  case a2 => kernel_rfl
  case a3 => kernel_rfl
  case a4 => rfl
  case a5 => assumption
  case a6 => decide +kernel
  case hw => w_witness2
  case hc =>
    intro w s₀ s₁ mg mb G Y fa o pm cd doc dV kV ho hd hcd hD hmg hg args vals as hpre hlay hrd hwl hlo
    have KX := km_in_of Y
    km_tabs Y
    have X := (Ground.X G).1
    have V := (Ground.X G).2
    refine Ground.open G ?_
    intro T B D TE TW
    try (refine guard_noD D (by decide +kernel) ?_; clear D)
    wrow_args hpre hlay hrd hwl hlo
    all_goals (
      first | refine callC_kw (enter_call ?_) | refine enter_call ?_
      w_top on)
    refine Mine.law_top (is := _) KX (hT8 92 (List.mem_singleton.mpr rfl)) T hg hmg (by assumption) (by assumption) (by omega) fun s' ho' hos hg' => ?_
    exact ⟨.inl ⟨_, _, [], rfl, fun _ => rfl, ReadsW.bool true, by first | rfl | wrow_post, fun _ => ⟨List.nodup_nil, fun _ hm => (nomatch hm)⟩⟩, ho', hos, hg'⟩
end
