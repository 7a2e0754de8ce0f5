import PyProof.Rows.All
import Wide.All
import OpenK.AllK
import Wide.FinOn
import PySem.Challenge.RW_kt0026_01
set_option Elab.async false
section
open PySem PySem.W PyProof.Rows PySem.Calls
set_option maxRecDepth 20000
namespace Mine
/-- a goal in a box: what is taken apart meanwhile writes no copy of it -/
theorem t_box {T : Prop} (h : ∀ G : Prop, (T → G) → G) : T := h T fun x => x
noncomputable abbrev Loc := Str → Option Value
noncomputable abbrev Led' := List (Addr × Obj)
/-- what stays fixed while a frame runs -/
structure FC where
  A : Around
  g : Heap
  lo : Addr
  env : Env
  os : OsState
  tabs : List Addr := []
  tok : Addr → Obj → Prop := fun _ _ => True

structure Ld (c : FC) (k : Led') (m : Loc) (news : Led') (s : Shared) : Prop where
  ns : s.heap.Ns c.env.locals m
  old : ∀ b o, c.g.get? b = some o → s.heap.get? b = some o
  above : c.g.objs.size ≤ c.lo
  locs : c.lo ≤ c.env.locals
  nw : ∀ p ∈ news, s.heap.get? p.1 = some p.2 ∧ c.lo ≤ p.1 ∧ p.1 ≠ c.env.locals
  ord : (news.map (·.1)).Pairwise (· > ·)
  kp : ∀ p ∈ k, s.heap.get? p.1 = some p.2 ∧ c.lo ≤ p.1 ∧ p.1 ≠ c.env.locals ∧ ∀ q ∈ news, q.1 ≠ p.1
  gens : AllBare s.gens
  os : s.os = c.os
  tb : ∀ P ∈ c.tabs, P < c.lo ∧ c.g.get? P = none ∧ ∃ o, s.heap.get? P = some o ∧ c.tok P o

noncomputable def Post {α : Type} (c : FC) (k : Led') (Q : α → Loc → Led' → Prop) (a : α) (s : Shared) : Prop := ∃ m news, Ld c k m news s ∧ Q a m news
noncomputable def Tr (M : Model) (c : FC) {α : Type} (t : Sem α) (m : Loc) (news : Led') (Q : α → Loc → Led' → Prop) (E : Led' → Value → Shared → Prop) : Prop :=
  ∀ k s, Ld c k m news s → wpAny M c.A t (Post c k Q) (E k) s

section
variable {M : Model} {c : FC} {α β : Type} {k : Led'} {m : Loc} {news : Led'} {E : Led' → Value → Shared → Prop}
theorem Ld.toks {s : Shared} (h : Ld c k m news s) (t : Nat) : Ld c k m news { s with toks := t } := ⟨h.ns, h.old, h.above, h.locs, h.nw, h.ord, h.kp, h.gens, h.os, h.tb⟩
theorem Ld.sub {s : Shared} (h : Ld c k m news s) {news' : Led'} (hs : news'.Sublist news) : Ld c k m news' s :=
  ⟨h.ns, h.old, h.above, h.locs, fun p hp => h.nw p (hs.subset hp), h.ord.sublist (hs.map _), fun p hp => let z := h.kp p hp; ⟨z.1, z.2.1, z.2.2.1, fun q hq => z.2.2.2 q (hs.subset hq)⟩, h.gens, h.os, h.tb⟩
/-- the heap has grown -/
theorem Ld.grow {s : Shared} (h : Ld c k m news s) {h' : Heap} {gs : Array GenState} {dr : Drawn} {tk : Nat} (hk : ∀ b o, s.heap.get? b = some o → h'.get? b = some o) (hg : AllBare gs) :
    Ld c k m news { heap := h', gens := gs, drawn := dr, toks := tk, os := s.os } :=
  ⟨h.ns.keeps hk, fun b o e => hk b o (h.old b o e), h.above, h.locs, fun p hp => ⟨hk _ _ (h.nw p hp).1, (h.nw p hp).2⟩, h.ord, fun p hp => ⟨hk _ _ (h.kp p hp).1, (h.kp p hp).2⟩, hg, h.os, fun P hP => let ⟨a, b, o, d, e⟩ := h.tb P hP; ⟨a, b, o, hk _ _ d, e⟩⟩
theorem Ld.locs_lt {s : Shared} (h : Ld c k m news s) : c.env.locals < s.heap.objs.size := let ⟨_, _, _, e, _⟩ := h.ns; Heap.lt_size e
theorem Ld.push {s : Shared} (h : Ld c k m news s) {o : Obj} (hf : o.isFreed = false) : Ld c k m ((s.heap.objs.size, o) :: news) { s with heap := s.heap.push o } := by
  have kk : ∀ b x, s.heap.get? b = some x → (s.heap.push o).get? b = some x := fun b x e => Heap.get?_push_of_some _ e
  have L := h.locs_lt
  refine ⟨h.ns.keeps kk, fun b x e => kk b x (h.old b x e), h.above, h.locs, fun p hp => ?_, ?_, fun p hp => ?_, h.gens, h.os, fun P hP => let ⟨a, b, o, d, e⟩ := h.tb P hP; ⟨a, b, o, kk _ _ d, e⟩⟩
  · rcases List.mem_cons.mp hp with rfl | hp
    · exact ⟨Heap.get?_push_size _ hf, Nat.le_of_lt (Nat.lt_of_le_of_lt h.locs L), Nat.ne_of_gt L⟩
    · exact ⟨kk _ _ (h.nw p hp).1, (h.nw p hp).2⟩
  · refine List.Pairwise.cons (fun b hb => ?_) h.ord
    obtain ⟨p, hp, rfl⟩ := List.mem_map.mp hb
    exact Heap.lt_size (h.nw p hp).1
  · have z := h.kp p hp
    refine ⟨kk _ _ z.1, z.2.1, z.2.2.1, fun q hq => ?_⟩
    rcases List.mem_cons.mp hq with rfl | hq
    · exact Nat.ne_of_gt (Heap.lt_size z.1)
    · exact z.2.2.2 q hq
theorem set_same' {α : Type} : ∀ {l : List α} {i : Nat} {a : α}, l[i]? = some a → l.set i a = l
  | [], _, _, h => by cases h
  | x :: l, 0, a, h => by cases h; rfl
  | x :: l, i + 1, a, h => by
    show x :: l.set i a = x :: l
    rw [set_same' (by simpa using h)]
theorem addr_inj {l : Led'} (ho : (l.map (·.1)).Pairwise (· > ·)) {i j : Nat} {p q : Addr × Obj} (hi : l[i]? = some p) (hj : l[j]? = some q) (e : p.1 = q.1) : i = j := by
  obtain ⟨li, ei⟩ := List.getElem?_eq_some_iff.mp hi
  obtain ⟨lj, ej⟩ := List.getElem?_eq_some_iff.mp hj
  have hp := List.pairwise_iff_getElem.mp ho
  rcases Nat.lt_trichotomy i j with h | h | h
  · have := hp i j (by simpa using li) (by simpa using lj) h
    simp only [List.getElem_map, ei, ej, e] at this
    exact absurd this (Nat.lt_irrefl _)
  · exact h
  · have := hp j i (by simpa using lj) (by simpa using li) h
    simp only [List.getElem_map, ei, ej, e] at this
    exact absurd this (Nat.lt_irrefl _)
theorem Ld.change {s : Shared} (h : Ld c k m news s) {i : Nat} {a : Addr} {o o' : Obj} (hi : news[i]? = some (a, o)) {h' : Heap} (hs : Heap.SameBut a s.heap h') (ha : h'.get? a = some o') {tk : Nat} :
    Ld c k m (news.set i (a, o')) { s with heap := h', toks := tk } := by
  have z := h.nw (a, o) (List.mem_of_getElem? hi)
  have ne : ∀ b x, c.g.get? b = some x → b ≠ a := fun b x e q => by
    subst q
    exact absurd (Nat.lt_of_lt_of_le (Heap.lt_size e) h.above) (Nat.not_lt.mpr z.2.1)
  have nk : ∀ p ∈ k, p.1 ≠ a := fun p hp => Ne.symm ((h.kp p hp).2.2.2 (a, o) (List.mem_of_getElem? hi))
  have nmap : (news.set i (a, o')).map (·.1) = news.map (·.1) := by
    rw [List.map_set]
    exact set_same' (by rw [List.getElem?_map, hi]; rfl)
  have mem : ∀ p ∈ news.set i (a, o'), p = (a, o') ∨ (p ∈ news ∧ p.1 ≠ a) := fun p hp => by
    obtain ⟨j, hj⟩ := List.getElem?_of_mem hp
    rw [List.getElem?_set] at hj
    split at hj
    · rename_i e
      split at hj
      · cases hj; exact .inl rfl
      · cases hj
    · rename_i hne
      refine .inr ⟨List.mem_of_getElem? hj, fun e => hne (addr_inj h.ord hi hj e.symm)⟩
  refine ⟨?_, fun b x e => (hs.2 b (ne b x e)).trans (h.old b x e), h.above, h.locs, fun p hp => ?_, by rw [nmap]; exact h.ord, fun p hp => ?_, h.gens, h.os, fun P hP => let ⟨a', b', o', d', e'⟩ := h.tb P hP; ⟨a', b', o', (hs.2 P (Nat.ne_of_lt (Nat.lt_of_lt_of_le a' z.2.1))).trans d', e'⟩⟩
  · exact h.ns.at' fun x e => (hs.2 _ (Ne.symm z.2.2)).trans e
  · rcases mem p hp with rfl | ⟨hp, hne⟩
    · exact ⟨ha, z.2⟩
    · exact ⟨(hs.2 _ hne).trans (h.nw p hp).1, (h.nw p hp).2⟩
  · have y := h.kp p hp
    refine ⟨(hs.2 _ (nk p hp)).trans y.1, y.2.1, y.2.2.1, fun q hq => ?_⟩
    rcases mem q hq with rfl | ⟨hq, _⟩
    · exact Ne.symm (nk p hp)
    · exact y.2.2.2 q hq
theorem Ld.store {s : Shared} (h : Ld c k m news s) {m' : Loc} {h' : Heap} (hn : h'.Ns c.env.locals m') (hs : Heap.SameBut c.env.locals s.heap h') {tk : Nat} : Ld c k m' news { s with heap := h', toks := tk } := by
  have ne : ∀ b x, c.g.get? b = some x → b ≠ c.env.locals := fun b x e q => by
    subst q
    exact absurd (Nat.lt_of_lt_of_le (Heap.lt_size e) h.above) (Nat.not_lt.mpr h.locs)
  exact ⟨hn, fun b x e => (hs.2 b (ne b x e)).trans (h.old b x e), h.above, h.locs, fun p hp => ⟨(hs.2 _ (h.nw p hp).2.2).trans (h.nw p hp).1, (h.nw p hp).2⟩, h.ord,
    fun p hp => ⟨(hs.2 _ (h.kp p hp).2.2.1).trans (h.kp p hp).1, (h.kp p hp).2⟩, h.gens, h.os, fun P hP => let ⟨a', b', o', d', e'⟩ := h.tb P hP; ⟨a', b', o', (hs.2 P (Nat.ne_of_lt (Nat.lt_of_lt_of_le a' h.locs))).trans d', e'⟩⟩

theorem Tr.mono {t : Sem α} {Q Q' : α → Loc → Led' → Prop} {E' : Led' → Value → Shared → Prop} (h : Tr M c t m news Q E) (hQ : ∀ a m' n', Q a m' n' → Q' a m' n') (hE : ∀ k e s, E k e s → E' k e s) : Tr M c t m news Q' E' :=
  fun k s hs => wpAny_mono (h k s hs) (fun a _ ⟨m', n', l, q⟩ => ⟨m', n', l, hQ a m' n' q⟩) (hE k)
theorem Tr.sub {t : Sem α} {Q : α → Loc → Led' → Prop} {news' : Led'} (hs : news'.Sublist news) (h : Tr M c t m news' Q E) : Tr M c t m news Q E := fun k s l => h k s (l.sub hs)
theorem Tr.pure {a : α} {Q : α → Loc → Led' → Prop} (h : Q a m news) : Tr M c (Pure.pure a : Sem α) m news Q E := fun _ _ l => wpAny_pure ⟨m, news, l, h⟩
theorem Tr.bind {t : Sem α} {f : α → Sem β} {Q : β → Loc → Led' → Prop} (h : Tr M c t m news (fun a m' n' => Tr M c (f a) m' n' Q E) E) : Tr M c (t >>= f) m news Q E :=
  fun k s l => wpAny_bind (wpAny_mono (h k s l) (fun _ s' ⟨_, _, l', q⟩ => q k s' l') fun _ _ e => e)
theorem Tr.map {t : Sem α} {f : α → β} {Q : β → Loc → Led' → Prop} (h : Tr M c t m news (fun a m' n' => Q (f a) m' n') E) : Tr M c (f <$> t) m news Q E :=
  fun k s l => wpAny_map (wpAny_mono (h k s l) (fun _ _ ⟨_, _, l', q⟩ => ⟨_, _, l', q⟩) fun _ _ e => e)
theorem Tr.rule {tag : String} {Q : Unit → Loc → Led' → Prop} (h : Q () m news) : Tr M c (rule tag) m news Q E := fun _ _ l => wpAny_rule ⟨m, news, l, h⟩
theorem Tr.standAt {pos : Pos} {Q : Unit → Loc → Led' → Prop} (h : Q () m news) : Tr M c (standAt pos) m news Q E := fun _ _ l => wpAny_standAt ⟨m, news, l, h⟩
theorem Tr.point {Q : Unit → Loc → Led' → Prop} (h : Q () m news) : Tr M c point m news Q E := fun _ _ l => wpAny_point ⟨m, news, l, h⟩
theorem Tr.holding {vs : List Value} {t : Sem α} {Q : α → Loc → Led' → Prop} (h : Tr M c t m news Q E) : Tr M c (holding vs t) m news Q E := fun k s l => wpAny_holding (h k s l)
theorem Tr.operate {vs : List Value} {t : Sem Value} {Q : Value → Loc → Led' → Prop} (h : Tr M c t m news Q E) : Tr M c (operate vs t) m news Q E :=
  fun k s l Γ p hΓ => by rw [Sem.wp_operate]; exact h k s l Γ p hΓ
theorem Tr.keep {vs : List Value} {t : Sem α} {Q : α → Loc → Led' → Prop} (h : Tr M c t m news Q E) : Tr M c (t.keep vs) m news Q E := fun k s l => Calls.wpAny_keep (h k s l)
theorem Tr.alloc {o : Obj} {Q : Addr → Loc → Led' → Prop} (hf : o.isFreed = false) (h : ∀ a, Q a m ((a, o) :: news)) : Tr M c (alloc o) m news Q E := fun _ _ l => wpAny_alloc ⟨m, _, l.push hf, h _⟩
theorem Tr.fresh {Q : Tok → Loc → Led' → Prop} (h : ∀ t, Q t m news) : Tr M c PySem.fresh m news Q E := fun _ _ l _ _ _ => ⟨m, news, l.toks _, h _⟩
theorem Tr.mkInt {i : Int} {Q : Value → Loc → Led' → Prop} (h : ∀ t, Q (.int i t) m news) : Tr M c (mkInt i) m news Q E := Tr.bind (Tr.fresh fun t => Tr.pure (h t))
theorem Tr.mkText {x : Str} {Q : Value → Loc → Led' → Prop} (h : ∀ t, Q (.str x t) m news) : Tr M c (mkText x) m news Q E := Tr.bind (Tr.fresh fun t => Tr.pure (h t))
theorem Tr.mkStr {x : Str} {Q : Value → Loc → Led' → Prop} (hz : x.length ≤ sizeLine) (h : ∀ t, Q (.str x t) m news) : Tr M c (mkStr x) m news Q E := by
  unfold PySem.mkStr
  rw [if_neg (Nat.not_lt.mpr hz)]
  exact Tr.bind (Tr.fresh fun t => Tr.pure (h t))
/-- a rule of the library's, over the state -/
theorem Tr.of {t : Sem α} {Q : α → Loc → Led' → Prop} (h : ∀ k s, Ld c k m news s → wpAny M c.A t (Post c k Q) (E k) s) : Tr M c t m news Q E := h
/-- what is there to be read -/
noncomputable def There (c : FC) (news : Led') (a : Addr) (o : Obj) : Prop := c.g.get? a = some o ∨ (a, o) ∈ news
theorem There.get {s : Shared} {a : Addr} {o : Obj} (h : There c news a o) (l : Ld c k m news s) : s.heap.get? a = some o := by
  rcases h with h | h
  · exact l.old _ _ h
  · exact (l.nw _ h).1
theorem Tr.load {a : Addr} {o : Obj} {Q : Obj → Loc → Led' → Prop} (ho : There c news a o) (h : Q o m news) : Tr M c (load a) m news Q E := fun _ _ l => wpAny_load (ho.get l) ⟨m, news, l, h⟩
end
end Mine
end
section
open PySem PySem.W PyProof.Rows PySem.Calls
set_option maxRecDepth 20000
namespace Mine
noncomputable abbrev KNext (Q : Flow → Loc → Led' → Prop) : Unit → Loc → Led' → Prop := fun _ m n => Q .next m n
noncomputable abbrev KRet (Q : Flow → Loc → Led' → Prop) : Value → Loc → Led' → Prop := fun v m n => Q (.ret v) m n
noncomputable abbrev KExpr (Q : Flow → Loc → Led' → Prop) : Value → Loc → Led' → Prop := fun v m n => v = .none ∧ Q .next m n
noncomputable abbrev KIf (M : Model) (c : FC) (env : Env) (x y : List Stmt) (Q : Flow → Loc → Led' → Prop) (E : Led' → Value → Shared → Prop) : Bool → Loc → Led' → Prop := fun b m n => if b then Tr M c (execs x env) m n Q E else Tr M c (execs y env) m n Q E
noncomputable abbrev KAsg (M : Model) (c : FC) (env : Env) (x : Str) (Q : Flow → Loc → Led' → Prop) (E : Led' → Value → Shared → Prop) : Value → Loc → Led' → Prop := fun v m n => Tr M c (storeName env x v) m n (KNext Q) E
noncomputable abbrev KAug2 (M : Model) (c : FC) (env : Env) (x : Str) (op : Operator) (old : Value) (Q : Flow → Loc → Led' → Prop) (E : Led' → Value → Shared → Prop) : Value → Loc → Led' → Prop := fun v m n => Tr M c (inplaceOp op old v) m n (KAsg M c env x Q E) E
noncomputable abbrev KAug1 (M : Model) (c : FC) (env : Env) (x : Str) (op : Operator) (e : Expr) (Q : Flow → Loc → Led' → Prop) (E : Led' → Value → Shared → Prop) : Value → Loc → Led' → Prop := fun old m n => Tr M c (eval e env) m n (KAug2 M c env x op old Q E) E
noncomputable abbrev KBin2 (M : Model) (c : FC) (op : Operator) (a : Value) (Q : Value → Loc → Led' → Prop) (E : Led' → Value → Shared → Prop) : Value → Loc → Led' → Prop := fun b m n => Tr M c (binaryOp op a b) m n Q E
noncomputable abbrev KBin1 (M : Model) (c : FC) (env : Env) (op : Operator) (r : Expr) (Q : Value → Loc → Led' → Prop) (E : Led' → Value → Shared → Prop) : Value → Loc → Led' → Prop := fun a m n => Tr M c (eval r env) m n (KBin2 M c op a Q E) E
noncomputable abbrev KCmp2 (M : Model) (c : FC) (op : CmpOp) (a : Value) (Q : Value → Loc → Led' → Prop) (E : Led' → Value → Shared → Prop) : Value → Loc → Led' → Prop := fun b m n => Tr M c (compareOp op a b) m n Q E
noncomputable abbrev KCmp1 (M : Model) (c : FC) (env : Env) (op : CmpOp) (r : Expr) (Q : Value → Loc → Led' → Prop) (E : Led' → Value → Shared → Prop) : Value → Loc → Led' → Prop := fun a m n => Tr M c (eval r env) m n (KCmp2 M c op a Q E) E
noncomputable abbrev KIs (Q : Bool → Loc → Led' → Prop) : Value → Loc → Led' → Prop := fun v m n => ∃ t, v = .bool t ∧ Q t m n
noncomputable abbrev KNot (Q : Bool → Loc → Led' → Prop) : Bool → Loc → Led' → Prop := fun b m n => Q (!b) m n
noncomputable abbrev KAnd (M : Model) (c : FC) (env : Env) (y : Expr) (Q : Bool → Loc → Led' → Prop) (E : Led' → Value → Shared → Prop) : Bool → Loc → Led' → Prop := fun b m n => if b then Tr M c (PySem.isTrue y env (eval y env)) m n Q E else Q false m n
noncomputable abbrev KOr (M : Model) (c : FC) (env : Env) (y : Expr) (Q : Bool → Loc → Led' → Prop) (E : Led' → Value → Shared → Prop) : Bool → Loc → Led' → Prop := fun b m n => if b then Q true m n else Tr M c (PySem.isTrue y env (eval y env)) m n Q E
noncomputable abbrev KTru (M : Model) (c : FC) (Q : Bool → Loc → Led' → Prop) (E : Led' → Value → Shared → Prop) : Value → Loc → Led' → Prop := fun v m n => Tr M c (truthy v) m n Q E
noncomputable abbrev KIfE (M : Model) (c : FC) (env : Env) (x y : Expr) (Q : Value → Loc → Led' → Prop) (E : Led' → Value → Shared → Prop) : Bool → Loc → Led' → Prop := fun b m n => if b then Tr M c (eval x env) m n Q E else Tr M c (eval y env) m n Q E
noncomputable abbrev KUn (M : Model) (c : FC) (op : PySem.UnaryOp) (Q : Value → Loc → Led' → Prop) (E : Led' → Value → Shared → Prop) : Value → Loc → Led' → Prop := fun v m n => Tr M c (unaryOp op v) m n Q E
noncomputable abbrev KSpl2 (v : Value) (Q : List Value → Loc → Led' → Prop) : List Value → Loc → Led' → Prop := fun vs m n => Q (v :: vs) m n
noncomputable abbrev KSpl1 (M : Model) (c : FC) (rest : List (Bool × Sem Value)) (Q : List Value → Loc → Led' → Prop) (E : Led' → Value → Shared → Prop) : Value → Loc → Led' → Prop := fun v m n => Tr M c (spliced rest) m n (KSpl2 v Q) E
section
variable {M : Model} {c : FC} {α β : Type} {m : Loc} {news : Led'} {E : Led' → Value → Shared → Prop} {env : Env}
/-- what is asked behind a walk, kept under one name: fewer copies of it in the proof -/
structure Held {α : Type} (Q₀ Q : α → Loc → Led' → Prop) : Prop where
  use : ∀ a m n, Q₀ a m n → Q a m n
theorem t_hold {t : Sem α} {Q : α → Loc → Led' → Prop} (h : ∀ Q', Held Q Q' → Tr M c t m news Q' E) : Tr M c t m news Q E := h Q ⟨fun _ _ _ x => x⟩
theorem t_use {Q₀ Q : α → Loc → Led' → Prop} {a : α} (hh : Held Q₀ Q) (h : Q₀ a m news) : Q a m news := hh.use a m news h
/-- behind a statement -/
noncomputable def After (M : Model) (c : FC) (rest : List Stmt) (env : Env) (Q : Flow → Loc → Led' → Prop) (E : Led' → Value → Shared → Prop) : Flow → Loc → Led' → Prop
  | .next, m, n => Tr M c (execs rest env) m n Q E
  | f, m, n => Q f m n
theorem t_cons {st : Stmt} {rest : List Stmt} {Q : Flow → Loc → Led' → Prop} (h : Tr M c (exec st env) m news (After M c rest env Q E) E) : Tr M c (execs (st :: rest) env) m news Q E := by
  rw [execs_cons]
  refine Tr.bind (h.mono (fun f m' n' q => ?_) fun _ _ _ e => e)
  cases f <;> first | exact q | exact Tr.pure q
theorem t_nil {Q : Flow → Loc → Led' → Prop} (h : Q .next m news) : Tr M c (execs [] env) m news Q E := Tr.pure h
theorem t_last {st : Stmt} {Q : Flow → Loc → Led' → Prop} (h : Tr M c (exec st env) m news Q E) : Tr M c (execs [st] env) m news Q E := by
  refine t_cons (h.mono (fun f m' n' q => ?_) fun _ _ _ e => e)
  cases f <;> first | exact q | exact t_nil q
theorem t_If {test : Expr} {body orelse : List Stmt} {pos : Pos} {Q : Flow → Loc → Led' → Prop}
    (h : Tr M c (PySem.isTrue test env (eval test env)) m news (KIf M c env body orelse Q E) E) : Tr M c (exec (.If test body orelse pos) env) m news Q E := by
  rw [exec_If]
  refine Tr.bind (Tr.standAt (Tr.bind (h.mono (fun b m' n' q => ?_) fun _ _ _ e => e)))
  cases b <;> exact q
theorem t_Return {e : Expr} {pos : Pos} {Q : Flow → Loc → Led' → Prop} (h : Tr M c (eval e env) m news (KRet Q) E) : Tr M c (exec (.Return (some e) pos) env) m news Q E := by
  rw [exec_Return_some]
  exact Tr.bind (Tr.standAt (Tr.bind (h.mono (fun _ _ _ q => Tr.pure q) fun _ _ _ e => e)))
theorem t_bindName {x : Str} {v : Value} {Q : Unit → Loc → Led' → Prop} (h : Tr M c (storeName env x v) m news Q E) : Tr M c (bindName env x v) m news Q E :=
  fun k s l => wpAny_bindName (h k s l)
theorem t_Assign {x : Str} {pos' pos : Pos} {value : Expr} {Q : Flow → Loc → Led' → Prop}
    (h : Tr M c (eval value env) m news (KAsg M c env x Q E) E)
    (hs : swapsWith value (some (.Name x pos')) pos.line env = Pure.pure false) : Tr M c (exec (.Assign [.Name x pos'] value pos) env) m news Q E := by
  rw [exec_Assign_Name env x pos' value pos hs]
  exact Tr.bind (Tr.standAt (Tr.bind (h.mono (fun v m' n' q => Tr.bind (Tr.standAt (Tr.bind (t_bindName (q.mono (fun _ _ _ z => Tr.pure z) fun _ _ _ e => e))))) fun _ _ _ e => e)))
theorem t_AugAssign {x : Str} {pos' pos : Pos} {op : Operator} {value : Expr} {Q : Flow → Loc → Led' → Prop}
    (h : Tr M c (loadName env x) m news (KAug1 M c env x op value Q E) E) :
    Tr M c (exec (.AugAssign (.Name x pos') op value pos) env) m news Q E := by
  rw [exec_AugAssign_Name]
  refine Tr.bind (Tr.standAt (Tr.bind (h.mono (fun old m₁ n₁ q₁ => ?_) fun _ _ _ e => e)))
  refine Tr.bind (Tr.holding (q₁.mono (fun v m₂ n₂ q₂ => ?_) fun _ _ _ e => e))
  refine Tr.bind (Tr.standAt (Tr.bind (Tr.operate (q₂.mono (fun r m₃ n₃ q₃ => ?_) fun _ _ _ e => e))))
  exact Tr.bind (Tr.standAt (Tr.bind (t_bindName (q₃.mono (fun _ _ _ z => Tr.pure z) fun _ _ _ e => e))))
theorem t_ExprStmt {e : Expr} {pos : Pos} {Q : Flow → Loc → Led' → Prop} (h : Tr M c (eval e env) m news (KExpr Q) E)
    (hi : interactive env = false) (hs : swapsWith e none pos.line env = Pure.pure false) : Tr M c (exec (.Expr e pos) env) m news Q E := by
  rw [exec_Expr env e pos hi hs]
  refine Tr.bind (Tr.standAt (Tr.bind (h.mono (fun v m' n' q => ?_) fun _ _ _ e => e)))
  rw [q.1, dropValue_plain (fun a e => by cases e)]
  exact Tr.pure q.2
theorem t_Pass {pos : Pos} {Q : Flow → Loc → Led' → Prop} (h : Q .next m news) : Tr M c (exec (.Pass pos) env) m news Q E := Tr.bind (Tr.standAt (Tr.pure h))
theorem t_Break {pos : Pos} {Q : Flow → Loc → Led' → Prop} (h : Q .brk m news) : Tr M c (exec (.Break pos) env) m news Q E := by
  have e : exec (.Break pos) env = (do standAt pos; Pure.pure .brk) := rfl
  rw [e]
  exact Tr.bind (Tr.standAt (Tr.pure h))
-- expressions
theorem t_IntC {i : Int} {k : Nat} {pos : Pos} {Q : Value → Loc → Led' → Prop} (h : ∀ t, Q (.int i t) m news) : Tr M c (eval (.Constant (.int i) k pos) env) m news Q E := Tr.mkInt h
theorem t_StrC {x : Str} {k : Nat} {pos : Pos} {Q : Value → Loc → Led' → Prop} (h : ∀ t, Q (.str x t) m news) : Tr M c (eval (.Constant (.str x) k pos) env) m news Q E := Tr.mkText h
theorem t_BoolC {b : Bool} {k : Nat} {pos : Pos} {Q : Value → Loc → Led' → Prop} (h : Q (.bool b) m news) : Tr M c (eval (.Constant (.bool b) k pos) env) m news Q E := Tr.pure h
theorem t_NoneC {k : Nat} {pos : Pos} {Q : Value → Loc → Led' → Prop} (h : Q .none m news) : Tr M c (eval (.Constant .none k pos) env) m news Q E := Tr.pure h
theorem t_Name {x : Str} {pos : Pos} {Q : Value → Loc → Led' → Prop} (h : Tr M c (loadName env x) m news Q E) (hd : (x == ("__debug__" : Str)) = false) : Tr M c (eval (.Name x pos) env) m news Q E := by
  rw [eval_Name env x pos hd]
  exact Tr.bind (Tr.standAt h)
theorem t_BinOp {l r : Expr} {op : Operator} {pos : Pos} {Q : Value → Loc → Led' → Prop}
    (h : Tr M c (eval l env) m news (KBin1 M c env op r Q E) E) : Tr M c (eval (.BinOp l op r pos) env) m news Q E := by
  rw [eval_BinOp]
  exact Tr.bind (h.mono (fun a m₁ n₁ q₁ => Tr.bind (Tr.holding (q₁.mono (fun b m₂ n₂ q₂ => Tr.bind (Tr.standAt (Tr.operate q₂))) fun _ _ _ e => e))) fun _ _ _ e => e)
theorem t_Compare {l r : Expr} {op : CmpOp} {pos : Pos} {Q : Value → Loc → Led' → Prop}
    (h : Tr M c (eval l env) m news (KCmp1 M c env op r Q E) E) (hm : behindInMarks op r = false) : Tr M c (eval (.Compare l [op] [r] pos) env) m news Q E := by
  rw [eval_Compare1, markedBehindIn_of_false hm]
  exact Tr.bind (h.mono (fun a m₁ n₁ q₁ => Tr.bind (Tr.holding (q₁.mono (fun b m₂ n₂ q₂ => Tr.bind (Tr.standAt (Tr.operate q₂))) fun _ _ _ e => e))) fun _ _ _ e => e)
theorem t_truthy_bool {b : Bool} {Q : Bool → Loc → Led' → Prop} (h : Q b m news) : Tr M c (truthy (.bool b)) m news Q E := fun _ _ l => wpAny_truthy_bool ⟨m, news, l, h⟩
/-- a comparison as a test: its answer is a bool -/
theorem t_isCompare {l r : Expr} {op : CmpOp} {pos : Pos} {whole : Sem Value} {Q : Bool → Loc → Led' → Prop}
    (h : Tr M c (eval l env) m news (KCmp1 M c env op r (KIs Q) E) E) (hm : behindInMarks op r = false) :
    Tr M c (PySem.isTrue (.Compare l [op] [r] pos) env whole) m news Q E := by
  rw [PySem.isTrue_Compare1, markedBehindIn_of_false hm]
  refine Tr.bind (h.mono (fun a m₁ n₁ q₁ => Tr.bind (Tr.holding (q₁.mono (fun b m₂ n₂ q₂ => Tr.bind (Tr.standAt (Tr.bind (Tr.operate (q₂.mono (fun v m₃ n₃ q₃ => ?_) fun _ _ _ e => e))))) fun _ _ _ e => e))) fun _ _ _ e => e)
  obtain ⟨t, rfl, q⟩ := q₃
  exact Tr.holding (t_truthy_bool q)
theorem t_isNot {x : Expr} {pos : Pos} {whole : Sem Value} {Q : Bool → Loc → Led' → Prop} (h : Tr M c (PySem.isTrue x env (eval x env)) m news (KNot Q) E) : Tr M c (PySem.isTrue (.UnaryOp .Not x pos) env whole) m news Q E := by
  have e : PySem.isTrue (.UnaryOp .Not x pos) env whole = (do return !(← PySem.isTrue x env (eval x env))) := by with_unfolding_all rfl
  rw [e]
  exact Tr.bind (h.mono (fun _ _ _ q => Tr.pure q) fun _ _ _ e => e)
theorem t_isAnd2 {x y : Expr} {pos : Pos} {whole : Sem Value} {Q : Bool → Loc → Led' → Prop}
    (h : Tr M c (PySem.isTrue x env (eval x env)) m news (KAnd M c env y Q E) E) : Tr M c (PySem.isTrue (.BoolOp .And [x, y] pos) env whole) m news Q E := by
  have e : ∀ z zs, allTrue .And (z :: zs) env = (PySem.isTrue z env (eval z env) >>= fun b => match b with | false => Pure.pure false | true => allTrue .And zs env) := fun z zs => congrArg (Bind.bind (PySem.isTrue z env (eval z env))) (funext fun b => by cases b <;> rfl)
  rw [show PySem.isTrue (.BoolOp .And [x, y] pos) env whole = allTrue .And [x, y] env by rfl, e x, e y]
  refine Tr.bind (h.mono (fun b m' n' q => ?_) fun _ _ _ e => e)
  cases b
  · exact Tr.pure q
  · refine Tr.bind (Tr.mono q (fun b m'' n'' q' => ?_) fun _ _ _ e => e)
    cases b <;> exact Tr.pure q'
theorem t_isOr2 {x y : Expr} {pos : Pos} {whole : Sem Value} {Q : Bool → Loc → Led' → Prop}
    (h : Tr M c (PySem.isTrue x env (eval x env)) m news (KOr M c env y Q E) E) : Tr M c (PySem.isTrue (.BoolOp .Or [x, y] pos) env whole) m news Q E := by
  have e : ∀ z zs, allTrue .Or (z :: zs) env = (PySem.isTrue z env (eval z env) >>= fun b => match b with | true => Pure.pure true | false => allTrue .Or zs env) := fun z zs => congrArg (Bind.bind (PySem.isTrue z env (eval z env))) (funext fun b => by cases b <;> rfl)
  rw [show PySem.isTrue (.BoolOp .Or [x, y] pos) env whole = allTrue .Or [x, y] env by rfl, e x, e y]
  refine Tr.bind (h.mono (fun b m' n' q => ?_) fun _ _ _ e => e)
  cases b
  · refine Tr.bind (Tr.mono q (fun b m'' n'' q' => ?_) fun _ _ _ e => e)
    cases b <;> exact Tr.pure q'
  · exact Tr.pure q
/-- any other test -/
theorem t_isPlain {e : Expr} {whole : Sem Value} {Q : Bool → Loc → Led' → Prop} (h : Tr M c whole m news (KTru M c Q E) E)
    (he : PySem.isTrue e env whole = (do let v ← whole; standAt e.pos; holding [v] (truthy v))) : Tr M c (PySem.isTrue e env whole) m news Q E := by
  rw [he]
  exact Tr.bind (h.mono (fun _ _ _ q => Tr.bind (Tr.standAt (Tr.holding q))) fun _ _ _ e => e)
theorem t_IfExp {test body orelse : Expr} {pos : Pos} {Q : Value → Loc → Led' → Prop}
    (h : Tr M c (PySem.isTrue test env (eval test env)) m news (KIfE M c env body orelse Q E) E) : Tr M c (eval (.IfExp test body orelse pos) env) m news Q E := by
  have e : eval (.IfExp test body orelse pos) env = (do if ← PySem.isTrue test env (eval test env) then eval body env else eval orelse env) := by with_unfolding_all rfl
  rw [e]
  refine Tr.bind (h.mono (fun b m' n' q => ?_) fun _ _ _ e => e)
  cases b <;> exact q
theorem t_UnaryOp {op : PySem.UnaryOp} {x : Expr} {pos : Pos} {Q : Value → Loc → Led' → Prop} (h : Tr M c (eval x env) m news (KUn M c op Q E) E) : Tr M c (eval (.UnaryOp op x pos) env) m news Q E := by
  have e : eval (.UnaryOp op x pos) env = (do let v ← eval x env; standAt pos; holding [v] (unaryOp op v)) := by with_unfolding_all rfl
  rw [e]
  exact Tr.bind (h.mono (fun _ _ _ q => Tr.bind (Tr.standAt (Tr.holding q))) fun _ _ _ e => e)
-- arguments
theorem t_spl0 {Q : List Value → Loc → Led' → Prop} (h : Q [] m news) : Tr M c (spliced []) m news Q E := Tr.pure h
theorem t_splS {x : Sem Value} {rest : List (Bool × Sem Value)} {Q : List Value → Loc → Led' → Prop}
    (h : Tr M c x m news (KSpl1 M c rest Q E) E) : Tr M c (spliced ((false, x) :: rest)) m news Q E := by
  rw [spliced]
  refine Tr.bind (h.mono (fun v m' n' q => ?_) fun _ _ _ e => e)
  simp only [Bool.false_eq_true, if_false]
  exact Tr.bind (Tr.pure (Tr.bind (Tr.holding (Tr.mono q (fun vs _ _ q' => Tr.pure q') fun _ _ _ e => e))))
theorem t_spl1 {x : Sem Value} {Q : List Value → Loc → Led' → Prop} (h : Tr M c x m news (fun v m' n' => Q [v] m' n') E) : Tr M c (spliced [(false, x)]) m news Q E := t_splS (h.mono (fun _ _ _ q => t_spl0 q) fun _ _ _ e => e)
theorem t_evalArgs {f : Value} {ts : List (Bool × Sem Value)} {Q : Args → Loc → Led' → Prop} (hp : ts.any (·.1) = false) (h : Tr M c (spliced ts) m news (fun vs m' n' => Q ⟨vs, []⟩ m' n') E) : Tr M c (evalArgs f true ts []) m news Q E := by
  have key : Tr M c (do let vs ← spliced ts; holding (vs ++ []) (do let kw : List (Str × Value) := ([] : List Str).zip (← evalAll []); return (⟨← (Pure.pure vs : Sem (List Value)), kw⟩ : Args))) m news Q E :=
    Tr.bind (h.mono (fun vs m' n' q => Tr.holding (Tr.bind (Tr.pure (Tr.bind (Tr.pure (Tr.pure q)))))) fun _ _ _ e => e)
  have e : PySem.evalArgs f true ts [] = (do let vs ← spliced ts; holding (vs ++ []) (do let kw : List (Str × Value) := ([] : List Str).zip (← evalAll []); return (⟨← (Pure.pure vs : Sem (List Value)), kw⟩ : Args))) := by
    unfold PySem.evalArgs
    match ts, hp with
    | [], _ => rfl
    | (false, x) :: rest, _ =>
      rfl
    | (true, x) :: rest, hp => simp at hp
  rw [e]; exact key
/-- what may be called without a frame's own keeper -/
inductive KeepOk (c : FC) (news : Led') : Value → Prop
  | builtin (id : String) : KeepOk c news (.builtin id)
  | type (n : String) : KeepOk c news (.type n)
  | fn {a : Addr} {o : Obj} {fd : FuncData} : There c news a o → o.data = .func fd → KeepOk c news (.ref a)
  | bound {a : Addr} {o : Obj} {vs : Array Value} : There c news a o → o.data = .fields vs → o.cls = .type "builtin_function_or_method" → KeepOk c news (.ref a)
noncomputable abbrev KCall (M : Model) (c : FC) (f : Value) (first : List Value) (Q : Value → Loc → Led' → Prop) (E : Led' → Value → Shared → Prop) : List Value → Loc → Led' → Prop := fun vs m n => KeepOk c n f ∧ Tr M c (call f (first ++ vs)) m n Q E
noncomputable abbrev KCallE (M : Model) (c : FC) (pos : Pos) (ts : List (Bool × Sem Value)) (Q : Value → Loc → Led' → Prop) (E : Led' → Value → Shared → Prop) : Value → Loc → Led' → Prop := fun f m n => Tr M c (callWith pos f [] ts []) m n Q E
theorem t_callWith {pos : Pos} {f : Value} {first : List Value} {ts : List (Bool × Sem Value)} {Q : Value → Loc → Led' → Prop} (hp : ts.any (·.1) = false)
    (h : Tr M c (spliced ts) m news (KCall M c f first Q E) E) : Tr M c (callWith pos f first ts []) m news Q E := by
  unfold PySem.callWith
  refine Tr.bind (Tr.holding (t_evalArgs hp (h.mono (fun vs m' n' q => Tr.bind (Tr.standAt ?_)) fun _ _ _ e => e)))
  obtain ⟨hk, q⟩ := q
  have tail : ∀ {t : Sem Value}, Tr M c t m' n' Q E → Tr M c (t >>= fun r => PySem.holding [r] point >>= fun _ => Pure.pure r) m' n' Q E :=
    fun ht => Tr.bind (ht.mono (fun _ _ _ hr => Tr.bind (Tr.holding (Tr.point (Tr.pure hr)))) fun _ _ _ e => e)
  simp only [hp, List.any_nil, Bool.or_false, Bool.false_eq_true, if_false]
  cases hk with
  | builtin id => exact Tr.bind (Tr.pure (tail q))
  | type n => exact Tr.bind (Tr.pure (tail q))
  | @fn a o fd ht hd =>
    refine Tr.bind (t := keeperOf (.ref a)) ?_
    unfold keeperOf
    refine Tr.bind (Tr.load ht ?_)
    rw [hd]
    refine Tr.pure ?_
    dsimp only
    split
    · exact tail q
    · exact tail (by unfold callMarked; exact Tr.keep q)
  | @bound a o vs ht hd hc =>
    refine Tr.bind (t := keeperOf (.ref a)) ?_
    unfold keeperOf
    refine Tr.bind (Tr.load ht ?_)
    rw [hd, hc]
    refine Tr.pure ?_
    exact tail q
theorem t_Call {func : Expr} {args : List Expr} {pos : Pos} {ts : List (Bool × Sem Value)} {Q : Value → Loc → Led' → Prop}
    (h : Tr M c (eval func env) m news (KCallE M c pos ts Q E) E)
    (he : eval (.Call func args [] pos) env = (do callWith pos (← eval func env) [] (backTo pos (starEach args env)) (backToKw pos (keywordEach [] env)))) (ht : backTo pos (starEach args env) = ts) : Tr M c (eval (.Call func args [] pos) env) m news Q E := by
  rw [he, ht]
  exact Tr.bind (h.mono (fun _ _ _ q => q) fun _ _ _ e => e)
end
end Mine
end
section
open PySem PySem.W PyProof.Rows PySem.Calls
set_option maxRecDepth 20000
namespace Mine
noncomputable abbrev pw := PySem.Challenge.pw_kt0026_01
noncomputable def upd (m : Loc) (x : Str) (v : Value) : Loc := fun y => if y = x then some v else m y
structure Gl where
  mg : Loc
  mb : Loc
  d : Nat := 0
  ps : Array Value := #[]
structure FnAt (G : Gl) (h : Heap) (name : Str) (params : Arguments) (body : List Stmt) (scope : Scope) (a : Addr) : Prop where
  nm : G.mg name = some (.ref a)
  obj : ∃ o pm cd doc, h.get? a = some o ∧ o.data = .func (docDef name params body scope pm cd doc) ∧ h.CodeRec cd name
noncomputable def bnames : List (Str × Value) := [("len", .builtin "len"), ("range", .type "range"), ("min", .builtin "min"), ("sum", .builtin "sum"), ("list", .type "list"), ("sorted", .builtin "sorted"), ("abs", .builtin "abs"),
  ("isinstance", .builtin "isinstance"), ("int", .type "int"), ("str", .type "str"), ("ord", .builtin "ord"), ("chr", .builtin "chr"), ("dict", .type "dict"), ("repr", .builtin "repr"), ("object", .type "object"),
  ("TypeError", .type "TypeError"), ("IndexError", .type "IndexError"), ("ValueError", .type "ValueError"), ("Exception", .type "Exception")]
structure GOk (G : Gl) (h : Heap) : Prop where
  g : h.Ns mainGlobals G.mg
  b : h.Ns builtinsNs G.mb
  nolimit : h.NoLimit
  nodigits : ∃ mc, h.Ns cStatics mc ∧ mc "sys.int_max_str_digits" = none
  bn : ∀ p ∈ bnames, G.mg p.1 = none ∧ G.mb p.1 = some p.2
theorem GOk.keeps {G : Gl} {h h' : Heap} (T : GOk G h) (hk : ∀ b o, h.get? b = some o → h'.get? b = some o) : GOk G h' :=
  ⟨T.g.keeps hk, T.b.keeps hk, T.nolimit.keeps hk, let ⟨mc, h1, h2⟩ := T.nodigits; ⟨mc, h1.keeps hk, h2⟩, T.bn⟩
theorem FnAt.keeps {G : Gl} {h h' : Heap} {name : Str} {params : Arguments} {body : List Stmt} {scope : Scope} {a : Addr} (T : FnAt G h name params body scope a) (hk : ∀ b o, h.get? b = some o → h'.get? b = some o) : FnAt G h' name params body scope a :=
  ⟨T.nm, let ⟨o, pm, cd, doc, h1, h2, h3⟩ := T.obj; ⟨o, pm, cd, doc, hk _ _ h1, h2, h3.keeps hk⟩⟩

/-- a frame of a plain def -/
structure CF (G : Gl) (c : FC) (sc : Scope) (d : Nat) : Prop where
  env : ∃ nm a cd, c.env = envOf nm sc c.env.locals a cd
  kind : sc.kind = .function
  ok : GOk G c.g
  hn : c.A.handled = none
  gd : c.A.guards = some []
  below : ∀ k m news s, Ld c k m news s → ∃ base outer, Below c.A base outer s.heap
  dp : c.A.depth + d < recursionLimit
  un : c.A.units + 4 * d + 100 < cLine
theorem CF.sc {G : Gl} {c : FC} {sc : Scope} {d : Nat} (F : CF G c sc d) : c.env.scope = sc := by obtain ⟨nm, a, cd, e⟩ := F.env; rw [e]; rfl
theorem CF.gl {G : Gl} {c : FC} {sc : Scope} {d : Nat} (F : CF G c sc d) : c.env.globals = mainGlobals := by obtain ⟨nm, a, cd, e⟩ := F.env; rw [e]; rfl
theorem CF.bi {G : Gl} {c : FC} {sc : Scope} {d : Nat} (F : CF G c sc d) : c.env.builtins = builtinsNs := by obtain ⟨nm, a, cd, e⟩ := F.env; rw [e]; rfl

section
variable {M : Model} {c : FC} {α β : Type} {k : Led'} {m : Loc} {news : Led'} {E : Led' → Value → Shared → Prop} {G : Gl} {sc : Scope} {d : Nat}
structure LocN (c : FC) (x : Str) : Prop where
  kind : c.env.scope.kind = .function
  loc : c.env.kindOf x = some .local
  nd : (x == ("__debug__" : Str)) = false
noncomputable def isLocB (sc : Scope) (x : Str) : Bool := (match sc.names.lookup x with | some .local => true | _ => false) && !(x == ("__debug__" : Str))
theorem CF.loc (F : CF G c sc d) {x : Str} (h : isLocB sc x = true) : LocN c x := by
  obtain ⟨h1, h2⟩ := Bool.and_eq_true_iff.mp h
  refine ⟨by rw [F.sc]; exact F.kind, ?_, by simpa using h2⟩
  unfold Env.kindOf
  rw [F.sc]
  revert h1
  split
  · rename_i e; intro _; exact e
  · intro e; cases e
theorem t_ld {x : Str} {pos : Pos} {v : Value} {Q : Value → Loc → Led' → Prop} (L : LocN c x) (hv : m x = some v) (h : Q v m news) : Tr M c (eval (.Name x pos) c.env) m news Q E :=
  t_Name (fun _ _ l => wpAny_loadName_local L.kind L.loc l.ns hv ⟨m, news, l, h⟩) L.nd
theorem t_ldn {x : Str} {v : Value} {Q : Value → Loc → Led' → Prop} (L : LocN c x) (hv : m x = some v) (h : Q v m news) : Tr M c (loadName c.env x) m news Q E :=
  fun _ _ l => wpAny_loadName_local L.kind L.loc l.ns hv ⟨m, news, l, h⟩
theorem t_st {x : Str} {v : Value} {Q : Unit → Loc → Led' → Prop} (L : LocN c x) (h : Q () (upd m x v) news) : Tr M c (storeName c.env x v) m news Q E :=
  fun _ _ l => wpAny_storeName_local L.loc l.ns (fun _ hn hs => ⟨_, news, l.store hn hs, h⟩) (by rw [L.kind]; rfl)
/-- a name that is no local one -/
noncomputable def Nm (c : FC) (x : Str) (v : Value) : Prop := ∀ (M : Model) (pos : Pos) (m : Loc) (news : Led') (Q : Value → Loc → Led' → Prop) (E : Led' → Value → Shared → Prop), Q v m news → Tr M c (eval (.Name x pos) c.env) m news Q E
theorem t_nm {x : Str} {pos : Pos} {v : Value} {Q : Value → Loc → Led' → Prop} (N : Nm c x v) (h : Q v m news) : Tr M c (eval (.Name x pos) c.env) m news Q E := N M pos m news Q E h
noncomputable def isGlobB (sc : Scope) (x : Str) : Bool := (match sc.names.lookup x with | some .globalImplicit => true | _ => false) && !(x == ("__debug__" : Str))
theorem CF.globKind (F : CF G c sc d) {x : Str} (h : isGlobB sc x = true) : c.env.kindOf x = some .globalImplicit ∧ (x == ("__debug__" : Str)) = false := by
  obtain ⟨h1, h2⟩ := Bool.and_eq_true_iff.mp h
  refine ⟨?_, by simpa using h2⟩
  unfold Env.kindOf
  rw [F.sc]
  revert h1
  split
  · rename_i e; intro _; exact e
  · intro e; cases e
theorem CF.bnm (F : CF G c sc d) {x : Str} {v : Value} (h : isGlobB sc x = true) (hm : (x, v) ∈ bnames) : Nm c x v := fun M pos m news Q E hq k' s l => by
  obtain ⟨k, nd⟩ := F.globKind h
  have z := F.ok.bn _ hm
  exact Name_function_global (by rw [F.sc]; exact F.kind) k (loadGlobal_builtin (by rw [F.gl]; exact F.ok.g.keeps l.old) z.1 (by rw [F.bi]; exact F.ok.b.keeps l.old) z.2 ⟨m, news, l, hq⟩) nd
theorem CF.gnm (F : CF G c sc d) {x : Str} {v : Value} (h : isGlobB sc x = true) (hm : G.mg x = some v) : Nm c x v := fun M pos m news Q E hq k' s l => by
  obtain ⟨k, nd⟩ := F.globKind h
  exact Name_function_global (by rw [F.sc]; exact F.kind) k (loadGlobal_global (by rw [F.gl]; exact F.ok.g.keeps l.old) hm ⟨m, news, l, hq⟩) nd

/-- what a def's call gives back: the value, and what of the new objects is worth telling -/
noncomputable def Spec (M : Model) (G : Gl) (d : Nat) (a : Addr) (vs : List Value) (pre : Heap → Prop) (post : Value → Led' → Prop) : Prop :=
  ∀ (A : Around) (s : Shared) (Q : Value → Shared → Prop) (E : Value → Shared → Prop), GOk G s.heap → (∃ base outer, Below A base outer s.heap) → A.depth + d < recursionLimit → A.units + 4 * d + 100 < cLine → A.handled = none → A.guards = some [] → AllBare s.gens → pre s.heap →
    (∀ r out h' gs dr tk, (∀ b o, s.heap.get? b = some o → h'.get? b = some o) → (∀ p ∈ out, h'.get? p.1 = some p.2 ∧ s.heap.objs.size ≤ p.1) → (out.map (·.1)).Pairwise (· > ·) → AllBare gs → post r out → Q r { heap := h', gens := gs, drawn := dr, toks := tk, os := s.os }) →
    wpAny M A (call (.ref a) vs) Q E s

theorem spec_ofD {prog : Program} {w : World} {name : Str} {params : Arguments} {body : List Stmt} {scope : Scope} {dV kV : Value} {a : Addr} {vs : List Value} {binds : List (Str × Value)} {pre : Heap → Prop} {post : Value → Led' → Prop}
    (hf : ∀ h, GOk G h → pre h → ∃ o pm cd doc, h.get? a = some o ∧ o.data = .func { docDef name params body scope pm cd doc with defaults := dV, kwdefaults := kV } ∧ h.CodeRec cd name)
    (hbind : ∀ (s : Shared) pm cd doc, pre s.heap → BindsTo s { docDef name params body scope pm cd doc with defaults := dV, kwdefaults := kV } ⟨vs, []⟩ binds)
    (hloc : ∀ x ∈ binds, scope.names.lookup x.1 = some .local)
    (hsc : (scope.isCoroutine = false ∧ scope.isGenerator = false ∧ scope.kind = .function) ∧ ∀ x ∈ scope.names, x.2 ≠ .cell)
    (h : ∀ c, CF G c scope d → pre c.g → Tr (model prog w) c (execs body c.env) (fun x => binds.reverse.lookup x) [] (fun fl _ n' => ∃ out, out.Sublist n' ∧ post (match fl with | .ret v => v | _ => .none) out) (fun _ _ _ => False)) :
    Spec (model prog w) G (d + 1) a vs pre post := by
  intro A s Q E hG hB hd hu hh hgd hgs hp hQ
  obtain ⟨base, outer, B⟩ := hB
  obtain ⟨o, pm, cd, doc, ho, hdat, hcd⟩ := hf _ hG hp
  refine wpAny_call (codeAny_call_def (Nat.lt_of_le_of_lt (Nat.le_add_right _ _) hd) ho hdat hG.nolimit hcd rfl (hbind s pm cd doc hp) hsc.2 hloc (fun h₁ hns hkeep => ?_) hsc.1.1 hsc.1.2.1 hsc.1.2.2)
  let c : FC := ⟨A.deeper (envOf name scope s.heap.objs.size a cd), s.heap, s.heap.objs.size, envOf name scope s.heap.objs.size a cd, s.os, [], fun _ _ => True⟩
  have hc : CF G c scope d := by
    refine ⟨⟨name, a, cd, rfl⟩, hsc.1.2.2, hG, hh, hgd, fun k m news s' l => ⟨base, _, B.push (name := name) (a := a) (cd := cd) ⟨l.ns, l.old, Nat.le_refl _⟩ hsc.1.2.2⟩, ?_, ?_⟩
    · show A.depth + 1 + d < recursionLimit
      (first | lia | omega)
    · show A.units + 3 + 4 * d + 100 < cLine
      (first | lia | omega)
  have l : Ld c [] (fun x => binds.reverse.lookup x) [] { s with heap := h₁, toks := s.toks + binds.length } :=
    ⟨hns, hkeep, Nat.le_refl _, Nat.le_refl _, fun _ hp => (nomatch hp), List.Pairwise.nil, fun _ hp => (nomatch hp), hgs, rfl, fun _ hp => (nomatch hp)⟩
  refine wpAny_mono (h c hc hp [] _ l) (fun fl s' hl => ?_) fun _ _ e => e.elim
  obtain ⟨m', n', l', out, hs, hpost⟩ := hl
  obtain ⟨h', gs, dr, tk, os⟩ := s'
  have hos : os = s.os := l'.os
  subst hos
  have key := hQ _ out h' gs dr tk l'.old (fun p hp => let z := l'.nw p (hs.subset hp); ⟨z.1, z.2.1⟩) (l'.ord.sublist (hs.map _)) l'.gens hpost
  cases fl <;> exact key
theorem spec_of {prog : Program} {w : World} {name : Str} {params : Arguments} {body : List Stmt} {scope : Scope} {a : Addr} {vs : List Value} {binds : List (Str × Value)} {pre : Heap → Prop} {post : Value → Led' → Prop}
    (hf : ∀ h, GOk G h → pre h → FnAt G h name params body scope a)
    (hbind : ∀ pm cd doc, bindArgs (docDef name params body scope pm cd doc) ⟨vs, []⟩ = Pure.pure binds)
    (hloc : ∀ x ∈ binds, scope.names.lookup x.1 = some .local)
    (hsc : (scope.isCoroutine = false ∧ scope.isGenerator = false ∧ scope.kind = .function) ∧ ∀ x ∈ scope.names, x.2 ≠ .cell)
    (h : ∀ c, CF G c scope d → pre c.g → Tr (model prog w) c (execs body c.env) (fun x => binds.reverse.lookup x) [] (fun fl _ n' => ∃ out, out.Sublist n' ∧ post (match fl with | .ret v => v | _ => .none) out) (fun _ _ _ => False)) :
    Spec (model prog w) G (d + 1) a vs pre post :=
  spec_ofD (params := params) (dV := .none) (kV := .none) (fun h g p => (hf h g p).obj) (fun s pm cd doc _ => BindsTo.of_eq (hbind pm cd doc)) hloc hsc h
/-- what a frame must have for a call -/
structure CO (G : Gl) (c : FC) (d : Nat) : Prop where
  ok : GOk G c.g
  hn : c.A.handled = none
  gd : c.A.guards = some []
  below : ∀ k m news s, Ld c k m news s → ∃ base outer, Below c.A base outer s.heap
  dp : c.A.depth + d < recursionLimit
  un : c.A.units + 4 * d + 100 < cLine
theorem CF.co (F : CF G c sc d) : CO G c d := ⟨F.ok, F.hn, F.gd, F.below, F.dp, F.un⟩
theorem Ld.out {s : Shared} (l : Ld c k m news s) {out : Led'} {h' : Heap} {gs : Array GenState} {dr : Drawn} {tk : Nat} (hk : ∀ b o, s.heap.get? b = some o → h'.get? b = some o) (ho : ∀ p ∈ out, h'.get? p.1 = some p.2 ∧ s.heap.objs.size ≤ p.1)
    (hp : (out.map (·.1)).Pairwise (· > ·)) (hg : AllBare gs) : Ld c k m (out ++ news) { heap := h', gens := gs, drawn := dr, toks := tk, os := s.os } := by
  have l' : Ld c k m news { heap := h', gens := gs, drawn := dr, toks := tk, os := s.os } := l.grow hk hg
  have L := l.locs_lt
  refine ⟨l'.ns, l'.old, l'.above, l'.locs, fun p hp => ?_, ?_, fun p hp => ?_, l'.gens, l'.os, l'.tb⟩
  · rcases List.mem_append.mp hp with hp | hp
    · have z := ho p hp
      exact ⟨z.1, Nat.le_trans (Nat.le_of_lt (Nat.lt_of_le_of_lt l.locs L)) z.2, Nat.ne_of_gt (Nat.lt_of_lt_of_le L z.2)⟩
    · exact l'.nw p hp
  · rw [List.map_append]
    refine List.pairwise_append.mpr ⟨hp, l'.ord, fun a ha b hb => ?_⟩
    obtain ⟨p, hp, rfl⟩ := List.mem_map.mp ha
    obtain ⟨q, hq, rfl⟩ := List.mem_map.mp hb
    exact Nat.lt_of_lt_of_le (Heap.lt_size (l.nw q hq).1) (ho p hp).2
  · have z := l'.kp p hp
    refine ⟨z.1, z.2.1, z.2.2.1, fun q hq => ?_⟩
    rcases List.mem_append.mp hq with hq | hq
    · exact Nat.ne_of_gt (Nat.lt_of_lt_of_le (Heap.lt_size (l.kp p hp).1) (ho q hq).2)
    · exact z.2.2.2 q hq
theorem t_spec {d' : Nat} {a : Addr} {vs : List Value} {pre : Heap → Prop} {post : Value → Led' → Prop} {Q : Value → Loc → Led' → Prop} (F : CO G c d) (S : Spec M G d' a vs pre post) (hd : d' ≤ d) (hp : ∀ k s, Ld c k m news s → pre s.heap)
    (h : ∀ r out, post r out → Q r m (out ++ news)) : Tr M c (call (.ref a) vs) m news Q E := fun k s l => by
  refine S c.A s _ (E k) (F.ok.keeps l.old) (F.below _ _ _ _ l) ?_ ?_ F.hn F.gd l.gens (hp k s l) fun r out h' gs dr tk hk ho hpw hg hpost => ⟨m, out ++ news, l.out hk ho hpw hg, h r out hpost⟩
  · have := F.dp; (first | lia | omega)
  · have := F.un; (first | lia | omega)
end
end Mine
end
section
open PySem PySem.W PyProof.Rows PySem.Calls
set_option maxRecDepth 20000
namespace Mine
/-- a text by its signs -/
noncomputable abbrev S (l : List Nat) : Str := ⟨l.toArray⟩
theorem S_app (a b : List Nat) : S a ++ S b = S (a ++ b) := by
  show (⟨a.toArray ++ b.toArray⟩ : Str) = ⟨(a ++ b).toArray⟩
  simp
theorem S_len (a : List Nat) : (S a).length = a.length := by
  show a.toArray.size = _
  simp
theorem S_inj {a b : List Nat} (h : S a = S b) : a = b := by
  have := congrArg (fun x : Str => x.cps.toList) h
  simpa using this
theorem S_eq {a b : List Nat} : (S a == S b) = decide (a = b) := by
  by_cases h : a = b
  · subst h; simp
  · rw [decide_eq_false h]
    exact beq_eq_false_iff_ne.mpr fun e => h (S_inj e)
noncomputable def cut (l : List Nat) (i j : Nat) : List Nat := (l.drop i).take (j - i)
theorem S_slice {l : List Nat} {i j : Nat} (h1 : i ≤ j) (h2 : j ≤ l.length) : Txt.slice (S l) (some (i : Int)) (some (j : Int)) = S (cut l i j) := by
  have := slice_closesL (x := S l) (i := (i : Int)) (j := (j : Int)) (by (first | lia | omega)) (by (first | lia | omega)) (by rw [S_len]; (first | lia | omega))
  rw [eq_of_beq this]
  unfold cut S
  simp only [Int.toNat_natCast]
  congr 3
  (first | lia | omega)
theorem S_slice_hi {l : List Nat} {i j : Nat} (h1 : i ≤ l.length) (h2 : l.length ≤ j) : Txt.slice (S l) (some (i : Int)) (some (j : Int)) = S (cut l i l.length) := by
  rw [← S_slice h1 (Nat.le_refl _)]
  have e : Builtin.Str.strSliceIndices (some (i : Int)) (some (j : Int)) 1 (S l).length = Builtin.Str.strSliceIndices (some (i : Int)) (some (l.length : Int)) 1 (S l).length := by
    rw [S_len]
    have h3 : (if ((j : Int)) < 0 then (j : Int) + l.length else (j : Int)) = j := if_neg (by (first | lia | omega))
    have h4 : (if ((l.length : Int)) < 0 then (l.length : Int) + l.length else (l.length : Int)) = l.length := if_neg (by (first | lia | omega))
    have h5 : max (0 : Int) (min (j : Int) l.length) = max (0 : Int) (min (l.length : Int) l.length) := by (first | lia | omega)
    have h6 : ((1 : Int) > 0) = True := by simp
    unfold Builtin.Str.strSliceIndices
    simp only [h3, h4, h5, h6, if_true]
  unfold Txt.slice
  rw [e]
theorem S_slice_from {l : List Nat} {i : Nat} (h1 : i ≤ l.length) : Txt.slice (S l) (some (i : Int)) none = S (l.drop i) := by
  rw [eq_of_beq (slice_closes_fromL (x := S l) (i := (i : Int)) (b := l.length) (by (first | lia | omega)) (by rw [S_len]; (first | lia | omega)) (by rw [S_len]))]
  unfold S
  simp only [Int.toNat_natCast]
  congr 2
  rw [List.take_of_length_le]
  simp only [List.length_drop]; (first | lia | omega)
theorem S_slice_to {l : List Nat} {j : Nat} (h1 : j ≤ l.length) : Txt.slice (S l) none (some (j : Int)) = S (l.take j) := by
  rw [eq_of_beq (slice_closes_toL (x := S l) (j := (j : Int)) (by (first | lia | omega)) (by rw [S_len]; (first | lia | omega)))]
  unfold S
  simp
theorem S_slice_neg {l : List Nat} {i : Nat} {k : Nat} (h1 : i + k ≤ l.length) (hk : 0 < k) : Txt.slice (S l) (some (i : Int)) (some (-(k : Int))) = S (cut l i (l.length - k)) := by
  rw [← S_slice (by (first | lia | omega)) (by (first | lia | omega))]
  have e : Builtin.Str.strSliceIndices (some (i : Int)) (some (-(k : Int))) 1 (S l).length = Builtin.Str.strSliceIndices (some (i : Int)) (some ((l.length - k : Nat) : Int)) 1 (S l).length := by
    rw [StrLaws.sliceIdx_neg_hi _ _ (by (first | lia | omega)) (by rw [S_len]; (first | lia | omega)), S_len]
    congr 2
    (first | lia | omega)
  unfold Txt.slice
  rw [e]
section
variable {prog : Program} {w : World} {c : FC} {m : Loc} {news : Led'} {E : Led' → Value → Shared → Prop} {Q : Value → Loc → Led' → Prop} {t u : Tok}
theorem v_eqInt {a b : Int} (h : Q (.bool (a == b)) m news) : Tr (model prog w) c (compareOp .Eq (.int a t) (.int b u)) m news Q E := fun _ _ l => eq_int ⟨m, news, l, h⟩
theorem v_neInt {a b : Int} (h : Q (.bool (a != b)) m news) : Tr (model prog w) c (compareOp .NotEq (.int a t) (.int b u)) m news Q E := fun _ _ l => ne_int ⟨m, news, l, h⟩
theorem v_ltInt {a b : Int} (h : Q (.bool (decide (a < b))) m news) : Tr (model prog w) c (compareOp .Lt (.int a t) (.int b u)) m news Q E := fun _ _ l => lt_int ⟨m, news, l, h⟩
theorem v_gtInt {a b : Int} (h : Q (.bool (decide (b < a))) m news) : Tr (model prog w) c (compareOp .Gt (.int a t) (.int b u)) m news Q E := fun _ _ l => gt_int ⟨m, news, l, h⟩
theorem v_geInt {a b : Int} (h : Q (.bool (decide (b ≤ a))) m news) : Tr (model prog w) c (compareOp .GtE (.int a t) (.int b u)) m news Q E := fun _ _ l => ge_int ⟨m, news, l, h⟩
theorem v_eqStr {a b : List Nat} (h : Q (.bool (decide (a = b))) m news) : Tr (model prog w) c (compareOp .Eq (.str (S a) t) (.str (S b) u)) m news Q E := fun _ _ l => eq_str ⟨m, news, l, by rw [S_eq]; exact h⟩
theorem v_neStr {a b : List Nat} (h : Q (.bool (!decide (a = b))) m news) : Tr (model prog w) c (compareOp .NotEq (.str (S a) t) (.str (S b) u)) m news Q E := fun _ _ l => P.ne_str ⟨m, news, l, by
  have : (a != b) = !decide (a = b) := by
    by_cases h : a = b <;> simp [h]
  show Q (.bool (a != b)) m news
  rw [this]; exact h⟩
theorem v_ltStr {a b : List Nat} (h : Q (.bool (decide (a < b))) m news) : Tr (model prog w) c (compareOp .Lt (.str (S a) t) (.str (S b) u)) m news Q E := fun _ _ l => P.lt_str ⟨m, news, l, h⟩
theorem v_gtStr {a b : List Nat} (h : Q (.bool (decide (b < a))) m news) : Tr (model prog w) c (compareOp .Gt (.str (S a) t) (.str (S b) u)) m news Q E := fun _ _ l => P.gt_str ⟨m, news, l, h⟩
theorem v_addInt {a b : Int} (h : ∀ t', Q (.int (a + b) t') m news) : Tr (model prog w) c (binaryOp .Add (.int a t) (.int b u)) m news Q E := fun _ _ l => add_int ⟨m, news, l.toks _, h _⟩
theorem v_subInt {a b : Int} (h : ∀ t', Q (.int (a - b) t') m news) : Tr (model prog w) c (binaryOp .Sub (.int a t) (.int b u)) m news Q E := fun _ _ l => sub_int ⟨m, news, l.toks _, h _⟩
theorem v_modInt {a b : Int} (hb : b ≠ 0) (h : ∀ t', Q (.int (a.fmod b) t') m news) : Tr (model prog w) c (binaryOp .Mod (.int a t) (.int b u)) m news Q E := fun _ _ l => mod_int' hb ⟨m, news, l.toks _, h _⟩
theorem v_divInt {a b : Int} (hb : b ≠ 0) (hp : Builtin.divisionGoesByPylong a b = false) (h : ∀ t', Q (.int (a.fdiv b) t') m news) : Tr (model prog w) c (binaryOp .FloorDiv (.int a t) (.int b u)) m news Q E := fun _ _ l => floordiv_int hb ⟨m, news, l.toks _, h _⟩ (.inl hp)
theorem v_negInt {a : Int} (h : ∀ t', Q (.int (-a) t') m news) : Tr (model prog w) c (unaryOp .USub (.int a t)) m news Q E := fun _ _ l => neg_int ⟨m, news, l.toks _, h _⟩
theorem v_addStr {a b : List Nat} (hz : a.length + b.length ≤ sizeLine) (h : ∀ t', Q (.str (S (a ++ b)) t') m news) : Tr (model prog w) c (binaryOp .Add (.str (S a) t) (.str (S b) u)) m news Q E :=
  fun _ _ l => add_str (fun t' tk => ⟨m, news, l.toks _, by rw [S_app]; exact h t'⟩) (by rw [S_len, S_len]; exact hz)
theorem v_isNone {v : Value} (h : Q (.bool (v == .none)) m news) : Tr (model prog w) c (compareOp .Is v .none) m news Q E := fun _ _ l => is_none ⟨m, news, l, h⟩
theorem v_is {a b : Value} (hp : plainIs a b = true) (h : Q (.bool (a == b)) m news) : Tr (model prog w) c (compareOp .Is a b) m news Q E := fun _ _ l => wpAny_is_plain hp ⟨m, news, l, h⟩
theorem v_isNot {a b : Value} (hp : plainIs a b = true) (h : Q (.bool (!(a == b))) m news) : Tr (model prog w) c (compareOp .IsNot a b) m news Q E := fun _ _ l => wpAny_isNot_plain hp ⟨m, news, l, h⟩
theorem v_abs {a : Int} (h : ∀ t', Q (.int (if a < 0 then -a else a) t') m news) : Tr (model prog w) c (call (.builtin "abs") [.int a t]) m news Q E := fun _ _ l => call_abs_int fun _ _ => ⟨m, news, l.toks _, h _⟩
theorem v_chr {i : Nat} (hi : i ≤ 1114111) (h : ∀ t', Q (.str (S [i]) t') m news) : Tr (model prog w) c (call (.builtin "chr") [.int i t]) m news Q E := fun _ _ l => chr_of_range (by (first | lia | omega)) (by (first | lia | omega)) ⟨m, news, l.toks _, h _⟩
theorem v_ord {i : Nat} (h : ∀ t', Q (.int i t') m news) : Tr (model prog w) c (call (.builtin "ord") [.str (S [i]) t]) m news Q E := fun _ _ l => P.ord_of_char ⟨m, news, l.toks _, h _⟩
theorem v_lenStr {a : List Nat} (hz : a.length < 2 ^ 63) (h : ∀ t', Q (.int a.length t') m news) : Tr (model prog w) c (call (.builtin "len") [.str (S a) t]) m news Q E :=
  fun _ _ l => P.len_str (by rw [S_len]; (first | lia | omega)) ⟨m, news, l.toks _, by rw [S_len]; exact h _⟩
theorem v_isiIntInt {a : Int} (h : Q (.bool true) m news) : Tr (model prog w) c (call (.builtin "isinstance") [.int a t, .type "int"]) m news Q E := fun _ _ l => IsiPair.int_int ⟨m, news, l, h⟩
theorem v_isiStrInt {a : Str} (h : Q (.bool false) m news) : Tr (model prog w) c (call (.builtin "isinstance") [.str a t, .type "int"]) m news Q E := fun _ _ l => IsiPair.str_int ⟨m, news, l.toks _, h⟩
theorem v_truthyStr {a : List Nat} {Q : Bool → Loc → Led' → Prop} (hz : a.length < 2 ^ 63) (h : Q (!a.isEmpty) m news) : Tr (model prog w) c (truthy (.str (S a) t)) m news Q E :=
  fun _ _ l => P.truthy_str (by rw [S_len]; (first | lia | omega)) ⟨m, news, l.toks _, by
    rw [S_len]
    have : (((a.length : Nat) : Int) != 0) = !a.isEmpty := by
      cases a with
      | nil => rfl
      | cons x r => simp only [List.length_cons, List.isEmpty_cons, Bool.not_false, bne_iff_ne]; (first | lia | omega)
    rw [this]; exact h⟩
theorem v_item {a : List Nat} {k : Int} {j : Nat} {x : Nat} (hk : -(2 ^ 63) ≤ k ∧ k < 2 ^ 63) (hj : seqIndex? k a.length = some j) (hx : a[j]? = some x) (h : ∀ t', Q (.str (S [x]) t') m news) :
    Tr (model prog w) c (getItem (.str (S a) t) (.int k u)) m news Q E :=
  fun _ _ l => PyProof.Rows.getItem_str (by simp only [Bool.or_eq_false_iff, decide_eq_false_iff_not]; (first | lia | omega)) (by rw [S_len, hj]; simpa using hx) ⟨m, news, l.toks _, h _⟩
end
/-- list objects -/
noncomputable abbrev lst (vs : List Value) (n : Nat := 0) : Obj := { cls := .type "list", data := .seq vs.toArray n }
noncomputable abbrev tup (vs : List Value) (n : Nat := 0) : Obj := { cls := .type "tuple", data := .seq vs.toArray n }
/-- a list that may be read -/
noncomputable def LstAt (c : FC) (news : Led') (a : Addr) (vs : List Value) : Prop := ∃ o, There c news a o ∧ o.cls = .type "list" ∧ ∃ n, o.data = .seq vs.toArray n
theorem LstAt.isList {c : FC} {k : Led'} {m : Loc} {news : Led'} {s : Shared} {a : Addr} {vs : List Value} (h : LstAt c news a vs) (l : Ld c k m news s) : s.heap.IsList a vs.toArray :=
  let ⟨o, ht, hc, hd⟩ := h; ⟨o, ht.get l, hc, hd⟩
theorem LstAt.new {c : FC} {news : Led'} {a : Addr} {vs : List Value} {n : Nat} (h : (a, lst vs n) ∈ news) : LstAt c news a vs := ⟨_, .inr h, rfl, n, rfl⟩
theorem LstAt.old {c : FC} {news : Led'} {a : Addr} {vs : List Value} (h : c.g.IsList a vs.toArray) : LstAt c news a vs := let ⟨o, ho, hc, hd⟩ := h; ⟨o, .inl ho, hc, hd⟩
end Mine
end
section
open PySem PySem.W PyProof.Rows PySem.Calls
set_option maxRecDepth 20000
namespace Mine
/-- the signs of a written text -/
noncomputable def L (s : String) : List Nat := s.toList.map Char.toNat
theorem ofString_S (s : String) : Str.ofString s = S (L s) := by
  rw [Str.ofString_eq_byList]
  rfl
theorem upd_hit {m : Loc} {x : Str} {v : Value} : upd m x v x = some v := if_pos rfl
theorem upd_miss {m : Loc} {x y : Str} {v : Value} {r : Option Value} (h : y ≠ x) (e : m y = r) : upd m x v y = r := (if_neg h).trans e
section
variable {M : Model} {c : FC} {m : Loc} {news : Led'} {E : Led' → Value → Shared → Prop} {env : Env}
theorem t_StrS {x : String} {k : Nat} {pos : Pos} {Q : Value → Loc → Led' → Prop} (h : ∀ t, Q (.str (S (L x)) t) m news) : Tr M c (eval (.Constant (.str (Str.ofString x)) k pos) env) m news Q E :=
  t_StrC fun t => by rw [ofString_S]; exact h t
theorem t_after {rest : List Stmt} {Q : Flow → Loc → Led' → Prop} (h : Tr M c (execs rest env) m news Q E) : After M c rest env Q E .next m news := h
theorem t_afterR {rest : List Stmt} {Q : Flow → Loc → Led' → Prop} {v : Value} (h : Q (.ret v) m news) : After M c rest env Q E (.ret v) m news := h
theorem t_afterB {rest : List Stmt} {Q : Flow → Loc → Led' → Prop} (h : Q .brk m news) : After M c rest env Q E .brk m news := h
theorem t_callWith0 {pos : Pos} {f : Value} {ts : List (Bool × Sem Value)} {Q : Value → Loc → Led' → Prop} (hp : ts.any (·.1) = false)
    (h : Tr M c (spliced ts) m news (fun vs m' n' => KeepOk c n' f ∧ Tr M c (call f vs) m' n' Q E) E) : Tr M c (callWith pos f [] ts []) m news Q E := t_callWith hp h
theorem t_callWith1 {pos : Pos} {f o : Value} {ts : List (Bool × Sem Value)} {Q : Value → Loc → Led' → Prop} (hp : ts.any (·.1) = false)
    (h : Tr M c (spliced ts) m news (fun vs m' n' => KeepOk c n' f ∧ Tr M c (call f (o :: vs)) m' n' Q E) E) : Tr M c (callWith pos f [o] ts []) m news Q E := t_callWith hp h
theorem t_CallE {func : Expr} {args : List Expr} {pos : Pos} {Q : Value → Loc → Led' → Prop}
    (h : Tr M c (eval func env) m news (fun f m' n' => Tr M c (callWith pos f [] (backTo pos (starEach args env)) []) m' n' Q E) E)
    (he : eval (.Call func args [] pos) env = (do callWith pos (← eval func env) [] (backTo pos (starEach args env)) (backToKw pos (keywordEach [] env)))) : Tr M c (eval (.Call func args [] pos) env) m news Q E := t_Call h he rfl
theorem t_argS {e : Expr} {rest : List Expr} {pos : Pos} {Q : List Value → Loc → Led' → Prop}
    (h : Tr M c (eval e env) m news (fun v m' n' => Tr M c (spliced (backTo pos (starEach rest env))) m' n' (fun vs m'' n'' => Q (v :: vs) m'' n'') E) E)
    (he : starEach (e :: rest) env = (false, eval e env) :: starEach rest env) : Tr M c (spliced (backTo pos (starEach (e :: rest) env))) m news Q E := by
  rw [he]
  exact t_splS h
theorem t_arg0 {pos : Pos} {Q : List Value → Loc → Led' → Prop} (h : Q [] m news) : Tr M c (spliced (backTo pos (starEach [] env))) m news Q E := t_spl0 h
theorem t_ifT {X Y : Prop} (h : X) : if true = true then X else Y := by rw [if_pos rfl]; exact h
theorem t_ifF {X Y : Prop} (h : Y) : if false = true then X else Y := by rw [if_neg Bool.false_ne_true]; exact h
theorem t_ifTrue {b : Bool} {X Y : Prop} (hb : b = true) (h : X) : if b = true then X else Y := by rw [if_pos hb]; exact h
theorem t_ifFalse {b : Bool} {X Y : Prop} (hb : b = false) (h : Y) : if b = true then X else Y := by rw [hb]; exact t_ifF h
theorem t_ite {b : Bool} {X Y : Prop} (h1 : b = true → X) (h2 : b = false → Y) : if b = true then X else Y := by
  cases b
  · exact t_ifF (h2 rfl)
  · exact t_ifT (h1 rfl)
end
section
variable {prog : Program} {w : World} {c : FC} {m : Loc} {news : Led'} {E : Led' → Value → Shared → Prop} {Q : Value → Loc → Led' → Prop} {t u : Tok}
theorem v_iaddInt {a b : Int} (h : ∀ t', Q (.int (a + b) t') m news) : Tr (model prog w) c (inplaceOp .Add (.int a t) (.int b u)) m news Q E := fun _ _ l => iadd_int ⟨m, news, l.toks _, h _⟩
theorem v_strInt {a : Int} (ha : a.natAbs.log2 < 1920) (h : ∀ t', Q (.str (S (L (toString a))) t') m news) : Tr (model prog w) c (call (.type "str") [.int a t]) m news Q E := fun _ _ l => P.str_of_int ha ⟨m, news, l.toks _, by rw [ofString_S]; exact h _⟩
theorem v_reprInt {a : Int} (ha : a.natAbs.log2 < 1920) (h : ∀ t', Q (.str (S (L (toString a))) t') m news) : Tr (model prog w) c (call (.builtin "repr") [.int a t]) m news Q E := fun _ _ l => P.repr_of_int ha ⟨m, news, l.toks _, by rw [ofString_S]; exact h _⟩
theorem v_reprBool {a : Bool} (h : ∀ t', Q (.str (S (L (if a then "True" else "False"))) t') m news) : Tr (model prog w) c (call (.builtin "repr") [.bool a]) m news Q E := fun _ _ l => P.repr_of_bool ⟨m, news, l.toks _, by
  have := h
  cases a
  · exact (ofString_S "False") ▸ (h _)
  · exact (ofString_S "True") ▸ (h _)⟩
theorem v_reprNone (h : ∀ t', Q (.str (S (L "None")) t') m news) : Tr (model prog w) c (call (.builtin "repr") [.none]) m news Q E := fun _ _ l => P.repr_of_none ⟨m, news, l.toks _, by rw [ofString_S]; exact h _⟩
end
noncomputable def defAt (i : Nat) : Str × Arguments × List Stmt × Scope := match pw.main.body[i]? with
  | some (.FunctionDef n a b _ _ _ sc _ _ _) => (n, a, b, sc)
  | _ => default
noncomputable abbrev nameOf (i : Nat) : Str := (defAt i).1
noncomputable abbrev paramsOf (i : Nat) : Arguments := (defAt i).2.1
noncomputable abbrev bodyOf (i : Nat) : List Stmt := (defAt i).2.2.1
noncomputable abbrev scopeOf (i : Nat) : Scope := (defAt i).2.2.2
noncomputable abbrev FnIs (G : Gl) (h : Heap) (i : Nat) (a : Addr) : Prop := FnAt G h (nameOf i) (paramsOf i) (bodyOf i) (scopeOf i) a
/-- a thing of the row -/
inductive Th where
  | none | bool (b : Bool) | int (i : Int) | str (x : List Nat)
  deriving DecidableEq
noncomputable def Th.dat : Th → PyData
  | .none => .none | .bool b => .bool b | .int i => .int i | .str x => .str (S x)
noncomputable abbrev Is (v : Value) (x : Th) : Prop := Carried v x.dat
/-- the writing of a thing -/
noncomputable def Th.wr : Th → List Nat
  | .none => L "None" | .bool true => L "True" | .bool false => L "False" | .int i => L (toString i) | .str x => L "'" ++ x ++ L "'"
inductive IsTh : Value → Th → Prop
  | none : IsTh .none .none
  | bool (b : Bool) : IsTh (.bool b) (.bool b)
  | int (i : Int) (t : Tok) : IsTh (.int i t) (.int i)
  | str (x : List Nat) (t : Tok) : IsTh (.str (S x) t) (.str x)
/-- what may stand in a row -/
noncomputable def Th.ok : Th → Prop
  | .int i => -1000 < i ∧ i < 1000
  | .str x => x = L "a" ∨ x = L "it"
  | _ => True
end Mine
end
section
open PySem PySem.W PyProof.Rows PySem.Calls
set_option maxRecDepth 20000
namespace Mine
section
variable {prog : Program} {w : World} {c : FC} {m : Loc} {news : Led'} {E : Led' → Value → Shared → Prop} {env : Env} {Q : Value → Loc → Led' → Prop} {t u : Tok}
theorem t_Subscript {value slice : Expr} {pos : Pos} (h : Tr (model prog w) c (eval value env) m news (fun o m₁ n₁ => Tr (model prog w) c (eval slice env) m₁ n₁ (fun i m₂ n₂ => Tr (model prog w) c (subscriptTail value slice o i) m₂ n₂ Q E) E) E) :
    Tr (model prog w) c (eval (.Subscript value slice pos) env) m news Q E := fun k' s l =>
  Subscript_ (wpAny_mono (h k' s l) (fun _ s₁ ⟨_, _, l₁, q₁⟩ => wpAny_mono (q₁ k' s₁ l₁) (fun _ s₂ ⟨_, _, l₂, q₂⟩ => q₂ k' s₂ l₂) fun _ _ e => e) fun _ _ e => e)
theorem t_tailStr {value slice : Expr} {x : List Nat} {k : Int} {j y : Nat} (hk : -(2 ^ 63) ≤ k ∧ k < 2 ^ 63) (hj : seqIndex? k x.length = some j) (hx : x[j]? = some y) (h : ∀ t', Q (.str (S [y]) t') m news)
    (hs : subscripted slice false (.str (S x) t) (.int k u) = PySem.operate [.str (S x) t, .int k u] (getItem (.str (S x) t) (.int k u))) : Tr (model prog w) c (subscriptTail value slice (.str (S x) t) (.int k u)) m news Q E := fun k' s l =>
  tail_any (typeIs_str _ _ _) slot_str_getitem.lookup (v_item hk hj hx h k' s l) hs
theorem t_tailList {value slice : Expr} {a : Addr} {vs : List Value} {k : Int} {v : Value} (hl : LstAt c news a vs) (h0 : 0 ≤ k) (h1 : k < 2 ^ 63) (hx : vs[k.toNat]? = some v) (h : Q v m news)
    (hs : subscripted slice false (.ref a) (.int k u) = PySem.operate [.ref a, .int k u] (getItem (.ref a) (.int k u))) : Tr (model prog w) c (subscriptTail value slice (.ref a) (.int k u)) m news Q E := fun k' s l =>
  tail_any (hl.isList l).typeIs slot_list_getitem.lookup (wpAny_getItem_list (hl.isList l) h0 h1 (by simpa using hx) ⟨m, news, l, h⟩) hs
theorem t_tailTup {value slice : Expr} {a : Addr} {vs : List Value} {n : Nat} {k : Int} {j : Nat} {v : Value} (hl : There c news a (tup vs n)) (hk : -(2 ^ 63) ≤ k ∧ k < 2 ^ 63) (hj : seqIndex? k vs.length = some j) (hx : vs[j]? = some v) (h : Q v m news)
    (hs : subscripted slice false (.ref a) (.int k u) = PySem.operate [.ref a, .int k u] (getItem (.ref a) (.int k u))) : Tr (model prog w) c (subscriptTail value slice (.ref a) (.int k u)) m news Q E := fun k' s l =>
  item_tupleT ⟨_, hl.get l, rfl, n, rfl⟩ hk.1 hk.2 hj hx ⟨m, news, l, h⟩ hs
theorem t_newSeq {n : String} {vs : List Value} (hz : vs.length ≤ sizeLine) (h : ∀ a, Q (.ref a) m ((a, { cls := .type n, data := .seq vs.toArray }) :: news)) : Tr (model prog w) c (newObj (.type n) (.seq vs.toArray)) m news Q E := fun k' s l =>
  wpAny_newObj_type ⟨m, _, l.push rfl, h _⟩ (by show vs.toArray.size ≤ sizeLine; rw [List.size_toArray]; exact hz)
theorem t_Tuple {elts : List Expr} {k : Nat} {pos : Pos} (h : Tr (model prog w) c (spliced (backTo pos (starEach elts env))) m news (fun vs m' n' => vs.length ≤ sizeLine ∧ ∀ a, Q (.ref a) m' ((a, tup vs) :: n')) E) : Tr (model prog w) c (eval (.Tuple elts k pos) env) m news Q E := by
  show Tr _ c (do PySem.standAt pos; newTuple (← spliced (backTo pos (starEach elts env)))) m news Q E
  exact Tr.bind (Tr.standAt (Tr.bind (h.mono (fun vs m' n' q => t_newSeq q.1 q.2) fun _ _ _ e => e)))
theorem t_List {elts : List Expr} {pos : Pos} (h : Tr (model prog w) c (spliced (backTo pos (starEach elts env))) m news (fun vs m' n' => vs.length ≤ sizeLine ∧ ∀ a, Q (.ref a) m' ((a, lst vs) :: n')) E) : Tr (model prog w) c (eval (.List elts pos) env) m news Q E := by
  show Tr _ c (do PySem.standAt pos; newList (← spliced (backTo pos (starEach elts env)))) m news Q E
  exact Tr.bind (Tr.standAt (Tr.bind (h.mono (fun vs m' n' q => t_newSeq q.1 q.2) fun _ _ _ e => e)))
theorem v_modPos {a b : Int} (hb : 0 < b) (h : ∀ t', Q (.int (a.fmod b) t') m news) : Tr (model prog w) c (binaryOp .Mod (.int a t) (.int b u)) m news Q E := v_modInt (by (first | lia | omega)) h
theorem v_divSmall {a b : Int} (hb : 0 < b ∧ b < 1000) (h : ∀ t', Q (.int (a.fdiv b) t') m news) : Tr (model prog w) c (binaryOp .FloorDiv (.int a t) (.int b u)) m news Q E := v_divInt (by (first | lia | omega)) (PyProof.noPylong_small (by (first | lia | omega))) h
/-- a part of a slice -/
inductive Pt : Value → Option Int → Prop
  | none : Pt .none none
  | int (i : Int) (t : Tok) : Pt (.int i t) (some i)
theorem Pt.part {v : Value} {o : Option Int} (h : Pt v o) : ∃ p : Option (Int × Tok), v = partValue p ∧ p.map (·.1) = o := by
  cases h with
  | none => exact ⟨Option.none, rfl, rfl⟩
  | int i t => exact ⟨some (i, t), rfl, rfl⟩
theorem Pt.isPart {v : Value} {o : Option Int} (h : Pt v o) : IsPart v o := by
  cases h with
  | none => exact .none
  | int i t => exact .int i t
theorem slice_len (x : Str) (l u : Option Int) : (Txt.slice x l u).length ≤ x.length := by
  unfold Txt.slice
  split
  · exact Nat.le_refl _
  · show (List.filterMap _ _).toArray.size ≤ _
    rw [List.size_toArray]
    exact Nat.le_trans (List.length_filterMap_le _ _) (StrBlockI_sliceIndices_le l u _)
where
  StrBlockI_sliceIndices_le (l u : Option Int) (n : Nat) : (Builtin.Str.strSliceIndices l u 1 n).length ≤ n := indices_len_le l u n
theorem t_strSlice {value : Expr} {lower upper : Option Expr} {p pos : Pos}
    (h : Tr (model prog w) c (eval value env) m news (fun o m₁ n₁ => Tr (model prog w) c (evalPart lower env) m₁ n₁ (fun vl m₂ n₂ => Tr (model prog w) c (evalPart upper env) m₂ n₂ (fun vu m₃ n₃ =>
      ∃ x t lo hi, o = .str x t ∧ Pt vl lo ∧ Pt vu hi ∧ x.length ≤ sizeLine ∧ ∀ t', Q (.str (Txt.slice x lo hi) t') m₃ n₃) E) E) E)
    (ht : ∀ o r, letTemporaryGo value o r = Pure.pure ()) : Tr (model prog w) c (eval (.Subscript value (.Slice lower upper none p) pos) env) m news Q E := fun k' s l => by
  refine wpAny_Subscript_str_slice (wpAny_mono (h k' s l) (fun o s₁ ⟨_, _, l₁, q₁⟩ => wpAny_mono (q₁ k' s₁ l₁) (fun vl s₂ ⟨_, _, l₂, q₂⟩ => wpAny_mono (q₂ k' s₂ l₂) (fun vu s₃ ⟨m₃, n₃, l₃, q₃⟩ => ?_) fun _ _ e => e) fun _ _ e => e) fun _ _ e => e) ht
  obtain ⟨x, t, lo, hi, rfl, pl, pu, hz, q⟩ := q₃
  obtain ⟨lo', rfl, rfl⟩ := pl.part
  obtain ⟨hi', rfl, rfl⟩ := pu.part
  refine ⟨x, t, lo', hi', rfl, rfl, rfl, ?_⟩
  have l₄ := (l₃.push (o := { cls := .type "slice", data := .fields #[partValue lo', partValue hi', .none] }) rfl).sub (List.sublist_cons_self _ _)
  have hz' := Nat.le_trans (slice_len x (lo'.map (·.1)) (hi'.map (·.1))) hz
  by_cases hc : (1 == 1 && (Builtin.Str.strSliceIndices (lo'.map (·.1)) (hi'.map (·.1)) 1 x.length).length == x.length) = true
  · have e1 : sliceMade x t lo' hi' none = .val (.str x t) := if_pos hc
    have e2 : Txt.slice x (lo'.map (·.1)) (hi'.map (·.1)) = x := if_pos hc
    rw [e1]
    rw [e2] at q
    unfold Made.post
    exact ⟨m₃, n₃, l₄, q t⟩
  · have e1 : sliceMade x t lo' hi' none = .str (Txt.slice x (lo'.map (·.1)) (hi'.map (·.1))) := by
      have e2 : Txt.slice x (lo'.map (·.1)) (hi'.map (·.1)) = ⟨((Builtin.Str.strSliceIndices (lo'.map (·.1)) (hi'.map (·.1)) 1 x.length).filterMap (x.cps[·]?)).toArray⟩ := if_neg hc
      rw [e2]
      exact if_neg hc
    rw [e1]
    unfold Made.post
    exact ⟨hz', m₃, n₃, l₄.toks _, q _⟩
theorem t_part {e : Expr} (h : Tr (model prog w) c (eval e env) m news Q E) : Tr (model prog w) c (evalPart (some e) env) m news Q E := h
theorem t_part0 (h : Q .none m news) : Tr (model prog w) c (evalPart none env) m news Q E := Tr.pure h
theorem t_listSlice {value : Expr} {lower upper : Option Expr} {p pos : Pos}
    (h : Tr (model prog w) c (eval value env) m news (fun o m₁ n₁ => Tr (model prog w) c (evalPart lower env) m₁ n₁ (fun vl m₂ n₂ => Tr (model prog w) c (evalPart upper env) m₂ n₂ (fun vu m₃ n₃ =>
      ∃ a vs lo hi, o = .ref a ∧ LstAt c n₃ a vs ∧ Pt vl lo ∧ Pt vu hi ∧ vs.length ≤ sizeLine ∧ ∀ b, Q (.ref b) m₃ ((b, lst (slicePick vs.toArray lo hi none).toList) :: n₃)) E) E) E)
    (ht : ∀ o r, letTemporaryGo value o r = Pure.pure ()) : Tr (model prog w) c (eval (.Subscript value (.Slice lower upper none p) pos) env) m news Q E := fun k' s l => by
  refine wpAny_Subscript_Slice (T := "list") slot_list_getitem.lookup (wpAny_mono (h k' s l) (fun o s₁ ⟨_, _, l₁, q₁⟩ => wpAny_Slice (wpAny_mono (q₁ k' s₁ l₁) (fun vl s₂ ⟨_, _, l₂, q₂⟩ => wpAny_mono (q₂ k' s₂ l₂) (fun vu s₃ ⟨m₃, n₃, l₃, q₃⟩ => ?_) fun _ _ e => e) fun _ _ e => e)) fun _ _ e => e) ht
  obtain ⟨a, vs, lo, hi, rfl, hl, pl, pu, hz, q⟩ := q₃
  rw [evalPart_none]
  refine wpAny_pure ?_
  have l₄ := (l₃.push (o := { cls := .type "slice", data := .fields #[vl, vu, .none] }) rfl).sub (List.sublist_cons_self _ _)
  have hl' := hl.isList l₄
  refine ⟨hl'.typeIs, wpAny_getItem_list_slice hl' ⟨_, Heap.get?_push_size _ rfl, rfl, rfl⟩ pl.isPart pu.isPart .none (by intro e; cases e) ⟨m₃, _, l₄.push rfl, ?_⟩ (by rw [List.size_toArray]; exact hz)⟩
  exact q _
theorem t_listSliceS {value st : Expr} {lower upper : Option Expr} {p pos : Pos}
    (h : Tr (model prog w) c (eval value env) m news (fun o m₁ n₁ => Tr (model prog w) c (evalPart lower env) m₁ n₁ (fun vl m₂ n₂ => Tr (model prog w) c (evalPart upper env) m₂ n₂ (fun vu m₃ n₃ => Tr (model prog w) c (evalPart (some st) env) m₃ n₃ (fun vt m₄ n₄ =>
      ∃ a vs lo hi stp, o = .ref a ∧ LstAt c n₄ a vs ∧ Pt vl lo ∧ Pt vu hi ∧ Pt vt stp ∧ stp ≠ some 0 ∧ vs.length ≤ sizeLine ∧ ∀ b, Q (.ref b) m₄ ((b, lst (slicePick vs.toArray lo hi stp).toList) :: n₄)) E) E) E) E)
    (ht : ∀ o r, letTemporaryGo value o r = Pure.pure ()) : Tr (model prog w) c (eval (.Subscript value (.Slice lower upper (some st) p) pos) env) m news Q E := fun k' s l => by
  refine wpAny_Subscript_Slice_step (T := "list") slot_list_getitem.lookup (wpAny_mono (h k' s l) (fun o s₁ ⟨_, _, l₁, q₁⟩ => wpAny_Slice (wpAny_mono (q₁ k' s₁ l₁) (fun vl s₂ ⟨_, _, l₂, q₂⟩ => wpAny_mono (q₂ k' s₂ l₂) (fun vu s₃ ⟨_, _, l₃, q₃⟩ => wpAny_mono (q₃ k' s₃ l₃) (fun vt s₄ ⟨m₄, n₄, l₄, q₄⟩ => ?_) fun _ _ e => e) fun _ _ e => e) fun _ _ e => e)) fun _ _ e => e) ht
  obtain ⟨a, vs, lo, hi, stp, rfl, hl, pl, pu, pt, h0, hz, q⟩ := q₄
  have l₅ := (l₄.push (o := { cls := .type "slice", data := .fields #[vl, vu, vt] }) rfl).sub (List.sublist_cons_self _ _)
  have hl' := hl.isList l₅
  refine ⟨hl'.typeIs, wpAny_getItem_list_slice hl' ⟨_, Heap.get?_push_size _ rfl, rfl, rfl⟩ pl.isPart pu.isPart pt.isPart h0 ⟨m₄, _, l₅.push rfl, ?_⟩ (by rw [List.size_toArray]; exact hz)⟩
  exact q _
end
end Mine
end
section
open PySem PySem.W PyProof.Rows PySem.Calls
set_option maxRecDepth 20000
namespace Mine
set_option compiler.extract_closed false
local macro_rules | `(tactic| walk_at "lk") => `(tactic| first | assumption | exact upd_hit | (refine upd_miss (by decide) ?_; walk_at "lk") | (with_unfolding_all rfl))
local macro_rules | `(tactic| walk_at "nm") => `(tactic| with_reducible assumption)
local macro_rules | `(tactic| walk_at "st") => `(tactic| with_reducible first
  | (refine' t_ld ?k1 ?k2 ?_; (case k1 => walk_at "nm"); (case k2 => walk_at "lk"))
  | (refine' t_nm ?k1 ?_; (case k1 => walk_at "nm"))
  | refine t_IntC fun _ => ?_
  | refine t_StrS fun _ => ?_
  | refine t_BoolC ?_
  | refine t_NoneC ?_
  | refine t_cons ?_
  | refine t_after ?_
  | refine t_afterR ?_
  | refine t_afterB ?_
  | refine t_If ?_
  | (refine t_isCompare ?_ ?k1; (case k1 => with_unfolding_all rfl))
  | refine t_isAnd2 ?_
  | refine t_isOr2 ?_
  | refine t_isNot ?_
  | (refine t_isPlain ?_ ?k1; (case k1 => with_unfolding_all rfl))
  | refine t_truthy_bool ?_
  | (refine t_ifTrue ?k1 ?_; (case k1 => with_unfolding_all rfl))
  | (refine t_ifFalse ?k1 ?_; (case k1 => with_unfolding_all rfl))
  | (refine t_Assign ?_ ?k1; (case k1 => with_unfolding_all rfl))
  | (refine t_st ?k1 ?_; (case k1 => walk_at "nm"))
  | refine t_AugAssign ?_
  | (refine' t_ldn ?k1 ?k2 ?_; (case k1 => walk_at "nm"); (case k2 => walk_at "lk"))
  | refine t_BinOp ?_
  | (refine t_Compare ?_ ?k1; (case k1 => with_unfolding_all rfl))
  | (refine t_CallE ?_ ?k1; (case k1 => with_unfolding_all rfl))
  | (refine t_callWith0 ?k1 ?_; (case k1 => with_unfolding_all rfl))
  | (refine t_callWith1 ?k1 ?_; (case k1 => with_unfolding_all rfl))
  | (refine t_argS ?_ ?k1; (case k1 => with_unfolding_all rfl))
  | refine t_arg0 ?_
  | refine And.intro (KeepOk.builtin _) ?_
  | refine And.intro (KeepOk.type _) ?_
  | refine Exists.intro _ (And.intro rfl ?_)
  | refine t_Return ?_
  | refine t_IfExp ?_
  | refine t_UnaryOp ?_
  | (refine t_ExprStmt ?_ ?k1 ?k2; (case k1 => walk_at "nm"); (case k2 => with_unfolding_all rfl))
  | refine And.intro rfl ?_
  | refine t_Break ?_
  | refine t_nil ?_
  | refine v_eqInt ?_
  | refine v_neInt ?_
  | refine v_ltInt ?_
  | refine v_gtInt ?_
  | refine v_geInt ?_
  | refine v_eqStr ?_
  | refine v_neStr ?_
  | refine v_ltStr ?_
  | refine v_gtStr ?_
  | refine v_addInt fun _ => ?_
  | refine v_iaddInt fun _ => ?_
  | refine v_subInt fun _ => ?_
  | refine v_negInt fun _ => ?_
  | refine v_isNone ?_
  | (refine v_modPos ?k1 fun _ => ?_; (case k1 => decide))
  | (refine v_divSmall ?k1 fun _ => ?_; (case k1 => decide))
  | refine t_Tuple ?_
  | refine t_List ?_
  | ((fail_if_success (refine t_strSlice ?_ ?_)); (fail_if_success (refine t_listSliceS ?_ ?_)); refine t_Subscript ?_)
  | refine t_part0 ?_
  | refine t_part ?_
  | (refine v_is ?k1 ?_; (case k1 => with_unfolding_all rfl))
  | (refine v_isNot ?k1 ?_; (case k1 => with_unfolding_all rfl))
  | refine v_abs fun _ => ?_
  | refine v_isiIntInt ?_
  | refine v_isiStrInt ?_
  | (refine t_Method ?_ (by with_unfolding_all rfl))
  | (refine t_tests1 ?_)
  | (refine t_tests0 ?_)
  | refine t_Pass ?_
  | refine t_Dict0 fun _ _ _ => ?_
  | refine t_Try0 ?_
  | (refine t_AssignSub ?_ ?k1; (case k1 => with_unfolding_all rfl))
  | (refine' t_use ?k1 ?_; (case k1 => assumption))
  | fail)
local macro_rules | `(tactic| walk_at "go") => `(tactic| repeat' (walk_at "st"))
local macro_rules | `(tactic| walk_at "gT") => `(tactic| repeat' ((fail_if_success (with_reducible refine t_Try0 ?_)); walk_at "st"))
local macro_rules | `(tactic| walk_at "g0") => `(tactic| repeat' ((fail_if_success (with_reducible refine t_If ?_)); walk_at "st"))
local macro_rules | `(tactic| walk_at "lka") => `(tactic| ((repeat' (with_reducible refine And.intro ?_ ?_)) <;> first | walk_at "lk" | exact ⟨_, by walk_at "lk"⟩))
local macro_rules | `(tactic| walk_at "mm") => `(tactic| first | exact .head _ | exact .tail _ (.head _) | exact .tail _ (.tail _ (.head _)) | exact .tail _ (.tail _ (.tail _ (.head _))) | exact .tail _ (.tail _ (.tail _ (.tail _ (.head _)))))
local macro_rules | `(tactic| walk_at "mb") => `(tactic| first | exact .head _ | assumption | exact List.mem_append_left _ (by assumption) | (refine .tail _ ?_; walk_at "mb") | (refine List.mem_append_right _ ?_; walk_at "mb"))

theorem log2_small {a : Int} (h : -1000 < a ∧ a < 1000) : a.natAbs.log2 < 1920 := by
  have h1 : a.natAbs < 1000 := by (first | lia | omega)
  by_cases h0 : a.natAbs = 0
  · rw [h0]; decide
  · have : a.natAbs.log2 < 10 := (Nat.log2_lt h0).mpr (by (first | lia | omega))
    (first | lia | omega)
theorem spec_write {prog : Program} {w : World} {G : Gl} {a : Addr} {v : Value} {x : Th} (hv : IsTh v x) (hx : x.ok) :
    Spec (model prog w) G 1 a [v] (fun h => FnIs G h 20 a) (fun r out => out = [] ∧ ∃ t, r = .str (S x.wr) t) := by
  refine spec_of (binds := [("thing", v)]) (fun h _ hp => hp) (fun _ _ _ => rfl) (locs rfl) (by decide +kernel) ?_
  intro c F _
  have L_thing : LocN c "thing" := F.loc (by decide +kernel)
  have N_isinstance : Nm c "isinstance" (.builtin "isinstance") := F.bnm (by decide +kernel) (by decide +kernel)
  have N_int : Nm c "int" (.type "int") := F.bnm (by decide +kernel) (by decide +kernel)
  have N_str : Nm c "str" (.type "str") := F.bnm (by decide +kernel) (by decide +kernel)
  refine t_cons ?_
  cases hv with
  | none =>
    walk_at "go"
    all_goals exact ⟨[], List.Sublist.refl _, rfl, _, rfl⟩
  | bool b =>
    cases b <;> walk_at "go"
    all_goals exact ⟨[], List.Sublist.refl _, rfl, _, rfl⟩
  | int i t =>
    walk_at "go"
    refine v_strInt (log2_small hx) fun _ => ?_
    walk_at "go"
    all_goals exact ⟨[], List.Sublist.refl _, rfl, _, rfl⟩
  | str y t =>
    rcases hx with rfl | rfl <;>
      (walk_at "go"
       refine v_addStr (by decide +kernel) fun _ => ?_
       walk_at "go"
       refine v_addStr (by decide +kernel) fun _ => ?_
       walk_at "go")
    all_goals exact ⟨[], List.Sublist.refl _, rfl, _, rfl⟩
/-- what the law makes of a number -/
noncomputable def thing (x : Int) : Th :=
  if x.fmod 3 = 0 then [Th.none, Th.bool true, Th.bool false, Th.str (L "a"), Th.str (L "it")].getD ((x.fdiv 3).fmod 5).toNat Th.none
  else if 0 < x then Th.int ((if x < 0 then -x else x).fmod 1000) else Th.int (-((if x < 0 then -x else x).fmod 1000))
theorem spec_thing {prog : Program} {w : World} {G : Gl} {a : Addr} {x : Int} {t : Tok} :
    Spec (model prog w) G 1 a [.int x t] (fun h => FnIs G h 19 a) (fun r out => out = [] ∧ IsTh r (thing x)) := by
  refine spec_of (binds := [("x", .int x t)]) (fun h _ hp => hp) (fun _ _ _ => rfl) (locs rfl) (by decide +kernel) ?_
  intro c F _
  have L_x : LocN c "x" := F.loc (by decide +kernel)
  have N_abs : Nm c "abs" (.builtin "abs") := F.bnm (by decide +kernel) (by decide +kernel)
  refine t_cons ?_
  walk_at "go"
  refine t_ite (fun hb => ?_) (fun hb => ?_)
  · walk_at "go"
    refine ⟨show 5 ≤ sizeLine by decide +kernel, fun a => ?_⟩
    walk_at "go"
    have hx : thing x = [Th.none, Th.bool true, Th.bool false, Th.str (L "a"), Th.str (L "it")].getD ((x.fdiv 3).fmod 5).toNat Th.none := if_pos (by simpa using hb)
    rw [hx]
    have h0 := Int.fmod_nonneg_of_pos (x.fdiv 3) (b := 5) (by decide)
    have h1 := Int.fmod_lt_of_pos (x.fdiv 3) (b := 5) (by decide)
    generalize (x.fdiv 3).fmod 5 = k at h0 h1 ⊢
    have hk : k = 0 ∨ k = 1 ∨ k = 2 ∨ k = 3 ∨ k = 4 := by (first | lia | omega)
    rcases hk with rfl | rfl | rfl | rfl | rfl
    all_goals (refine t_tailTup (.inr (.head _)) (by decide) (by rfl) (by rfl) ?_ (by with_unfolding_all rfl); walk_at "go"; refine ⟨[], List.nil_sublist _, rfl, ?_⟩)
    · exact .none
    · exact .bool _
    · exact .bool _
    · exact .str _ _
    · exact .str _ _
  · walk_at "go"
    have hx : thing x = if 0 < x then Th.int ((if x < 0 then -x else x).fmod 1000) else Th.int (-((if x < 0 then -x else x).fmod 1000)) := if_neg (by simpa using hb)
    rw [hx]
    refine t_ite (fun hc => ?_) (fun hc => ?_)
    · rw [if_pos (of_decide_eq_true hc)]
      walk_at "go"
      exact ⟨[], List.nil_sublist _, rfl, .int _ _⟩
    · rw [if_neg (of_decide_eq_false hc)]
      walk_at "go"
      exact ⟨[], List.nil_sublist _, rfl, .int _ _⟩
end Mine
end
section
open PySem PySem.W PyProof.Rows PySem.Calls
set_option maxRecDepth 20000
set_option linter.unusedVariables false
namespace Mine
section
variable {prog : Program} {w : World} {c : FC} {k : Led'} {m : Loc} {news : Led'} {E : Led' → Value → Shared → Prop} {env : Env}
/-- an iterator stands beside the ledger -/
theorem Ld.hold {s : Shared} {I : Addr} {o : Obj} (l : Ld c k m news s) (ho : s.heap.get? I = some o) (hI : c.lo ≤ I ∧ I ≠ c.env.locals) (hn : ∀ q ∈ news, q.1 ≠ I) : Ld c ((I, o) :: k) m news s :=
  ⟨l.ns, l.old, l.above, l.locs, l.nw, l.ord, fun p hp => by
    rcases List.mem_cons.mp hp with rfl | hp
    · exact ⟨ho, hI.1, hI.2, hn⟩
    · exact l.kp p hp, l.gens, l.os, l.tb⟩
theorem Ld.unhold {s : Shared} {p : Addr × Obj} (l : Ld c (p :: k) m news s) : Ld c k m news s := ⟨l.ns, l.old, l.above, l.locs, l.nw, l.ord, fun q hq => l.kp q (.tail _ hq), l.gens, l.os, l.tb⟩
/-- only the held one may turn -/
theorem Ld.turn {s : Shared} {I : Addr} {o : Obj} {h' : Heap} {tk : Nat} (l : Ld c ((I, o) :: k) m news s) (hk : ∀ p ∈ k, p.1 ≠ I) (hs : ∀ b x, b ∉ [I] → s.heap.get? b = some x → h'.get? b = some x) :
    Ld c k m news { s with heap := h', toks := tk } := by
  have z := l.kp (I, o) (.head _)
  have ne : ∀ b x, c.g.get? b = some x → b ≠ I := fun b x e q => by
    subst q
    exact absurd (Nat.lt_of_lt_of_le (Heap.lt_size e) l.above) (Nat.not_lt.mpr z.2.1)
  have go : ∀ b x, b ≠ I → s.heap.get? b = some x → h'.get? b = some x := fun b x hb e => hs b x (by simpa using hb) e
  refine ⟨l.ns.at' fun x e => go _ x (Ne.symm z.2.2.1) e, fun b x e => go b x (ne b x e) (l.old b x e), l.above, l.locs, fun p hp => ⟨go _ _ (z.2.2.2 p hp) (l.nw p hp).1, (l.nw p hp).2⟩, l.ord, fun p hp => ?_, l.gens, l.os, fun P hP => let ⟨a', b', o', d', e'⟩ := l.tb P hP; ⟨a', b', o', go P o' (Nat.ne_of_lt (Nat.lt_of_lt_of_le a' z.2.1)) d', e'⟩⟩
  have y := l.kp p (.tail _ hp)
  exact ⟨go _ _ (hk p hp) y.1, y.2⟩

/-- what may be looped over: `n` turns, the i-th item as `P i` says; `fpo`: what must stand meanwhile -/
noncomputable def ItOk (prog : Program) (w : World) (c : FC) (news : Led') (xv : Value) (n : Nat) (P : Nat → Value → Prop) (fpo : Led') : Prop :=
  (∀ p ∈ fpo, There c news p.1 p.2) ∧ ∀ k m s, Ld c k m news s → ∀ (E : Value → Shared → Prop) (Q : Value → Shared → Prop),
    (∀ o St, o.isFreed = false → Walks prog w c.A s.heap.objs.size (s.heap.objs.size :: fpo.map (·.1)) [s.heap.objs.size] n P St → St 0 (s.heap.push o) → (∀ i h, St i h → ∃ o, h.get? s.heap.objs.size = some o) → Q (.ref s.heap.objs.size) { s with heap := s.heap.push o }) →
      wpAny (model prog w) c.A (pyIter xv) Q E s
theorem itOk_list (hn : c.A.handled = none) {a : Addr} {o : Obj} {vs : List Value} {e : Nat} (ht : There c news a o) (hc : o.cls = .type "list") (hd : o.data = .seq vs.toArray e) :
    ItOk prog w c news (.ref a) vs.length (fun i v => vs[i]? = some v) [(a, o)] := by
  refine ⟨fun p hp => by rw [List.mem_singleton.mp hp]; exact ht, fun k m s l E Q hQ => ?_⟩
  have hl : s.heap.IsList a vs.toArray := ⟨o, ht.get l, hc, e, hd⟩
  have lt : a < s.heap.objs.size := Heap.lt_size (ht.get l)
  refine wpAny_pyIter_list hl ?_
  have W := Walks.list (prog := prog) (w := w) hn s.heap.objs.size a (Nat.ne_of_lt lt) vs.toArray
  simp only [List.size_toArray, List.getElem?_toArray] at W
  exact hQ _ _ rfl W ⟨⟨_, Heap.get?_push_size _ rfl, rfl, rfl⟩, hl.at fun o e => Heap.get?_push_of_some _ e⟩ fun i h hs => let ⟨o, ho, _⟩ := hs.1; ⟨o, ho⟩
theorem itOk_str (hn : c.A.handled = none) {x : List Nat} {t : Tok} (ha : ∀ y ∈ x, y < 128) : ItOk prog w c news (.str (S x) t) x.length (fun i v => ∃ y u, x[i]? = some y ∧ v = .str (S [y]) u) [] := by
  refine ⟨fun p hp => (nomatch hp), fun k m s l E Q hQ => ?_⟩
  refine PySem.wpAny_pyIter_ascii (x := S x) (by simpa [S] using ha) ?_
  have W := Walks.strAscii (prog := prog) (w := w) hn s.heap.objs.size (S x) t
  have e : (S x).cps.size = x.length := by simp [S]
  rw [e] at W
  refine hQ _ (fun i h => h.IsStrIter s.heap.objs.size "str_ascii_iterator" (S x) t i) rfl ⟨W.sub, W.frame, fun i s Q E hi st hq => W.item i s Q E hi st fun v h' tk hp => hq v h' tk ?_, W.done, W.self⟩ ?_ fun i h hs => let ⟨o, ho, _⟩ := hs; ⟨o, ho⟩
  · obtain ⟨y, u, h1, h2⟩ := hp
    exact ⟨y, u, by simpa [S] using h1, h2⟩
  · exact ⟨_, Heap.get?_push_size _ rfl, rfl, rfl⟩
theorem itOk_range (hn : c.A.handled = none) {r : Addr} {a b st : Int} {t u v : Tok} {n : Nat} (hr : There c news r { cls := .type "range", data := .fields #[.int a t, .int b u, .int st v] }) (hs : Builtin.Range.small a b st = true) (hz : Builtin.Range.rangeSize a b st = n) :
    ItOk prog w c news (.ref r) n (fun i v => ∃ t, v = .int (a + i * st) t) [] := by
  refine ⟨fun p hp => (nomatch hp), fun k m s l E Q hQ => ?_⟩
  refine wpAny_pyIter_range (t := t) (u := u) (v := v) (hr.get l) hs ?_
  have W := Walks.range (prog := prog) (w := w) hn s.heap.objs.size a st n
  refine hQ _ _ rfl W ?_ fun i h hs => ⟨_, hs⟩
  show (s.heap.push _).get? _ = some _
  rw [Heap.get?_push_size _ rfl, hz]
  simp
/-- behind a turn -/
noncomputable def Turned (J : Loc → Led' → Prop) (Q : Flow → Loc → Led' → Prop) : Flow → Loc → Led' → Prop
  | .next, m, n => ∃ n', n'.Sublist n ∧ J m n'
  | .cont, m, n => ∃ n', n'.Sublist n ∧ J m n'
  | .brk, m, n => Q .next m n
  | .ret v, m, n => Q (.ret v) m n
theorem t_For {x : Str} {px pos : Pos} {iter : Expr} {body : List Stmt} {Q : Flow → Loc → Led' → Prop} (hx : LocN c x) {n : Nat} {P : Nat → Value → Prop} {fpo : Led'} (J : Nat → Loc → Led' → Prop)
    (h : Tr (model prog w) c (eval iter c.env) m news (fun xv m₁ n₁ => ItOk prog w c n₁ xv n P fpo ∧ ∃ n₂, n₂.Sublist n₁ ∧ J 0 m₁ n₂) E)
    (hJ : ∀ i m n, J i m n → ∀ p ∈ fpo, There c n p.1 p.2)
    (turn : ∀ i v m n', i < n → P i v → J i m n' → Tr (model prog w) c (execs body c.env) (upd m x v) n' (Turned (J (i + 1)) Q) E)
    (done : ∀ m n', J n m n' → Q .next m n')
    (hs : ∀ x, foldedSetIterable iter c.env x = Pure.pure x)
    (hE : ∀ k, PassesOwn (model prog w) c.A c.env (E k)) (hE' : ∀ k p e s, E (p :: k) e s → E k e s) : Tr (model prog w) c (exec (.For (.Name x px) iter body [] pos) c.env) m news Q E := fun k s l => by
  refine wpAny_For (wpAny_mono (h k s l) (fun xv s₁ ⟨m₁, n₁, l₁, hit, n₂, hsub, j0⟩ => hit.2 k m₁ s₁ l₁ _ _ fun o St hf W st0 hex => ?_) fun _ _ e => e) hs
  have hI : c.lo ≤ s₁.heap.objs.size ∧ s₁.heap.objs.size ≠ c.env.locals := ⟨Nat.le_of_lt (Nat.lt_of_le_of_lt l₁.locs l₁.locs_lt), Nat.ne_of_gt l₁.locs_lt⟩
  have hIk : ∀ p ∈ k, p.1 ≠ s₁.heap.objs.size := fun p hp => Nat.ne_of_lt (Heap.lt_size (l₁.kp p hp).1)
  have l0 : Ld c ((s₁.heap.objs.size, o) :: k) m₁ n₂ { s₁ with heap := s₁.heap.push o } :=
    ((l₁.grow (dr := s₁.drawn) (tk := s₁.toks) (fun b x e => Heap.get?_push_of_some _ e) l₁.gens).sub hsub).hold (Heap.get?_push_size _ hf) hI fun q hq => Nat.ne_of_lt (Heap.lt_size (l₁.nw q (hsub.subset hq)).1)
  generalize s₁.heap.objs.size = I at *
  refine codeAny_forLoop (R := fun r s' => match r with | .ok f => Post c k Q f s' | .error e => cameBackBy (model prog w) c.A c.env (E k) e s')
    (fun kk s' => ∃ i m' n' o, Ld c ((I, o) :: k) m' n' s' ∧ J i m' n' ∧ St i s'.heap ∧ i ≤ n ∧ kk = n + 1 - i) ?_ (n + 1) ⟨0, m₁, n₂, o, ?_, j0, st0, Nat.zero_le _, rfl⟩ (by intro _; rfl)
  rotate_left
  · exact l0
  rintro kk s' ⟨i, m', n', o', l', j, st, hi, rfl⟩
  by_cases hlt : i < n
  · refine W.item i _ _ _ hlt st fun v h' tk hp st' hkeep => ?_
    have l₂ : Ld c k m' n' { s' with heap := h', toks := tk } := l'.turn hIk hkeep
    obtain ⟨o₂, ho₂⟩ := hex _ _ st'
    have l₃ := l₂.hold ho₂ hI (l'.kp (I, o') (.head _)).2.2.2
    refine wpAny_assign_Name (wpAny_storeName_local hx.loc l₃.ns (fun h₃ hn₃ hs₃ => ?_) (by rw [hx.kind]; rfl))
    have l₄ : Ld c ((I, o₂) :: k) (upd m' x v) n' { s' with heap := h₃, toks := tk + 1 } := l₃.store hn₃ hs₃
    have ho₃ : h₃.get? I = some o₂ := (l₄.kp (I, o₂) (.head _)).1
    refine wpAny_mono (wpAny_passesOwn (hE k) (wpAny_mono (turn i v m' n' hlt hp j ((I, o₂) :: k) _ l₄) (fun f s₅ q => q) fun e s₅ q => hE' _ _ _ _ q)) (fun f s₅ q => ?_) fun _ _ e => e
    obtain ⟨m₅, n₅, l₅, q⟩ := q
    have fin : (∃ n', n'.Sublist n₅ ∧ J (i + 1) m₅ n') → ∃ m_1, m_1 < n + 1 - i ∧ ∃ i m' n' o, Ld c ((I, o) :: k) m' n' s₅ ∧ J i m' n' ∧ St i s₅.heap ∧ i ≤ n ∧ m_1 = n + 1 - i := by
      rintro ⟨n₆, hs₆, j₆⟩
      refine ⟨n + 1 - (i + 1), by (first | lia | omega), i + 1, m₅, n₆, o₂, l₅.sub hs₆, j₆, ?_, hlt, rfl⟩
      refine W.frame _ _ _ st' fun b hb x hx' => ?_
      rcases List.mem_cons.mp hb with rfl | hb
      · rw [ho₂] at hx'; cases hx'
        exact (l₅.kp (_, o₂) (.head _)).1
      · obtain ⟨p, hp', rfl⟩ := List.mem_map.mp hb
        have e1 := (hJ _ _ _ j p hp').get l₂
        have e2 := (hJ _ _ _ j₆ p hp').get (l₅.sub hs₆)
        rw [e1] at hx'; cases hx'
        exact e2
    cases f with
    | next => exact fin q
    | cont => exact fin q
    | brk => exact ⟨m₅, n₅, l₅.unhold, q⟩
    | ret r => exact ⟨m₅, n₅, l₅.unhold, q⟩
  · have hin : i = n := by (first | lia | omega)
    subst hin
    refine W.done _ _ _ st fun h' tk hkeep => wpAny_execs_nil ?_
    exact ⟨m', n', l'.turn hIk hkeep, done m' n' j⟩
end
end Mine
end
section
open PySem PySem.W PyProof.Rows PySem.Calls
set_option maxRecDepth 20000
set_option linter.unusedVariables false
namespace Mine
section
variable {prog : Program} {w : World} {c : FC} {k : Led'} {m : Loc} {news : Led'} {E : Led' → Value → Shared → Prop} {env : Env}
/-- behind a turn of a while -/
noncomputable def TurnedW (J : Nat → Loc → Led' → Prop) (i : Nat) (Q : Flow → Loc → Led' → Prop) : Flow → Loc → Led' → Prop
  | .next, m, n => ∃ j, j < i ∧ ∃ n', n'.Sublist n ∧ J j m n'
  | .cont, m, n => ∃ j, j < i ∧ ∃ n', n'.Sublist n ∧ J j m n'
  | .brk, m, n => Q .next m n
  | .ret v, m, n => Q (.ret v) m n
theorem t_While {test : Expr} {body : List Stmt} {pos : Pos} {Q : Flow → Loc → Led' → Prop} (J : Nat → Loc → Led' → Prop)
    (h : ∃ i n', n'.Sublist news ∧ J i m n')
    (turn : ∀ i m n', J i m n' → Tr (model prog w) c (PySem.isTrue test c.env (eval test c.env)) m n' (fun b m₁ n₁ => if b = true then Tr (model prog w) c (execs body c.env) m₁ n₁ (TurnedW J i Q) E else Q .next m₁ n₁) E)
    (hE : ∀ k, PassesOwn (model prog w) c.A c.env (E k)) : Tr (model prog w) c (exec (.While test body [] pos) c.env) m news Q E := fun k s l => by
  obtain ⟨i, n', hs, j⟩ := h
  refine wpAny_While (codeAny_whileLoop (fun i s' => ∃ m' n', Ld c k m' n' s' ∧ J i m' n') ?_ i ⟨m, n', l.sub hs, j⟩)
  rintro i s' ⟨m', n', l', j⟩
  refine wpAny_mono (wpAny_passesOwn (hE k) (turn i m' n' j k s' l')) (fun b s₂ ⟨m₁, n₁, l₁, q⟩ => ?_) fun _ _ e => e
  cases b with
  | false => exact wpAny_execs_nil ⟨m₁, n₁, l₁, t_ifF (X := True) (by simpa using q) |> fun z => by simpa using q⟩
  | true =>
    simp only [if_true] at q ⊢
    refine wpAny_mono (wpAny_passesOwn (hE k) (q k s₂ l₁)) (fun f s₃ ⟨m₃, n₃, l₃, q₃⟩ => ?_) fun _ _ e => e
    cases f with
    | next => obtain ⟨j, hj, n₄, hs₄, q₄⟩ := q₃; exact ⟨j, hj, m₃, n₄, l₃.sub hs₄, q₄⟩
    | cont => obtain ⟨j, hj, n₄, hs₄, q₄⟩ := q₃; exact ⟨j, hj, m₃, n₄, l₃.sub hs₄, q₄⟩
    | brk => exact ⟨m₃, n₃, l₃, q₃⟩
    | ret v => exact ⟨m₃, n₃, l₃, q₃⟩
/-- the frame of a comprehension -/
structure Inner (c : FC) (news : Led') (scope : Scope) (cl : List (Str × Addr)) (c' : FC) : Prop where
  A : c'.A = c.A
  env : ∃ C, c'.env = compEnvC scope cl C c.env
  keep : ∀ b o, c.g.get? b = some o → c'.g.get? b = some o
  nw : ∀ p ∈ news, c'.g.get? p.1 = some p.2
  inn : ∀ k' m' n' s, Ld c' k' m' n' s → ∃ k m, Ld c k m news s
theorem Inner.there {scope : Scope} {cl : List (Str × Addr)} {c' : FC} (I : Inner c news scope cl c') {a : Addr} {o : Obj} (h : There c news a o) {n' : Led'} : There c' n' a o := by
  rcases h with h | h
  · exact .inl (I.keep _ _ h)
  · exact .inl (I.nw _ h)
theorem Inner.lst {scope : Scope} {cl : List (Str × Addr)} {c' : FC} (I : Inner c news scope cl c') {a : Addr} {vs : List Value} (h : LstAt c news a vs) {n' : Led'} : LstAt c' n' a vs := let ⟨o, h1, h2⟩ := h; ⟨o, I.there h1, h2⟩
theorem Inner.co {G : Gl} {d : Nat} {scope : Scope} {cl : List (Str × Addr)} {c' : FC} (I : Inner c news scope cl c') (h : CO G c d) : CO G c' d :=
  ⟨h.ok.keeps I.keep, by rw [I.A]; exact h.hn, by rw [I.A]; exact h.gd, fun k m n s l => by obtain ⟨k', m', l'⟩ := I.inn _ _ _ _ l; rw [I.A]; exact h.below _ _ _ _ l', by rw [I.A]; exact h.dp, by rw [I.A]; exact h.un⟩
theorem Ld.ks {s : Shared} {k' : Led'} (l : Ld c k m news s) (h : ∀ p ∈ k', p ∈ k) : Ld c k' m news s := ⟨l.ns, l.old, l.above, l.locs, l.nw, l.ord, fun p hp => l.kp p (h p hp), l.gens, l.os, l.tb⟩
noncomputable abbrev nope : Led' → Value → Shared → Prop := fun _ _ _ => False
/-- the tests of a comprehension -/
noncomputable abbrev tests (ifs : List Expr) (env : Env) : Sem Bool := forIn ifs true fun c r => if r = true then do let ok ← PySem.isTrue c env (eval c env); pure (ForInStep.yield ok) else pure (ForInStep.yield r)
theorem t_tests0 {M : Model} {Q : Bool → Loc → Led' → Prop} (h : Q true m news) : Tr M c (tests [] env) m news Q E := Tr.pure h
theorem t_tests1 {e : Expr} {Q : Bool → Loc → Led' → Prop} (h : Tr (model prog w) c (PySem.isTrue e env (eval e env)) m news Q E) : Tr (model prog w) c (tests [e] env) m news Q E := fun k s l => wpAny_tests_one (h k s l)
theorem t_ListComp {elt iter : Expr} {x : Str} {px : Pos} {ifs : List Expr} {scope : Scope} {cl : List (Str × Addr)} {pos : Pos} {Q : Value → Loc → Led' → Prop} {n : Nat} {P : Nat → Value → Prop} {fpo : Led'} (J : Nat → List Value → Prop)
    (hclos : closureFor scope c.env = Pure.pure cl) (hkn : scope.kind = .function ∧ (∀ y ∈ scope.names, y.2 ≠ .cell) ∧ (∀ y ∈ scope.names, y.2 = .local → scope.names.lookup y.1 = some .local) ∧ scope.names.lookup x = some .local)
    (hn : n ≤ sizeLine)
    (h : Tr (model prog w) c (eval iter c.env) m news (fun xv m₁ n₁ => ItOk prog w c n₁ xv n P fpo ∧ J 0 [] ∧
      (∀ c', Inner c n₁ scope cl c' → LocN c' x → ∀ i v ys m', i < n → P i v → J i ys → m' x = some v → Tr (model prog w) c' (tests ifs c'.env) m' [] (fun b m'' n'' => if b = true then Tr (model prog w) c' (eval elt c'.env) m'' n'' (fun y _ _ => J (i + 1) (ys ++ [y])) nope else J (i + 1) ys) nope) ∧
      ∀ ys D e, J n ys → Q (.ref D) m₁ ((D, lst ys e) :: n₁)) E)
    (hnd : (x == ("__debug__" : Str)) = false)
    (hs : ∀ x, foldedSetIterable iter c.env x = Pure.pure x) : Tr (model prog w) c (eval (.ListComp elt [⟨.Name x px, iter, ifs, 0⟩] scope pos) c.env) m news Q E := fun k s l => by
  obtain ⟨hkind, hcell, hnames, hx⟩ := hkn
  rw [eval_ListComp]
  refine wpAny_comprehension_free (use := none) rfl hs hclos hkind hnames (wpAny_mono (h k s l) (fun xv s₁ ⟨m₁, n₁, l₁, hit, j0, hturn, hQ⟩ => hit.2 k m₁ s₁ l₁ _ _ fun o St hf W st0 hex => ?_) fun _ _ e => e)
  refine wpAny_newObj_type (wpAny_newFunctionEnv hcell (by intro y hy; simp at hy) (fun h₁ hns₁ hsb₁ => ?_) hkind)
  dsimp only at hns₁ hsb₁ ⊢
  generalize hH2 : (s₁.heap.push o).push { cls := .type "list", dict := none, data := .seq ([] : List Value).toArray } = H2 at hns₁ hsb₁ ⊢
  have hC : H2.objs.size = s₁.heap.objs.size + 1 + 1 := by rw [← hH2, Heap.size_push, Heap.size_push]
  have hDe : (s₁.heap.push o).objs.size = s₁.heap.objs.size + 1 := Heap.size_push ..
  rw [hDe]
  have up : ∀ b x, b ≠ H2.objs.size → H2.get? b = some x → h₁.get? b = some x := fun b x hb e => hsb₁.extBut b x hb (Heap.get?_push_of_some _ e)
  have old : ∀ b x, s₁.heap.get? b = some x → h₁.get? b = some x := fun b x e => up b x (Nat.ne_of_lt (by rw [hC]; exact Nat.lt_succ_of_lt (Nat.lt_succ_of_lt (Heap.lt_size e)))) (hH2 ▸ Heap.get?_push_of_some _ (Heap.get?_push_of_some _ e))
  have hI₁ : h₁.get? s₁.heap.objs.size = some o := up _ _ (by (first | lia | omega)) (hH2 ▸ Heap.get?_push_of_some _ (Heap.get?_push_size _ hf))
  have hD₁ : h₁.get? (s₁.heap.objs.size + 1) = some (lst []) := up _ _ (by (first | lia | omega)) (hH2 ▸ hDe ▸ Heap.get?_push_size _ rfl)
  let c' : FC := ⟨c.A, s₁.heap, s₁.heap.objs.size, compEnvC scope cl H2.objs.size c.env, s₁.os, [], fun _ _ => True⟩
  have inn : Inner c n₁ scope cl c' := ⟨rfl, ⟨_, rfl⟩, l₁.old, fun p hp => (l₁.nw p hp).1, fun k' m' n' s' l' => ⟨k, m₁, by
    have hos := l'.os
    obtain ⟨h', gs, dr, tk, os⟩ := s'
    have hos : os = s₁.os := hos
    subst hos
    exact l₁.grow l'.old l'.gens⟩⟩
  have hxl : c'.env.kindOf x = some .local := lookup_relabel_local hx
  have hpp : (c'.env.scope.kind == .class || (c'.env.scope.kind == .module && c'.env.locals != c'.env.globals)) = false := by
    show ((relabel scope c.env).kind == _ || _) = false
    have e : (relabel scope c.env).kind = .function := hkind
    have e' : c'.env.scope.kind = .function := hkind
    rw [e, e']; rfl
  have hln : LocN c' x := ⟨hkind, hxl, hnd⟩
  have l0 : Ld c' [(s₁.heap.objs.size, o), (s₁.heap.objs.size + 1, lst [])] (fun _ => none) [] { s₁ with heap := h₁, toks := s₁.toks + ([] : List (Str × Value)).length } := by
    refine ⟨hns₁, old, Nat.le_refl _, by show s₁.heap.objs.size ≤ H2.objs.size; (first | lia | omega), fun _ hp => (nomatch hp), List.Pairwise.nil, fun p hp => ?_, l₁.gens, rfl, fun _ hp => (nomatch hp)⟩
    rcases List.mem_cons.mp hp with rfl | hp
    · exact ⟨hI₁, Nat.le_refl _, by show s₁.heap.objs.size ≠ H2.objs.size; (first | lia | omega), fun _ h => (nomatch h)⟩
    · rw [List.mem_singleton.mp hp]
      exact ⟨hD₁, by show s₁.heap.objs.size ≤ s₁.heap.objs.size + 1; (first | lia | omega), by show s₁.heap.objs.size + 1 ≠ H2.objs.size; (first | lia | omega), fun _ h => (nomatch h)⟩
  have st1 : St 0 h₁ := W.frame _ _ _ st0 fun b hb x e => by
    rcases List.mem_cons.mp hb with rfl | hb
    · have e' : (s₁.heap.push o).get? s₁.heap.objs.size = some x := e
      rw [Heap.get?_push_size _ hf] at e'; cases e'; exact hI₁
    · obtain ⟨p, hp, rfl⟩ := List.mem_map.mp hb
      have e' : (s₁.heap.push o).get? p.1 = some x := e
      have z := (hit.1 p hp).get l₁
      rw [Heap.get?_push_of_some _ z] at e'; cases e'
      exact old _ _ z
  have loop : codeAny (model prog w) c.A (.compLoop (.ListComp elt [⟨.Name x px, iter, ifs, 0⟩] scope pos) 0 (.ref s₁.heap.objs.size) (.ref (s₁.heap.objs.size + 1)) c'.env)
      (compPost (model prog w) c.A (E k) none (Post c k Q) (.ref (s₁.heap.objs.size + 1)) H2.objs.size) { s₁ with heap := h₁, toks := s₁.toks + ([] : List (Str × Value)).length } := by
    refine codeAny_compLoop_tests (fun kk s' => ∃ i m' o ys e, Ld c' [(s₁.heap.objs.size, o), (s₁.heap.objs.size + 1, lst ys e)] m' [] s' ∧ J i ys ∧ ys.length ≤ i ∧ St i s'.heap ∧ i ≤ n ∧ kk = n + 1 - i) ?_ (n + 1)
      ⟨0, _, o, [], 0, l0, j0, Nat.le_refl _, st1, Nat.zero_le _, rfl⟩
    rintro kk s' ⟨i, m', o', ys, e, l', j, hy, st, hi, rfl⟩
    have ne1 : ∀ p ∈ [(s₁.heap.objs.size + 1, lst ys e)], p.1 ≠ s₁.heap.objs.size := fun p hp => by rw [List.mem_singleton.mp hp]; show s₁.heap.objs.size + 1 ≠ _; (first | lia | omega)
    by_cases hlt : i < n
    · refine W.item i _ _ _ hlt st fun v h' tk hp st' hkeep => ?_
      have l₂ := l'.turn (tk := tk) ne1 hkeep
      obtain ⟨o₂, ho₂⟩ := hex _ _ st'
      have l₃ := l₂.hold ho₂ ⟨(l'.kp _ (.head _)).2.1, (l'.kp _ (.head _)).2.2.1⟩ (l'.kp _ (.head _)).2.2.2
      refine wpAny_assign_Name (wpAny_storeName_local hxl l₃.ns (fun h₃ hn₃ hs₃ => ?_) hpp)
      have l₄ : Ld c' [(s₁.heap.objs.size, o₂), (s₁.heap.objs.size + 1, lst ys e)] (upd m' x v) [] { s' with heap := h₃, toks := tk + 1 } := l₃.store hn₃ hs₃
      have stk : ∀ s₅ : Shared, (∃ m₅ n₅, Ld c' [(s₁.heap.objs.size, o₂), (s₁.heap.objs.size + 1, lst ys e)] m₅ n₅ s₅) → St (i + 1) s₅.heap := fun s₅ ⟨m₅, n₅, l₅⟩ => by
        refine W.frame _ _ _ st' fun b hb x hx' => ?_
        rcases List.mem_cons.mp hb with rfl | hb
        · rw [ho₂] at hx'; cases hx'
          exact (l₅.kp (_, o₂) (.head _)).1
        · obtain ⟨p, hp', rfl⟩ := List.mem_map.mp hb
          have e1 := (inn.there (n' := []) (hit.1 p hp')).get l₃
          have e2 := (inn.there (n' := n₅) (hit.1 p hp')).get l₅
          have hx'' : h'.get? p.1 = some x := hx'
          rw [e1] at hx''; cases hx''
          exact e2
      refine wpAny_mono (hturn c' inn hln i v ys _ hlt hp j upd_hit _ _ l₄) (fun b s₅ ⟨m₅, n₅, l₅, q⟩ => ?_) fun _ _ e => e.elim
      cases b with
      | false =>
        simp only [Bool.false_eq_true, if_false] at q ⊢
        exact ⟨n + 1 - (i + 1), by (first | lia | omega), i + 1, m₅, o₂, ys, e, l₅.sub (List.nil_sublist _), q, by (first | lia | omega), stk _ ⟨_, _, l₅⟩, hlt, rfl⟩
      | true =>
        simp only [if_true] at q ⊢
        refine wpAny_mono (q _ _ l₅) (fun y s₆ ⟨m₆, n₆, l₆, q₆⟩ => ?_) fun _ _ e => e.elim
        have dd := (l₆.kp (_, lst ys e) (.tail _ (.head _))).1
        refine wpAny_list_append_plain (hsz := by rw [List.size_toArray]; (first | lia | omega)) (⟨e, dd⟩ : s₆.heap.PlainList _ ys.toArray) fun h₇ hl₇ hs₇ => ?_
        obtain ⟨e₇, hl₇⟩ := hl₇
        rw [List.push_toArray] at hl₇
        have l₇ : Ld c' [(s₁.heap.objs.size, o₂)] m₆ n₆ { s₆ with heap := h₇ } :=
          (l₆.ks (k' := [(s₁.heap.objs.size + 1, lst ys e), (s₁.heap.objs.size, o₂)]) (by intro p hp; simp at hp ⊢; exact hp.symm)).turn (tk := s₆.toks) (fun p hp => by rw [List.mem_singleton.mp hp]; show s₁.heap.objs.size ≠ _ + 1; (first | lia | omega)) fun b x hb hx' => hs₇.extBut b x (by simpa using hb) hx'
        have l₈ := ((l₇.sub (List.nil_sublist _)).hold hl₇ ⟨(l₆.kp (_, lst ys e) (.tail _ (.head _))).2.1, (l₆.kp (_, lst ys e) (.tail _ (.head _))).2.2.1⟩ (fun _ h => nomatch h)).ks (k' := [(s₁.heap.objs.size, o₂), (s₁.heap.objs.size + 1, lst (ys ++ [y]) e₇)]) (by intro p hp; simp at hp ⊢; exact hp.symm)
        refine ⟨n + 1 - (i + 1), by (first | lia | omega), i + 1, m₆, o₂, ys ++ [y], e₇, l₈, q₆, by simp; (first | lia | omega), ?_, hlt, rfl⟩
        refine W.frame _ _ _ (stk _ ⟨_, _, l₆⟩) fun b hb x hx' => ?_
        rcases List.mem_cons.mp hb with rfl | hb
        · exact hs₇.extBut _ _ (Nat.ne_of_lt (Nat.lt_succ_self _)) hx'
        · obtain ⟨p, hp', rfl⟩ := List.mem_map.mp hb
          have lt := Heap.lt_size ((hit.1 p hp').get l₁)
          exact hs₇.extBut _ _ (Nat.ne_of_lt (Nat.lt_succ_of_lt lt)) hx'
    · have hin : i = n := by (first | lia | omega)
      subst hin
      refine W.done _ _ _ st fun h' tk hkeep => ?_
      have l₂ := l'.turn (tk := tk) ne1 hkeep
      refine ⟨m', l₂.ns, fun h'' hs'' => ?_⟩
      have dd := (l₂.kp (_, lst ys e) (.head _))
      refine ⟨m₁, (s₁.heap.objs.size + 1, lst ys e) :: n₁, ?_, hQ _ _ _ j⟩
      have hos := l₂.os
      have hgs := l₂.gens
      have hol := l₂.old
      obtain ⟨hh, gs, dr, tk, os⟩ := s'
      have hos : os = s₁.os := hos
      subst hos
      refine l₁.out (out := [(s₁.heap.objs.size + 1, lst ys e)]) (fun b x hx' => hs''.extBut b x (Nat.ne_of_lt (by show b < H2.objs.size; rw [hC]; exact Nat.lt_succ_of_lt (Nat.lt_succ_of_lt (Heap.lt_size hx')))) (hol b x hx')) (fun p hp => ?_) (List.pairwise_singleton _ _) hgs
      rw [List.mem_singleton.mp hp]
      exact ⟨hs''.extBut _ _ dd.2.2.1 dd.1, Nat.le_succ _⟩
  exact codeAny_compStart_list loop (W.self 0 _ _ _ st1 loop)
end
end Mine
end
section
open PySem PySem.W PyProof.Rows PySem.Calls PySem.SeqAt
set_option maxRecDepth 20000
set_option linter.unusedVariables false
namespace Mine
inductive IsS : Value → List Nat → Prop
  | mk (x : List Nat) (t : Tok) : IsS (.str (S x) t) x
noncomputable abbrev Strs (vs : List Value) (xs : List (List Nat)) : Prop := Paired IsS vs xs
noncomputable abbrev Things (vs : List Value) (xs : List Th) : Prop := Paired IsTh vs xs
section
variable {α β : Type} {F : α → β → Prop}
theorem Paired.get1 : ∀ {l₁ : List α} {l₂ : List β}, Paired F l₁ l₂ → ∀ {i : Nat} {a : α}, l₁[i]? = some a → ∃ b, l₂[i]? = some b ∧ F a b
  | _, _, .nil, _, _, h => by simp at h
  | _, _, .cons h _, 0, _, e => by simp at e; subst e; exact ⟨_, rfl, h⟩
  | _, _, .cons _ t, i + 1, _, e => by simpa using Paired.get1 t (i := i) (by simpa using e)
theorem Paired.get2 : ∀ {l₁ : List α} {l₂ : List β}, Paired F l₁ l₂ → ∀ {i : Nat} {b : β}, l₂[i]? = some b → ∃ a, l₁[i]? = some a ∧ F a b
  | _, _, .nil, _, _, h => by simp at h
  | _, _, .cons h _, 0, _, e => by simp at e; subst e; exact ⟨_, rfl, h⟩
  | _, _, .cons _ t, i + 1, _, e => by simpa using Paired.get2 t (i := i) (by simpa using e)
theorem Paired.app : ∀ {l₁ : List α} {l₂ : List β} {r₁ : List α} {r₂ : List β}, Paired F l₁ l₂ → Paired F r₁ r₂ → Paired F (l₁ ++ r₁) (l₂ ++ r₂)
  | _, _, _, _, .nil, h => h
  | _, _, _, _, .cons h t, r => .cons h (Paired.app t r)
theorem Paired.left : ∀ {l₁ : List α} {l₂ : List β}, Paired F l₁ l₂ → ∀ a ∈ l₁, ∃ b, b ∈ l₂ ∧ F a b
  | _, _, .nil, _, h => nomatch h
  | _, _, .cons h t, a, m => by
    rcases List.mem_cons.mp m with rfl | m
    · exact ⟨_, .head _, h⟩
    · obtain ⟨b, hb, f⟩ := Paired.left t a m; exact ⟨b, .tail _ hb, f⟩
theorem Paired.mono' {G : α → β → Prop} (k : ∀ a b, F a b → G a b) : ∀ {l₁ : List α} {l₂ : List β}, Paired F l₁ l₂ → Paired G l₁ l₂
  | _, _, .nil => .nil
  | _, _, .cons h t => .cons (k _ _ h) (Paired.mono' k t)
theorem Paired.split : ∀ {l₁ : List α} {x y : List β}, Paired F l₁ (x ++ y) → ∃ a b, l₁ = a ++ b ∧ Paired F a x ∧ Paired F b y
  | l₁, [], y, h => ⟨[], l₁, rfl, .nil, h⟩
  | _, _ :: x, y, .cons h t => by
    obtain ⟨a, b, rfl, p, q⟩ := Paired.split (x := x) t
    exact ⟨_ :: a, b, rfl, .cons h p, q⟩
end
section
variable {prog : Program} {w : World} {c : FC} {m : Loc} {news : Led'} {E : Led' → Value → Shared → Prop} {Q : Value → Loc → Led' → Prop} {t u : Tok}
/-- a plain list that may be read -/
noncomputable def PlAt (c : FC) (news : Led') (a : Addr) (vs : List Value) : Prop := ∃ n, There c news a (lst vs n)
theorem PlAt.lst {a : Addr} {vs : List Value} (h : PlAt c news a vs) : LstAt c news a vs := let ⟨n, h⟩ := h; ⟨_, h, rfl, n, rfl⟩
theorem PlAt.new {a : Addr} {vs : List Value} {n : Nat} (h : (a, Mine.lst vs n) ∈ news) : PlAt c news a vs := ⟨n, .inr h⟩
theorem v_append {i : Nat} {a : Addr} {vs : List Value} {n : Nat} {v : Value} (hi : news[i]? = some (a, lst vs n)) (hz : vs.length ≤ sizeLine) (h : ∀ n', Q .none m (news.set i (a, lst (vs ++ [v]) n'))) :
    Tr (model prog w) c (call (.builtin "list.append") [.ref a, v]) m news Q E := fun k s l => by
  refine wpAny_list_append_plain (hsz := by rw [List.size_toArray]; exact hz) (⟨n, (l.nw _ (List.mem_of_getElem? hi)).1⟩ : s.heap.PlainList a vs.toArray) fun h' hl hs => ?_
  obtain ⟨n', hl⟩ := hl
  rw [List.push_toArray] at hl
  exact ⟨m, _, l.change (tk := s.toks) hi hs hl, h n'⟩
theorem v_extend {i : Nat} {a b : Addr} {vs ws : List Value} {n : Nat} (hi : news[i]? = some (a, lst vs n)) (hb : PlAt c news b ws) (hz : vs.length + ws.length ≤ sizeLine) (hd : (!vs.toArray.isEmpty && Builtin.List.listTooLong (vs.toArray.size + ws.toArray.size)) = false) (h : ∀ n', Q .none m (news.set i (a, lst (vs ++ ws) n'))) :
    Tr (model prog w) c (call (.builtin "list.extend") [.ref a, .ref b]) m news Q E := fun k s l => by
  obtain ⟨n2, hb⟩ := hb
  have ha := (l.nw _ (List.mem_of_getElem? hi)).1
  refine call_meets F.slot_list_extend ⟨_, ha, rfl⟩ F.entry_list_extend (F.args_list_extend_2 _ _) (AutoSeq1.list_extend_list_list_0 a vs.toArray n b ws.toArray n2 (by rw [hd]; exact Bool.false_ne_true) (by rw [List.size_toArray]; (first | lia | omega)) (by rw [List.size_toArray, List.size_toArray]; (first | lia | omega))) ⟨ha, hb.get l, ?_⟩
  have hu := (show IsL s.heap a vs.toArray n from ha).update fun xs => xs ++ ws.toArray
  have e : vs.toArray ++ ws.toArray = (vs ++ ws).toArray := by simp
  rw [e] at hu
  exact ⟨m, _, l.change (tk := s.toks) hi (Heap.SameBut.update ..) hu, h _⟩
theorem v_index {a : Addr} {vs : List Value} {xs : List (List Nat)} {x : List Nat} {j : Nat} (ha : PlAt c news a vs) (hv : Strs vs xs) (hj : xs[j]? = some x) (hno : ∀ k, k < j → xs[k]? ≠ some x) (hz : vs.length < 2 ^ 62) (h : ∀ t', Q (.int j t') m news) :
    Tr (model prog w) c (call (.builtin "list.index") [.ref a, .str (S x) t]) m news Q E := fun k s l => by
  obtain ⟨n, ha⟩ := ha
  have ha := ha.get l
  have he : ∀ y, y ∈ vs.toArray → MeetsSeq.EqGives y (.str (S x) t) (isStrOf (S x) y) := fun y hy => by
    obtain ⟨b, _, hb⟩ := Paired.left hv y (by simpa using hy)
    cases hb
    exact eqGives_str _ _ _ _
  obtain ⟨v, hv1, hv2⟩ := Paired.get2 hv hj
  obtain ⟨hlt, hv3⟩ := List.getElem?_eq_some_iff.mp hv1
  refine call_meets F.slot_list_index ⟨_, ha, rfl⟩ F.entry_list_index (F.args_list_index_2 _ _) (MeetsSeq.list_index a vs.toArray n (.str (S x) t) (isStrOf (S x)) he j (by simpa using hlt) (by (first | lia | omega)) ?_ ?_) ⟨ha, m, news, l.toks _, h _⟩
  · simp only [List.getElem_toArray, hv3]
    cases hv2
    show (S x == S x) = true
    simp
  · intro k hk hkj
    simp only [List.getElem_toArray]
    have hk' : k < vs.length := by simpa using hk
    obtain ⟨b, hb1, hb2⟩ := Paired.get1 hv (List.getElem?_eq_getElem hk')
    generalize vs[k] = y at hb2 ⊢
    cases hb2
    show (S b == S x) = false
    rw [S_eq, decide_eq_false]
    intro e; subst e; exact hno k hkj hb1
/-- the first place of a thing -/
theorem isStr_false {vs : List Value} {xs : List (List Nat)} {x : List Nat} (hv : Strs vs xs) (hno : x ∉ xs) : ∀ k (hk : k < vs.toArray.size), isStrOf (S x) vs.toArray[k] = false := fun k hk => by
  simp only [List.getElem_toArray]
  obtain ⟨b, hb1, hb2⟩ := Paired.get1 hv (List.getElem?_eq_getElem (by simpa using hk : k < vs.length))
  generalize vs[k]'(by simpa using hk) = y at hb2 ⊢
  cases hb2
  show (S b == S x) = false
  rw [S_eq, decide_eq_false]
  intro e; subst e; exact hno (List.mem_of_getElem? hb1)
theorem v_remove {i : Nat} {a : Addr} {vs : List Value} {n : Nat} {xs : List (List Nat)} {x : List Nat} {j : Nat} (hi : news[i]? = some (a, lst vs n)) (hv : Strs vs xs) (hj : xs[j]? = some x) (hno : ∀ k, k < j → xs[k]? ≠ some x) (hz : vs.length ≤ sizeLine)
    (h : ∀ n', Q .none m (news.set i (a, lst (vs.eraseIdx j) n'))) : Tr (model prog w) c (call (.builtin "list.remove") [.ref a, .str (S x) t]) m news Q E := fun k s l => by
  have ha := (l.nw _ (List.mem_of_getElem? hi)).1
  have he : ∀ y, y ∈ vs.toArray → MeetsSeq.EqGives y (.str (S x) t) (isStrOf (S x) y) := fun y hy => by
    obtain ⟨b, _, hb⟩ := Paired.left hv y (by simpa using hy)
    cases hb
    exact eqGives_str _ _ _ _
  obtain ⟨v, hv1, hv2⟩ := Paired.get2 hv hj
  obtain ⟨hlt, hv3⟩ := List.getElem?_eq_some_iff.mp hv1
  refine call_meets F.slot_list_remove ⟨_, ha, rfl⟩ F.entry_list_remove (F.args_list_remove_2 _ _) (MeetsSeq.list_remove a vs.toArray n (.str (S x) t) (isStrOf (S x)) he j (by simpa using hlt) ?_ ?_ (by rw [List.size_toArray]; exact hz)) ⟨ha, ?_⟩
  · simp only [List.getElem_toArray, hv3]
    cases hv2
    show (S x == S x) = true
    simp
  · intro k hk hkj
    simp only [List.getElem_toArray]
    have hk' : k < vs.length := by simpa using hk
    obtain ⟨b, hb1, hb2⟩ := Paired.get1 hv (List.getElem?_eq_getElem hk')
    generalize vs[k] = y at hb2 ⊢
    cases hb2
    show (S b == S x) = false
    rw [S_eq, decide_eq_false]
    intro e; subst e; exact hno k hkj hb1
  · have hu := (show IsL s.heap a vs.toArray n from ha).update fun xs => xs.eraseIdxIfInBounds j
    have e : vs.toArray.eraseIdxIfInBounds j = (vs.eraseIdx j).toArray := by simp
    rw [e] at hu
    exact ⟨m, _, l.change (tk := s.toks) hi (Heap.SameBut.update ..) hu, h _⟩
/-- `==` of two lists of texts -/
theorem strs_eq {vs ws : List Value} {xs ys : List (List Nat)} (hv : Strs vs xs) (hw : Strs ws ys) (hl : vs.length = ws.length) {A : Around} {s : Shared} :
    (∀ j (h1 : j < vs.toArray.size) (h2 : j < ws.toArray.size), EqAt A s vs.toArray[j] ws.toArray[j] (decide (xs[j]? = ys[j]?))) ∧ (List.range vs.toArray.size).all (fun j => decide (xs[j]? = ys[j]?)) = decide (xs = ys) := by
  refine ⟨fun j h1 h2 => ?_, ?_⟩
  · simp only [List.getElem_toArray]
    obtain ⟨b, hb1, hb2⟩ := Paired.get1 hv (List.getElem?_eq_getElem (by simpa using h1 : j < vs.length))
    obtain ⟨d, hd1, hd2⟩ := Paired.get1 hw (List.getElem?_eq_getElem (by simpa using h2 : j < ws.length))
    rw [hb1, hd1]
    generalize vs[j]'(by simpa using h1) = y at hb2 ⊢
    generalize ws[j]'(by simpa using h2) = z at hd2 ⊢
    cases hb2; cases hd2
    have e : decide (some b = some d) = (S b == S d) := by rw [S_eq]; simp
    rw [e]
    exact EqAt.str_str _ _ _ _
  · have e1 := Paired.length hv
    have e2 := Paired.length hw
    rw [Bool.eq_iff_iff]
    simp only [List.size_toArray, List.all_eq_true, List.mem_range, decide_eq_true_eq]
    constructor
    · intro h
      refine List.ext_getElem? fun j => ?_
      by_cases hj : j < vs.length
      · exact h j hj
      · rw [List.getElem?_eq_none (by (first | lia | omega)), List.getElem?_eq_none (by (first | lia | omega))]
    · intro h j _; rw [h]
theorem v_eqStrs {a b : Addr} {vs ws : List Value} {xs ys : List (List Nat)} (ha : LstAt c news a vs) (hb : LstAt c news b ws) (hv : Strs vs xs) (hw : Strs ws ys) (hu : c.A.units < cLine) (h : Q (.bool (decide (xs = ys))) m news) :
    Tr (model prog w) c (compareOp .Eq (.ref a) (.ref b)) m news Q E := fun k s l => by
  by_cases hl : vs.length = ws.length
  · have z := strs_eq hv hw hl (A := c.A.in1) (s := s)
    exact eq_listAt (ha.isList l) (hb.isList l) (by simpa using hl) hu z.1 (by rw [z.2]; exact ⟨m, news, l, h⟩)
  · refine eq_list_lengthsAt (ha.isList l) (hb.isList l) (by simpa using hl) hu ?_
    rw [decide_eq_false (fun e => hl (by rw [Paired.length hv, Paired.length hw, e]))] at h
    exact ⟨m, news, l, h⟩
theorem v_neStrs {a b : Addr} {vs ws : List Value} {xs ys : List (List Nat)} (ha : LstAt c news a vs) (hb : LstAt c news b ws) (hv : Strs vs xs) (hw : Strs ws ys) (hu : c.A.units < cLine) (h : Q (.bool (!decide (xs = ys))) m news) :
    Tr (model prog w) c (compareOp .NotEq (.ref a) (.ref b)) m news Q E := fun k s l => by
  by_cases hl : vs.length = ws.length
  · have z := strs_eq hv hw hl (A := c.A.in1) (s := s)
    exact EqBoolInt.of_rcne (RcNeAt.lists (ha.isList l) (hb.isList l) (by simpa using hl) hu z.1) (by rw [z.2]; exact ⟨m, news, l, h⟩)
  · refine EqBoolInt.of_rcne (RcNeAt.lists_lengths (ha.isList l) (hb.isList l) (by simpa using hl) hu) ?_
    rw [decide_eq_false (fun e => hl (by rw [Paired.length hv, Paired.length hw, e]))] at h
    exact ⟨m, news, l, h⟩
/-- `==` of things, as python has it -/
noncomputable def Th.eqv : Th → Th → Bool
  | .none, .none => true
  | .bool a, .bool b => a == b
  | .bool a, .int b => (if a then 1 else 0) == b
  | .int a, .bool b => a == (if b then 1 else 0)
  | .int a, .int b => a == b
  | .str a, .str b => decide (a = b)
  | _, _ => false
noncomputable def thOf : Value → Th
  | .none => .none
  | .bool b => .bool b
  | .int i _ => .int i
  | .str x _ => .str x.cps.toList
  | _ => .none
theorem IsTh.of {v : Value} {x : Th} (h : IsTh v x) : thOf v = x := by cases h <;> rfl
theorem th_eq {v u : Value} {x y : Th} (hv : IsTh v x) (hu : IsTh u y) {A : Around} {s : Shared} : EqAt A s v u (x.eqv y) := by
  cases hv <;> cases hu
  · exact EqAt.same _
  · exact EqAt.none_bool _
  · exact EqAt.none_int _ _
  · exact EqAt.none_str _ _
  · exact EqAt.bool_none _
  · exact EqAt.bool_bool _ _
  · exact EqAt.bool_int _ _ _
  · exact EqAt.bool_str _ _ _
  · exact EqAt.int_none _ _
  · exact EqAt.int_bool _ _ _
  · exact EqAt.int_int _ _ _ _
  · exact EqAt.int_str _ _ _ _
  · exact EqAt.str_none _ _
  · exact EqAt.str_bool _ _ _
  · exact EqAt.str_int _ _ _ _
  · show EqAt _ _ _ _ (decide _)
    rw [← S_eq]
    exact EqAt.str_str _ _ _ _
theorem any_th {vs : List Value} {xs : List Th} {x : Th} (hv : Things vs xs) : vs.any (fun y => (thOf y).eqv x) = xs.any (·.eqv x) := by
  induction hv with
  | nil => rfl
  | cons h t ih => rw [List.any_cons, List.any_cons, ih, h.of]
theorem v_notInTh {a : Addr} {vs : List Value} {xs : List Th} {v : Value} {x : Th} (ha : LstAt c news a vs) (hv : Things vs xs) (hx : IsTh v x) (h : Q (.bool (!xs.any (·.eqv x))) m news) : Tr (model prog w) c (compareOp .NotIn v (.ref a)) m news Q E := fun k s l => by
  refine notIn_listAt (fun y => (thOf y).eqv x) (ha.isList l) (fun y hy => ?_) ?_
  · obtain ⟨b, _, hb⟩ := Paired.left hv y (by simpa using hy)
    rw [hb.of]
    exact th_eq hb hx
  · have e : (vs.toArray).any (fun y => (thOf y).eqv x) = xs.any (·.eqv x) := by rw [← any_th hv]; simp
    rw [e]; exact ⟨m, news, l, h⟩
theorem any_strs {vs : List Value} {xs : List (List Nat)} (x : List Nat) (hv : Strs vs xs) : vs.toArray.any (isStrOf (S x)) = decide (x ∈ xs) := by
  have e : vs.any (isStrOf (S x)) = decide (x ∈ xs) := by
    induction hv with
    | nil => simp
    | cons h t ih =>
      cases h
      rw [List.any_cons, ih]
      show ((S _ == S x) || _) = _
      rw [S_eq, Bool.eq_iff_iff]
      simp only [Bool.or_eq_true, decide_eq_true_eq, List.mem_cons]
      constructor
      · rintro (h | h)
        · exact .inl h.symm
        · exact .inr h
      · rintro (h | h)
        · exact .inl h.symm
        · exact .inr h
  rw [← e]; simp
theorem str_gives {vs : List Value} {xs : List (List Nat)} (x : List Nat) (t : Tok) (hv : Strs vs xs) : ∀ y, y ∈ vs.toArray → MeetsSeq.EqGives y (.str (S x) t) (isStrOf (S x) y) := fun y hy => by
  obtain ⟨b, _, hb⟩ := Paired.left hv y (by simpa using hy)
  cases hb
  exact eqGives_str _ _ _ _
theorem v_inStrs {a : Addr} {vs : List Value} {xs : List (List Nat)} {x : List Nat} (ha : LstAt c news a vs) (hv : Strs vs xs) (h : Q (.bool (decide (x ∈ xs))) m news) : Tr (model prog w) c (compareOp .In (.str (S x) t) (.ref a)) m news Q E := fun k s l =>
  PySem.SeqInW.in_listW (isStrOf (S x)) (str_gives x t hv) (ha.isList l) (by rw [any_strs x hv]; exact ⟨m, news, l, h⟩)
theorem v_notInStrs {a : Addr} {vs : List Value} {xs : List (List Nat)} {x : List Nat} (ha : LstAt c news a vs) (hv : Strs vs xs) (h : Q (.bool (!decide (x ∈ xs))) m news) : Tr (model prog w) c (compareOp .NotIn (.str (S x) t) (.ref a)) m news Q E := fun k s l =>
  PySem.SeqInW.notIn_listW (isStrOf (S x)) (str_gives x t hv) (ha.isList l) (by rw [any_strs x hv]; exact ⟨m, news, l, h⟩)
theorem v_lenList {a : Addr} {vs : List Value} (ha : LstAt c news a vs) (hz : vs.length < 2 ^ 62) (h : ∀ t', Q (.int vs.length t') m news) : Tr (model prog w) c (call (.builtin "len") [.ref a]) m news Q E := fun k s l =>
  call_len_list (ha.isList l) (by rw [List.size_toArray]; (first | lia | omega)) ⟨m, news, l.toks _, by rw [List.size_toArray]; exact h _⟩
theorem v_truthyList {a : Addr} {vs : List Value} {Q : Bool → Loc → Led' → Prop} (ha : LstAt c news a vs) (hz : vs.length < 2 ^ 62) (h : Q (!vs.isEmpty) m news) : Tr (model prog w) c (truthy (.ref a)) m news Q E := fun k s l =>
  wpAny_truthy_list (ha.isList l) (by rw [List.size_toArray]; (first | lia | omega)) ⟨m, news, l.toks _, by simpa using h⟩
theorem v_addList {a b : Addr} {vs ws : List Value} (ha : PlAt c news a vs) (hb : PlAt c news b ws) (hz : vs.length + ws.length ≤ sizeLine) (h : ∀ d, Q (.ref d) m ((d, lst (vs ++ ws)) :: news)) : Tr (model prog w) c (binaryOp .Add (.ref a) (.ref b)) m news Q E := fun k s l => by
  obtain ⟨n1, ha⟩ := ha
  obtain ⟨n2, hb⟩ := hb
  refine P.add_list (ha.get l) (hb.get l) ⟨m, _, l.push rfl, ?_⟩ (by simpa using hz)
  have e : vs.toArray ++ ws.toArray = (vs ++ ws).toArray := by simp
  rw [e]; exact h _
theorem v_listOf {a : Addr} {vs : List Value} (ha : LstAt c news a vs) (hz : vs.length ≤ sizeLine) (h : ∀ d n, Q (.ref d) m ((d, lst vs n) :: news)) : Tr (model prog w) c (call (.type "list") [.ref a]) m news Q E := fun k s l => by
  obtain ⟨o, ht, hc, n, hd⟩ := ha
  refine call_list_seq a (.inl rfl) (ht.get l) hc hd (fun h' c' hk hn => ?_) (by rw [List.size_toArray]; exact hz)
  exact ⟨m, _, l.out (out := [(s.heap.objs.size, lst vs c')]) (tk := s.toks) hk (fun p hp => by rw [List.mem_singleton.mp hp]; exact ⟨hn, Nat.le_refl _⟩) (List.pairwise_singleton _ _) l.gens, h _ _⟩
/-- two texts' lists, both new -/
theorem v_neTup {a b a1 a2 b1 b2 : Addr} {n n' : Nat} {vs1 vs2 ws1 ws2 : List Value} {xs1 xs2 ys1 ys2 : List (List Nat)} (ha : There c news a (tup [.ref a1, .ref a2] n)) (hb : There c news b (tup [.ref b1, .ref b2] n'))
    (h1 : LstAt c news a1 vs1) (h2 : LstAt c news a2 vs2) (g1 : LstAt c news b1 ws1) (g2 : LstAt c news b2 ws2) (p1 : Strs vs1 xs1) (p2 : Strs vs2 xs2) (q1 : Strs ws1 ys1) (q2 : Strs ws2 ys2) (n1 : a1 ≠ b1) (n2 : a2 ≠ b2)
    (hu : c.A.units + 1 < cLine) (h : Q (.bool (!(decide (xs1 = ys1) && decide (xs2 = ys2)))) m news) : Tr (model prog w) c (compareOp .NotEq (.ref a) (.ref b)) m news Q E := fun k s l => by
  have key : ∀ {a b : Addr} {vs ws : List Value} {xs ys : List (List Nat)}, LstAt c news a vs → LstAt c news b ws → Strs vs xs → Strs ws ys → a ≠ b → EqAt c.A.in1 s (.ref a) (.ref b) (decide (xs = ys)) := fun {a b vs ws xs ys} ha hb hv hw ne => by
    refine EqAt.of_refs ne ?_
    by_cases hl : vs.length = ws.length
    · have z := strs_eq hv hw hl (A := c.A.in1.in1) (s := s)
      have := RcAt.lists (A := c.A.in1) (ha.isList l) (hb.isList l) (by simpa using hl) (by show c.A.units + 1 < cLine; exact hu) z.1
      rw [z.2] at this; exact this
    · rw [decide_eq_false (fun e => hl (by rw [Paired.length hv, Paired.length hw, e]))]
      exact RcAt.lists_lengths (ha.isList l) (hb.isList l) (by simpa using hl) (by show c.A.units + 1 < cLine; exact hu)
  have k1 := key h1 g1 p1 q1 n1
  have k2 := key h2 g2 p2 q2 n2
  refine EqBoolInt.of_rcne (RcNeAt.tuples (e := fun j => if j = 0 then decide (xs1 = ys1) else decide (xs2 = ys2)) ⟨_, ha.get l, rfl, n, rfl⟩ ⟨_, hb.get l, rfl, n', rfl⟩ (Nat.lt_of_succ_lt hu) fun j i1 i2 => ?_) ?_
  · match j with
    | 0 => exact k1
    | 1 => exact k2
    | j + 2 => exact absurd (show j + 2 < 2 from i1) (by (first | lia | omega))
  · have e : (!((List.range (min #[Value.ref a1, .ref a2].size #[Value.ref b1, .ref b2].size)).all (fun j => if j = 0 then decide (xs1 = ys1) else decide (xs2 = ys2)) && #[Value.ref a1, .ref a2].size == #[Value.ref b1, .ref b2].size)) = !(decide (xs1 = ys1) && decide (xs2 = ys2)) := by
      show (!((List.range 2).all _ && true)) = _
      simp [List.range, List.range.loop]
    exact e ▸ ⟨m, news, l, h⟩
end
end Mine
end
section
open PySem PySem.W PyProof.Rows PySem.Calls PySem.SeqAt
set_option maxRecDepth 20000
set_option linter.unusedVariables false
namespace Mine
section
variable {prog : Program} {w : World} {c : FC} {m : Loc} {news : Led'} {E : Led' → Value → Shared → Prop} {Q : Value → Loc → Led' → Prop} {t u : Tok}
noncomputable def MethOk (prog : Program) (w : World) (c : FC) (n : Led') (ov : Value) (name : Str) (id : String) : Prop :=
  ∀ k m s pl (Q : Value × List Value → Shared → Prop) (E : Value → Shared → Prop), Ld c k m n s → Q (.builtin id, [ov]) s → wpAny (model prog w) c.A (getMethod ov name pl) Q E s
theorem MethOk.list {a : Addr} {vs : List Value} {name : Str} {id : String} (ha : PlAt c news a vs) (slot : Slot "list" name id) (hty : typeOf (.builtin id) = Pure.pure (.type "method_descriptor")) : MethOk prog w c news (.ref a) name id :=
  fun k m s pl Q E l h => getMethod_builtin ⟨_, ha.choose_spec.get l, rfl⟩ F.plainAttrs_list slot hty (fun a' e => by cases e; exact ⟨_, ha.choose_spec.get l, rfl⟩) h
theorem MethOk.str {x : Str} {t : Tok} {name : Str} {id : String} (slot : Slot "str" name id) (hty : typeOf (.builtin id) = Pure.pure (.type "method_descriptor")) : MethOk prog w c news (.str x t) name id :=
  fun k m s pl Q E l h => getMethod_builtin (typeIs_str _ _ _) F.plainAttrs_str slot hty (fun a' e => by cases e) h
theorem t_Method {o : Expr} {name : Str} {apos pos : Pos} {args : List Expr} {pl : Sem Bool}
    (h : Tr (model prog w) c (eval o c.env) m news (fun ov m₁ n₁ => ∃ id, MethOk prog w c n₁ ov name id ∧ Tr (model prog w) c (callWith pos (.builtin id) [ov] (backTo pos (starEach args c.env)) []) m₁ n₁ Q E) E)
    (he : eval (.Call (.Attribute o name apos) args [] pos) c.env = (do
      let ov ← eval o c.env
      PySem.standAt apos.atName
      let (f, first) ← PySem.holding [ov] (getMethod ov name pl)
      callWith pos f first (backTo pos (starEach args c.env)) [])) :
    Tr (model prog w) c (eval (.Call (.Attribute o name apos) args [] pos) c.env) m news Q E := fun k s l =>
  MethodCall_ (pl := pl) (wpAny_mono (h k s l) (fun ov s₁ ⟨m₁, n₁, l₁, id, hm, q⟩ => hm k m₁ s₁ pl _ _ l₁ (q k s₁ l₁)) fun _ _ e => e) he
theorem t_methL {a : Addr} {vs : List Value} {name : Str} {id : String} {R : String → Prop} (ha : PlAt c news a vs) (slot : Slot "list" name id) (hty : typeOf (.builtin id) = Pure.pure (.type "method_descriptor")) (h : R id) : ∃ id, MethOk prog w c news (.ref a) name id ∧ R id := ⟨id, .list ha slot hty, h⟩
theorem t_methS {x : Str} {t : Tok} {name : Str} {id : String} {R : String → Prop} (slot : Slot "str" name id) (hty : typeOf (.builtin id) = Pure.pure (.type "method_descriptor")) (h : R id) : ∃ id, MethOk prog w c news (.str x t) name id ∧ R id := ⟨id, .str slot hty, h⟩
theorem t_mid {M : Model} {tt : Sem Flow} {rest : List Stmt} {env : Env} {Q : Flow → Loc → Led' → Prop} (R : Loc → Led' → Prop) (h1 : Tr M c tt m news (fun f m' n' => f = .next ∧ R m' n') E) (h2 : ∀ m' n', R m' n' → Tr M c (execs rest env) m' n' Q E) :
    Tr M c tt m news (After M c rest env Q E) E := h1.mono (fun f m' n' h => by rw [h.1]; exact h2 m' n' h.2) fun _ _ _ e => e
theorem CF.inter {G : Gl} {sc : Scope} {d : Nat} (F : CF G c sc d) : interactive c.env = false := by
  have h1 := F.sc
  have h2 := F.kind
  unfold interactive
  simp only [h1, h2]
  rfl
/-- a comprehension's scope, seen from the def's -/
noncomputable def relS (scope sc : Scope) : Scope := { scope with names := scope.names.map fun (n, k) => if (k == .free && sc.kind == .function && sc.names.lookup n == some .cell) then (n, .cell) else (n, k) }
section
variable {G : Gl} {sc scope : Scope} {d : Nat} {cl : List (Str × Addr)} {c' : FC} {n : Led'}
structure NF (G : Gl) (c : FC) (sc : Scope) : Prop where
  hsc : c.env.scope = sc
  hkind : sc.kind = .function
  gl : c.env.globals = mainGlobals
  bi : c.env.builtins = builtinsNs
  ok : GOk G c.g
theorem CF.nf (F : CF G c sc d) : NF G c sc := ⟨F.sc, F.kind, F.gl, F.bi, F.ok⟩
theorem NF.inner (F : NF G c sc) (I : Inner c n scope cl c') (hk : scope.kind = .function) : NF G c' (relS scope sc) := by
  obtain ⟨C, e⟩ := I.env
  refine ⟨?_, hk, by rw [e]; exact F.gl, by rw [e]; exact F.bi, F.ok.keeps I.keep⟩
  rw [e]
  show relabel scope c.env = relS scope sc
  unfold relabel relS Env.kindOf
  rw [F.hsc]
theorem NF.globKind (F : NF G c sc) {x : Str} (h : isGlobB sc x = true) : c.env.kindOf x = some .globalImplicit ∧ (x == ("__debug__" : Str)) = false := by
  obtain ⟨h1, h2⟩ := Bool.and_eq_true_iff.mp h
  refine ⟨?_, by simpa using h2⟩
  unfold Env.kindOf
  rw [F.hsc]
  revert h1
  split
  · rename_i e; intro _; exact e
  · intro e; cases e
theorem NF.bnm (F : NF G c sc) {x : Str} {v : Value} (h : isGlobB sc x = true) (hm : (x, v) ∈ bnames) : Nm c x v := fun M pos m news Q E hq k' s l => by
  obtain ⟨k, nd⟩ := F.globKind h
  have z := F.ok.bn _ hm
  exact Name_function_global (by rw [F.hsc]; exact F.hkind) k (loadGlobal_builtin (by rw [F.gl]; exact F.ok.g.keeps l.old) z.1 (by rw [F.bi]; exact F.ok.b.keeps l.old) z.2 ⟨m, news, l, hq⟩) nd
theorem NF.gnm (F : NF G c sc) {x : Str} {v : Value} (h : isGlobB sc x = true) (hm : G.mg x = some v) : Nm c x v := fun M pos m news Q E hq k' s l => by
  obtain ⟨k, nd⟩ := F.globKind h
  exact Name_function_global (by rw [F.hsc]; exact F.hkind) k (loadGlobal_global (by rw [F.gl]; exact F.ok.g.keeps l.old) hm ⟨m, news, l, hq⟩) nd
end
theorem t_Try0 {body orelse : List Stmt} {h₀ : ExceptHandler} {hs : List ExceptHandler} {pos : Pos} {Q : Flow → Loc → Led' → Prop} {env : Env}
    (h : Tr (model prog w) c (execs body env) m news (After (model prog w) c orelse env Q E) nope) : Tr (model prog w) c (exec (.Try body (h₀ :: hs) orelse [] pos) env) m news Q E := fun k s l =>
  wpAny_Try_except (wpAny_mono (h k s l) (fun f s₁ ⟨m₁, n₁, l₁, q⟩ => by
    cases f with
    | next => exact q k s₁ l₁
    | cont => exact ⟨m₁, n₁, l₁, q⟩
    | brk => exact ⟨m₁, n₁, l₁, q⟩
    | ret v => exact ⟨m₁, n₁, l₁, q⟩) (fun _ _ e => e.elim))
theorem passesNope {M : Model} {A : Around} {env : Env} : ∀ k : Led', PassesOwn M A env (nope k) := fun _ => by passes_own
end
end Mine
end
section
open PySem PySem.W PyProof.Rows PySem.Calls
set_option maxRecDepth 20000
set_option linter.unusedVariables false
namespace Mine
set_option compiler.extract_closed false
local macro_rules | `(tactic| walk_at "lk") => `(tactic| first | assumption | exact upd_hit | (refine upd_miss (by decide) ?_; walk_at "lk") | (with_unfolding_all rfl))
local macro_rules | `(tactic| walk_at "nm") => `(tactic| with_reducible assumption)
local macro_rules | `(tactic| walk_at "st") => `(tactic| with_reducible first
  | (refine' t_ld ?k1 ?k2 ?_; (case k1 => walk_at "nm"); (case k2 => walk_at "lk"))
  | (refine' t_nm ?k1 ?_; (case k1 => walk_at "nm"))
  | refine t_IntC fun _ => ?_
  | refine t_StrS fun _ => ?_
  | refine t_BoolC ?_
  | refine t_NoneC ?_
  | refine t_cons ?_
  | refine t_after ?_
  | refine t_afterR ?_
  | refine t_afterB ?_
  | refine t_If ?_
  | (refine t_isCompare ?_ ?k1; (case k1 => with_unfolding_all rfl))
  | refine t_isAnd2 ?_
  | refine t_isOr2 ?_
  | refine t_isNot ?_
  | (refine t_isPlain ?_ ?k1; (case k1 => with_unfolding_all rfl))
  | refine t_truthy_bool ?_
  | (refine t_ifTrue ?k1 ?_; (case k1 => with_unfolding_all rfl))
  | (refine t_ifFalse ?k1 ?_; (case k1 => with_unfolding_all rfl))
  | (refine t_Assign ?_ ?k1; (case k1 => with_unfolding_all rfl))
  | (refine t_st ?k1 ?_; (case k1 => walk_at "nm"))
  | refine t_AugAssign ?_
  | (refine' t_ldn ?k1 ?k2 ?_; (case k1 => walk_at "nm"); (case k2 => walk_at "lk"))
  | refine t_BinOp ?_
  | (refine t_Compare ?_ ?k1; (case k1 => with_unfolding_all rfl))
  | (refine t_CallE ?_ ?k1; (case k1 => with_unfolding_all rfl))
  | (refine t_callWith0 ?k1 ?_; (case k1 => with_unfolding_all rfl))
  | (refine t_callWith1 ?k1 ?_; (case k1 => with_unfolding_all rfl))
  | (refine t_argS ?_ ?k1; (case k1 => with_unfolding_all rfl))
  | refine t_arg0 ?_
  | refine And.intro (KeepOk.builtin _) ?_
  | refine And.intro (KeepOk.type _) ?_
  | refine Exists.intro _ (And.intro rfl ?_)
  | refine t_Return ?_
  | refine t_IfExp ?_
  | refine t_UnaryOp ?_
  | (refine t_ExprStmt ?_ ?k1 ?k2; (case k1 => walk_at "nm"); (case k2 => with_unfolding_all rfl))
  | refine And.intro rfl ?_
  | refine t_Break ?_
  | refine t_nil ?_
  | refine v_eqInt ?_
  | refine v_neInt ?_
  | refine v_ltInt ?_
  | refine v_gtInt ?_
  | refine v_geInt ?_
  | refine v_eqStr ?_
  | refine v_neStr ?_
  | refine v_ltStr ?_
  | refine v_gtStr ?_
  | refine v_addInt fun _ => ?_
  | refine v_iaddInt fun _ => ?_
  | refine v_subInt fun _ => ?_
  | refine v_negInt fun _ => ?_
  | refine v_isNone ?_
  | (refine v_modPos ?k1 fun _ => ?_; (case k1 => decide))
  | (refine v_divSmall ?k1 fun _ => ?_; (case k1 => decide))
  | refine t_Tuple ?_
  | refine t_List ?_
  | ((fail_if_success (refine t_strSlice ?_ ?_)); (fail_if_success (refine t_listSliceS ?_ ?_)); refine t_Subscript ?_)
  | refine t_part0 ?_
  | refine t_part ?_
  | (refine v_is ?k1 ?_; (case k1 => with_unfolding_all rfl))
  | (refine v_isNot ?k1 ?_; (case k1 => with_unfolding_all rfl))
  | refine v_abs fun _ => ?_
  | refine v_isiIntInt ?_
  | refine v_isiStrInt ?_
  | (refine t_Method ?_ (by with_unfolding_all rfl))
  | (refine t_tests1 ?_)
  | (refine t_tests0 ?_)
  | refine t_Pass ?_
  | refine t_Dict0 fun _ _ _ => ?_
  | refine t_Try0 ?_
  | (refine t_AssignSub ?_ ?k1; (case k1 => with_unfolding_all rfl))
  | (refine' t_use ?k1 ?_; (case k1 => assumption))
  | fail)
local macro_rules | `(tactic| walk_at "go") => `(tactic| repeat' (walk_at "st"))
local macro_rules | `(tactic| walk_at "gT") => `(tactic| repeat' ((fail_if_success (with_reducible refine t_Try0 ?_)); walk_at "st"))
local macro_rules | `(tactic| walk_at "g0") => `(tactic| repeat' ((fail_if_success (with_reducible refine t_If ?_)); walk_at "st"))
local macro_rules | `(tactic| walk_at "lka") => `(tactic| ((repeat' (with_reducible refine And.intro ?_ ?_)) <;> first | walk_at "lk" | exact ⟨_, by walk_at "lk"⟩))
local macro_rules | `(tactic| walk_at "mm") => `(tactic| first | exact .head _ | exact .tail _ (.head _) | exact .tail _ (.tail _ (.head _)) | exact .tail _ (.tail _ (.tail _ (.head _))) | exact .tail _ (.tail _ (.tail _ (.tail _ (.head _)))))
local macro_rules | `(tactic| walk_at "mb") => `(tactic| first | exact .head _ | assumption | exact List.mem_append_left _ (by assumption) | (refine .tail _ ?_; walk_at "mb") | (refine List.mem_append_right _ ?_; walk_at "mb"))

noncomputable abbrev W := List Nat
noncomputable def mark (al : Bool) (x : W) : W := if al && decide (x = L "False") then L "0" else if al && decide (x = L "True") then L "1" else x
noncomputable def weedStep (al : Bool) (p : List W × List W) (x : W) : List W × List W := if mark al x ∈ p.1 then p else (p.1 ++ [mark al x], p.2 ++ [x])
noncomputable def weedAt (al : Bool) (xs : List W) (i : Nat) : List W × List W := (xs.take i).foldl (weedStep al) ([], [])
noncomputable def weed (al : Bool) (xs : List W) : List W := (weedAt al xs xs.length).2
theorem weedAt_succ {al : Bool} {xs : List W} {i : Nat} {x : W} (h : xs[i]? = some x) : weedAt al xs (i + 1) = weedStep al (weedAt al xs i) x := by
  unfold weedAt
  rw [List.take_add_one, h]
  simp
structure WeedJ (c : FC) (al : Bool) (xs : List W) (b : Addr) (vs : List Value) (i : Nat) (m : Loc) (n : Led') : Prop where
  words : m "words" = some (.ref b)
  alike : m "alike" = some (.bool al)
  rest : ∃ a1 a2 sv tv e1 e2, m "seen" = some (.ref a1) ∧ m "told" = some (.ref a2) ∧ n = [(a2, lst tv e2), (a1, lst sv e1)] ∧ Strs sv (weedAt al xs i).1 ∧ Strs tv (weedAt al xs i).2 ∧ sv.length ≤ i ∧ tv.length ≤ i
theorem spec_weed {prog : Program} {w : World} {G : Gl} {a b : Addr} {vs : List Value} {xs : List W} {al : Bool} (hv : Strs vs xs) (hz : vs.length ≤ 1000) :
    Spec (model prog w) G 1 a [.ref b, .bool al] (fun h => FnIs G h 21 a ∧ ∃ n, h.get? b = some (lst vs n)) (fun r out => ∃ d tv e, r = .ref d ∧ out = [(d, lst tv e)] ∧ Strs tv (weed al xs) ∧ tv.length ≤ vs.length) := by
  refine spec_of (binds := [("words", .ref b), ("alike", .bool al)]) (fun h _ hp => hp.1) (fun _ _ _ => rfl) (locs rfl) (by decide +kernel) ?_
  intro c F ⟨_, n0, hb⟩
  have X_int := F.inter
  have L_words : LocN c "words" := F.loc (by decide +kernel)
  have L_alike : LocN c "alike" := F.loc (by decide +kernel)
  have L_seen : LocN c "seen" := F.loc (by decide +kernel)
  have L_told : LocN c "told" := F.loc (by decide +kernel)
  have L_word : LocN c "word" := F.loc (by decide +kernel)
  have L_mark : LocN c "mark" := F.loc (by decide +kernel)
  have hlen := Paired.length hv
  have hsz : 1000 ≤ sizeLine := by decide +kernel
  refine t_cons ?_
  walk_at "go"
  refine ⟨Nat.zero_le _, fun a1 => ?_⟩
  walk_at "go"
  refine ⟨Nat.zero_le _, fun a2 => ?_⟩
  walk_at "go"
  refine t_For (n := vs.length) (P := fun i v => vs[i]? = some v) (fpo := [(b, lst vs n0)]) L_word (WeedJ c al xs b vs) ?_ ?_ ?_ ?_ (fun _ => rfl) passesNope (fun _ _ _ _ h => h)
  · walk_at "go"
    exact ⟨itOk_list F.hn (.inl hb) rfl rfl, _, List.Sublist.refl _, ⟨by walk_at "lk", by walk_at "lk", a1, a2, [], [], 0, 0, by walk_at "lk", by walk_at "lk", rfl, .nil, .nil, Nat.le_refl _, Nat.le_refl _⟩⟩
  · intro i m n _ p hp
    rw [List.mem_singleton.mp hp]; exact .inl hb
  · rintro i v m n hi hvi xB1
    refine t_box fun gbx hbx => ?_
    obtain ⟨hw, hal, a1, a2, sv, tv, e1, e2, h1, h2, eB0, s1, s2, z1, z2⟩ := xB1
    refine hbx ?_
    clear hbx gbx
    subst eB0
    refine t_box fun gbx hbx => ?_
    obtain ⟨x, hx, hvx⟩ := Paired.get1 hv hvi
    refine hbx ?_
    clear hbx gbx
    cases hvx with | mk x t =>
    have fin : ∀ m' n', (∃ sv' tv' e1' e2', m' "words" = some (.ref b) ∧ m' "alike" = some (.bool al) ∧ m' "seen" = some (.ref a1) ∧ m' "told" = some (.ref a2) ∧ n' = [(a2, lst tv' e2'), (a1, lst sv' e1')] ∧
        ((mark al x ∈ (weedAt al xs i).1 ∧ sv' = sv ∧ tv' = tv) ∨ (mark al x ∉ (weedAt al xs i).1 ∧ ∃ t1 t2, sv' = sv ++ [.str (S (mark al x)) t1] ∧ tv' = tv ++ [.str (S x) t2]))) → ∃ n'', n''.Sublist n' ∧ WeedJ c al xs b vs (i + 1) m' n'' := by
      rintro m' n' xB1
      refine t_box fun gbx hbx => ?_
      obtain ⟨sv', tv', e1', e2', q1, q2, q3, q4, eB0, q5⟩ := xB1
      refine hbx ?_
      clear hbx gbx
      subst eB0
      refine ⟨_, List.Sublist.refl _, q1, q2, a1, a2, sv', tv', e1', e2', q3, q4, rfl, ?_⟩
      rw [weedAt_succ hx]
      unfold weedStep
      rcases q5 with ⟨hm, rfl, rfl⟩ | ⟨hm, t1, t2, rfl, rfl⟩
      · rw [if_pos hm]
        exact ⟨s1, s2, by (first | lia | omega), by (first | lia | omega)⟩
      · rw [if_neg hm]
        exact ⟨Paired.snoc s1 (.mk _ _), Paired.snoc s2 (.mk _ _), by simp; (first | lia | omega), by simp; (first | lia | omega)⟩
    walk_at "g0"
    refine t_mid (fun m' n' => n' = [(a2, lst tv e2), (a1, lst sv e1)] ∧ (∃ t', m' "mark" = some (.str (S (if al && decide (x = L "True") then L "1" else x)) t')) ∧ m' "words" = some (.ref b) ∧ m' "alike" = some (.bool al) ∧ m' "seen" = some (.ref a1) ∧ m' "told" = some (.ref a2) ∧ m' "word" = some (.str (S x) t)) ?_ ?_
    · cases al
      · walk_at "go"
        walk_at "lka"
      · walk_at "go"
        refine t_ite (fun hb => ?_) (fun hb => ?_) <;> walk_at "go" <;> refine ⟨?_, by walk_at "lka"⟩
        · rw [show (true && decide (x = L "True")) = true from hb]; exact ⟨_, by walk_at "lk"⟩
        · rw [show (true && decide (x = L "True")) = false from hb]; exact ⟨_, by walk_at "lk"⟩
    · rintro m₁ n₁ xB1
      refine t_box fun gbx hbx => ?_
      obtain ⟨eB0, ⟨t', g1⟩, g2, g3, g4, g5, g6⟩ := xB1
      refine hbx ?_
      clear hbx gbx
      subst eB0
      walk_at "g0"
      refine t_mid (fun m' n' => n' = [(a2, lst tv e2), (a1, lst sv e1)] ∧ (∃ t', m' "mark" = some (.str (S (mark al x)) t')) ∧ m' "words" = some (.ref b) ∧ m' "alike" = some (.bool al) ∧ m' "seen" = some (.ref a1) ∧ m' "told" = some (.ref a2) ∧ m' "word" = some (.str (S x) t)) ?_ ?_
      · cases al
        · walk_at "go"
          walk_at "lka"
        · walk_at "go"
          refine t_ite (fun hb => ?_) (fun hb => ?_) <;> walk_at "go" <;> refine ⟨?_, by walk_at "lka"⟩
          · unfold mark; rw [show (true && decide (x = L "False")) = true from hb]; exact ⟨_, by walk_at "lk"⟩
          · unfold mark; rw [show (true && decide (x = L "False")) = false from hb]; exact ⟨_, by walk_at "lk"⟩
      · rintro m₂ n₂ xB1
        refine t_box fun gbx hbx => ?_
        obtain ⟨eB0, ⟨t', k1⟩, k2, k3, k4, k5, k6⟩ := xB1
        refine hbx ?_
        clear hbx gbx
        subst eB0
        walk_at "go"
        refine v_notInStrs (.new (by walk_at "mm")) s1 ?_
        walk_at "go"
        refine t_ite (fun hm => ?_) (fun hm => ?_)
        · walk_at "go"
          refine t_methL (.new (by walk_at "mm")) PySem.F.slot_list_append PySem.F.type_list_append ?_
          walk_at "go"
          refine v_append (i := 1) rfl (by (first | lia | omega)) fun e1' => ?_
          walk_at "go"
          refine t_methL (.new (by walk_at "mm")) PySem.F.slot_list_append PySem.F.type_list_append ?_
          walk_at "go"
          refine v_append (i := 0) rfl (by (first | lia | omega)) fun e1' => ?_
          walk_at "go"
          exact fin _ _ ⟨_, _, _, _, k2, k3, k4, k5, rfl, .inr ⟨of_decide_eq_false (by simpa using hm), _, _, rfl, rfl⟩⟩
        · walk_at "go"
          exact fin _ _ ⟨_, _, _, _, k2, k3, k4, k5, rfl, .inl ⟨of_decide_eq_true (by simpa using hm), rfl, rfl⟩⟩
  · rintro m n xB1
    refine t_box fun gbx hbx => ?_
    obtain ⟨hw, hal, a1, a2, sv, tv, e1, e2, h1, h2, eB0, s1, s2, z1, z2⟩ := xB1
    refine hbx ?_
    clear hbx gbx
    subst eB0
    walk_at "go"
    refine ⟨[(a2, lst tv e2)], by simp, a2, tv, e2, rfl, rfl, ?_, z2⟩
    unfold weed
    rw [← hlen]; exact s2
end Mine
end
section
open PySem PySem.W PyProof.Rows PySem.Calls
set_option maxRecDepth 20000
set_option linter.unusedVariables false
namespace Mine
set_option compiler.extract_closed false
local macro_rules | `(tactic| walk_at "lk") => `(tactic| first | assumption | exact upd_hit | (refine upd_miss (by decide) ?_; walk_at "lk") | (with_unfolding_all rfl))
local macro_rules | `(tactic| walk_at "nm") => `(tactic| with_reducible assumption)
local macro_rules | `(tactic| walk_at "st") => `(tactic| with_reducible first
  | (refine' t_ld ?k1 ?k2 ?_; (case k1 => walk_at "nm"); (case k2 => walk_at "lk"))
  | (refine' t_nm ?k1 ?_; (case k1 => walk_at "nm"))
  | refine t_IntC fun _ => ?_
  | refine t_StrS fun _ => ?_
  | refine t_BoolC ?_
  | refine t_NoneC ?_
  | refine t_cons ?_
  | refine t_after ?_
  | refine t_afterR ?_
  | refine t_afterB ?_
  | refine t_If ?_
  | (refine t_isCompare ?_ ?k1; (case k1 => with_unfolding_all rfl))
  | refine t_isAnd2 ?_
  | refine t_isOr2 ?_
  | refine t_isNot ?_
  | (refine t_isPlain ?_ ?k1; (case k1 => with_unfolding_all rfl))
  | refine t_truthy_bool ?_
  | (refine t_ifTrue ?k1 ?_; (case k1 => with_unfolding_all rfl))
  | (refine t_ifFalse ?k1 ?_; (case k1 => with_unfolding_all rfl))
  | (refine t_Assign ?_ ?k1; (case k1 => with_unfolding_all rfl))
  | (refine t_st ?k1 ?_; (case k1 => walk_at "nm"))
  | refine t_AugAssign ?_
  | (refine' t_ldn ?k1 ?k2 ?_; (case k1 => walk_at "nm"); (case k2 => walk_at "lk"))
  | refine t_BinOp ?_
  | (refine t_Compare ?_ ?k1; (case k1 => with_unfolding_all rfl))
  | (refine t_CallE ?_ ?k1; (case k1 => with_unfolding_all rfl))
  | (refine t_callWith0 ?k1 ?_; (case k1 => with_unfolding_all rfl))
  | (refine t_callWith1 ?k1 ?_; (case k1 => with_unfolding_all rfl))
  | (refine t_argS ?_ ?k1; (case k1 => with_unfolding_all rfl))
  | refine t_arg0 ?_
  | refine And.intro (KeepOk.builtin _) ?_
  | refine And.intro (KeepOk.type _) ?_
  | refine Exists.intro _ (And.intro rfl ?_)
  | refine t_Return ?_
  | refine t_IfExp ?_
  | refine t_UnaryOp ?_
  | (refine t_ExprStmt ?_ ?k1 ?k2; (case k1 => walk_at "nm"); (case k2 => with_unfolding_all rfl))
  | refine And.intro rfl ?_
  | refine t_Break ?_
  | refine t_nil ?_
  | refine v_eqInt ?_
  | refine v_neInt ?_
  | refine v_ltInt ?_
  | refine v_gtInt ?_
  | refine v_geInt ?_
  | refine v_eqStr ?_
  | refine v_neStr ?_
  | refine v_ltStr ?_
  | refine v_gtStr ?_
  | refine v_addInt fun _ => ?_
  | refine v_iaddInt fun _ => ?_
  | refine v_subInt fun _ => ?_
  | refine v_negInt fun _ => ?_
  | refine v_isNone ?_
  | (refine v_modPos ?k1 fun _ => ?_; (case k1 => decide))
  | (refine v_divSmall ?k1 fun _ => ?_; (case k1 => decide))
  | refine t_Tuple ?_
  | refine t_List ?_
  | ((fail_if_success (refine t_strSlice ?_ ?_)); (fail_if_success (refine t_listSliceS ?_ ?_)); refine t_Subscript ?_)
  | refine t_part0 ?_
  | refine t_part ?_
  | (refine v_is ?k1 ?_; (case k1 => with_unfolding_all rfl))
  | (refine v_isNot ?k1 ?_; (case k1 => with_unfolding_all rfl))
  | refine v_abs fun _ => ?_
  | refine v_isiIntInt ?_
  | refine v_isiStrInt ?_
  | (refine t_Method ?_ (by with_unfolding_all rfl))
  | (refine t_tests1 ?_)
  | (refine t_tests0 ?_)
  | refine t_Pass ?_
  | refine t_Dict0 fun _ _ _ => ?_
  | refine t_Try0 ?_
  | (refine t_AssignSub ?_ ?k1; (case k1 => with_unfolding_all rfl))
  | (refine' t_use ?k1 ?_; (case k1 => assumption))
  | fail)
local macro_rules | `(tactic| walk_at "go") => `(tactic| repeat' (walk_at "st"))
local macro_rules | `(tactic| walk_at "gT") => `(tactic| repeat' ((fail_if_success (with_reducible refine t_Try0 ?_)); walk_at "st"))
local macro_rules | `(tactic| walk_at "g0") => `(tactic| repeat' ((fail_if_success (with_reducible refine t_If ?_)); walk_at "st"))
local macro_rules | `(tactic| walk_at "lka") => `(tactic| ((repeat' (with_reducible refine And.intro ?_ ?_)) <;> first | walk_at "lk" | exact ⟨_, by walk_at "lk"⟩))
local macro_rules | `(tactic| walk_at "mm") => `(tactic| first | exact .head _ | exact .tail _ (.head _) | exact .tail _ (.tail _ (.head _)) | exact .tail _ (.tail _ (.tail _ (.head _))) | exact .tail _ (.tail _ (.tail _ (.tail _ (.head _)))))
local macro_rules | `(tactic| walk_at "mb") => `(tactic| first | exact .head _ | assumption | exact List.mem_append_left _ (by assumption) | (refine .tail _ ?_; walk_at "mb") | (refine List.mem_append_right _ ?_; walk_at "mb"))

noncomputable def joinL (sep : W) : List W → W
  | [] => []
  | [x] => x
  | x :: y :: r => x ++ sep ++ joinL sep (y :: r)
theorem join_S (sep : W) : ∀ xs : List W, Txt.join (S sep) (xs.map S) = S (joinL sep xs) := by
  intro xs
  show Builtin.Str.glued (S sep) (xs.map S) = _
  rw [StrLaws.glued_eq_join]
  induction xs with
  | nil => rfl
  | cons x r ih =>
    cases r with
    | nil => rfl
    | cons y r =>
      show S x ++ S sep ++ Str.join (S sep) ((y :: r).map S) = _
      rw [ih, S_app, S_app]; rfl
theorem strs_values : ∀ {vs : List Value} {xs : List W}, Strs vs xs → ∃ l : List (Str × Tok), vs = strValues l ∧ l.map (·.1) = xs.map S
  | _, _, .nil => ⟨[], rfl, rfl⟩
  | _, _, .cons h t => by
    refine t_box fun gbx hbx => ?_
    obtain ⟨l, eB0, e⟩ := strs_values t
    refine hbx ?_
    clear hbx gbx
    subst eB0
    cases h with | mk _ t => exact ⟨(S _, t) :: l, rfl, by rw [List.map_cons, e]; rfl⟩
theorem joinL_len {sep : W} {B : Nat} : ∀ {xs : List W}, (∀ x ∈ xs, x.length ≤ B) → (joinL sep xs).length ≤ xs.length * (B + sep.length)
  | [], _ => Nat.zero_le _
  | [x], h => by
    have := h x (.head _)
    show x.length ≤ 1 * (B + sep.length)
    (first | lia | omega)
  | x :: y :: r, h => by
    have h1 := h x (.head _)
    have h2 := joinL_len (sep := sep) (xs := y :: r) fun z hz => h z (.tail _ hz)
    show (x ++ sep ++ joinL sep (y :: r)).length ≤ (r.length + 1 + 1) * (B + sep.length)
    have h3 : (r.length + 1 + 1) * (B + sep.length) = (r.length + 1) * (B + sep.length) + (B + sep.length) := Nat.succ_mul _ _
    rw [h3, List.length_append, List.length_append]
    simp only [List.length_cons] at h2
    (first | lia | omega)
theorem idx_nat {k n : Nat} (h : k < n) : seqIndex? (k : Int) n = some k := by
  unfold seqIndex?
  simp only
  have h1 : ¬ ((k : Int) < 0) := by (first | lia | omega)
  rw [if_neg h1]
  have h2 : ¬ ((k : Int) < 0 ∨ (k : Int) ≥ n) := by (first | lia | omega)
  simp [h, h1]
theorem idx_neg {k n : Nat} (h0 : 0 < k) (h : k ≤ n) : seqIndex? (-(k : Int)) n = some (n - k) := by
  unfold seqIndex?
  simp only
  have h1 : (-(k : Int)) < 0 := by (first | lia | omega)
  rw [if_pos h1]
  have h3 : (-(k : Int) + n) = ((n - k : Nat) : Int) := by (first | lia | omega)
  rw [h3]
  have h4 : n - k < n := by (first | lia | omega)
  simp [h4]
section
variable {prog : Program} {w : World} {c : FC} {m : Loc} {news : Led'} {E : Led' → Value → Shared → Prop} {Q : Value → Loc → Led' → Prop} {t u : Tok}
theorem v_join {sep : W} {a : Addr} {vs : List Value} {xs : List W} {B : Nat} (ha : LstAt c news a vs) (hv : Strs vs xs) (hB : ∀ x ∈ xs, x.length ≤ B) (hz : xs.length * B + xs.length * sep.length ≤ 16777216) (h : ∀ t', Q (.str (S (joinL sep xs)) t') m news) :
    Tr (model prog w) c (call (.builtin "str.join") [.str (S sep) t, .ref a]) m news Q E := fun k s l => by
  refine t_box fun gbx hbx => ?_
  obtain ⟨l', eB0, e⟩ := strs_values hv
  refine hbx ?_
  clear hbx gbx
  subst eB0
  refine SC.join (ha.isList l) e ?_ fun t' k' => ⟨m, news, l.toks _, by rw [join_S]; exact h t'⟩
  unfold JoinOk
  rw [Bool.not_eq_true']
  refine StrLaws.joinFits (B := B) (fun y hy => ?_) (by rw [List.length_map, S_len]; exact hz)
  refine t_box fun gbx hbx => ?_
  obtain ⟨x, hx, eB0⟩ := List.mem_map.mp hy
  refine hbx ?_
  clear hbx gbx
  subst eB0
  rw [S_len]; exact hB x hx
end
noncomputable def frameOf (xs : List W) : W :=
  if xs = [] then L "(?s:\\[\\])\\Z" else L "(?s:[" ++ (if (xs.headD []).headD 0 = 45 then L "\\" else []) ++ joinL (L ", ") xs ++ L "])\\Z"
theorem spec_frame {prog : Program} {w : World} {G : Gl} {a b : Addr} {vs : List Value} {xs : List W} (hv : Strs vs xs) (hz : xs.length ≤ 1000) (hB : ∀ x ∈ xs, x ≠ [] ∧ x.length ≤ 100) :
    Spec (model prog w) G 1 a [.ref b] (fun h => FnIs G h 23 a ∧ ∃ n, h.get? b = some (lst vs n)) (fun r out => out = [] ∧ ∃ t, r = .str (S (frameOf xs)) t) := by
  refine spec_of (binds := [("words", .ref b)]) (fun h _ hp => hp.1) (fun _ _ _ => rfl) (locs rfl) (by decide +kernel) ?_
  intro c F ⟨_, n0, hb⟩
  have X_int := F.inter
  have L_words : LocN c "words" := F.loc (by decide +kernel)
  have L_mark : LocN c "mark" := F.loc (by decide +kernel)
  have hl : LstAt c [] b vs := .old ⟨_, hb, rfl, _, rfl⟩
  have hlen := Paired.length hv
  have hsz : 16777216 ≤ sizeLine := by decide +kernel
  refine t_cons ?_
  walk_at "go"
  refine ⟨Nat.zero_le _, fun a0 => ?_⟩
  refine v_eqStrs (ys := []) (.old ⟨_, hb, rfl, _, rfl⟩) (.new (by walk_at "mm")) hv .nil (by have := F.un; (first | lia | omega)) ?_
  walk_at "go"
  refine t_ite (fun he => ?_) (fun he => ?_)
  · have he := of_decide_eq_true he
    walk_at "go"
    rw [show frameOf xs = L "(?s:\\[\\])\\Z" from if_pos he]
    exact ⟨[], List.nil_sublist _, rfl, _, rfl⟩
  · have he := of_decide_eq_false he
    obtain ⟨x, r, rfl⟩ : ∃ x r, xs = x :: r := by cases xs with
      | nil => exact absurd rfl he
      | cons x r => exact ⟨x, r, rfl⟩
    obtain ⟨y, x', rfl⟩ : ∃ y x', x = y :: x' := by cases x with
      | nil => exact absurd rfl (hB [] (.head _)).1
      | cons y x' => exact ⟨y, x', rfl⟩
    have hfr : frameOf ((y :: x') :: r) = L "(?s:[" ++ (if y = 45 then L "\\" else []) ++ joinL (L ", ") ((y :: x') :: r) ++ L "])\\Z" := if_neg he
    rw [hfr]
    refine t_box fun gbx hbx => ?_
    obtain ⟨v, hv1, hv2⟩ := Paired.get2 hv (i := 0) rfl
    refine hbx ?_
    clear hbx gbx
    cases hv2 with | mk _ tx =>
    refine t_nil ?_
    refine t_after ?_
    refine t_cons ?_
    refine t_mid (fun m' n' => n' = [(a0, lst [])] ∧ m' "words" = some (.ref b) ∧ ∃ t, m' "mark" = some (.str (S (if y = 45 then L "\\" else [])) t)) ?_ ?_
    · walk_at "go"
      refine t_tailList (.old ⟨_, hb, rfl, _, rfl⟩) (by decide) (by decide) hv1 ?_ (by with_unfolding_all rfl)
      walk_at "go"
      refine t_tailStr (by decide) (idx_nat (k := 0) (by simp)) (by rfl) (fun _ => ?_) (by with_unfolding_all rfl)
      walk_at "go"
      have hd : decide ([y] = L "-") = decide (y = 45) := by
        rw [show L "-" = [45] from rfl]; simp
      rw [hd]
      refine t_ite (fun hy => ?_) (fun hy => ?_)
      · rw [if_pos (of_decide_eq_true hy)]
        walk_at "go"
        walk_at "lka"
      · rw [if_neg (of_decide_eq_false hy)]
        walk_at "go"
        walk_at "lka"
    · rintro m₁ n₁ xB1
      refine t_box fun gbx hbx => ?_
      obtain ⟨eB0, g1, t0, g2⟩ := xB1
      refine hbx ?_
      clear hbx gbx
      subst eB0
      have hmk : (if y = 45 then L "\\" else []).length ≤ 1 := by split <;> decide
      generalize (if y = 45 then L "\\" else []) = mk at hmk g2 ⊢
      walk_at "go"
      have hj := joinL_len (sep := L ", ") (xs := (y :: x') :: r) (B := 100) fun x hx => (hB x hx).2
      have e1 : (L ", ").length = 2 := by decide
      have e2 : (L "(?s:[").length = 5 := by decide
      have e3 : (L "])\\Z").length = 4 := by decide
      rw [e1] at hj
      refine v_addStr (by (first | lia | omega)) fun _ => ?_
      walk_at "go"
      refine t_methS PySem.F.slot_str_join PySem.F.type_str_join ?_
      walk_at "go"
      refine v_join (B := 100) (.old ⟨_, hb, rfl, _, rfl⟩) hv (fun x hx => (hB x hx).2) (by rw [e1]; (first | lia | omega)) fun _ => ?_
      refine v_addStr (by rw [List.length_append]; (first | lia | omega)) fun _ => ?_
      walk_at "go"
      refine v_addStr (by rw [List.length_append, List.length_append]; (first | lia | omega)) fun _ => ?_
      exact ⟨[], List.nil_sublist _, rfl, _, rfl⟩
end Mine
end
section
open PySem PySem.W PyProof.Rows PySem.Calls
set_option maxRecDepth 20000
set_option linter.unusedVariables false
namespace Mine
set_option compiler.extract_closed false
local macro_rules | `(tactic| walk_at "lk") => `(tactic| first | assumption | exact upd_hit | (refine upd_miss (by decide) ?_; walk_at "lk") | (with_unfolding_all rfl))
local macro_rules | `(tactic| walk_at "nm") => `(tactic| with_reducible assumption)
local macro_rules | `(tactic| walk_at "st") => `(tactic| with_reducible first
  | (refine' t_ld ?k1 ?k2 ?_; (case k1 => walk_at "nm"); (case k2 => walk_at "lk"))
  | (refine' t_nm ?k1 ?_; (case k1 => walk_at "nm"))
  | refine t_IntC fun _ => ?_
  | refine t_StrS fun _ => ?_
  | refine t_BoolC ?_
  | refine t_NoneC ?_
  | refine t_cons ?_
  | refine t_after ?_
  | refine t_afterR ?_
  | refine t_afterB ?_
  | refine t_If ?_
  | (refine t_isCompare ?_ ?k1; (case k1 => with_unfolding_all rfl))
  | refine t_isAnd2 ?_
  | refine t_isOr2 ?_
  | refine t_isNot ?_
  | (refine t_isPlain ?_ ?k1; (case k1 => with_unfolding_all rfl))
  | refine t_truthy_bool ?_
  | (refine t_ifTrue ?k1 ?_; (case k1 => with_unfolding_all rfl))
  | (refine t_ifFalse ?k1 ?_; (case k1 => with_unfolding_all rfl))
  | (refine t_Assign ?_ ?k1; (case k1 => with_unfolding_all rfl))
  | (refine t_st ?k1 ?_; (case k1 => walk_at "nm"))
  | refine t_AugAssign ?_
  | (refine' t_ldn ?k1 ?k2 ?_; (case k1 => walk_at "nm"); (case k2 => walk_at "lk"))
  | refine t_BinOp ?_
  | (refine t_Compare ?_ ?k1; (case k1 => with_unfolding_all rfl))
  | (refine t_CallE ?_ ?k1; (case k1 => with_unfolding_all rfl))
  | (refine t_callWith0 ?k1 ?_; (case k1 => with_unfolding_all rfl))
  | (refine t_callWith1 ?k1 ?_; (case k1 => with_unfolding_all rfl))
  | (refine t_argS ?_ ?k1; (case k1 => with_unfolding_all rfl))
  | refine t_arg0 ?_
  | refine And.intro (KeepOk.builtin _) ?_
  | refine And.intro (KeepOk.type _) ?_
  | refine Exists.intro _ (And.intro rfl ?_)
  | refine t_Return ?_
  | refine t_IfExp ?_
  | refine t_UnaryOp ?_
  | (refine t_ExprStmt ?_ ?k1 ?k2; (case k1 => walk_at "nm"); (case k2 => with_unfolding_all rfl))
  | refine And.intro rfl ?_
  | refine t_Break ?_
  | refine t_nil ?_
  | refine v_eqInt ?_
  | refine v_neInt ?_
  | refine v_ltInt ?_
  | refine v_gtInt ?_
  | refine v_geInt ?_
  | refine v_eqStr ?_
  | refine v_neStr ?_
  | refine v_ltStr ?_
  | refine v_gtStr ?_
  | refine v_addInt fun _ => ?_
  | refine v_iaddInt fun _ => ?_
  | refine v_subInt fun _ => ?_
  | refine v_negInt fun _ => ?_
  | refine v_isNone ?_
  | (refine v_modPos ?k1 fun _ => ?_; (case k1 => decide))
  | (refine v_divSmall ?k1 fun _ => ?_; (case k1 => decide))
  | refine t_Tuple ?_
  | refine t_List ?_
  | ((fail_if_success (refine t_strSlice ?_ ?_)); (fail_if_success (refine t_listSliceS ?_ ?_)); refine t_Subscript ?_)
  | refine t_part0 ?_
  | refine t_part ?_
  | (refine v_is ?k1 ?_; (case k1 => with_unfolding_all rfl))
  | (refine v_isNot ?k1 ?_; (case k1 => with_unfolding_all rfl))
  | refine v_abs fun _ => ?_
  | refine v_isiIntInt ?_
  | refine v_isiStrInt ?_
  | (refine t_Method ?_ (by with_unfolding_all rfl))
  | (refine t_tests1 ?_)
  | (refine t_tests0 ?_)
  | refine t_Pass ?_
  | refine t_Dict0 fun _ _ _ => ?_
  | refine t_Try0 ?_
  | (refine t_AssignSub ?_ ?k1; (case k1 => with_unfolding_all rfl))
  | (refine' t_use ?k1 ?_; (case k1 => assumption))
  | fail)
local macro_rules | `(tactic| walk_at "go") => `(tactic| repeat' (walk_at "st"))
local macro_rules | `(tactic| walk_at "gT") => `(tactic| repeat' ((fail_if_success (with_reducible refine t_Try0 ?_)); walk_at "st"))
local macro_rules | `(tactic| walk_at "g0") => `(tactic| repeat' ((fail_if_success (with_reducible refine t_If ?_)); walk_at "st"))
local macro_rules | `(tactic| walk_at "lka") => `(tactic| ((repeat' (with_reducible refine And.intro ?_ ?_)) <;> first | walk_at "lk" | exact ⟨_, by walk_at "lk"⟩))
local macro_rules | `(tactic| walk_at "mm") => `(tactic| first | exact .head _ | exact .tail _ (.head _) | exact .tail _ (.tail _ (.head _)) | exact .tail _ (.tail _ (.tail _ (.head _))) | exact .tail _ (.tail _ (.tail _ (.tail _ (.head _)))))
local macro_rules | `(tactic| walk_at "mb") => `(tactic| first | exact .head _ | assumption | exact List.mem_append_left _ (by assumption) | (refine .tail _ ?_; walk_at "mb") | (refine List.mem_append_right _ ?_; walk_at "mb"))

noncomputable def dupAt (xs : List Th) (i : Nat) : List Th := (xs.take i).foldl (fun acc x => if acc.any (·.eqv x) then acc else acc ++ [x]) []
noncomputable def dedTh (xs : List Th) : List Th := dupAt xs xs.length
theorem dupAt_succ {xs : List Th} {i : Nat} {x : Th} (h : xs[i]? = some x) : dupAt xs (i + 1) = if (dupAt xs i).any (·.eqv x) then dupAt xs i else dupAt xs i ++ [x] := by
  unfold dupAt
  rw [List.take_add_one, h]
  simp
structure DedJ (c : FC) (xs : List Th) (b : Addr) (i : Nat) (m : Loc) (n : Led') : Prop where
  params : m "unhashable_params" = some (.ref b)
  rest : ∃ a1 sv e1, m "new_unhashable" = some (.ref a1) ∧ n = [(a1, lst sv e1)] ∧ Things sv (dupAt xs i) ∧ sv.length ≤ i
theorem spec_dedU {prog : Program} {w : World} {G : Gl} {a b : Addr} {vs : List Value} {xs : List Th} (hv : Things vs xs) (hz : vs.length ≤ 1000) :
    Spec (model prog w) G 1 a [.ref b] (fun h => FnIs G h 12 a ∧ ∃ n, h.get? b = some (lst vs n)) (fun r out => ∃ d tv e, r = .ref d ∧ out = [(d, lst tv e)] ∧ Things tv (dedTh xs) ∧ tv.length ≤ vs.length) := by
  refine spec_of (binds := [("unhashable_params", .ref b)]) (fun h _ hp => hp.1) (fun _ _ _ => rfl) (locs rfl) (by decide +kernel) ?_
  intro c F ⟨_, n0, hb⟩
  have X_int := F.inter
  have L_params : LocN c "unhashable_params" := F.loc (by decide +kernel)
  have L_new : LocN c "new_unhashable" := F.loc (by decide +kernel)
  have L_t : LocN c "t" := F.loc (by decide +kernel)
  have hlen := Paired.length hv
  have hsz : 1000 ≤ sizeLine := by decide +kernel
  refine t_cons ?_
  walk_at "go"
  refine ⟨Nat.zero_le _, fun a1 => ?_⟩
  walk_at "go"
  refine t_For (n := vs.length) (P := fun i v => vs[i]? = some v) (fpo := [(b, lst vs n0)]) L_t (DedJ c xs b) ?_ ?_ ?_ ?_ (fun _ => rfl) passesNope (fun _ _ _ _ h => h)
  · walk_at "go"
    exact ⟨itOk_list F.hn (.inl hb) rfl rfl, _, List.Sublist.refl _, ⟨by walk_at "lk", a1, [], 0, by walk_at "lk", rfl, .nil, Nat.le_refl _⟩⟩
  · intro i m n _ p hp
    rw [List.mem_singleton.mp hp]; exact .inl hb
  · rintro i v m n hi hvi xB1
    refine t_box fun gbx hbx => ?_
    obtain ⟨hw, a1, sv, e1, h1, eB0, s1, z1⟩ := xB1
    refine hbx ?_
    clear hbx gbx
    subst eB0
    refine t_box fun gbx hbx => ?_
    obtain ⟨x, hx, hvx⟩ := Paired.get1 hv hvi
    refine hbx ?_
    clear hbx gbx
    walk_at "go"
    refine v_notInTh (.new (by walk_at "mm")) s1 hvx ?_
    walk_at "go"
    refine t_ite (fun hm => ?_) (fun hm => ?_)
    · have hm' : (dupAt xs i).any (·.eqv x) = false := by simpa using hm
      walk_at "go"
      refine t_methL (.new (by walk_at "mm")) PySem.F.slot_list_append PySem.F.type_list_append ?_
      walk_at "go"
      refine v_append (i := 0) rfl (by (first | lia | omega)) fun e1' => ?_
      walk_at "go"
      exact ⟨_, List.Sublist.refl _, hw, a1, _, _, h1, rfl, by rw [dupAt_succ hx, hm']; exact Paired.snoc s1 hvx, by simp; (first | lia | omega)⟩
    · have hm' : (dupAt xs i).any (·.eqv x) = true := by simpa using hm
      walk_at "go"
      exact ⟨_, List.Sublist.refl _, hw, a1, _, _, h1, rfl, by rw [dupAt_succ hx, hm']; exact s1, by (first | lia | omega)⟩
  · rintro m n xB1
    refine t_box fun gbx hbx => ?_
    obtain ⟨hw, a1, sv, e1, h1, eB0, s1, z1⟩ := xB1
    refine hbx ?_
    clear hbx gbx
    subst eB0
    walk_at "go"
    exact ⟨_, List.Sublist.refl _, a1, sv, e1, rfl, rfl, by unfold dedTh; rw [← hlen]; exact s1, z1⟩
end Mine
end
section
open PySem PySem.W PyProof.Rows PySem.Calls
set_option maxRecDepth 20000
set_option linter.unusedVariables false
namespace Mine
section
variable {prog : Program} {w : World} {c : FC} {k : Led'} {m : Loc} {news : Led'} {E : Led' → Value → Shared → Prop} {Q : Value → Loc → Led' → Prop} {t u : Tok} {s : Shared} {env : Env}
theorem Ld.fr (l : Ld c k m news s) : Fr c.g c.env.locals s.heap m := ⟨l.ns, l.old, Nat.le_trans l.above l.locs⟩
theorem Ld.none {a : Addr} (l : Ld c k m news s) (h : c.lo ≤ a) : c.g.get? a = Option.none := Heap.get?_none_of_le (Nat.le_trans l.above h)
theorem Ld.nws (l : Ld c k m news s) : News c.g c.env.locals s.heap (news ++ k) := fun p hp => by
  rcases List.mem_append.mp hp with hp | hp
  · have z := l.nw p hp; exact ⟨z.1, z.2.2, l.none z.2.1⟩
  · have z := l.kp p hp; exact ⟨z.1, z.2.2.1, l.none z.2.1⟩
theorem tl_aux {g : Heap} {lo : Addr} {tok : Addr → Obj → Prop} {h : Heap} : ∀ (tabs : List Addr), (∀ P ∈ tabs, P < lo ∧ g.get? P = Option.none ∧ ∃ o, h.get? P = some o ∧ tok P o) →
    ∃ tl : Led', (∀ P ∈ tabs, ∃ o, (P, o) ∈ tl ∧ tok P o) ∧ ∀ p ∈ tl, h.get? p.1 = some p.2 ∧ p.1 < lo ∧ g.get? p.1 = Option.none
  | [], _ => ⟨[], fun _ hp => (nomatch hp), fun _ hp => (nomatch hp)⟩
  | P :: r, hh => by
    obtain ⟨tl, h1, h2⟩ := tl_aux r fun Q hQ => hh Q (.tail _ hQ)
    obtain ⟨a, b, o, d, e⟩ := hh P (.head _)
    refine ⟨(P, o) :: tl, fun Q hQ => ?_, fun p hp => ?_⟩
    · rcases List.mem_cons.mp hQ with rfl | hQ
      · exact ⟨o, .head _, e⟩
      · obtain ⟨o', m', t'⟩ := h1 Q hQ; exact ⟨o', .tail _ m', t'⟩
    · rcases List.mem_cons.mp hp with rfl | hp
      · exact ⟨d, a, b⟩
      · exact h2 p hp
theorem Ld.tl (l : Ld c k m news s) : ∃ tl : Led', (∀ P ∈ c.tabs, ∃ o, (P, o) ∈ tl ∧ c.tok P o) ∧ (∀ p ∈ tl, p.1 < c.lo) ∧ News c.g c.env.locals s.heap (news ++ k ++ tl) := by
  obtain ⟨tl, h1, h2⟩ := tl_aux c.tabs l.tb
  refine ⟨tl, h1, fun p hp => (h2 p hp).2.1, fun p hp => ?_⟩
  rcases List.mem_append.mp hp with hp | hp
  · exact l.nws p hp
  · have z := h2 p hp
    exact ⟨z.1, Nat.ne_of_lt (Nat.lt_of_lt_of_le z.2.1 l.locs), z.2.2⟩
/-- back from the library's frame: one new object -/
theorem Ld.back (l : Ld c k m news s) {h' : Heap} {D d : Addr} {o o' : Obj} {tk : Nat} (F : Fr c.g c.env.locals h' m) {tl : Led'} (N0 : News c.g c.env.locals h' ((D, o) :: (news ++ k ++ tl))) (hlt0 : ∀ q ∈ news ++ k ++ tl, q.1 < D) (hd : (d, o') ∈ news) (h1 : ∀ P ∈ c.tabs, ∃ o, (P, o) ∈ tl ∧ c.tok P o) :
    Ld c k m ((D, o) :: news) { s with heap := h', toks := tk } := by
  have hlt : ∀ q ∈ news ++ k, q.1 < D := fun q hq => hlt0 q (List.mem_append_left _ hq)
  have N : News c.g c.env.locals h' ((D, o) :: (news ++ k)) := fun p hp => N0 p (by
    rcases List.mem_cons.mp hp with rfl | hp
    · exact .head _
    · exact .tail _ (List.mem_append_left _ hp))
  refine ⟨F.ns, F.keep, l.above, l.locs, fun p hp => ?_, ?_, fun p hp => ?_, l.gens, l.os, fun P hP => ?_⟩
  rotate_right 1
  · obtain ⟨a', b', _⟩ := l.tb P hP
    obtain ⟨o'', m'', t''⟩ := h1 P hP
    exact ⟨a', b', o'', (N0 _ (.tail _ (List.mem_append_right _ m''))).1, t''⟩
  · rcases List.mem_cons.mp hp with rfl | hp'
    · exact ⟨(N _ (.head _)).1, Nat.le_trans (l.nw _ hd).2.1 (Nat.le_of_lt (hlt _ (List.mem_append_left _ hd))), (N _ (.head _)).2.1⟩
    · exact ⟨(N _ (.tail _ (List.mem_append_left _ hp'))).1, (l.nw p hp').2⟩
  · refine List.Pairwise.cons (fun b hb => ?_) l.ord
    obtain ⟨p, hp, rfl⟩ := List.mem_map.mp hb
    exact hlt p (List.mem_append_left _ hp)
  · have z := l.kp p hp
    refine ⟨(N _ (.tail _ (List.mem_append_right _ hp))).1, z.2.1, z.2.2.1, fun q hq => ?_⟩
    rcases List.mem_cons.mp hq with rfl | hq
    · exact Nat.ne_of_gt (hlt p (List.mem_append_right _ hp))
    · exact z.2.2.2 q hq
theorem Ld.changeG (h : Ld c k m news s) {i : Nat} {a : Addr} {o o' : Obj} (hi : news[i]? = some (a, o)) {h' : Heap} (hs : ∀ b x, b ≠ a → s.heap.get? b = some x → h'.get? b = some x) (ha : h'.get? a = some o') {tk : Nat} :
    Ld c k m (news.set i (a, o')) { s with heap := h', toks := tk } := by
  have z := h.nw (a, o) (List.mem_of_getElem? hi)
  have ne : ∀ b x, c.g.get? b = some x → b ≠ a := fun b x e q => by
    subst q
    exact absurd (Nat.lt_of_lt_of_le (Heap.lt_size e) h.above) (Nat.not_lt.mpr z.2.1)
  have nk : ∀ p ∈ k, p.1 ≠ a := fun p hp => Ne.symm ((h.kp p hp).2.2.2 (a, o) (List.mem_of_getElem? hi))
  have nmap : (news.set i (a, o')).map (·.1) = news.map (·.1) := by
    rw [List.map_set]
    exact set_same' (by rw [List.getElem?_map, hi]; rfl)
  have mem : ∀ p ∈ news.set i (a, o'), p = (a, o') ∨ (p ∈ news ∧ p.1 ≠ a) := fun p hp => by
    obtain ⟨j, hj⟩ := List.getElem?_of_mem hp
    rw [List.getElem?_set] at hj
    split at hj
    · rename_i e
      split at hj
      · cases hj; exact .inl rfl
      · cases hj
    · rename_i hne
      refine .inr ⟨List.mem_of_getElem? hj, fun e => hne (addr_inj h.ord hi hj e.symm)⟩
  refine ⟨h.ns.at' fun x e => hs _ x (Ne.symm z.2.2) e, fun b x e => hs b x (ne b x e) (h.old b x e), h.above, h.locs, fun p hp => ?_, by rw [nmap]; exact h.ord, fun p hp => ?_, h.gens, h.os, fun P hP => let ⟨a', b', o', d', e'⟩ := h.tb P hP; ⟨a', b', o', hs P o' (Nat.ne_of_lt (Nat.lt_of_lt_of_le a' z.2.1)) d', e'⟩⟩
  · rcases mem p hp with rfl | ⟨hp, hne⟩
    · exact ⟨ha, z.2⟩
    · exact ⟨hs _ _ hne (h.nw p hp).1, (h.nw p hp).2⟩
  · have y := h.kp p hp
    refine ⟨hs _ _ (nk p hp) y.1, y.2.1, y.2.2.1, fun q hq => ?_⟩
    rcases mem q hq with rfl | ⟨hq, _⟩
    · exact Ne.symm (nk p hp)
    · exact y.2.2.2 q hq
/-- a table by its keys -/
noncomputable def Tab (prog : Program) (w : World) (ks : List W) (o : Obj) : Prop := ∃ kvs, o.IsDictOf (PySem.strKind prog w) kvs ∧ kvs.map (·.1) = ks.map S
noncomputable def addK (ks : List W) (x : W) : List W := if x ∈ ks then ks else ks ++ [x]
theorem stored_keys {kvs : List (Str × Value)} {ks : List W} {x : W} {v : Value} (h : kvs.map (·.1) = ks.map S) : (stored kvs (S x) v).map (·.1) = (addK ks x).map S := by
  have hm : kvs.any (fun kv => decide (kv.1 = S x)) = decide (x ∈ ks) := by
    rw [Bool.eq_iff_iff]
    simp only [List.any_eq_true, decide_eq_true_eq]
    constructor
    · rintro ⟨p, hp, e⟩
      have : p.1 ∈ kvs.map (·.1) := List.mem_map_of_mem hp
      rw [h, e] at this
      obtain ⟨y, hy, e'⟩ := List.mem_map.mp this
      rw [← S_inj e']; exact hy
    · intro hx
      have : S x ∈ kvs.map (·.1) := by rw [h]; exact List.mem_map_of_mem hx
      obtain ⟨p, hp, e⟩ := List.mem_map.mp this
      exact ⟨p, hp, e⟩
  unfold stored addK
  by_cases hx : x ∈ ks
  · rw [if_pos (by rw [hm]; exact decide_eq_true hx), if_pos hx, ← h, List.map_map]
    refine List.map_congr_left fun p _ => ?_
    show (if p.1 = S x then (p.1, v) else p).1 = p.1
    split <;> rfl
  · rw [if_neg (by rw [hm, decide_eq_false hx]; exact Bool.false_ne_true), if_neg hx, List.map_append, h]
    simp
theorem t_Dict0 {pos : Pos} (h : ∀ d o, Tab prog w [] o → Q (.ref d) m ((d, o) :: news)) : Tr (model prog w) c (eval (.Dict [] [] pos) env) m news Q E := fun k s l => by
  refine wpAny_Dict_empty ⟨m, _, l.push rfl, h _ _ ⟨[], ?_, rfl⟩⟩
  have hd : (s.heap.push { cls := .type "dict", data := .dict #[] }).DictOf (PySem.strKind prog w) s.heap.objs.size [] := by
    refine ⟨_, #[], 0, Heap.get?_push_size _ rfl, ⟨rfl, rfl, rfl⟩, rfl, ?_, ?_, ?_⟩
    · intro e he; simp at he
    · exact .nil
    · exact List.nodup_nil
  obtain ⟨o, ho, hd⟩ := Heap.dictOf_iff.mp hd
  rw [Heap.get?_push_size _ rfl] at ho; cases ho
  exact hd
theorem v_setKey {i : Nat} {d : Addr} {o : Obj} {ks : List W} {x : W} {v : Value} {Q : Unit → Loc → Led' → Prop} (hi : news[i]? = some (d, o)) (ho : Tab prog w ks o) (hz : ks.length ≤ 1000) (h : ∀ o', Tab prog w (addK ks x) o' → Q () m (news.set i (d, o'))) :
    Tr (model prog w) c (setItem (.ref d) (.str (S x) t) v) m news Q E := fun k s l => by
  obtain ⟨kvs, h1, h2⟩ := ho
  have hl : kvs.length = ks.length := by have := congrArg List.length h2; simpa using this
  refine wpAny_setItem_pairs (knd := PySem.strKind prog w) (k := S x) (strKind_is _ _ _ _) (Heap.dictOf_iff.mpr ⟨o, (l.nw _ (List.mem_of_getElem? hi)).1, h1⟩) (fun h' hd hs => ?_) (by rw [sizeLine_eq]; (first | lia | omega))
  obtain ⟨o', ho', hd'⟩ := Heap.dictOf_iff.mp hd
  exact ⟨m, _, l.change hi hs ho', h o' ⟨_, hd', stored_keys h2⟩⟩
theorem t_AssignSub {o i value : Expr} {p' pos : Pos} {Q : Flow → Loc → Led' → Prop} (h : Tr (model prog w) c (eval value env) m news (fun v m₁ n₁ => Tr (model prog w) c (eval o env) m₁ n₁ (fun ov m₂ n₂ => Tr (model prog w) c (eval i env) m₂ n₂ (fun iv m₃ n₃ => Tr (model prog w) c (setItem ov iv v) m₃ n₃ (fun _ m₄ n₄ => Q .next m₄ n₄) E) E) E) E)
    (hs : swapsWith value (some (.Subscript o i p')) pos.line env = Pure.pure false) : Tr (model prog w) c (exec (.Assign [.Subscript o i p'] value pos) env) m news Q E := fun k s l =>
  wpAny_Assign_Subscript (wpAny_mono (h k s l) (fun v s₁ ⟨_, _, l₁, q₁⟩ => wpAny_mono (q₁ k s₁ l₁) (fun ov s₂ ⟨_, _, l₂, q₂⟩ => wpAny_mono (q₂ k s₂ l₂) (fun iv s₃ ⟨_, _, l₃, q₃⟩ => wpAny_mono (q₃ k s₃ l₃) (fun _ s₄ q => q) fun _ _ e => e) fun _ _ e => e) fun _ _ e => e) fun _ _ e => e) hs
theorem strsAre_of : ∀ {vs : List Value} {xs : List W}, Strs vs xs → StrsAre vs (xs.map S)
  | _, _, .nil => .nil
  | _, _, .cons h t => by cases h with | mk _ _ => exact .cons _ _ (strsAre_of t)
theorem of_strsAre : ∀ {vs : List Value} {ss : List Str}, StrsAre vs ss → Strs vs (ss.map (·.cps.toList))
  | _, _, .nil => .nil
  | _, _, .cons x t h => by
    have e : x = S x.cps.toList := by cases x; simp
    exact .cons (e ▸ .mk _ t) (of_strsAre h)
theorem map_S_toList (xs : List W) : (xs.map S).map (·.cps.toList) = xs := by
  rw [List.map_map]
  exact (List.map_congr_left fun x _ => by simp).trans (List.map_id _)
theorem toList_S (ss : List Str) : (ss.map (·.cps.toList)).map S = ss := by
  rw [List.map_map]
  exact (List.map_congr_left fun x _ => by cases x; simp).trans (List.map_id _)
/-- sorted texts -/
noncomputable def Sorted (ws : List W) : Prop := sortedS (ws.map S) = true
theorem v_sortedList {a : Addr} {vs : List Value} {xs : List W} (ha : LstAt c news a vs) (hv : Strs vs xs) (hz : vs.length < 64) (h : ∀ d tv ws e, Strs tv ws → ws.Perm xs → Sorted ws → Q (.ref d) m ((d, lst tv e) :: news)) :
    Tr (model prog w) c (call (.builtin "sorted") [.ref a]) m news Q E := fun k s l => by
  refine sorted_strs (ha.isList l) (strsAre_of hv) hz fun out ss' hS hp hs => ?_
  obtain ⟨e, he⟩ := sortedAll_at s.heap vs out
  have he' : (sortedAll s.heap vs out).get? (s.heap.objs.size + 1) = some (lst out.toList e) := by rw [he]
  refine ⟨m, _, l.out (out := [(s.heap.objs.size + 1, lst out.toList e)]) (tk := s.toks) (fun b o hb => sortedAll_old hb) (fun p hp => ?_) (List.pairwise_singleton _ _) l.gens, h _ _ (ss'.map (·.cps.toList)) _ (of_strsAre hS) ?_ ?_⟩
  · rw [List.mem_singleton.mp hp]; exact ⟨he', Nat.le_succ _⟩
  · have := hp.map (·.cps.toList)
    rw [map_S_toList] at this; exact this
  · unfold Sorted; rw [toList_S]; exact hs
theorem keys_strs {kvs : List (Str × Value)} {ks : List W} {vs : List Value} (h : kvs.map (·.1) = ks.map S) (hl : vs.length = kvs.length) (hv : ∀ (j : Nat) (v : Value), vs[j]? = some v → ∃ k x, kvs[j]? = some (k, x) ∧ (PySem.strKind prog w).is k v = true) : Strs vs ks := by
  induction vs generalizing kvs ks with
  | nil =>
    cases kvs with
    | nil => cases ks with
      | nil => exact .nil
      | cons => simp at h
    | cons => simp at hl
  | cons v vs ih =>
    cases kvs with
    | nil => simp at hl
    | cons p kvs =>
      cases ks with
      | nil => simp at h
      | cons x ks =>
        simp only [List.map_cons, List.cons.injEq] at h
        obtain ⟨k0, x0, e0, i0⟩ := hv 0 v rfl
        simp at e0
        obtain ⟨tt, rfl⟩ := Value.isStrOf_shape (show Value.isStrOf k0 v = true from i0)
        refine .cons ?_ (ih h.2 (by simpa using hl) fun j v' hj => by simpa using hv (j + 1) v' (by simpa using hj))
        rw [show k0 = S x by rw [← h.1, e0]]
        exact .mk _ _
theorem v_listDict {d : Addr} {o : Obj} {ks : List W} (hn : c.A.handled = Option.none) (hl : c.g.NoLimit) (hd : (d, o) ∈ news) (ho : Tab prog w ks o) (hz : ks.length ≤ 1000) (h : ∀ a tv e, Strs tv ks → Q (.ref a) m ((a, lst tv e) :: news)) :
    Tr (model prog w) c (call (.type "list") [.ref d]) m news Q E := fun k s l => by
  obtain ⟨kvs, h1, h2⟩ := ho
  have hlen : kvs.length = ks.length := by have := congrArg List.length h2; simpa using this
  obtain ⟨ep, hat⟩ := (Heap.dictOf_iff.mpr ⟨o, (l.nw _ hd).1, h1⟩).dictAt
  have lo : (d == sysModules) = false := by
    have z := Nat.lt_of_lt_of_le (modules_low hl) (Nat.le_trans l.above (l.nw _ hd).2.1)
    exact beq_eq_false_iff_ne.mpr (Nat.ne_of_gt z)
  obtain ⟨tl, t1, _, tN⟩ := l.tl
  refine kdl_N (kdl_dict (knd := PySem.strKind prog w) (kvs := kvs) (ep := ep) lo) hn l.fr tN hat (kdl_size (by (first | lia | omega))) fun B e h' tk vs F' N' l1 hvl hv => ?_
  exact ⟨m, _, l.back F' N' l1 hd t1, h B vs e (keys_strs h2 hvl hv)⟩
theorem v_sortedDict {d : Addr} {o : Obj} {ks : List W} (hn : c.A.handled = Option.none) (hl : c.g.NoLimit) (hd : (d, o) ∈ news) (ho : Tab prog w ks o) (hz : ks.length < 64) (h : ∀ a tv ws e, Strs tv ws → ws.Perm ks → Sorted ws → Q (.ref a) m ((a, lst tv e) :: news)) :
    Tr (model prog w) c (call (.builtin "sorted") [.ref d]) m news Q E := fun k s l => by
  obtain ⟨kvs, h1, h2⟩ := ho
  have hlen : kvs.length = ks.length := by have := congrArg List.length h2; simpa using this
  obtain ⟨ep, hat⟩ := (Heap.dictOf_iff.mpr ⟨o, (l.nw _ hd).1, h1⟩).dictAt
  have lo : (d == sysModules) = false := by
    have z := Nat.lt_of_lt_of_le (modules_low hl) (Nat.le_trans l.above (l.nw _ hd).2.1)
    exact beq_eq_false_iff_ne.mpr (Nat.ne_of_gt z)
  obtain ⟨tl, t1, _, tN⟩ := l.tl
  refine kdu_sorted (kdl_dict (knd := PySem.strKind prog w) (kvs := kvs) (ep := ep) lo) hn l.fr tN hat (kdl_size (by (first | lia | omega))) fun B h' tk vs F' N' l1 hvl hv => ?_
  have hs := keys_strs h2 hvl hv
  have hS := strsAre_of hs
  have hoL : h'.get? B = some (seqObj "list" vs.toArray 0) := (N' _ (.head _)).1
  refine wpAny_call_entry slot_list_sort ⟨_, hoL, rfl⟩ entry_list_sort (list_sort_treeK strKind_oneLt hoL hS.keysOf (fun v₁ v₂ rest e => keyKind_strs (by rw [← e]; exact hS)) (by rw [hvl, hlen]; exact hz) fun st' a1 a2 => ⟨_, rfl, ?_⟩) (args_list_sort _)
  obtain ⟨ss', hS', hp, hsd⟩ := sorted_out_str hS a1 a2
  generalize (arrOf st').map (·.2) = out at hS' ⊢
  obtain ⟨e, he⟩ := sortedHeap_at (out := out) hoL
  have l' := l.back F' N' l1 hd t1 (tk := tk)
  have he' : (sortedHeap h' B vs out).get? B = some (lst out.toList e) := he
  have hup : ∀ b x, b ≠ B → h'.get? b = some x → (sortedHeap h' B vs out).get? b = some x := fun b x hb hx => (sortedHeap_old hb (Heap.lt_size hx)).trans hx
  generalize sortedHeap h' B vs out = h3 at he' hup ⊢
  have l'' := l'.changeG (i := 0) (tk := tk) rfl (o' := lst out.toList e) (h' := h3) hup he'
  have hp' := hp.map (·.cps.toList)
  rw [map_S_toList] at hp'
  exact ⟨m, _, l'', h _ _ (ss'.map (·.cps.toList)) _ (of_strsAre hS') hp' (by unfold Sorted; rw [toList_S]; exact hsd)⟩
end
end Mine
end
section
open PySem PySem.W PyProof.Rows PySem.Calls
set_option maxRecDepth 20000
set_option linter.unusedVariables false
namespace Mine
set_option compiler.extract_closed false
local macro_rules | `(tactic| walk_at "lk") => `(tactic| first | assumption | exact upd_hit | (refine upd_miss (by decide) ?_; walk_at "lk") | (with_unfolding_all rfl))
local macro_rules | `(tactic| walk_at "nm") => `(tactic| with_reducible assumption)
local macro_rules | `(tactic| walk_at "st") => `(tactic| with_reducible first
  | (refine' t_ld ?k1 ?k2 ?_; (case k1 => walk_at "nm"); (case k2 => walk_at "lk"))
  | (refine' t_nm ?k1 ?_; (case k1 => walk_at "nm"))
  | refine t_IntC fun _ => ?_
  | refine t_StrS fun _ => ?_
  | refine t_BoolC ?_
  | refine t_NoneC ?_
  | refine t_cons ?_
  | refine t_after ?_
  | refine t_afterR ?_
  | refine t_afterB ?_
  | refine t_If ?_
  | (refine t_isCompare ?_ ?k1; (case k1 => with_unfolding_all rfl))
  | refine t_isAnd2 ?_
  | refine t_isOr2 ?_
  | refine t_isNot ?_
  | (refine t_isPlain ?_ ?k1; (case k1 => with_unfolding_all rfl))
  | refine t_truthy_bool ?_
  | (refine t_ifTrue ?k1 ?_; (case k1 => with_unfolding_all rfl))
  | (refine t_ifFalse ?k1 ?_; (case k1 => with_unfolding_all rfl))
  | (refine t_Assign ?_ ?k1; (case k1 => with_unfolding_all rfl))
  | (refine t_st ?k1 ?_; (case k1 => walk_at "nm"))
  | refine t_AugAssign ?_
  | (refine' t_ldn ?k1 ?k2 ?_; (case k1 => walk_at "nm"); (case k2 => walk_at "lk"))
  | refine t_BinOp ?_
  | (refine t_Compare ?_ ?k1; (case k1 => with_unfolding_all rfl))
  | (refine t_CallE ?_ ?k1; (case k1 => with_unfolding_all rfl))
  | (refine t_callWith0 ?k1 ?_; (case k1 => with_unfolding_all rfl))
  | (refine t_callWith1 ?k1 ?_; (case k1 => with_unfolding_all rfl))
  | (refine t_argS ?_ ?k1; (case k1 => with_unfolding_all rfl))
  | refine t_arg0 ?_
  | refine And.intro (KeepOk.builtin _) ?_
  | refine And.intro (KeepOk.type _) ?_
  | refine Exists.intro _ (And.intro rfl ?_)
  | refine t_Return ?_
  | refine t_IfExp ?_
  | refine t_UnaryOp ?_
  | (refine t_ExprStmt ?_ ?k1 ?k2; (case k1 => walk_at "nm"); (case k2 => with_unfolding_all rfl))
  | refine And.intro rfl ?_
  | refine t_Break ?_
  | refine t_nil ?_
  | refine v_eqInt ?_
  | refine v_neInt ?_
  | refine v_ltInt ?_
  | refine v_gtInt ?_
  | refine v_geInt ?_
  | refine v_eqStr ?_
  | refine v_neStr ?_
  | refine v_ltStr ?_
  | refine v_gtStr ?_
  | refine v_addInt fun _ => ?_
  | refine v_iaddInt fun _ => ?_
  | refine v_subInt fun _ => ?_
  | refine v_negInt fun _ => ?_
  | refine v_isNone ?_
  | (refine v_modPos ?k1 fun _ => ?_; (case k1 => decide))
  | (refine v_divSmall ?k1 fun _ => ?_; (case k1 => decide))
  | refine t_Tuple ?_
  | refine t_List ?_
  | ((fail_if_success (refine t_strSlice ?_ ?_)); (fail_if_success (refine t_listSliceS ?_ ?_)); refine t_Subscript ?_)
  | refine t_part0 ?_
  | refine t_part ?_
  | (refine v_is ?k1 ?_; (case k1 => with_unfolding_all rfl))
  | (refine v_isNot ?k1 ?_; (case k1 => with_unfolding_all rfl))
  | refine v_abs fun _ => ?_
  | refine v_isiIntInt ?_
  | refine v_isiStrInt ?_
  | (refine t_Method ?_ (by with_unfolding_all rfl))
  | (refine t_tests1 ?_)
  | (refine t_tests0 ?_)
  | refine t_Pass ?_
  | refine t_Dict0 fun _ _ _ => ?_
  | refine t_Try0 ?_
  | (refine t_AssignSub ?_ ?k1; (case k1 => with_unfolding_all rfl))
  | (refine' t_use ?k1 ?_; (case k1 => assumption))
  | fail)
local macro_rules | `(tactic| walk_at "go") => `(tactic| repeat' (walk_at "st"))
local macro_rules | `(tactic| walk_at "gT") => `(tactic| repeat' ((fail_if_success (with_reducible refine t_Try0 ?_)); walk_at "st"))
local macro_rules | `(tactic| walk_at "g0") => `(tactic| repeat' ((fail_if_success (with_reducible refine t_If ?_)); walk_at "st"))
local macro_rules | `(tactic| walk_at "lka") => `(tactic| ((repeat' (with_reducible refine And.intro ?_ ?_)) <;> first | walk_at "lk" | exact ⟨_, by walk_at "lk"⟩))
local macro_rules | `(tactic| walk_at "mm") => `(tactic| first | exact .head _ | exact .tail _ (.head _) | exact .tail _ (.tail _ (.head _)) | exact .tail _ (.tail _ (.tail _ (.head _))) | exact .tail _ (.tail _ (.tail _ (.tail _ (.head _)))))
local macro_rules | `(tactic| walk_at "mb") => `(tactic| first | exact .head _ | assumption | exact List.mem_append_left _ (by assumption) | (refine .tail _ ?_; walk_at "mb") | (refine List.mem_append_right _ ?_; walk_at "mb"))

section
variable {prog : Program} {w : World} {c : FC} {k : Led'} {m : Loc} {news : Led'} {E : Led' → Value → Shared → Prop} {Q : Value → Loc → Led' → Prop} {t u v : Tok} {env : Env}
noncomputable abbrev rngO (a b st : Int) (t u v : Tok) : Obj := { cls := .type "range", data := .fields #[.int a t, .int b u, .int st v] }
theorem v_range1 {n : Int} (h : ∀ r t u v, Q (.ref r) m ((r, rngO 0 n 1 t u v) :: news)) : Tr (model prog w) c (call (.type "range") [.int n t]) m news Q E := fun k s l =>
  call_range_1 ⟨m, _, (l.push (o := rngO 0 n 1 s.toks t (s.toks + 1)) rfl).toks _, h _ _ _ _⟩
theorem v_range2 {a b : Int} (h : ∀ r t u v, Q (.ref r) m ((r, rngO a b 1 t u v) :: news)) : Tr (model prog w) c (call (.type "range") [.int a t, .int b u]) m news Q E := fun k s l =>
  call_range_2 ⟨m, _, (l.push (o := rngO a b 1 t u s.toks) rfl).toks _, h _ _ _ _⟩
theorem v_range3 {a b st : Int} (h0 : st ≠ 0) (hp : Builtin.divisionGoesByPylong (b - a) st = false) (h : ∀ r t u v, Q (.ref r) m ((r, rngO a b st t u v) :: news)) : Tr (model prog w) c (call (.type "range") [.int a t, .int b u, .int st v]) m news Q E := fun k s l =>
  call_range_3 h0 ⟨m, _, (l.push (o := rngO a b st t u v) rfl), h _ _ _ _⟩ (.inl hp)
theorem itOk_range1 (hn : c.A.handled = none) {r : Addr} {a : Nat} {n : Nat} (hr : There c news r (rngO a ((a + n : Nat) : Int) 1 t u v)) (hz : a + n < 2 ^ 60) : ItOk prog w c news (.ref r) n (fun i v => ∃ t, v = .int ((a + i : Nat) : Int) t) [] := by
  have z := itOk_range (prog := prog) (w := w) hn hr (n := n) (small_one (by (first | lia | omega)) (by (first | lia | omega)) (by (first | lia | omega)) (by (first | lia | omega))) (by rw [rangeSize_one]; split <;> (first | lia | omega))
  refine ⟨z.1, fun k m s l E Q hQ => z.2 k m s l E Q fun o St hf W s0 hex => hQ o St hf ⟨W.sub, W.frame, fun i s Q E hi st hq => W.item i s Q E hi st fun v h' tk hp => hq v h' tk ?_, W.done, W.self⟩ s0 hex⟩
  obtain ⟨t, rfl⟩ := hp
  exact ⟨t, by congr 1; (first | lia | omega)⟩
end
noncomputable def prefixPart (k : Nat) (x : W) : W := if k = 0 then [] else 44 :: 32 :: (if x.headD 0 = 45 then List.range' 32 (x.getD 1 0 - 32) else [])
noncomputable def restPart (k : Nat) (x : W) : W := if k = 0 then x else if x.headD 0 = 45 then x.drop 1 else x
noncomputable def dueSeq (k : Nat) (x : W) : W := prefixPart k x ++ restPart k x
noncomputable def addAll (ks : List W) (l : W) : List W := (l.map fun n => [n]).foldl addK ks
theorem addAll_app (ks : List W) (a b : W) : addAll ks (a ++ b) = addAll (addAll ks a) b := by
  unfold addAll; rw [List.map_append, List.foldl_append]
noncomputable def dueAt (xs : List W) (i : Nat) : List W := addAll [] ((xs.mapIdx dueSeq).take i).flatten
theorem dueAt_succ {xs : List W} {i : Nat} {x : W} (h : xs[i]? = some x) : dueAt xs (i + 1) = addAll (addAll (dueAt xs i) (prefixPart i x)) (restPart i x) := by
  unfold dueAt
  rw [List.take_add_one, List.getElem?_mapIdx, h, List.flatten_append, addAll_app, ← addAll_app _ (prefixPart i x)]
  simp [dueSeq]
noncomputable def okSign (n : Nat) : Prop := (32 ≤ n ∧ n ≤ 57) ∨ n ∈ [78, 111, 110, 101, 84, 114, 117, 70, 97, 108, 115, 105, 116]
theorem okSign.lt {n : Nat} (h : okSign n) : n < 128 := by
  rcases h with h | h
  · (first | lia | omega)
  · simp at h; (first | lia | omega)
structure WordOk (x : W) : Prop where
  ne : x ≠ []
  ok : ∀ n ∈ x, okSign n
  neg : x.headD 0 = 45 → ∃ y z, x = 45 :: y :: z ∧ 49 ≤ y ∧ y ≤ 57
  len : x.length ≤ 10
  inner : ∀ n ∈ x.drop 1, n ≠ 45
theorem nodup_len {α : Type} [DecidableEq α] : ∀ {l m : List α}, l.Nodup → (∀ x ∈ l, x ∈ m) → l.length ≤ m.length
  | [], _, _, _ => Nat.zero_le _
  | a :: l, m, hn, hs => by
    have hm := hs a (.head _)
    have hn' := List.nodup_cons.mp hn
    have h1 : l.length ≤ (m.erase a).length := nodup_len hn'.2 fun x hx => (List.mem_erase_of_ne (by intro e; subst e; exact hn'.1 hx)).mpr (hs x (.tail _ hx))
    rw [List.length_erase_of_mem hm] at h1
    have := List.length_pos_of_mem hm
    simp only [List.length_cons]; (first | lia | omega)
noncomputable def alpha : List W := ((List.range' 32 26) ++ [78, 111, 110, 101, 84, 114, 117, 70, 97, 108, 115, 105, 116]).map fun n => [n]
theorem alpha_mem {n : Nat} (h : okSign n) : [n] ∈ alpha := by
  unfold alpha
  refine List.mem_map.mpr ⟨n, List.mem_append.mpr ?_, rfl⟩
  rcases h with h | h
  · exact .inl (List.mem_range'_1.mpr ⟨h.1, by (first | lia | omega)⟩)
  · exact .inr h
theorem addK_nodup {ks : List W} (h : ks.Nodup) (x : W) : (addK ks x).Nodup := by
  unfold addK
  split
  · exact h
  · rename_i hx
    exact List.nodup_append.mpr ⟨h, by simp, fun a ha b hb e => by simp at hb; subst hb; subst e; exact hx ha⟩
theorem addK_mem {ks : List W} {x y : W} : y ∈ addK ks x ↔ y ∈ ks ∨ y = x := by
  unfold addK
  split
  · rename_i hx
    constructor
    · exact .inl
    · rintro (h | rfl)
      · exact h
      · exact hx
  · simp
theorem addAll_mem : ∀ {l : W} {ks : List W} {y : W}, y ∈ addAll ks l ↔ y ∈ ks ∨ ∃ n ∈ l, y = [n]
  | [], ks, y => by simp [addAll]
  | a :: l, ks, y => by
    show y ∈ addAll (addK ks [a]) l ↔ _
    rw [addAll_mem, addK_mem]
    simp only [List.mem_cons]
    constructor
    · rintro ((h | rfl) | ⟨n, hn, rfl⟩)
      · exact .inl h
      · exact .inr ⟨a, .inl rfl, rfl⟩
      · exact .inr ⟨n, .inr hn, rfl⟩
    · rintro (h | ⟨n, rfl | hn, rfl⟩)
      · exact .inl (.inl h)
      · exact .inl (.inr rfl)
      · exact .inr ⟨n, hn, rfl⟩
theorem addAll_nodup : ∀ {l : W} {ks : List W}, ks.Nodup → (addAll ks l).Nodup
  | [], ks, h => h
  | a :: l, ks, h => addAll_nodup (l := l) (addK_nodup h [a])
structure Small (ks : List W) : Prop where
  nd : ks.Nodup
  sub : ∀ x ∈ ks, x ∈ alpha
theorem Small.len {ks : List W} (h : Small ks) : ks.length ≤ 39 := nodup_len h.nd h.sub
theorem Small.add {ks : List W} (h : Small ks) {l : W} (hl : ∀ n ∈ l, okSign n) : Small (addAll ks l) := ⟨addAll_nodup h.nd, fun x hx => by
  rcases addAll_mem.mp hx with hx | ⟨n, hn, rfl⟩
  · exact h.sub x hx
  · exact alpha_mem (hl n hn)⟩
theorem WordOk.prefix {x : W} (h : WordOk x) (k : Nat) : ∀ n ∈ prefixPart k x, okSign n := by
  unfold prefixPart
  intro n hn
  split at hn
  · simp at hn
  · rcases List.mem_cons.mp hn with rfl | hn
    · exact .inl (by (first | lia | omega))
    · rcases List.mem_cons.mp hn with rfl | hn
      · exact .inl (by (first | lia | omega))
      · split at hn
        · rename_i h0
          refine t_box fun gbx hbx => ?_
          obtain ⟨y, z, eB0, h1, h2⟩ := h.neg h0
          refine hbx ?_
          clear hbx gbx
          subst eB0
          have := List.mem_range'_1.mp hn
          simp at this
          exact .inl (by (first | lia | omega))
        · simp at hn
theorem WordOk.rest {x : W} (h : WordOk x) (k : Nat) : ∀ n ∈ restPart k x, okSign n := by
  unfold restPart
  intro n hn
  split at hn
  · exact h.ok n hn
  · split at hn
    · exact h.ok n (List.mem_of_mem_drop hn)
    · exact h.ok n hn
theorem dueAt_small {xs : List W} (h : ∀ x ∈ xs, WordOk x) : ∀ i, Small (dueAt xs i)
  | 0 => ⟨List.nodup_nil, fun _ h => (nomatch h)⟩
  | i + 1 => by
    by_cases hi : i < xs.length
    · have hx : xs[i]? = some xs[i] := List.getElem?_eq_getElem hi
      rw [dueAt_succ hx]
      have w := h _ (List.getElem_mem hi)
      exact ((dueAt_small h i).add (w.prefix i)).add (w.rest i)
    · have e : dueAt xs (i + 1) = dueAt xs i := by
        unfold dueAt
        rw [List.take_of_length_le (by rw [List.length_mapIdx]; (first | lia | omega)), List.take_of_length_le (by rw [List.length_mapIdx]; (first | lia | omega))]
      rw [e]; exact dueAt_small h i
end Mine
end
section
open PySem PySem.W PyProof.Rows PySem.Calls
set_option maxRecDepth 20000
set_option linter.unusedVariables false
namespace Mine
set_option compiler.extract_closed false
local macro_rules | `(tactic| walk_at "lk") => `(tactic| first | assumption | exact upd_hit | (refine upd_miss (by decide) ?_; walk_at "lk") | (with_unfolding_all rfl))
local macro_rules | `(tactic| walk_at "nm") => `(tactic| with_reducible assumption)
local macro_rules | `(tactic| walk_at "st") => `(tactic| with_reducible first
  | (refine' t_ld ?k1 ?k2 ?_; (case k1 => walk_at "nm"); (case k2 => walk_at "lk"))
  | (refine' t_nm ?k1 ?_; (case k1 => walk_at "nm"))
  | refine t_IntC fun _ => ?_
  | refine t_StrS fun _ => ?_
  | refine t_BoolC ?_
  | refine t_NoneC ?_
  | refine t_cons ?_
  | refine t_after ?_
  | refine t_afterR ?_
  | refine t_afterB ?_
  | refine t_If ?_
  | (refine t_isCompare ?_ ?k1; (case k1 => with_unfolding_all rfl))
  | refine t_isAnd2 ?_
  | refine t_isOr2 ?_
  | refine t_isNot ?_
  | (refine t_isPlain ?_ ?k1; (case k1 => with_unfolding_all rfl))
  | refine t_truthy_bool ?_
  | (refine t_ifTrue ?k1 ?_; (case k1 => with_unfolding_all rfl))
  | (refine t_ifFalse ?k1 ?_; (case k1 => with_unfolding_all rfl))
  | (refine t_Assign ?_ ?k1; (case k1 => with_unfolding_all rfl))
  | (refine t_st ?k1 ?_; (case k1 => walk_at "nm"))
  | refine t_AugAssign ?_
  | (refine' t_ldn ?k1 ?k2 ?_; (case k1 => walk_at "nm"); (case k2 => walk_at "lk"))
  | refine t_BinOp ?_
  | (refine t_Compare ?_ ?k1; (case k1 => with_unfolding_all rfl))
  | (refine t_CallE ?_ ?k1; (case k1 => with_unfolding_all rfl))
  | (refine t_callWith0 ?k1 ?_; (case k1 => with_unfolding_all rfl))
  | (refine t_callWith1 ?k1 ?_; (case k1 => with_unfolding_all rfl))
  | (refine t_argS ?_ ?k1; (case k1 => with_unfolding_all rfl))
  | refine t_arg0 ?_
  | refine And.intro (KeepOk.builtin _) ?_
  | refine And.intro (KeepOk.type _) ?_
  | refine Exists.intro _ (And.intro rfl ?_)
  | refine t_Return ?_
  | refine t_IfExp ?_
  | refine t_UnaryOp ?_
  | (refine t_ExprStmt ?_ ?k1 ?k2; (case k1 => walk_at "nm"); (case k2 => with_unfolding_all rfl))
  | refine And.intro rfl ?_
  | refine t_Break ?_
  | refine t_nil ?_
  | refine v_eqInt ?_
  | refine v_neInt ?_
  | refine v_ltInt ?_
  | refine v_gtInt ?_
  | refine v_geInt ?_
  | refine v_eqStr ?_
  | refine v_neStr ?_
  | refine v_ltStr ?_
  | refine v_gtStr ?_
  | refine v_addInt fun _ => ?_
  | refine v_iaddInt fun _ => ?_
  | refine v_subInt fun _ => ?_
  | refine v_negInt fun _ => ?_
  | refine v_isNone ?_
  | (refine v_modPos ?k1 fun _ => ?_; (case k1 => decide))
  | (refine v_divSmall ?k1 fun _ => ?_; (case k1 => decide))
  | refine t_Tuple ?_
  | refine t_List ?_
  | ((fail_if_success (refine t_strSlice ?_ ?_)); (fail_if_success (refine t_listSliceS ?_ ?_)); refine t_Subscript ?_)
  | refine t_part0 ?_
  | refine t_part ?_
  | (refine v_is ?k1 ?_; (case k1 => with_unfolding_all rfl))
  | (refine v_isNot ?k1 ?_; (case k1 => with_unfolding_all rfl))
  | refine v_abs fun _ => ?_
  | refine v_isiIntInt ?_
  | refine v_isiStrInt ?_
  | (refine t_Method ?_ (by with_unfolding_all rfl))
  | (refine t_tests1 ?_)
  | (refine t_tests0 ?_)
  | refine t_Pass ?_
  | refine t_Dict0 fun _ _ _ => ?_
  | refine t_Try0 ?_
  | (refine t_AssignSub ?_ ?k1; (case k1 => with_unfolding_all rfl))
  | (refine' t_use ?k1 ?_; (case k1 => assumption))
  | fail)
local macro_rules | `(tactic| walk_at "go") => `(tactic| repeat' (walk_at "st"))
local macro_rules | `(tactic| walk_at "gT") => `(tactic| repeat' ((fail_if_success (with_reducible refine t_Try0 ?_)); walk_at "st"))
local macro_rules | `(tactic| walk_at "g0") => `(tactic| repeat' ((fail_if_success (with_reducible refine t_If ?_)); walk_at "st"))
local macro_rules | `(tactic| walk_at "lka") => `(tactic| ((repeat' (with_reducible refine And.intro ?_ ?_)) <;> first | walk_at "lk" | exact ⟨_, by walk_at "lk"⟩))
local macro_rules | `(tactic| walk_at "mm") => `(tactic| first | exact .head _ | exact .tail _ (.head _) | exact .tail _ (.tail _ (.head _)) | exact .tail _ (.tail _ (.tail _ (.head _))) | exact .tail _ (.tail _ (.tail _ (.tail _ (.head _)))))
local macro_rules | `(tactic| walk_at "mb") => `(tactic| first | exact .head _ | assumption | exact List.mem_append_left _ (by assumption) | (refine .tail _ ?_; walk_at "mb") | (refine List.mem_append_right _ ?_; walk_at "mb"))

structure DueJ (prog : Program) (w : World) (xs : List W) (b : Addr) (i : Nat) (m : Loc) (n : Led') : Prop where
  words : m "words" = some (.ref b)
  rest : ∃ d o, m "seen" = some (.ref d) ∧ n = [(d, o)] ∧ Tab prog w (dueAt xs i) o
structure SignJ (prog : Program) (w : World) (K : List W) (x : W) (b d : Addr) (i : Nat) (m : Loc) (n : Led') : Prop where
  words : m "words" = some (.ref b)
  seen : m "seen" = some (.ref d)
  rest : ∃ o, n = [(d, o)] ∧ Tab prog w (addAll K (x.take i)) o
structure CodeJ (prog : Program) (w : World) (K : List W) (b d : Addr) (x : Value) (i : Nat) (m : Loc) (n : Led') : Prop where
  words : m "words" = some (.ref b)
  seen : m "seen" = some (.ref d)
  word : m "word" = some x
  rest : ∃ o, n = [(d, o)] ∧ Tab prog w (addAll K (44 :: 32 :: List.range' 32 i)) o
theorem spec_due {prog : Program} {w : World} {G : Gl} {a b : Addr} {vs : List Value} {xs : List W} (hv : Strs vs xs) (hz : xs.length ≤ 100) (hB : ∀ x ∈ xs, WordOk x) :
    Spec (model prog w) G 1 a [.ref b] (fun h => FnIs G h 22 a ∧ ∃ n, h.get? b = some (lst vs n)) (fun r out => ∃ d tv e ws, r = .ref d ∧ out = [(d, lst tv e)] ∧ Strs tv ws ∧ Sorted ws ∧ ws.Perm (if xs = [] then [L "[]"] else dueAt xs xs.length)) := by
  refine spec_of (binds := [("words", .ref b)]) (fun h _ hp => hp.1) (fun _ _ _ => rfl) (locs rfl) (by decide +kernel) ?_
  intro c F ⟨_, n0, hb⟩
  have X_int := F.inter
  have L_words : LocN c "words" := F.loc (by decide +kernel)
  have L_seen : LocN c "seen" := F.loc (by decide +kernel)
  have L_k : LocN c "k" := F.loc (by decide +kernel)
  have L_word : LocN c "word" := F.loc (by decide +kernel)
  have L_code : LocN c "code" := F.loc (by decide +kernel)
  have L_sign : LocN c "sign" := F.loc (by decide +kernel)
  have N_range : Nm c "range" (.type "range") := F.bnm (by decide +kernel) (by decide +kernel)
  have N_len : Nm c "len" (.builtin "len") := F.bnm (by decide +kernel) (by decide +kernel)
  have N_ord : Nm c "ord" (.builtin "ord") := F.bnm (by decide +kernel) (by decide +kernel)
  have N_chr : Nm c "chr" (.builtin "chr") := F.bnm (by decide +kernel) (by decide +kernel)
  have N_sorted : Nm c "sorted" (.builtin "sorted") := F.bnm (by decide +kernel) (by decide +kernel)
  have hlen := Paired.length hv
  have hsz : 1000 ≤ sizeLine := by decide +kernel
  have nl := F.ok.nolimit
  refine t_cons ?_
  walk_at "go"
  refine ⟨Nat.zero_le _, fun a0 => ?_⟩
  refine v_eqStrs (ys := []) (.old ⟨_, hb, rfl, _, rfl⟩) (.new (by walk_at "mm")) hv .nil (by have := F.un; (first | lia | omega)) ?_
  walk_at "go"
  refine t_ite (fun he => ?_) (fun he => ?_)
  · have he := of_decide_eq_true he
    walk_at "go"
    refine ⟨show 1 ≤ sizeLine by (first | lia | omega), fun d => ?_⟩
    walk_at "go"
    rw [if_pos he]
    exact ⟨[(d, lst [_])], List.Sublist.cons_cons _ (List.nil_sublist _), d, _, 0, [L "[]"], rfl, rfl, .cons (.mk _ _) .nil, rfl, .refl _⟩
  · have he := of_decide_eq_false he
    rw [if_neg he]
    refine t_nil ?_
    refine t_after ?_
    refine t_hold fun _ hQ => ?_
    refine t_cons ?_
    refine t_Assign ?_ (by with_unfolding_all rfl)
    refine t_Dict0 fun d o0 ho0 => ?_
    walk_at "go"
    refine t_For (n := xs.length) (P := fun i v => ∃ t, v = .int ((0 + i : Nat) : Int) t) (fpo := []) L_k (DueJ prog w xs b) ?_ (fun _ _ _ _ _ hp => (nomatch hp)) ?_ ?_ (fun _ => rfl) passesNope (fun _ _ _ _ h => h)
    · walk_at "go"
      refine v_lenList (.old ⟨_, hb, rfl, _, rfl⟩) (by (first | lia | omega)) fun _ => ?_
      walk_at "go"
      refine v_range1 fun r t u v => ?_
      refine ⟨itOk_range1 F.hn (.inr (by rw [hlen, Nat.zero_add]; walk_at "mm")) (by (first | lia | omega)), [(d, o0)], by simp, ⟨by walk_at "lk", d, o0, by walk_at "lk", rfl, ho0⟩⟩
    · rintro i v m n hi xB1 xB2
      refine t_box fun gbx hbx => ?_
      obtain ⟨t, eB0⟩ := xB1
      obtain ⟨hw, d, o, h1, eB1, ho⟩ := xB2
      refine hbx ?_
      clear hbx gbx
      subst eB0
      subst eB1
      obtain ⟨x, hx⟩ : ∃ x, xs[i]? = some x := ⟨_, List.getElem?_eq_getElem hi⟩
      refine t_box fun gbx hbx => ?_
      obtain ⟨vx, hvx, hx2⟩ := Paired.get2 hv hx
      refine hbx ?_
      clear hbx gbx
      cases hx2 with | mk _ tx =>
      have hW := hB x (List.mem_of_getElem? hx)
      rw [Nat.zero_add]
      refine t_hold fun _ hQ1 => ?_
      walk_at "go"
      refine t_tailList (.old ⟨_, hb, rfl, _, rfl⟩) (by (first | lia | omega)) (by (first | lia | omega)) (by simpa using hvx) ?_ (by with_unfolding_all rfl)
      walk_at "g0"
      refine t_mid (fun m' n' => ∃ o t, m' "words" = some (.ref b) ∧ m' "seen" = some (.ref d) ∧ n' = [(d, o)] ∧ Tab prog w (addAll (dueAt xs i) (prefixPart i x)) o ∧ m' "word" = some (.str (S (restPart i x)) t)) ?_ ?_
      · walk_at "go"
        refine t_ite (fun hk => ?_) (fun hk => ?_)
        · have hk0 : i ≠ 0 := by have := of_decide_eq_true hk; (first | lia | omega)
          have sm := dueAt_small hB i
          have e1 : prefixPart i x = 44 :: 32 :: (if x.headD 0 = 45 then List.range' 32 (x.getD 1 0 - 32) else []) := if_neg hk0
          have e2 : restPart i x = if x.headD 0 = 45 then x.drop 1 else x := if_neg hk0
          have l1 := sm.len
          have sm1 : Small (addAll (dueAt xs i) [44]) := sm.add fun n hn => by simp at hn; subst hn; exact .inl (by (first | lia | omega))
          have l2 := sm1.len
          rw [e1, e2]
          walk_at "go"
          refine v_setKey (i := 0) rfl ho (by (first | lia | omega)) fun o1 ho1 => ?_
          walk_at "go"
          refine v_setKey (i := 0) rfl ho1 (by show (addAll (dueAt xs i) [44]).length ≤ _; (first | lia | omega)) fun o2 ho2 => ?_
          have ho2 : Tab prog w (addAll (dueAt xs i) [44, 32]) o2 := ho2
          obtain ⟨y0, x', hx0⟩ : ∃ y x', x = y :: x' := by cases x with
            | nil => exact absurd rfl hW.ne
            | cons y x' => exact ⟨y, x', rfl⟩
          subst hx0
          walk_at "go"
          refine t_tailStr (by decide) (idx_nat (k := 0) (by simp)) (by rfl) (fun _ => ?_) (by with_unfolding_all rfl)
          walk_at "go"
          have hd : decide ([y0] = L "-") = decide (y0 = 45) := by
            rw [show L "-" = [45] from rfl]; simp
          rw [hd]
          refine t_ite (fun hy => ?_) (fun hy => ?_)
          · have hy := of_decide_eq_true hy
            refine t_box fun gbx hbx => ?_
            obtain ⟨y, z, hx1, hy1, hy2⟩ := hW.neg hy
            refine hbx ?_
            clear hbx gbx
            cases hx1
            have e4 : prefixPart i (45 :: y :: z) = 44 :: 32 :: List.range' 32 (y - 32) := by rw [e1]; rfl
            have e5 : restPart i (45 :: y :: z) = y :: z := by rw [e2]; rfl
            rw [← e1, ← e2, e4, e5]
            refine t_hold fun _ hQ2 => ?_
            walk_at "go"
            refine t_For (n := y - 32) (P := fun i v => ∃ t, v = .int ((32 + i : Nat) : Int) t) (fpo := []) L_code (CodeJ prog w (dueAt xs i) b d (.str (S (45 :: y :: z)) tx)) ?_ (fun _ _ _ _ _ hp => (nomatch hp)) ?_ ?_ (fun _ => rfl) passesNope (fun _ _ _ _ h => h)
            · walk_at "go"
              refine t_tailStr (j := 1) (by decide) (idx_nat (k := 1) (by simp)) (by rfl) (fun _ => ?_) (by with_unfolding_all rfl)
              walk_at "go"
              refine v_ord fun _ => ?_
              walk_at "go"
              refine v_range2 fun r t u v => ?_
              refine ⟨itOk_range1 F.hn (.inr (by rw [show 32 + (y - 32) = y by (first | lia | omega)]; walk_at "mm")) (by (first | lia | omega)), [(d, o2)], List.sublist_cons_self _ _, ⟨by walk_at "lk", by walk_at "lk", by walk_at "lk", o2, rfl, ho2⟩⟩
            · rintro j v m' n' hj xB1 xB2
              refine t_box fun gbx hbx => ?_
              obtain ⟨t', eB0⟩ := xB1
              obtain ⟨q1, q2, q3, o3, eB1, ho3⟩ := xB2
              refine hbx ?_
              clear hbx gbx
              subst eB0
              subst eB1
              walk_at "go"
              refine v_chr (by (first | lia | omega)) fun _ => ?_
              walk_at "go"
              have l3 := (sm.add (l := 44 :: 32 :: List.range' 32 j) fun n hn => by
                rcases List.mem_cons.mp hn with rfl | hn
                · exact .inl (by (first | lia | omega))
                · rcases List.mem_cons.mp hn with rfl | hn
                  · exact .inl (by (first | lia | omega))
                  · have := List.mem_range'_1.mp hn
                    exact .inl (by (first | lia | omega))).len
              refine v_setKey (i := 0) rfl ho3 (by (first | lia | omega)) fun o4 ho4 => ?_
              walk_at "go"
              exact ⟨_, List.Sublist.refl _, q1, q2, q3, o4, rfl, by
                have e6 : (44 :: 32 :: List.range' 32 (j + 1) : W) = (44 :: 32 :: List.range' 32 j) ++ [32 + j] := by rw [List.range'_concat]; simp
                rw [e6, addAll_app]
                exact ho4⟩
            · rintro m' n' xB1
              refine t_box fun gbx hbx => ?_
              obtain ⟨q1, q2, q3, o3, eB0, ho3⟩ := xB1
              refine hbx ?_
              clear hbx gbx
              subst eB0
              walk_at "go"
              refine t_strSlice ?_ (by intro _ _; rfl)
              walk_at "go"
              refine ⟨_, _, _, _, rfl, .int 1 _, .none, by rw [S_len]; have := hW.len; (first | lia | omega), fun t' => ?_⟩
              rw [show (1 : Int) = ((1 : Nat) : Int) from rfl, S_slice_from (by simp)]
              walk_at "go"
              exact ⟨o3, t', by walk_at "lk", by walk_at "lk", rfl, ho3, by walk_at "lk"⟩
          · have hy := of_decide_eq_false hy
            have e3 : ((y0 :: x').headD 0 = 45) = False := by simpa using hy
            simp only [e3, if_false]
            walk_at "go"
            refine ⟨o2, tx, by walk_at "lk", by walk_at "lk", rfl, ho2, by walk_at "lk"⟩
        · have hk0 : i = 0 := by have := of_decide_eq_false hk; (first | lia | omega)
          subst hk0
          walk_at "go"
          exact ⟨o, tx, by walk_at "lk", by walk_at "lk", rfl, ho, by walk_at "lk"⟩
      · rintro m₁ n₁ xB1
        refine t_box fun gbx hbx => ?_
        obtain ⟨o1, t1, g1, g2, eB0, ho1, g3⟩ := xB1
        refine hbx ?_
        clear hbx gbx
        subst eB0
        have sm := (dueAt_small hB i).add (hW.prefix i)
        have hr := hW.rest i
        have hsucc := dueAt_succ hx
        generalize addAll (dueAt xs i) (prefixPart i x) = K at *
        generalize restPart i x = y at *
        walk_at "go"
        refine t_For (n := y.length) (P := fun j v => ∃ z u, y[j]? = some z ∧ v = .str (S [z]) u) (fpo := []) L_sign (SignJ prog w K y b d) ?_ (fun _ _ _ _ _ hp => (nomatch hp)) ?_ ?_ (fun _ => rfl) passesNope (fun _ _ _ _ h => h)
        · walk_at "go"
          exact ⟨itOk_str F.hn fun n hn => (hr n hn).lt, _, List.Sublist.refl _, ⟨g1, g2, o1, rfl, by simpa [addAll] using ho1⟩⟩
        · rintro j v m' n' hj xB1 xB2
          refine t_box fun gbx hbx => ?_
          obtain ⟨z, u, hz1, eB0⟩ := xB1
          obtain ⟨q1, q2, o3, eB1, ho3⟩ := xB2
          refine hbx ?_
          clear hbx gbx
          subst eB0
          subst eB1
          walk_at "go"
          have l3 := (sm.add (l := y.take j) fun n hn => hr n (List.mem_of_mem_take hn)).len
          refine v_setKey (i := 0) rfl ho3 (by (first | lia | omega)) fun o4 ho4 => ?_
          walk_at "go"
          exact ⟨_, List.Sublist.refl _, q1, q2, o4, rfl, by
            rw [List.take_add_one, hz1, addAll_app]
            exact ho4⟩
        · rintro m' n' xB1
          refine t_box fun gbx hbx => ?_
          obtain ⟨q1, q2, o3, eB0, ho3⟩ := xB1
          refine hbx ?_
          clear hbx gbx
          subst eB0
          refine t_nil ?_
          refine t_use hQ1 ?_
          exact ⟨_, List.Sublist.refl _, q1, d, o3, q2, rfl, by rw [hsucc]; simpa using ho3⟩
    · rintro m n xB1
      refine t_box fun gbx hbx => ?_
      obtain ⟨hw, d, o, h1, eB0, ho⟩ := xB1
      refine hbx ?_
      clear hbx gbx
      subst eB0
      walk_at "go"
      refine v_sortedDict F.hn nl (by walk_at "mm") ho (by have := (dueAt_small hB xs.length).len; (first | lia | omega)) fun a' tv ws e p1 p2 p3 => ?_
      walk_at "go"
      exact ⟨[(a', lst tv e)], List.Sublist.cons_cons _ (List.nil_sublist _), a', tv, e, ws, rfl, rfl, p1, p3, p2⟩
end Mine
end
section
open PySem PySem.W PyProof.Rows PySem.Calls
set_option maxRecDepth 20000
set_option linter.unusedVariables false
namespace Mine
set_option compiler.extract_closed false
local macro_rules | `(tactic| walk_at "lk") => `(tactic| first | assumption | exact upd_hit | (refine upd_miss (by decide) ?_; walk_at "lk") | (with_unfolding_all rfl))
local macro_rules | `(tactic| walk_at "nm") => `(tactic| with_reducible assumption)
local macro_rules | `(tactic| walk_at "st") => `(tactic| with_reducible first
  | (refine' t_ld ?k1 ?k2 ?_; (case k1 => walk_at "nm"); (case k2 => walk_at "lk"))
  | (refine' t_nm ?k1 ?_; (case k1 => walk_at "nm"))
  | refine t_IntC fun _ => ?_
  | refine t_StrS fun _ => ?_
  | refine t_BoolC ?_
  | refine t_NoneC ?_
  | refine t_cons ?_
  | refine t_after ?_
  | refine t_afterR ?_
  | refine t_afterB ?_
  | refine t_If ?_
  | (refine t_isCompare ?_ ?k1; (case k1 => with_unfolding_all rfl))
  | refine t_isAnd2 ?_
  | refine t_isOr2 ?_
  | refine t_isNot ?_
  | (refine t_isPlain ?_ ?k1; (case k1 => with_unfolding_all rfl))
  | refine t_truthy_bool ?_
  | (refine t_ifTrue ?k1 ?_; (case k1 => with_unfolding_all rfl))
  | (refine t_ifFalse ?k1 ?_; (case k1 => with_unfolding_all rfl))
  | (refine t_Assign ?_ ?k1; (case k1 => with_unfolding_all rfl))
  | (refine t_st ?k1 ?_; (case k1 => walk_at "nm"))
  | refine t_AugAssign ?_
  | (refine' t_ldn ?k1 ?k2 ?_; (case k1 => walk_at "nm"); (case k2 => walk_at "lk"))
  | refine t_BinOp ?_
  | (refine t_Compare ?_ ?k1; (case k1 => with_unfolding_all rfl))
  | (refine t_CallE ?_ ?k1; (case k1 => with_unfolding_all rfl))
  | (refine t_callWith0 ?k1 ?_; (case k1 => with_unfolding_all rfl))
  | (refine t_callWith1 ?k1 ?_; (case k1 => with_unfolding_all rfl))
  | (refine t_argS ?_ ?k1; (case k1 => with_unfolding_all rfl))
  | refine t_arg0 ?_
  | refine And.intro (KeepOk.builtin _) ?_
  | refine And.intro (KeepOk.type _) ?_
  | refine Exists.intro _ (And.intro rfl ?_)
  | refine t_Return ?_
  | refine t_IfExp ?_
  | refine t_UnaryOp ?_
  | (refine t_ExprStmt ?_ ?k1 ?k2; (case k1 => walk_at "nm"); (case k2 => with_unfolding_all rfl))
  | refine And.intro rfl ?_
  | refine t_Break ?_
  | refine t_nil ?_
  | refine v_eqInt ?_
  | refine v_neInt ?_
  | refine v_ltInt ?_
  | refine v_gtInt ?_
  | refine v_geInt ?_
  | refine v_eqStr ?_
  | refine v_neStr ?_
  | refine v_ltStr ?_
  | refine v_gtStr ?_
  | refine v_addInt fun _ => ?_
  | refine v_iaddInt fun _ => ?_
  | refine v_subInt fun _ => ?_
  | refine v_negInt fun _ => ?_
  | refine v_isNone ?_
  | (refine v_modPos ?k1 fun _ => ?_; (case k1 => decide))
  | (refine v_divSmall ?k1 fun _ => ?_; (case k1 => decide))
  | refine t_Tuple ?_
  | refine t_List ?_
  | ((fail_if_success (refine t_strSlice ?_ ?_)); (fail_if_success (refine t_listSliceS ?_ ?_)); refine t_Subscript ?_)
  | refine t_part0 ?_
  | refine t_part ?_
  | (refine v_is ?k1 ?_; (case k1 => with_unfolding_all rfl))
  | (refine v_isNot ?k1 ?_; (case k1 => with_unfolding_all rfl))
  | refine v_abs fun _ => ?_
  | refine v_isiIntInt ?_
  | refine v_isiStrInt ?_
  | (refine t_Method ?_ (by with_unfolding_all rfl))
  | (refine t_tests1 ?_)
  | (refine t_tests0 ?_)
  | refine t_Pass ?_
  | refine t_Dict0 fun _ _ _ => ?_
  | refine t_Try0 ?_
  | (refine t_AssignSub ?_ ?k1; (case k1 => with_unfolding_all rfl))
  | (refine' t_use ?k1 ?_; (case k1 => assumption))
  | fail)
local macro_rules | `(tactic| walk_at "go") => `(tactic| repeat' (walk_at "st"))
local macro_rules | `(tactic| walk_at "gT") => `(tactic| repeat' ((fail_if_success (with_reducible refine t_Try0 ?_)); walk_at "st"))
local macro_rules | `(tactic| walk_at "g0") => `(tactic| repeat' ((fail_if_success (with_reducible refine t_If ?_)); walk_at "st"))
local macro_rules | `(tactic| walk_at "lka") => `(tactic| ((repeat' (with_reducible refine And.intro ?_ ?_)) <;> first | walk_at "lk" | exact ⟨_, by walk_at "lk"⟩))
local macro_rules | `(tactic| walk_at "mm") => `(tactic| first | exact .head _ | exact .tail _ (.head _) | exact .tail _ (.tail _ (.head _)) | exact .tail _ (.tail _ (.tail _ (.head _))) | exact .tail _ (.tail _ (.tail _ (.tail _ (.head _)))))
local macro_rules | `(tactic| walk_at "mb") => `(tactic| first | exact .head _ | assumption | exact List.mem_append_left _ (by assumption) | (refine .tail _ ?_; walk_at "mb") | (refine List.mem_append_right _ ?_; walk_at "mb"))

theorem S_slice_any {l : W} {i j : Nat} (h1 : i ≤ j) (h2 : i ≤ l.length) : Txt.slice (S l) (some (i : Int)) (some (j : Int)) = S ((l.drop i).take (j - i)) := by
  by_cases h : j ≤ l.length
  · rw [S_slice h1 h]; rfl
  · rw [S_slice_hi h2 (by (first | lia | omega))]
    unfold cut
    rw [List.take_of_length_le (by rw [List.length_drop]; (first | lia | omega)), List.take_of_length_le (by rw [List.length_drop]; (first | lia | omega))]
inductive PileR : W → W → Prop
  | nil : PileR [] []
  | esc (y : Nat) {r p : W} : PileR r p → PileR (92 :: y :: r) (y :: p)
  | rng {a z : Nat} {r p : W} : a ≠ 92 → a ≤ z → PileR r p → PileR (a :: 45 :: z :: r) (List.range' a (z + 1 - a) ++ p)
  | one {a : Nat} {r p : W} : a ≠ 92 → r.head? ≠ some 45 → PileR r p → PileR (a :: r) (a :: p)
noncomputable abbrev single (l : W) : List W := l.map fun n => [n]
structure PileJ (body p : W) (i : Nat) (m : Loc) (n : Led') : Prop where
  hbody : ∃ t, m "body" = some (.str (S body) t)
  rest : ∃ at' acc rem p' pv t d e, m "at" = some (.int (at' : Nat) t) ∧ m "pile" = some (.ref d) ∧ n = [(d, lst pv e)] ∧ Strs pv (single acc) ∧ body.drop at' = rem ∧ at' ≤ body.length ∧ PileR rem p' ∧ acc ++ p' = p ∧ rem.length = i
theorem spec_pile {prog : Program} {w : World} {G : Gl} {a : Addr} {t0 : Tok} {body p : W} (hp : PileR body p) (hz : body.length ≤ 1000) (hz2 : p.length ≤ 100000) (hB : ∀ x ∈ p, x < 1000) :
    Spec (model prog w) G 1 a [.str (S (L "(?s:[" ++ body ++ L "])\\Z")) t0] (fun h => FnIs G h 24 a) (fun r out => ∃ d tv e, r = .ref d ∧ out = [(d, lst tv e)] ∧ Strs tv (single p)) := by
  refine spec_of (binds := [("text", .str (S (L "(?s:[" ++ body ++ L "])\\Z")) t0)]) (fun h _ hp => hp) (fun _ _ _ => rfl) (locs rfl) (by decide +kernel) ?_
  intro c F _
  have X_int := F.inter
  have L_text : LocN c "text" := F.loc (by decide +kernel)
  have L_body : LocN c "body" := F.loc (by decide +kernel)
  have L_pile : LocN c "pile" := F.loc (by decide +kernel)
  have L_at : LocN c "at" := F.loc (by decide +kernel)
  have N_len : Nm c "len" (.builtin "len") := F.bnm (by decide +kernel) (by decide +kernel)
  have N_ord : Nm c "ord" (.builtin "ord") := F.bnm (by decide +kernel) (by decide +kernel)
  have N_range : Nm c "range" (.type "range") := F.bnm (by decide +kernel) (by decide +kernel)
  have hsz : 16777216 ≤ sizeLine := by decide +kernel
  have e5 : (L "(?s:[").length = 5 := by decide
  have e4 : (L "])\\Z").length = 4 := by decide
  have hl : (L "(?s:[" ++ body ++ L "])\\Z").length = body.length + 9 := by simp only [List.length_append, e5, e4]; (first | lia | omega)
  refine t_cons ?_
  walk_at "go"
  refine t_strSlice ?_ (by intro _ _; rfl)
  walk_at "go"
  refine ⟨_, _, _, _, rfl, .none, .int 5 _, by rw [S_len]; (first | lia | omega), fun t' => ?_⟩
  rw [show (5 : Int) = ((5 : Nat) : Int) from rfl, S_slice_to (by (first | lia | omega))]
  have htk : (L "(?s:[" ++ body ++ L "])\\Z").take 5 = L "(?s:[" := by
    rw [List.append_assoc]
    exact List.take_left' e5
  rw [htk]
  walk_at "go"
  refine t_strSlice ?_ (by intro _ _; rfl)
  walk_at "go"
  refine ⟨_, _, _, _, rfl, .int 5 _, .int (-4) _, by rw [S_len]; (first | lia | omega), fun t' => ?_⟩
  rw [show (5 : Int) = ((5 : Nat) : Int) from rfl, show (-4 : Int) = -((4 : Nat) : Int) from rfl, S_slice_neg (by (first | lia | omega)) (by (first | lia | omega))]
  have hct : cut (L "(?s:[" ++ body ++ L "])\\Z") 5 ((L "(?s:[" ++ body ++ L "])\\Z").length - 4) = body := by
    rw [hl]
    unfold cut
    rw [List.append_assoc, List.drop_left' e5]
    exact List.take_left' (by (first | lia | omega))
  rw [hct]
  walk_at "go"
  refine ⟨Nat.zero_le _, fun d0 => ?_⟩
  walk_at "go"
  refine t_While (PileJ body p) ⟨body.length, _, List.Sublist.refl _, ⟨⟨_, by walk_at "lk"⟩, 0, [], body, p, [], _, d0, 0, by walk_at "lk", by walk_at "lk", rfl, .nil, rfl, Nat.zero_le _, hp, rfl, rfl⟩⟩ ?_ passesNope
  rintro i m n xB1
  refine t_box fun gbx hbx => ?_
  obtain ⟨⟨tb, hb⟩, at', acc, rem, p', pv, ta, d, e, h1, h2, eB0, hs, hd, hal, hr, hap, hi⟩ := xB1
  refine hbx ?_
  clear hbx gbx
  subst eB0
  walk_at "go"
  refine v_lenStr (by (first | lia | omega)) fun _ => ?_
  walk_at "go"
  refine t_ite (fun hb1 => ?_) (fun hb1 => ?_)
  · have hlt : at' < body.length := by have := of_decide_eq_true hb1; (first | lia | omega)
    have hdl : rem.length = body.length - at' := by rw [← hd, List.length_drop]
    have hget : ∀ j, body[at' + j]? = rem[j]? := fun j => by rw [← hd, List.getElem?_drop]
    have hdrop : ∀ j, body.drop (at' + j) = rem.drop j := fun j => by rw [← hd, List.drop_drop]
    have hpl : acc.length + p'.length = p.length := by rw [← hap, List.length_append]
    have hpv : pv.length = acc.length := by rw [Paired.length hs, List.length_map]
    have hp1 : ∀ x ∈ p', x < 1000 := fun x hx => hB x (by rw [← hap]; exact List.mem_append_right _ hx)
    walk_at "go"
    cases hr with
    | nil => simp at hdl; (first | lia | omega)
    | @esc y r p2 hr =>
      refine t_tailStr (j := at') (by (first | lia | omega)) (idx_nat hlt) (by rw [show at' = at' + 0 from rfl, hget]; rfl) (fun _ => ?_) (by with_unfolding_all rfl)
      walk_at "go"
      refine t_methL (.new (by walk_at "mm")) PySem.F.slot_list_append PySem.F.type_list_append ?_
      walk_at "go"
      simp only [List.length_cons] at hdl hi hpl
      refine t_tailStr (j := at' + 1) (by (first | lia | omega)) (by rw [show ((at' : Nat) : Int) + 1 = ((at' + 1 : Nat) : Int) by (first | lia | omega)]; exact idx_nat (by (first | lia | omega))) (by rw [hget]; rfl) (fun _ => ?_) (by with_unfolding_all rfl)
      walk_at "go"
      refine v_append (i := 0) rfl (by (first | lia | omega)) fun e1 => ?_
      walk_at "go"
      refine ⟨r.length, by (first | lia | omega), _, List.Sublist.refl _, ⟨⟨tb, by walk_at "lk"⟩, at' + 2, acc ++ [y], _, _, _, _, d, e1, by rw [show ((at' + 2 : Nat) : Int) = (at' : Int) + 2 by (first | lia | omega)]; walk_at "lk", by walk_at "lk", rfl, ?_, hdrop 2, by (first | lia | omega), hr, by rw [List.append_assoc]; exact hap, rfl⟩⟩
      have : single (acc ++ [y]) = single acc ++ [[y]] := by simp
      rw [this]; exact Paired.snoc hs (.mk _ _)
    | @rng a z r p2 ha haz hr =>
      have hra : (List.range' a (z + 1 - a) ++ p2).length = (z + 1 - a) + p2.length := by simp
      have hz1 : z < 1000 := hp1 z (List.mem_append_left _ (List.mem_range'_1.mpr ⟨haz, by (first | lia | omega)⟩))
      refine t_tailStr (j := at') (by (first | lia | omega)) (idx_nat hlt) (by rw [show at' = at' + 0 from rfl, hget]; rfl) (fun _ => ?_) (by with_unfolding_all rfl)
      have hne : decide ([a] = L "\\") = false := by
        rw [show L "\\" = [92] from rfl]; simpa using ha
      simp only [List.length_cons] at hdl hi
      walk_at "go"
      rw [hne]
      walk_at "go"
      refine t_strSlice ?_ (by intro _ _; rfl)
      walk_at "go"
      refine ⟨_, _, _, _, rfl, .int _ _, .int _ _, by rw [S_len]; (first | lia | omega), fun t' => ?_⟩
      rw [show ((at' : Nat) : Int) + 1 = ((at' + 1 : Nat) : Int) by (first | lia | omega), show ((at' : Nat) : Int) + 2 = ((at' + 2 : Nat) : Int) by (first | lia | omega), S_slice_any (by (first | lia | omega)) (by (first | lia | omega)), hdrop 1, show at' + 2 - (at' + 1) = 1 by (first | lia | omega)]
      walk_at "go"
      refine t_methL (.new (by walk_at "mm")) PySem.F.slot_list_extend PySem.F.type_list_extend ?_
      walk_at "go"
      refine t_ListComp (n := z + 1 - a) (P := fun i v => ∃ t, v = .int ((a + i : Nat) : Int) t) (fpo := []) (cl := []) (fun i ys => Strs ys (single (List.range' a i))) (closureFor_none (by decide +kernel)) (by decide +kernel) (by (first | lia | omega)) ?_ (by decide) (fun _ => rfl)
      walk_at "go"
      refine t_tailStr (j := at') (by (first | lia | omega)) (idx_nat hlt) (by rw [show at' = at' + 0 from rfl, hget]; rfl) (fun _ => ?_) (by with_unfolding_all rfl)
      walk_at "go"
      refine v_ord fun _ => ?_
      walk_at "go"
      refine t_tailStr (j := at' + 2) (by (first | lia | omega)) (by rw [show ((at' : Nat) : Int) + 2 = ((at' + 2 : Nat) : Int) by (first | lia | omega)]; exact idx_nat (by (first | lia | omega))) (by rw [hget]; rfl) (fun _ => ?_) (by with_unfolding_all rfl)
      walk_at "go"
      refine v_ord fun _ => ?_
      walk_at "go"
      refine v_range2 fun rr t u v => ?_
      refine ⟨itOk_range1 F.hn (.inr (by rw [show ((a + (z + 1 - a) : Nat) : Int) = (z : Int) + 1 by (first | lia | omega)]; walk_at "mm")) (by (first | lia | omega)), .nil, ?_, ?_⟩
      · rintro c' I' Lx j v ys m' hj ⟨t2, rfl⟩ hys hx
        have N_chr' : Nm c' "chr" (.builtin "chr") := (F.nf.inner I' (by decide +kernel)).bnm (by decide +kernel) (by decide +kernel)
        refine t_tests0 ?_
        walk_at "go"
        refine v_chr (by (first | lia | omega)) fun _ => ?_
        rw [List.range'_concat]
        have : single (List.range' a j ++ [a + 1 * j]) = single (List.range' a j) ++ [[a + 1 * j]] := by simp
        rw [this, Nat.one_mul]
        exact Paired.snoc hys (.mk _ _)
      · intro ys D e2 hys
        walk_at "go"
        have hyl : ys.length = z + 1 - a := by rw [Paired.length hys, List.length_map, List.length_range']
        refine v_extend (i := 2) rfl (.new (by walk_at "mm")) (by (first | lia | omega)) ?_ fun e3 => ?_
        · rw [List.size_toArray, List.size_toArray]
          unfold Builtin.List.listTooLong
          rw [decide_eq_false (by (first | lia | omega)), Bool.and_false]
        · walk_at "go"
          refine ⟨r.length, by (first | lia | omega), [(d, lst (pv ++ ys) e3)], ?_, ⟨⟨tb, by walk_at "lk"⟩, at' + 3, acc ++ List.range' a (z + 1 - a), _, _, _, _, d, e3, by rw [show ((at' + 3 : Nat) : Int) = (at' : Int) + 3 by (first | lia | omega)]; walk_at "lk", by walk_at "lk", rfl, ?_, hdrop 3, by (first | lia | omega), hr, by rw [List.append_assoc]; exact hap, rfl⟩⟩
          · exact .cons _ (.cons _ (.refl _))
          · have : single (acc ++ List.range' a (z + 1 - a)) = single acc ++ single (List.range' a (z + 1 - a)) := by simp
            rw [this]; exact Paired.app hs hys
    | @one a r p2 ha hh hr =>
      refine t_tailStr (j := at') (by (first | lia | omega)) (idx_nat hlt) (by rw [show at' = at' + 0 from rfl, hget]; rfl) (fun _ => ?_) (by with_unfolding_all rfl)
      have hne : decide ([a] = L "\\") = false := by
        rw [show L "\\" = [92] from rfl]; simpa using ha
      simp only [List.length_cons] at hdl hi hpl
      walk_at "go"
      rw [hne]
      walk_at "go"
      refine t_strSlice ?_ (by intro _ _; rfl)
      walk_at "go"
      refine ⟨_, _, _, _, rfl, .int _ _, .int _ _, by rw [S_len]; (first | lia | omega), fun t' => ?_⟩
      rw [show ((at' : Nat) : Int) + 1 = ((at' + 1 : Nat) : Int) by (first | lia | omega), show ((at' : Nat) : Int) + 2 = ((at' + 2 : Nat) : Int) by (first | lia | omega), S_slice_any (by (first | lia | omega)) (by (first | lia | omega)), hdrop 1]
      have hne2 : decide (((a :: r).drop 1).take (at' + 2 - (at' + 1)) = L "-") = false := by
        rw [show L "-" = [45] from rfl, show at' + 2 - (at' + 1) = 1 by (first | lia | omega)]
        cases r with
        | nil => rfl
        | cons b r => simpa using hh
      walk_at "go"
      rw [hne2]
      walk_at "go"
      refine t_methL (.new (by walk_at "mm")) PySem.F.slot_list_append PySem.F.type_list_append ?_
      walk_at "go"
      refine t_tailStr (j := at') (by (first | lia | omega)) (idx_nat hlt) (by rw [show at' = at' + 0 from rfl, hget]; rfl) (fun _ => ?_) (by with_unfolding_all rfl)
      walk_at "go"
      refine v_append (i := 0) rfl (by (first | lia | omega)) fun e1 => ?_
      walk_at "go"
      refine ⟨r.length, by (first | lia | omega), _, List.Sublist.refl _, ⟨⟨tb, by walk_at "lk"⟩, at' + 1, acc ++ [a], _, _, _, _, d, e1, by rw [show ((at' + 1 : Nat) : Int) = (at' : Int) + 1 by (first | lia | omega)]; walk_at "lk", by walk_at "lk", rfl, ?_, hdrop 1, by (first | lia | omega), hr, by rw [List.append_assoc]; exact hap, rfl⟩⟩
      have : single (acc ++ [a]) = single acc ++ [[a]] := by simp
      rw [this]; exact Paired.snoc hs (.mk _ _)
  · have hge : body.length ≤ at' := by have := of_decide_eq_false hb1; (first | lia | omega)
    have : rem = [] := by rw [← hd]; exact List.drop_eq_nil_of_le hge
    subst this
    cases hr
    walk_at "go"
    rw [List.append_nil] at hap
    subst hap
    exact ⟨_, List.Sublist.refl _, d, pv, e, rfl, rfl, hs⟩
end Mine
end
section
open PySem PySem.W PyProof.Rows PySem.Calls
set_option maxRecDepth 20000
set_option linter.unusedVariables false
namespace Mine
set_option compiler.extract_closed false
local macro_rules | `(tactic| walk_at "lk") => `(tactic| first | assumption | exact upd_hit | (refine upd_miss (by decide) ?_; walk_at "lk") | (with_unfolding_all rfl))
local macro_rules | `(tactic| walk_at "nm") => `(tactic| with_reducible assumption)
local macro_rules | `(tactic| walk_at "st") => `(tactic| with_reducible first
  | (refine' t_ld ?k1 ?k2 ?_; (case k1 => walk_at "nm"); (case k2 => walk_at "lk"))
  | (refine' t_nm ?k1 ?_; (case k1 => walk_at "nm"))
  | refine t_IntC fun _ => ?_
  | refine t_StrS fun _ => ?_
  | refine t_BoolC ?_
  | refine t_NoneC ?_
  | refine t_cons ?_
  | refine t_after ?_
  | refine t_afterR ?_
  | refine t_afterB ?_
  | refine t_If ?_
  | (refine t_isCompare ?_ ?k1; (case k1 => with_unfolding_all rfl))
  | refine t_isAnd2 ?_
  | refine t_isOr2 ?_
  | refine t_isNot ?_
  | (refine t_isPlain ?_ ?k1; (case k1 => with_unfolding_all rfl))
  | refine t_truthy_bool ?_
  | (refine t_ifTrue ?k1 ?_; (case k1 => with_unfolding_all rfl))
  | (refine t_ifFalse ?k1 ?_; (case k1 => with_unfolding_all rfl))
  | (refine t_Assign ?_ ?k1; (case k1 => with_unfolding_all rfl))
  | (refine t_st ?k1 ?_; (case k1 => walk_at "nm"))
  | refine t_AugAssign ?_
  | (refine' t_ldn ?k1 ?k2 ?_; (case k1 => walk_at "nm"); (case k2 => walk_at "lk"))
  | refine t_BinOp ?_
  | (refine t_Compare ?_ ?k1; (case k1 => with_unfolding_all rfl))
  | (refine t_CallE ?_ ?k1; (case k1 => with_unfolding_all rfl))
  | (refine t_callWith0 ?k1 ?_; (case k1 => with_unfolding_all rfl))
  | (refine t_callWith1 ?k1 ?_; (case k1 => with_unfolding_all rfl))
  | (refine t_argS ?_ ?k1; (case k1 => with_unfolding_all rfl))
  | refine t_arg0 ?_
  | refine And.intro (KeepOk.builtin _) ?_
  | refine And.intro (KeepOk.type _) ?_
  | refine Exists.intro _ (And.intro rfl ?_)
  | refine t_Return ?_
  | refine t_IfExp ?_
  | refine t_UnaryOp ?_
  | (refine t_ExprStmt ?_ ?k1 ?k2; (case k1 => walk_at "nm"); (case k2 => with_unfolding_all rfl))
  | refine And.intro rfl ?_
  | refine t_Break ?_
  | refine t_nil ?_
  | refine v_eqInt ?_
  | refine v_neInt ?_
  | refine v_ltInt ?_
  | refine v_gtInt ?_
  | refine v_geInt ?_
  | refine v_eqStr ?_
  | refine v_neStr ?_
  | refine v_ltStr ?_
  | refine v_gtStr ?_
  | refine v_addInt fun _ => ?_
  | refine v_iaddInt fun _ => ?_
  | refine v_subInt fun _ => ?_
  | refine v_negInt fun _ => ?_
  | refine v_isNone ?_
  | (refine v_modPos ?k1 fun _ => ?_; (case k1 => decide))
  | (refine v_divSmall ?k1 fun _ => ?_; (case k1 => decide))
  | refine t_Tuple ?_
  | refine t_List ?_
  | ((fail_if_success (refine t_strSlice ?_ ?_)); (fail_if_success (refine t_listSliceS ?_ ?_)); refine t_Subscript ?_)
  | refine t_part0 ?_
  | refine t_part ?_
  | (refine v_is ?k1 ?_; (case k1 => with_unfolding_all rfl))
  | (refine v_isNot ?k1 ?_; (case k1 => with_unfolding_all rfl))
  | refine v_abs fun _ => ?_
  | refine v_isiIntInt ?_
  | refine v_isiStrInt ?_
  | (refine t_Method ?_ (by with_unfolding_all rfl))
  | (refine t_tests1 ?_)
  | (refine t_tests0 ?_)
  | refine t_Pass ?_
  | refine t_Dict0 fun _ _ _ => ?_
  | refine t_Try0 ?_
  | (refine t_AssignSub ?_ ?k1; (case k1 => with_unfolding_all rfl))
  | (refine' t_use ?k1 ?_; (case k1 => assumption))
  | fail)
local macro_rules | `(tactic| walk_at "go") => `(tactic| repeat' (walk_at "st"))
local macro_rules | `(tactic| walk_at "gT") => `(tactic| repeat' ((fail_if_success (with_reducible refine t_Try0 ?_)); walk_at "st"))
local macro_rules | `(tactic| walk_at "g0") => `(tactic| repeat' ((fail_if_success (with_reducible refine t_If ?_)); walk_at "st"))
local macro_rules | `(tactic| walk_at "lka") => `(tactic| ((repeat' (with_reducible refine And.intro ?_ ?_)) <;> first | walk_at "lk" | exact ⟨_, by walk_at "lk"⟩))
local macro_rules | `(tactic| walk_at "mm") => `(tactic| first | exact .head _ | exact .tail _ (.head _) | exact .tail _ (.tail _ (.head _)) | exact .tail _ (.tail _ (.tail _ (.head _))) | exact .tail _ (.tail _ (.tail _ (.tail _ (.head _)))))
local macro_rules | `(tactic| walk_at "mb") => `(tactic| first | exact .head _ | assumption | exact List.mem_append_left _ (by assumption) | (refine .tail _ ?_; walk_at "mb") | (refine List.mem_append_right _ ?_; walk_at "mb"))

theorem spec_pile0 {prog : Program} {w : World} {G : Gl} {a : Addr} {t0 : Tok} :
    Spec (model prog w) G 1 a [.str (S (L "(?s:\\[\\])\\Z")) t0] (fun h => FnIs G h 24 a) (fun r out => ∃ d tv e, r = .ref d ∧ out = [(d, lst tv e)] ∧ Strs tv [L "[]"]) := by
  refine spec_of (binds := [("text", .str (S (L "(?s:\\[\\])\\Z")) t0)]) (fun h _ hp => hp) (fun _ _ _ => rfl) (locs rfl) (by decide +kernel) ?_
  intro c F _
  have X_int := F.inter
  have L_text : LocN c "text" := F.loc (by decide +kernel)
  have hsz : 16777216 ≤ sizeLine := by decide +kernel
  have e5 : (L "(?s:\\[\\])\\Z").length = 11 := by decide
  refine t_cons ?_
  walk_at "go"
  refine t_strSlice ?_ (by intro _ _; rfl)
  walk_at "go"
  refine ⟨_, _, _, _, rfl, .none, .int 5 _, by rw [S_len]; (first | lia | omega), fun t' => ?_⟩
  rw [show (5 : Int) = ((5 : Nat) : Int) from rfl, S_slice_to (by (first | lia | omega))]
  walk_at "go"
  refine ⟨show 1 ≤ sizeLine by (first | lia | omega), fun d => ?_⟩
  walk_at "go"
  exact ⟨[(d, lst [_])], List.Sublist.cons_cons _ (List.nil_sublist _), d, _, 0, rfl, rfl, .cons (.mk _ _) .nil⟩
end Mine
end
section
open PySem PySem.W PyProof.Rows PySem.Calls
set_option maxRecDepth 20000
set_option linter.unusedVariables false
namespace Mine
set_option compiler.extract_closed false
local macro_rules | `(tactic| walk_at "lk") => `(tactic| first | assumption | exact upd_hit | (refine upd_miss (by decide) ?_; walk_at "lk") | (with_unfolding_all rfl))
local macro_rules | `(tactic| walk_at "nm") => `(tactic| with_reducible assumption)
local macro_rules | `(tactic| walk_at "st") => `(tactic| with_reducible first
  | (refine' t_ld ?k1 ?k2 ?_; (case k1 => walk_at "nm"); (case k2 => walk_at "lk"))
  | (refine' t_nm ?k1 ?_; (case k1 => walk_at "nm"))
  | refine t_IntC fun _ => ?_
  | refine t_StrS fun _ => ?_
  | refine t_BoolC ?_
  | refine t_NoneC ?_
  | refine t_cons ?_
  | refine t_after ?_
  | refine t_afterR ?_
  | refine t_afterB ?_
  | refine t_If ?_
  | (refine t_isCompare ?_ ?k1; (case k1 => with_unfolding_all rfl))
  | refine t_isAnd2 ?_
  | refine t_isOr2 ?_
  | refine t_isNot ?_
  | (refine t_isPlain ?_ ?k1; (case k1 => with_unfolding_all rfl))
  | refine t_truthy_bool ?_
  | (refine t_ifTrue ?k1 ?_; (case k1 => with_unfolding_all rfl))
  | (refine t_ifFalse ?k1 ?_; (case k1 => with_unfolding_all rfl))
  | (refine t_Assign ?_ ?k1; (case k1 => with_unfolding_all rfl))
  | (refine t_st ?k1 ?_; (case k1 => walk_at "nm"))
  | refine t_AugAssign ?_
  | (refine' t_ldn ?k1 ?k2 ?_; (case k1 => walk_at "nm"); (case k2 => walk_at "lk"))
  | refine t_BinOp ?_
  | (refine t_Compare ?_ ?k1; (case k1 => with_unfolding_all rfl))
  | (refine t_CallE ?_ ?k1; (case k1 => with_unfolding_all rfl))
  | (refine t_callWith0 ?k1 ?_; (case k1 => with_unfolding_all rfl))
  | (refine t_callWith1 ?k1 ?_; (case k1 => with_unfolding_all rfl))
  | (refine t_argS ?_ ?k1; (case k1 => with_unfolding_all rfl))
  | refine t_arg0 ?_
  | refine And.intro (KeepOk.builtin _) ?_
  | refine And.intro (KeepOk.type _) ?_
  | refine Exists.intro _ (And.intro rfl ?_)
  | refine t_Return ?_
  | refine t_IfExp ?_
  | refine t_UnaryOp ?_
  | (refine t_ExprStmt ?_ ?k1 ?k2; (case k1 => walk_at "nm"); (case k2 => with_unfolding_all rfl))
  | refine And.intro rfl ?_
  | refine t_Break ?_
  | refine t_nil ?_
  | refine v_eqInt ?_
  | refine v_neInt ?_
  | refine v_ltInt ?_
  | refine v_gtInt ?_
  | refine v_geInt ?_
  | refine v_eqStr ?_
  | refine v_neStr ?_
  | refine v_ltStr ?_
  | refine v_gtStr ?_
  | refine v_addInt fun _ => ?_
  | refine v_iaddInt fun _ => ?_
  | refine v_subInt fun _ => ?_
  | refine v_negInt fun _ => ?_
  | refine v_isNone ?_
  | (refine v_modPos ?k1 fun _ => ?_; (case k1 => decide))
  | (refine v_divSmall ?k1 fun _ => ?_; (case k1 => decide))
  | refine t_Tuple ?_
  | refine t_List ?_
  | ((fail_if_success (refine t_strSlice ?_ ?_)); (fail_if_success (refine t_listSliceS ?_ ?_)); refine t_Subscript ?_)
  | refine t_part0 ?_
  | refine t_part ?_
  | (refine v_is ?k1 ?_; (case k1 => with_unfolding_all rfl))
  | (refine v_isNot ?k1 ?_; (case k1 => with_unfolding_all rfl))
  | refine v_abs fun _ => ?_
  | refine v_isiIntInt ?_
  | refine v_isiStrInt ?_
  | (refine t_Method ?_ (by with_unfolding_all rfl))
  | (refine t_tests1 ?_)
  | (refine t_tests0 ?_)
  | refine t_Pass ?_
  | refine t_Dict0 fun _ _ _ => ?_
  | refine t_Try0 ?_
  | (refine t_AssignSub ?_ ?k1; (case k1 => with_unfolding_all rfl))
  | (refine' t_use ?k1 ?_; (case k1 => assumption))
  | fail)
local macro_rules | `(tactic| walk_at "go") => `(tactic| repeat' (walk_at "st"))
local macro_rules | `(tactic| walk_at "gT") => `(tactic| repeat' ((fail_if_success (with_reducible refine t_Try0 ?_)); walk_at "st"))
local macro_rules | `(tactic| walk_at "g0") => `(tactic| repeat' ((fail_if_success (with_reducible refine t_If ?_)); walk_at "st"))
local macro_rules | `(tactic| walk_at "lka") => `(tactic| ((repeat' (with_reducible refine And.intro ?_ ?_)) <;> first | walk_at "lk" | exact ⟨_, by walk_at "lk"⟩))
local macro_rules | `(tactic| walk_at "mm") => `(tactic| first | exact .head _ | exact .tail _ (.head _) | exact .tail _ (.tail _ (.head _)) | exact .tail _ (.tail _ (.tail _ (.head _))) | exact .tail _ (.tail _ (.tail _ (.tail _ (.head _)))))
local macro_rules | `(tactic| walk_at "mb") => `(tactic| first | exact .head _ | assumption | exact List.mem_append_left _ (by assumption) | (refine .tail _ ?_; walk_at "mb") | (refine List.mem_append_right _ ?_; walk_at "mb"))

/-- a def that has defaults -/
noncomputable def DfltAt (h : Heap) (i : Nat) (a : Addr) (dV kV : Value) : Prop := ∃ o pm cd doc, h.get? a = some o ∧ o.data = .func { docDef (nameOf i) (paramsOf i) (bodyOf i) (scopeOf i) pm cd doc with defaults := dV, kwdefaults := kV } ∧ h.CodeRec cd (nameOf i)
theorem DfltAt.keeps {h h' : Heap} {i : Nat} {a : Addr} {dV kV : Value} (T : DfltAt h i a dV kV) (hk : ∀ b o, h.get? b = some o → h'.get? b = some o) : DfltAt h' i a dV kV :=
  let ⟨o, pm, cd, doc, h1, h2, h3⟩ := T; ⟨o, pm, cd, doc, hk _ _ h1, h2, h3.keeps hk⟩
/-- safe_repr stands -/
noncomputable def SafeAt (h : Heap) (a T : Addr) : Prop := DfltAt h 16 a (.ref T) .none ∧ ∃ o n, h.get? T = some o ∧ o.data = .seq #[.bool false] n
noncomputable def listW (ws : List W) : W := L "[" ++ joinL (L ", ") ws ++ L "]"
theorem reads_things {h : Heap} : ∀ {vs : List Value} {xs : List Th}, Things vs xs → ReadsAll h vs (xs.map Th.dat) []
  | _, _, .nil => .nil
  | _, _, .cons h t => by
    refine ReadsAll.cons (as := []) (bs := []) ?_ (reads_things t)
    cases h
    · exact .none
    · exact .bool _
    · exact .int _ _
    · exact .str _ _
theorem shown_th {x : Th} (h : x.ok) : x.dat.shown = S x.wr := by
  cases x with
  | none => exact ofString_S "None"
  | bool b => cases b
              · exact ofString_S "False"
              · exact ofString_S "True"
  | int i => exact ofString_S (toString i)
  | str y =>
    rcases h with rfl | rfl
    · show reprText (S (L "a")) = _
      decide +kernel
    · show reprText (S (L "it")) = _
      decide +kernel
theorem shownAll_th : ∀ {xs : List Th}, (∀ x ∈ xs, x.ok) → PyData.shownAll (xs.map Th.dat) = (xs.map Th.wr).map S
  | [], _ => rfl
  | x :: xs, h => by
    show x.dat.shown :: PyData.shownAll (xs.map Th.dat) = S x.wr :: (xs.map Th.wr).map S
    rw [shown_th (h x (.head _)), shownAll_th fun y hy => h y (.tail _ hy)]
theorem shown_list {xs : List Th} (h : ∀ x ∈ xs, x.ok) : PyData.shown (.list (xs.map Th.dat)) = S (listW (xs.map Th.wr)) := by
  show listText (PyData.shownAll (xs.map Th.dat)) = _
  rw [shownAll_th h, listText_eq_join]
  have e := join_S (L ", ") (xs.map Th.wr)
  have e' : Txt.join (S (L ", ")) ((xs.map Th.wr).map S) = Str.join (S (L ", ")) ((xs.map Th.wr).map S) := StrLaws.glued_eq_join _ _
  rw [e'] at e
  rw [ofString_S "[", ofString_S "]", ofString_S ", ", e, S_app, S_app]
  rfl
theorem showable_th {xs : List Th} (h : ∀ x ∈ xs, x.ok) : PyData.showableAll (xs.map Th.dat) = true := by
  induction xs with
  | nil => rfl
  | cons x xs ih =>
    show (x.dat.showable && PyData.showableAll (xs.map Th.dat)) = true
    rw [ih fun y hy => h y (.tail _ hy), Bool.and_true]
    have hx := h x (.head _)
    cases x with
    | int i => exact decide_eq_true (log2_small hx)
    | _ => rfl
theorem noDict_th (xs : List Th) : PyData.hasDictAll (xs.map Th.dat) = false := by
  induction xs with
  | nil => rfl
  | cons x xs ih =>
    show (x.dat.hasDict || PyData.hasDictAll (xs.map Th.dat)) = false
    rw [ih, Bool.or_false]
    cases x <;> rfl
theorem depth_th (xs : List Th) : PyData.depth (.list (xs.map Th.dat)) ≤ 1 := by
  have h : PyData.depthAll (xs.map Th.dat) = 0 := by
    induction xs with
    | nil => rfl
    | cons x xs ih =>
      show max x.dat.depth (PyData.depthAll (xs.map Th.dat)) = 0
      rw [ih]
      cases x <;> rfl
  show PyData.depthAll (xs.map Th.dat) + 1 ≤ 1
  (first | lia | omega)
section
variable {prog : Program} {w : World} {c : FC} {m : Loc} {news : Led'} {E : Led' → Value → Shared → Prop} {Q : Value → Loc → Led' → Prop}
theorem v_reprTh {v : Value} {x : Th} (hv : IsTh v x) (hx : x.ok) (h : ∀ t, Q (.str (S x.wr) t) m news) : Tr (model prog w) c (call (.builtin "repr") [v]) m news Q E := by
  cases hv with
  | none => exact v_reprNone h
  | bool b => refine v_reprBool fun t => ?_
              cases b
              · exact h t
              · exact h t
  | int i t => exact v_reprInt (log2_small hx) h
  | str y t =>
    intro k s l
    refine P.repr_of_str ⟨m, news, l.toks _, ?_⟩ ?_
    · rw [show reprText (S y) = S (Th.wr (.str y)) from shown_th hx]; exact h _
    · rw [show reprText (S y) = S (Th.wr (.str y)) from shown_th hx, S_len]
      rcases hx with rfl | rfl <;> decide +kernel
theorem v_reprList {a : Addr} {vs : List Value} {xs : List Th} (hg : c.A.guards = some []) (hu : c.A.units + 10 < cLine) (ha : LstAt c news a vs) (hv : Things vs xs) (hx : ∀ x ∈ xs, x.ok) (hz : (listW (xs.map Th.wr)).length ≤ sizeLine) (h : ∀ t, Q (.str (S (listW (xs.map Th.wr))) t) m news) :
    Tr (model prog w) c (call (.builtin "repr") [.ref a]) m news Q E := fun k s l => by
  refine t_box fun gbx hbx => ?_
  obtain ⟨o, ht, hc, n, hd⟩ := ha
  refine hbx ?_
  clear hbx gbx
  have r : Reads s.heap (.ref a) (.list (xs.map Th.dat)) [a] := .list (ht.get l) hc hd (by simpa using reads_things hv)
  have hdp := depth_th xs
  refine repr_of_reads' r (showable_th hx) (fun e => by rw [show PyData.hasDict (.list (xs.map Th.dat)) = PyData.hasDictAll (xs.map Th.dat) from rfl, noDict_th] at e; cases e) hg (by (first | lia | omega)) (fun _ _ e => e) (fun h' u tk hk => ?_) (by rw [shown_list hx, S_len]; exact hz)
  rw [shown_list hx]
  exact ⟨m, news, l.grow (dr := s.drawn) hk l.gens, h u⟩
end
theorem safe_bind {h : Heap} {a T : Addr} {v : Value} (s : Shared) (pm cd doc : Value) (hT : ∃ o n, s.heap.get? T = some o ∧ o.data = .seq #[.bool false] n) :
    BindsTo s { docDef (nameOf 16) (paramsOf 16) (bodyOf 16) (scopeOf 16) pm cd doc with defaults := .ref T, kwdefaults := .none } ⟨[v], []⟩ [("obj", v), ("short", .bool false)] := by
  refine t_box fun gbx hbx => ?_
  obtain ⟨o, n, ho, hd⟩ := hT
  refine hbx ?_
  clear hbx gbx
  exact BindsTo.of_defaults rfl ho hd rfl rfl
theorem spec_reprTh {prog : Program} {w : World} {G : Gl} {a T : Addr} {v : Value} {x : Th} (hv : IsTh v x) (hx : x.ok) :
    Spec (model prog w) G 1 a [v] (fun h => SafeAt h a T) (fun r out => out = [] ∧ ∃ t, r = .str (S x.wr) t) := by
  refine spec_ofD (params := paramsOf 16) (name := nameOf 16) (body := bodyOf 16) (scope := scopeOf 16) (dV := .ref T) (kV := .none) (binds := [("obj", v), ("short", .bool false)]) (fun h _ hp => hp.1) (fun s pm cd doc hp => safe_bind (h := s.heap) (a := a) s pm cd doc hp.2) (locs rfl) (by decide +kernel) ?_
  intro c F _
  have X_int := F.inter
  have L_obj : LocN c "obj" := F.loc (by decide +kernel)
  have L_short : LocN c "short" := F.loc (by decide +kernel)
  have L_result : LocN c "result" := F.loc (by decide +kernel)
  have N_repr : Nm c "repr" (.builtin "repr") := F.bnm (by decide +kernel) (by decide +kernel)
  refine t_cons ?_
  walk_at "go"
  refine v_reprTh hv hx fun t => ?_
  walk_at "go"
  exact ⟨[], List.Sublist.refl _, rfl, t, rfl⟩
theorem spec_reprList {prog : Program} {w : World} {G : Gl} {a T b : Addr} {vs : List Value} {xs : List Th} (hv : Things vs xs) (hx : ∀ x ∈ xs, x.ok) (hz : (listW (xs.map Th.wr)).length ≤ sizeLine) :
    Spec (model prog w) G 1 a [.ref b] (fun h => SafeAt h a T ∧ ∃ n, h.get? b = some (lst vs n)) (fun r out => out = [] ∧ ∃ t, r = .str (S (listW (xs.map Th.wr))) t) := by
  refine spec_ofD (params := paramsOf 16) (name := nameOf 16) (body := bodyOf 16) (scope := scopeOf 16) (dV := .ref T) (kV := .none) (binds := [("obj", .ref b), ("short", .bool false)]) (fun h _ hp => hp.1.1) (fun s pm cd doc hp => safe_bind (h := s.heap) (a := a) s pm cd doc hp.1.2) (locs rfl) (by decide +kernel) ?_
  intro c F ⟨_, n0, hb⟩
  have X_int := F.inter
  have L_obj : LocN c "obj" := F.loc (by decide +kernel)
  have L_short : LocN c "short" := F.loc (by decide +kernel)
  have L_result : LocN c "result" := F.loc (by decide +kernel)
  have N_repr : Nm c "repr" (.builtin "repr") := F.bnm (by decide +kernel) (by decide +kernel)
  refine t_cons ?_
  walk_at "go"
  refine v_reprList F.gd (by have := F.un; (first | lia | omega)) (.old ⟨_, hb, rfl, _, rfl⟩) hv hx hz fun t => ?_
  walk_at "go"
  exact ⟨[], List.Sublist.refl _, rfl, t, rfl⟩
end Mine
end
section
open PySem PySem.W PyProof.Rows PySem.Calls
set_option maxRecDepth 20000
namespace Mine
theorem sub_list_module : isSubtype (.type "list") (.type "module") = pure false := by rw [isSubtype_type]; kernel_rfl
section
variable {prog : Program} {w : World} {A : Around} {E : Value → Shared → Prop} {s : Shared} {Q : Value → Shared → Prop}
theorem check_bound_append {l : Addr} {vs : List Value} {n : Nat} {v : Value} {M : Model} {A : Around} {E : Value → Shared → Prop} {Q : Unit → Shared → Prop} (ho : s.heap.get? l = some (lst vs n)) (h : Q () s) :
    wpAny M A (checkBoundCall "list.append" ⟨[.ref l, v], []⟩) Q E s := by
  have hT : s.TypeIs (.ref l) "list" := ⟨_, ho, rfl⟩
  unfold checkBoundCall
  rw [signature?_of (id := "list.append") (n := ['d', 'n', 'e', 'p', 'p', 'a']) (o := ['t', 's', 'i', 'l']) (by kernel_rfl) PySem.F.owner_list]
  repeat (any_goals (first | assumption | refine wpAny_of_eq sub_list_module ?_ | wp_step))
end
section
variable {prog : Program} {w : World} {A : Around} {E : Value → Shared → Prop} {s : Shared} {Q : Value → Shared → Prop}
theorem call_bound_append {b l : Addr} {vs : List Value} {n : Nat} {v : Value} (hb : s.heap.get? b = some { cls := .type "builtin_function_or_method", data := .fields #[.builtin "list.append", .ref l] })
    (ho : s.heap.get? l = some (lst vs n)) (hz : vs.length ≤ sizeLine) (hQ : ∀ h' n', h'.get? l = some (lst (vs ++ [v]) n') → Heap.SameBut l s.heap h' → Q .none { s with heap := h' }) :
    wpAny (model prog w) A (call (.ref b) [v]) Q E s := by
  refine wpAny_call (codeAny_of_tree ?_)
  show wpAny _ A.in1 (callAny (.ref b) ⟨[v], []⟩) _ _ _
  unfold callAny
  refine wpAny_bind (wpAny_load hb ?_)
  show wpAny _ A.in1 (do checkBoundCall "list.append" ⟨[.ref l, v], []⟩; again (.builtin "list.append" ⟨[.ref l, v], []⟩)) _ _ _
  refine wpAny_bind (check_bound_append ho (wpAny_pure ⟨plainId_quiet PySem.F.slot_list_append.plain _, codeAny_builtin PySem.F.entry_list_append ?_⟩))
  rw [Around.under_plainId PySem.F.slot_list_append.plain]
  have z := list_append l vs.toArray n v (by rw [List.size_toArray]; exact hz) prog w A (wants Q E) s ⟨ho, ?_⟩
  · exact z
  · have hu := (show IsL s.heap l vs.toArray n from ho).update fun xs => xs.push v
    rw [List.push_toArray] at hu
    exact hQ _ _ hu (Heap.SameBut.update ..)
theorem lk_md_get : typeLookup (.type "method_descriptor") "__get__" = pure (some (.builtin "method_descriptor.__get__")) := by rw [typeLookup_type, builtinLookup_eq_fast]; kernel_rfl
theorem lk_md_set : typeLookup (.type "method_descriptor") "__set__" = pure none := by rw [typeLookup_type, builtinLookup_eq_fast]; kernel_rfl
theorem lk_md_del : typeLookup (.type "method_descriptor") "__delete__" = pure none := by rw [typeLookup_type, builtinLookup_eq_fast]; kernel_rfl
theorem slot_md_get : Slot "method_descriptor" "__get__" "method_descriptor.__get__" :=
  .of (owner := "method_descriptor") (n := "__get__") lk_md_get (by decide +kernel) (by decide +kernel) (by decide +kernel)
    (by first | exact .inl (by decide +kernel) | exact .inr (by decide +kernel)) (by rw [isSubtype_type]; kernel_rfl)
theorem entry_md_get : entryFor table "method_descriptor.__get__" = some Builtin.«method_descriptor.__get__» := entryFor_of_tree (by kernel_rfl)
theorem args_md_get (a b c : Value) : argsOk "method_descriptor.__get__" ⟨[a, b, c], []⟩ := by
  unfold argsOk; rw [signature?_of (id := "method_descriptor.__get__") (n := ['_', '_', 't', 'e', 'g', '_', '_']) (o := "method_descriptor".toList.reverse) (rows := Manifest.sig_method_descriptor) (by kernel_rfl) (by kernel_rfl)]; kernel_rfl
theorem sub_list_list : isSubtype (.type "list") (.type "list") = pure true := by rw [isSubtype_type]; kernel_rfl
theorem meets_md_append (l : Addr) (vs : List Value) (n : Nat) :
    Meets (Builtin.«method_descriptor.__get__» ⟨[.builtin "list.append", .ref l, .type "list"], []⟩) (fun A R s => s.heap.get? l = some (lst vs n) ∧ ∀ tk, R (.ok (.ret (.ref s.heap.objs.size))) { s with heap := s.heap.push { cls := .type "builtin_function_or_method", data := .fields #[.builtin "list.append", .ref l] }, toks := tk }) :=
  Meets.of_wp fun prog w A R s hs => by
    obtain ⟨hp, g, d, tk, os⟩ := s
    obtain ⟨ho, hs⟩ := hs
    have hT : (⟨hp, g, d, tk, os⟩ : Shared).TypeIs (.ref l) "list" := ⟨_, ho, rfl⟩
    have hs0 := hs tk
    have f9 : isSubtype (.type "list") (.type (".".intercalate ("list.append".cutAt '.').dropLast)) = pure true := by
      rw [show ".".intercalate ("list.append".cutAt '.').dropLast = "list" by decide +kernel]; exact sub_list_list
    unfold Builtin.«method_descriptor.__get__»
    repeat (any_goals (first | assumption | exact ⟨_, rfl, hs0⟩ | wp_step))
theorem code_md_append {R : Result → Shared → Prop} {l : Addr} {vs : List Value} {n : Nat} (ho : s.heap.get? l = some (lst vs n))
    (h : ∀ tk, R (.ok (.ret (.ref s.heap.objs.size))) { s with heap := s.heap.push { cls := .type "builtin_function_or_method", data := .fields #[.builtin "list.append", .ref l] }, toks := tk }) :
    codeAny (model prog w) A (.call (.builtin "method_descriptor.__get__") ⟨[.builtin "list.append", .ref l, .type "list"], []⟩) R s :=
  codeAny_call_builtin slot_md_get.plain entry_md_get (slot_md_get.check _ _ _ _ _ _ _ _ (show Shared.TypeIs s (.builtin "list.append") "method_descriptor" from PySem.F.type_list_append) (args_md_get _ _ _) (meets_md_append l vs n prog w A R s ⟨ho, h⟩))
theorem meets_ga_append (l : Addr) (vs : List Value) (n : Nat) (u : Tok) :
    Meets (Builtin.«object.__getattribute__» ⟨[.ref l, .str "append" u], []⟩) (fun A R s => s.heap.get? l = some (lst vs n) ∧ ∀ tk, R (.ok (.ret (.ref s.heap.objs.size))) { s with heap := s.heap.push { cls := .type "builtin_function_or_method", data := .fields #[.builtin "list.append", .ref l] }, toks := tk }) :=
  Meets.of_wp fun prog w A R s hs => by
    obtain ⟨hp, g, d, tk, os⟩ := s
    obtain ⟨ho, hs⟩ := hs
    have hT : (⟨hp, g, d, tk, os⟩ : Shared).TypeIs (.ref l) "list" := ⟨_, ho, rfl⟩
    have f1 := PySem.F.slot_list_append.lookup
    have f2 := PySem.F.type_list_append
    have f6 := lk_md_get
    have f7 := lk_md_set
    have f8 := lk_md_del
    unfold Builtin.«object.__getattribute__»
    repeat (any_goals (first | assumption | wp_step))
    refine code_md_append ho fun tk' => ?_
    dsimp only
    repeat (any_goals (first | assumption | exact ⟨_, rfl, hs _⟩ | wp_step))
theorem code_ga_append {R : Result → Shared → Prop} {l : Addr} {vs : List Value} {n : Nat} {u : Tok} (ho : s.heap.get? l = some (lst vs n))
    (h : ∀ tk, R (.ok (.ret (.ref s.heap.objs.size))) { s with heap := s.heap.push { cls := .type "builtin_function_or_method", data := .fields #[.builtin "list.append", .ref l] }, toks := tk }) :
    codeAny (model prog w) A (.call (.builtin "list.__getattribute__") ⟨[.ref l] ++ [.str "append" u], []⟩) R s :=
  codeAny_call_builtin PySem.F.slot_list_getattribute.plain am_entry_list_getattribute (PySem.F.slot_list_getattribute.check _ _ _ _ _ _ _ _ (show Shared.TypeIs s (.ref l) "list" from ⟨_, ho, rfl⟩) (PySem.F.args_list_getattribute_2 _ _) (meets_ga_append l vs n u prog w A R s ⟨ho, h⟩))
theorem getAttr_append {l : Addr} {vs : List Value} {n : Nat} (ho : s.heap.get? l = some (lst vs n)) (hQ : ∀ tk, Q (.ref s.heap.objs.size) { s with heap := s.heap.push { cls := .type "builtin_function_or_method", data := .fields #[.builtin "list.append", .ref l] }, toks := tk }) :
    wpAny (model prog w) A (getAttr (.ref l) "append" true) Q E s := by
  obtain ⟨hp, g, d, tk, os⟩ := s
  have hT : ∀ tk', (⟨hp, g, d, tk', os⟩ : Shared).TypeIs (.ref l) "list" := fun _ => ⟨_, ho, rfl⟩
  have f3 := PySem.F.slot_list_getattribute.lookup
  have f4 := PySem.F.slot_list_getattribute.bind (.ref l)
  have f5 := am_list_getattr_none
  unfold getAttr getAttrBy
  repeat (any_goals (first | assumption | exact hT _ | wp_step))
  refine code_ga_append ho fun tk' => ?_
  dsimp only
  repeat (any_goals (first | assumption | exact hQ _ | wp_step))
end
section
variable {prog : Program} {w : World} {c : FC} {m : Loc} {news : Led'} {E : Led' → Value → Shared → Prop} {Q : Value → Loc → Led' → Prop} {env : Env}
noncomputable abbrev bndO (id : String) (self : Value) : Obj := { cls := .type "builtin_function_or_method", data := .fields #[.builtin id, self] }
theorem t_Attr {value : Expr} {attr : Str} {pos : Pos} (h : Tr (model prog w) c (eval value env) m news (fun o m₁ n₁ => Tr (model prog w) c (getAttr o attr true) m₁ n₁ Q E) E)
    (he : eval (.Attribute value attr pos) env = (do
      let o ← eval value env
      PySem.standAt pos.atName
      let r ← PySem.holding [o] (getAttr o attr true)
      letTemporaryGo value o r
      Pure.pure r)) (hv : ∃ n p, value = .Name n p) : Tr (model prog w) c (eval (.Attribute value attr pos) env) m news Q E := fun k s l => by
  obtain ⟨n, p, rfl⟩ := hv
  exact Attribute_name (wpAny_mono (h k s l) (fun o s₁ ⟨m₁, n₁, l₁, q⟩ => q k s₁ l₁) fun _ _ e => e)
theorem v_attrAppend {l : Addr} {vs : List Value} (hl : PlAt c news l vs) (h : ∀ b, Q (.ref b) m ((b, bndO "list.append" (.ref l)) :: news)) : Tr (model prog w) c (getAttr (.ref l) "append" true) m news Q E := fun k s lk => by
  obtain ⟨n, hl⟩ := hl
  exact getAttr_append (hl.get lk) fun tk => ⟨m, _, (lk.push rfl).toks tk, h _⟩
theorem v_callAppend {b a : Addr} {i : Nat} {vs : List Value} {n : Nat} {v : Value} (hb : There c news b (bndO "list.append" (.ref a))) (hi : news[i]? = some (a, lst vs n)) (hz : vs.length ≤ sizeLine) (h : ∀ n', Q .none m (news.set i (a, lst (vs ++ [v]) n'))) :
    Tr (model prog w) c (call (.ref b) [v]) m news Q E := fun k s l =>
  call_bound_append (hb.get l) (l.nw _ (List.mem_of_getElem? hi)).1 hz fun h' n' ha hs => ⟨m, _, l.change (tk := s.toks) hi hs ha, h n'⟩
end
end Mine
end
section
open PySem PySem.W PyProof.Rows PySem.Calls
set_option maxRecDepth 20000
namespace Mine
theorem lk_type_ga : typeLookup (.type "type") "__getattribute__" = pure (some (.builtin "type.__getattribute__")) := by rw [typeLookup_type, builtinLookup_eq_fast]; kernel_rfl
theorem lk_type_fk : typeLookup (.type "type") "fromkeys" = pure none := by rw [typeLookup_type, builtinLookup_eq_fast]; kernel_rfl
theorem lk_type_gattr : typeLookup (.type "type") "__getattr__" = pure none := by rw [typeLookup_type, builtinLookup_eq_fast]; kernel_rfl
theorem lk_dict_fk : typeLookup (.type "dict") "fromkeys" = pure (some (.builtin "dict.fromkeys")) := by rw [typeLookup_type, builtinLookup_eq_fast]; kernel_rfl
theorem ty_fk : typeOf (.builtin "dict.fromkeys") = pure (.type "classmethod_descriptor") := by show builtinType _ = _; rw [builtinType_eq_fast]; kernel_rfl
theorem lk_cd_get : typeLookup (.type "classmethod_descriptor") "__get__" = pure (some (.builtin "classmethod_descriptor.__get__")) := by rw [typeLookup_type, builtinLookup_eq_fast]; kernel_rfl
theorem slot_cd_get : Slot "classmethod_descriptor" "__get__" "classmethod_descriptor.__get__" :=
  .of (owner := "classmethod_descriptor") (n := "__get__") lk_cd_get (by decide +kernel) (by decide +kernel) (by decide +kernel)
    (by first | exact .inl (by decide +kernel) | exact .inr (by decide +kernel)) (by rw [isSubtype_type]; kernel_rfl)
theorem slot_type_ga : Slot "type" "__getattribute__" "type.__getattribute__" :=
  .of (owner := "type") (n := "__getattribute__") lk_type_ga (by decide +kernel) (by decide +kernel) (by decide +kernel)
    (by first | exact .inl (by decide +kernel) | exact .inr (by decide +kernel)) (by rw [isSubtype_type]; kernel_rfl)
theorem entry_cd_get : entryFor table "classmethod_descriptor.__get__" = some Builtin.«classmethod_descriptor.__get__» := entryFor_of_tree (by kernel_rfl)
theorem entry_type_ga : entryFor table "type.__getattribute__" = some Builtin.«type.__getattribute__» := entryFor_of_tree (by kernel_rfl)
theorem args_cd_get (a b c : Value) : argsOk "classmethod_descriptor.__get__" ⟨[a, b, c], []⟩ := by
  unfold argsOk; rw [signature?_of (id := "classmethod_descriptor.__get__") (n := ['_', '_', 't', 'e', 'g', '_', '_']) (o := "classmethod_descriptor".toList.reverse) (rows := Manifest.sig_classmethod_descriptor) (by kernel_rfl) (by kernel_rfl)]; kernel_rfl
theorem args_type_ga (a b : Value) : argsOk "type.__getattribute__" ⟨[a, b], []⟩ := by
  unfold argsOk; rw [signature?_of (id := "type.__getattribute__") (n := "__getattribute__".toList.reverse) (o := "type".toList.reverse) (rows := Manifest.sig_type) (by kernel_rfl) (by kernel_rfl)]; kernel_rfl
theorem sub_dict_dict : isSubtype (.type "dict") (.type "dict") = pure true := by rw [isSubtype_type]; kernel_rfl
section
variable {prog : Program} {w : World} {A : Around} {E : Value → Shared → Prop} {s : Shared} {Q : Value → Shared → Prop}
theorem meets_cd_fk (n : Unit) :
    Meets (Builtin.«classmethod_descriptor.__get__» ⟨[.builtin "dict.fromkeys", .none, .type "dict"], []⟩) (fun _ R s => ∀ tk, R (.ok (.ret (.ref s.heap.objs.size))) { s with heap := s.heap.push (bndO "dict.fromkeys" (.type "dict")), toks := tk }) :=
  Meets.of_wp fun prog w A R s hs => by
    obtain ⟨hp, g, d, tk, os⟩ := s
    have hs0 := hs tk
    have f9 : isSubtype (.type "dict") (.type (".".intercalate ("dict.fromkeys".cutAt '.').dropLast)) = pure true := by
      rw [show ".".intercalate ("dict.fromkeys".cutAt '.').dropLast = "dict" by decide +kernel]; exact sub_dict_dict
    unfold Builtin.«classmethod_descriptor.__get__»
    repeat (any_goals (first | assumption | exact ⟨_, rfl, hs0⟩ | wp_step))
theorem code_cd_fk {R : Result → Shared → Prop} (h : ∀ tk, R (.ok (.ret (.ref s.heap.objs.size))) { s with heap := s.heap.push (bndO "dict.fromkeys" (.type "dict")), toks := tk }) :
    codeAny (model prog w) A (.call (.builtin "classmethod_descriptor.__get__") ⟨[.builtin "dict.fromkeys", .none, .type "dict"], []⟩) R s :=
  codeAny_call_builtin slot_cd_get.plain entry_cd_get (slot_cd_get.check _ _ _ _ _ _ _ _ (show Shared.TypeIs s (.builtin "dict.fromkeys") "classmethod_descriptor" from ty_fk) (args_cd_get _ _ _) (meets_cd_fk () prog w A R s h))
theorem meta_dict : (Manifest.find? "dict").elim "type" (fun x => x.metatype) = "type" := by decide +kernel
theorem meets_tga_fk (u : Tok) :
    Meets (Builtin.«type.__getattribute__» ⟨[.type "dict", .str "fromkeys" u], []⟩) (fun A R s => ∀ tk, R (.ok (.ret (.ref s.heap.objs.size))) { s with heap := s.heap.push (bndO "dict.fromkeys" (.type "dict")), toks := tk }) :=
  Meets.of_wp fun prog w A R s hs => by
    obtain ⟨hp, g, d, tk, os⟩ := s
    have f1 : typeLookup (.type ((Manifest.find? "dict").elim "type" fun x => x.metatype)) "fromkeys" = pure none := by rw [meta_dict]; exact lk_type_fk
    have f2 := lk_dict_fk
    have f3 := ty_fk
    have f4 := lk_cd_get
    unfold Builtin.«type.__getattribute__»
    repeat (any_goals (first | assumption | refine code_cd_fk fun tk' => ?_ | exact ⟨_, rfl, hs _⟩ | wp_step))
theorem ty_tdict : typeOf (.type "dict") = pure (.type "type") := by
  have e : typeOf (.type "dict") = pure (.type ((Manifest.find? "dict").elim "type" fun x => x.metatype)) := rfl
  rw [e, meta_dict]
theorem code_tga_fk {R : Result → Shared → Prop} {u : Tok} (h : ∀ tk, R (.ok (.ret (.ref s.heap.objs.size))) { s with heap := s.heap.push (bndO "dict.fromkeys" (.type "dict")), toks := tk }) :
    codeAny (model prog w) A (.call (.builtin "type.__getattribute__") ⟨[.type "dict"] ++ [.str "fromkeys" u], []⟩) R s :=
  codeAny_call_builtin slot_type_ga.plain entry_type_ga (slot_type_ga.check _ _ _ _ _ _ _ _ (show Shared.TypeIs s (.type "dict") "type" from ty_tdict) (args_type_ga _ _) (meets_tga_fk u prog w A R s h))
theorem getAttr_fk (hQ : ∀ tk, Q (.ref s.heap.objs.size) { s with heap := s.heap.push (bndO "dict.fromkeys" (.type "dict")), toks := tk }) :
    wpAny (model prog w) A (getAttr (.type "dict") "fromkeys") Q E s := by
  obtain ⟨hp, g, d, tk, os⟩ := s
  have hT : ∀ tk', (⟨hp, g, d, tk', os⟩ : Shared).TypeIs (.type "dict") "type" := fun _ => ty_tdict
  have f3 : typeLookup (.type ((Manifest.find? "dict").elim "type" fun x => x.metatype)) "__getattribute__" = pure (some (.builtin "type.__getattribute__")) := by rw [meta_dict]; exact lk_type_ga
  have f4 := slot_type_ga.bind (.type "dict")
  unfold getAttr getAttrBy
  repeat (any_goals (first | assumption | exact hT _ | refine code_tga_fk fun tk' => ?_ | exact hQ _ | wp_step))
theorem sub_type_module : isSubtype (.type "type") (.type "module") = pure false := by rw [isSubtype_type]; kernel_rfl
theorem check_bound_fk {v : Value} {M : Model} {A : Around} {E : Value → Shared → Prop} {Q : Unit → Shared → Prop} (h : Q () s) :
    wpAny M A (checkBoundCall "dict.fromkeys" ⟨[.type "dict", v], []⟩) Q E s := by
  have f3 : isSubtype (.type ((Manifest.find? "dict").elim "type" fun x => x.metatype)) (.type "module") = pure false := by rw [meta_dict]; exact sub_type_module
  unfold checkBoundCall
  rw [signature?_of (id := "dict.fromkeys") (n := "fromkeys".toList.reverse) (o := "dict".toList.reverse) (rows := Manifest.sig_dict) (by kernel_rfl) (by kernel_rfl)]
  repeat (any_goals (first | assumption | refine wpAny_of_eq sub_type_module ?_ | wp_step))
theorem entry_fk : entryFor table "dict.fromkeys" = some Builtin.«dict.fromkeys» := entryFor_of_tree (by kernel_rfl)
theorem entry_fkl : entryFor table "dict.fromkeys.loop" = some Builtin.«dict.fromkeys.loop» := entryFor_of_tree (by kernel_rfl)
theorem plain_fk : plainId "dict.fromkeys" = true := by decide +kernel
theorem plain_fkl : plainId "dict.fromkeys.loop" = true := by decide +kernel
end
end Mine
end
section
open PySem PySem.W PyProof.Rows PySem.Calls
set_option maxRecDepth 20000
namespace Mine
section
variable {prog : Program} {w : World} {A : Around} {E : Value → Shared → Prop} {s : Shared} {Q : Value → Shared → Prop}
theorem tc_dict0 : checkTypeCall "dict" ⟨[], []⟩ = pure () := by kernel_rfl
theorem nc_dict0 : checkBuiltinCall "dict.__new__" ⟨[.type "dict"], []⟩ = pure () := by kernel_rfl
theorem args_dict_init_0 (a : Value) : argsOk "dict.__init__" ⟨[a], []⟩ := by
  unfold argsOk; rw [signature?_of (id := "dict.__init__") (n := "__init__".toList.reverse) (o := "dict".toList.reverse) (rows := Manifest.sig_dict) (by kernel_rfl) (by kernel_rfl)]; kernel_rfl
theorem code_dict_new0 {Q₁ : Value → Shared → Prop} (h : Q₁ (.ref s.heap.objs.size) { s with heap := s.heap.push { cls := .type "dict", data := .dict #[] } }) :
    codeAny (model prog w) A (.call (.builtin "dict.__new__") ⟨[.type "dict"], []⟩) (wants Q₁ E) s := by
  refine codeAny_call_builtin PySem.F.kt_plain_dict_new PySem.F.kt_entry_dict_new (wpAny_of_eq nc_dict0 ?_)
  have hsub := PySem.F.kt_sub_dict
  have hmro := PySem.F.kt_mro_dict
  obtain ⟨hp, g, d, tk, os⟩ := s
  unfold Builtin.«dict.__new__»
  wp_walk
  exact h
theorem call_dict0 (h : Q (.ref s.heap.objs.size) { s with heap := s.heap.push { cls := .type "dict", data := .dict #[] } }) :
    wpAny (model prog w) A (call (.type "dict") []) Q E s := by
  refine callType_codes (Q₁ := fun obj s₁ => obj = .ref s.heap.objs.size ∧ s₁ = { s with heap := s.heap.push { cls := .type "dict", data := .dict #[] } }) PySem.F.kt_called_dict tc_dict0 PySem.F.entry_dict_init (code_dict_new0 ⟨rfl, rfl⟩) ?_
  rintro obj s₁ ⟨rfl, rfl⟩
  have hnew : (s.heap.push { cls := .type "dict", data := .dict #[] }).DictOf (PySem.strKind prog w) s.heap.objs.size [] := Heap.DictOf.new s.heap
  refine ⟨hnew.typeIs, args_dict_init_0 _, ?_⟩
  unfold Builtin.«dict.__init__»
  refine wpAny_bind ?_
  unfold Builtin.Dict.selfAndRest
  refine wpAny_bind (wpAny_notOrdered_dict hnew.typeIs ?_)
  show wpAny _ _ (pure (s.heap.objs.size, ([] : List Value))) _ _ _
  refine wpAny_pure ?_
  show wpAny _ _ (Builtin.Dict.addKeywords s.heap.objs.size [] >>= _) _ _ _
  exact wpAny_bind (wpAny_pure (wpAny_pure ⟨rfl, h⟩))
/-- what the loop of fromkeys has made -/
theorem loop_fk {I d l : Addr} {vs : List Value} {ks : List W} (hh : A.handled = none) (hs : Strs vs ks) (hz : ks.length ≤ 1000) (hIl : l ≠ I) (hId : d ≠ I) (hld : l ≠ d) {R : Result → Shared → Prop} :
    ∀ (j i : Nat) (s : Shared) (kvs : List (Str × Value)), vs.length - i = j → i ≤ vs.length → s.heap.IsListIter I l i → s.heap.IsList l vs.toArray → s.heap.DictOf (PySem.strKind prog w) d kvs → kvs.map (·.1) = ((ks.take i).foldl addK []).map S → kvs.length ≤ i →
      (∀ h' tk kvs', h'.DictOf (PySem.strKind prog w) d kvs' → kvs'.map (·.1) = (ks.foldl addK []).map S → (∀ b o, b ≠ I → b ≠ d → s.heap.get? b = some o → h'.get? b = some o) → R (.ok (.ret (.ref d))) { s with heap := h', toks := tk }) →
      codeAny (model prog w) A (.builtin "dict.fromkeys.loop" ⟨[.ref d, .ref I, .none], []⟩) R s
  | 0, i, s, kvs, hj, hi, hit, hl, hd, hk, hkl, hR => by
    have hlen := Paired.length hs
    have W := Walks.list (prog := prog) (w := w) (A := A.in1) hh I l hIl vs.toArray
    refine codeAny_builtin entry_fkl ?_
    rw [Around.under_plainId plain_fkl]
    unfold Builtin.«dict.fromkeys.loop»
    dsimp only
    have : i = vs.length := by (first | lia | omega)
    subst this
    refine wpAny_bind (W.done s _ _ (by simpa using (⟨hit, hl⟩ : s.heap.IsListIter I l vs.length ∧ s.heap.IsList l vs.toArray)) fun h' tk hkp => ?_)
    have hd' : h'.DictOf (PySem.strKind prog w) d kvs := by
      obtain ⟨o, ho, hdo⟩ := Heap.dictOf_iff.mp hd
      exact Heap.dictOf_iff.mpr ⟨o, hkp d o (by simpa using hId) ho, hdo⟩
    refine wpAny_pure (hR h' tk kvs hd' ?_ fun b o hbI _ e => hkp b o (by simpa using hbI) e)
    rw [hk, List.take_of_length_le (by (first | lia | omega))]
  | j + 1, i, s, kvs, hj, hi, hit, hl, hd, hk, hkl, hR => by
    have hlen := Paired.length hs
    have W := Walks.list (prog := prog) (w := w) (A := A.in1) hh I l hIl vs.toArray
    refine codeAny_builtin entry_fkl ?_
    rw [Around.under_plainId plain_fkl]
    unfold Builtin.«dict.fromkeys.loop»
    dsimp only
    have hlt : i < vs.length := by (first | lia | omega)
    refine wpAny_bind (W.item i s _ _ (by simpa using hlt) ⟨hit, hl⟩ fun v h' tk hv st' hkp => ?_)
    have hv : vs[i]? = some v := by simpa using hv
    obtain ⟨x, hx, hvx⟩ := Paired.get1 hs hv
    cases hvx with | mk _ t =>
    have hd' : h'.DictOf (PySem.strKind prog w) d kvs := by
      obtain ⟨o, ho, hdo⟩ := Heap.dictOf_iff.mp hd
      exact Heap.dictOf_iff.mpr ⟨o, hkp d o (by simpa using hId) ho, hdo⟩
    dsimp only
    refine wpAny_bind (wpAny_typeOf (show Shared.TypeIs _ (.ref d) "dict" from hd'.typeIs) ?_)
    rw [if_pos (by decide)]
    refine wpAny_bind ?_
    show wpAny _ A.in1 (Pure.pure d : Sem Addr) _ _ _
    refine wpAny_pure ?_
    refine wpAny_bind (wpAny_holding ?_)
    refine wpAny_dictSet_pairs (knd := PySem.strKind prog w) (k := S x) (strKind_is _ _ _ _) hd' (fun h₂ hd₂ hs₂ => ?_) (by rw [sizeLine_eq]; (first | lia | omega))
    refine wpAny_pure ⟨plainId_quiet plain_fkl _, ?_⟩
    have hI₂ : h₂.IsListIter I l (i + 1) := st'.1.at fun o e => hs₂.extBut I o (Ne.symm hId) e
    have hl₂ : h₂.IsList l vs.toArray := st'.2.at fun o e => hs₂.extBut l o hld e
    refine loop_fk hh hs hz hIl hId hld j (i + 1) _ (stored kvs (S x) .none) (by (first | lia | omega)) (by (first | lia | omega)) hI₂ hl₂ hd₂ ?_ ?_ ?_
    · rw [stored_keys hk, List.take_add_one, hx, List.foldl_append]; rfl
    · unfold stored
      split
      · simp; (first | lia | omega)
      · simp; (first | lia | omega)
    · intro h3 tk3 kvs3 g1 g2 g3
      exact hR h3 tk3 kvs3 g1 g2 fun b o hbI hbd e => g3 b o hbI hbd (hs₂.extBut b o hbd (hkp b o (by simpa using hbI) e))
theorem body_fk {l : Addr} {vs : List Value} {n : Nat} {ks : List W} {R : Result → Shared → Prop} (hh : A.handled = none) (ho : s.heap.get? l = some (lst vs n)) (hs : Strs vs ks) (hz : ks.length ≤ 1000)
    (hR : ∀ d h' tk kvs', s.heap.objs.size ≤ d → h'.DictOf (PySem.strKind prog w) d kvs' → kvs'.map (·.1) = (ks.foldl addK []).map S → (∀ b o, s.heap.get? b = some o → h'.get? b = some o) → R (.ok (.ret (.ref d))) { s with heap := h', toks := tk }) :
    codeAny (model prog w) A (.builtin "dict.fromkeys" ⟨[.type "dict", .ref l], []⟩) R s := by
  obtain ⟨hp, g, d, tk, os⟩ := s
  refine codeAny_builtin entry_fk ?_
  rw [Around.under_plainId plain_fk]
  have hT : (⟨hp, g, d, tk, os⟩ : Shared).TypeIs (.ref l) "list" := ⟨_, ho, rfl⟩
  have f9 := sub_dict_dict
  unfold Builtin.«dict.fromkeys»
  refine wpAny_bind (m := isType (.type "dict")) (wpAny_pure ?_)
  repeat (any_goals (first | assumption | ((with_reducible show wpAny _ _ (call (.type "dict") []) _ _ _); refine call_dict0 ?_) | ((with_reducible show wpAny _ _ (pyIter (.ref _)) _ _ _); refine wpAny_pyIter_list (items := vs.toArray) ⟨_, Heap.get?_push_of_some _ ho, rfl, n, rfl⟩ ?_) | wp_step))
  have hd0 : (hp.push { cls := .type "dict", data := .dict #[] }).DictOf (PySem.strKind prog w) hp.objs.size [] := Heap.DictOf.new hp
  have hsz : (hp.push { cls := .type "dict", data := .dict #[] }).objs.size = hp.objs.size + 1 := Heap.size_push ..
  have hll : l < hp.objs.size := Heap.lt_size ho
  have ho' : hp.get? l = some (lst vs n) := ho
  generalize hH : hp.push { cls := .type "dict", data := .dict #[] } = H1 at hd0 hsz
  have hH1 : H1.get? l = some (lst vs n) := hH ▸ Heap.get?_push_of_some _ ho'
  have hdl : hp.objs.size < H1.objs.size := by rw [hsz]; exact Nat.lt_succ_self _
  dsimp only
  refine ⟨plainId_quiet plain_fkl _, loop_fk (I := H1.objs.size) hh hs hz (Nat.ne_of_lt (Nat.lt_trans hll hdl)) (Nat.ne_of_lt hdl) (Nat.ne_of_lt hll) (vs.length - 0) 0 _ [] rfl (Nat.zero_le _) ⟨_, Heap.get?_push_size _ rfl, rfl, rfl⟩ ⟨_, Heap.get?_push_of_some _ hH1, rfl, n, rfl⟩ ?_ rfl (Nat.le_refl _) ?_⟩
  · obtain ⟨o, h1, h2⟩ := Heap.dictOf_iff.mp hd0
    exact Heap.dictOf_iff.mpr ⟨o, Heap.get?_push_of_some _ h1, h2⟩
  · intro h' tk' kvs' q1 q2 q3
    refine hR hp.objs.size h' tk' kvs' (Nat.le_refl _) q1 q2 fun b o hb => q3 b o (Nat.ne_of_lt (Nat.lt_trans (Heap.lt_size hb) hdl)) (Nat.ne_of_lt (Heap.lt_size hb)) (Heap.get?_push_of_some _ ?_)
    rw [← hH]
    exact Heap.get?_push_of_some _ hb
theorem call_bound_fk {b l : Addr} {vs : List Value} {n : Nat} {ks : List W} (hh : A.handled = none) (hb : s.heap.get? b = some (bndO "dict.fromkeys" (.type "dict"))) (ho : s.heap.get? l = some (lst vs n)) (hs : Strs vs ks) (hz : ks.length ≤ 1000)
    (hR : ∀ d h' tk kvs', s.heap.objs.size ≤ d → h'.DictOf (PySem.strKind prog w) d kvs' → kvs'.map (·.1) = (ks.foldl addK []).map S → (∀ b o, s.heap.get? b = some o → h'.get? b = some o) → Q (.ref d) { s with heap := h', toks := tk }) :
    wpAny (model prog w) A (call (.ref b) [.ref l]) Q E s := by
  refine wpAny_call (codeAny_of_tree ?_)
  show wpAny _ A.in1 (callAny (.ref b) ⟨[.ref l], []⟩) _ _ _
  unfold callAny
  refine wpAny_bind (wpAny_load hb ?_)
  show wpAny _ A.in1 (do checkBoundCall "dict.fromkeys" ⟨[.type "dict", .ref l], []⟩; again (.builtin "dict.fromkeys" ⟨[.type "dict", .ref l], []⟩)) _ _ _
  exact wpAny_bind (check_bound_fk (wpAny_pure ⟨plainId_quiet plain_fk _, body_fk hh ho hs hz hR⟩))
end
section
variable {prog : Program} {w : World} {c : FC} {m : Loc} {news : Led'} {E : Led' → Value → Shared → Prop} {Q : Value → Loc → Led' → Prop} {env : Env}
noncomputable def uniq (ks : List W) : List W := ks.foldl addK []
theorem v_callFk {b l : Addr} {vs : List Value} {ks : List W} (hn : c.A.handled = none) (hb : There c news b (bndO "dict.fromkeys" (.type "dict"))) (hl : PlAt c news l vs) (hs : Strs vs ks) (hz : ks.length ≤ 1000) (h : ∀ d o, Tab prog w (uniq ks) o → Q (.ref d) m ((d, o) :: news)) :
    Tr (model prog w) c (call (.ref b) [.ref l]) m news Q E := fun k s l' => by
  obtain ⟨n, hl⟩ := hl
  refine call_bound_fk hn (hb.get l') (hl.get l') hs hz fun d h' tk kvs' hd hdo hk hkeep => ?_
  obtain ⟨o, ho, hdo⟩ := Heap.dictOf_iff.mp hdo
  exact ⟨m, _, l'.out (out := [(d, o)]) (tk := tk) hkeep (fun p hp => by rw [List.mem_singleton.mp hp]; exact ⟨ho, hd⟩) (List.pairwise_singleton _ _) l'.gens, h d o ⟨kvs', hdo, hk⟩⟩
/-- a method that is no plain one -/
theorem t_MethodF {o : Expr} {name : Str} {apos pos : Pos} {args : List Expr} {pl : Sem Bool}
    (h : Tr (model prog w) c (eval o c.env) m news (fun ov m₁ n₁ => Tr (model prog w) c (getMethod ov name pl) m₁ n₁ (fun fx m₂ n₂ => Tr (model prog w) c (callWith pos fx.1 fx.2 (backTo pos (starEach args c.env)) []) m₂ n₂ Q E) E) E)
    (he : eval (.Call (.Attribute o name apos) args [] pos) c.env = (do
      let ov ← eval o c.env
      PySem.standAt apos.atName
      let (f, first) ← PySem.holding [ov] (getMethod ov name pl)
      callWith pos f first (backTo pos (starEach args c.env)) [])) :
    Tr (model prog w) c (eval (.Call (.Attribute o name apos) args [] pos) c.env) m news Q E := fun k s l =>
  MethodCall_ (pl := pl) (wpAny_mono (h k s l) (fun ov s₁ ⟨m₁, n₁, l₁, q⟩ => wpAny_mono (q k s₁ l₁) (fun fx s₂ ⟨m₂, n₂, l₂, q₂⟩ => q₂ k s₂ l₂) fun _ _ e => e) fun _ _ e => e) he
theorem v_methFk {pl : Sem Bool} {Q : Value × List Value → Loc → Led' → Prop} (h : ∀ b, Q (.ref b, []) m ((b, bndO "dict.fromkeys" (.type "dict")) :: news)) : Tr (model prog w) c (getMethod (.type "dict") "fromkeys" pl) m news Q E := fun k s l => by
  have hT : s.TypeIs (.type "dict") "type" := ty_tdict
  have f3 : typeLookup (.type "type") "__getattribute__" = Pure.pure (some (.builtin "type.__getattribute__")) := lk_type_ga
  unfold getMethod
  refine wpAny_bind (wpAny_specialOf hT f3 ?_)
  dsimp only
  rw [if_pos (by decide +kernel)]
  exact wpAny_bind (getAttr_fk fun tk => wpAny_pure ⟨m, _, (l.push rfl).toks tk, h _⟩)
end
end Mine
end
section
open PySem PySem.W PyProof.Rows PySem.Calls
set_option maxRecDepth 20000
set_option linter.unusedVariables false
namespace Mine
set_option compiler.extract_closed false
local macro_rules | `(tactic| walk_at "lk") => `(tactic| first | assumption | exact upd_hit | (refine upd_miss (by decide) ?_; walk_at "lk") | (with_unfolding_all rfl))
local macro_rules | `(tactic| walk_at "nm") => `(tactic| with_reducible assumption)
local macro_rules | `(tactic| walk_at "st") => `(tactic| with_reducible first
  | (refine' t_ld ?k1 ?k2 ?_; (case k1 => walk_at "nm"); (case k2 => walk_at "lk"))
  | (refine' t_nm ?k1 ?_; (case k1 => walk_at "nm"))
  | refine t_IntC fun _ => ?_
  | refine t_StrS fun _ => ?_
  | refine t_BoolC ?_
  | refine t_NoneC ?_
  | refine t_cons ?_
  | refine t_after ?_
  | refine t_afterR ?_
  | refine t_afterB ?_
  | refine t_If ?_
  | (refine t_isCompare ?_ ?k1; (case k1 => with_unfolding_all rfl))
  | refine t_isAnd2 ?_
  | refine t_isOr2 ?_
  | refine t_isNot ?_
  | (refine t_isPlain ?_ ?k1; (case k1 => with_unfolding_all rfl))
  | refine t_truthy_bool ?_
  | (refine t_ifTrue ?k1 ?_; (case k1 => with_unfolding_all rfl))
  | (refine t_ifFalse ?k1 ?_; (case k1 => with_unfolding_all rfl))
  | (refine t_Assign ?_ ?k1; (case k1 => with_unfolding_all rfl))
  | (refine t_st ?k1 ?_; (case k1 => walk_at "nm"))
  | refine t_AugAssign ?_
  | (refine' t_ldn ?k1 ?k2 ?_; (case k1 => walk_at "nm"); (case k2 => walk_at "lk"))
  | refine t_BinOp ?_
  | (refine t_Compare ?_ ?k1; (case k1 => with_unfolding_all rfl))
  | (refine t_CallE ?_ ?k1; (case k1 => with_unfolding_all rfl))
  | (refine t_callWith0 ?k1 ?_; (case k1 => with_unfolding_all rfl))
  | (refine t_callWith1 ?k1 ?_; (case k1 => with_unfolding_all rfl))
  | (refine t_argS ?_ ?k1; (case k1 => with_unfolding_all rfl))
  | refine t_arg0 ?_
  | refine And.intro (KeepOk.builtin _) ?_
  | refine And.intro (KeepOk.type _) ?_
  | refine Exists.intro _ (And.intro rfl ?_)
  | refine t_Return ?_
  | refine t_IfExp ?_
  | refine t_UnaryOp ?_
  | (refine t_ExprStmt ?_ ?k1 ?k2; (case k1 => walk_at "nm"); (case k2 => with_unfolding_all rfl))
  | refine And.intro rfl ?_
  | refine t_Break ?_
  | refine t_nil ?_
  | refine v_eqInt ?_
  | refine v_neInt ?_
  | refine v_ltInt ?_
  | refine v_gtInt ?_
  | refine v_geInt ?_
  | refine v_eqStr ?_
  | refine v_neStr ?_
  | refine v_ltStr ?_
  | refine v_gtStr ?_
  | refine v_addInt fun _ => ?_
  | refine v_iaddInt fun _ => ?_
  | refine v_subInt fun _ => ?_
  | refine v_negInt fun _ => ?_
  | refine v_isNone ?_
  | (refine v_modPos ?k1 fun _ => ?_; (case k1 => decide))
  | (refine v_divSmall ?k1 fun _ => ?_; (case k1 => decide))
  | refine t_Tuple ?_
  | refine t_List ?_
  | ((fail_if_success (refine t_strSlice ?_ ?_)); (fail_if_success (refine t_listSliceS ?_ ?_)); refine t_Subscript ?_)
  | refine t_part0 ?_
  | refine t_part ?_
  | (refine v_is ?k1 ?_; (case k1 => with_unfolding_all rfl))
  | (refine v_isNot ?k1 ?_; (case k1 => with_unfolding_all rfl))
  | refine v_abs fun _ => ?_
  | refine v_isiIntInt ?_
  | refine v_isiStrInt ?_
  | (refine t_Method ?_ (by with_unfolding_all rfl))
  | (refine t_tests1 ?_)
  | (refine t_tests0 ?_)
  | refine t_Pass ?_
  | refine t_Dict0 fun _ _ _ => ?_
  | refine t_Try0 ?_
  | (refine t_AssignSub ?_ ?k1; (case k1 => with_unfolding_all rfl))
  | (refine' t_use ?k1 ?_; (case k1 => assumption))
  | fail)
local macro_rules | `(tactic| walk_at "go") => `(tactic| repeat' (walk_at "st"))
local macro_rules | `(tactic| walk_at "gT") => `(tactic| repeat' ((fail_if_success (with_reducible refine t_Try0 ?_)); walk_at "st"))
local macro_rules | `(tactic| walk_at "g0") => `(tactic| repeat' ((fail_if_success (with_reducible refine t_If ?_)); walk_at "st"))
local macro_rules | `(tactic| walk_at "lka") => `(tactic| ((repeat' (with_reducible refine And.intro ?_ ?_)) <;> first | walk_at "lk" | exact ⟨_, by walk_at "lk"⟩))
local macro_rules | `(tactic| walk_at "mm") => `(tactic| first | exact .head _ | exact .tail _ (.head _) | exact .tail _ (.tail _ (.head _)) | exact .tail _ (.tail _ (.tail _ (.head _))) | exact .tail _ (.tail _ (.tail _ (.tail _ (.head _)))))
local macro_rules | `(tactic| walk_at "mb") => `(tactic| first | exact .head _ | assumption | exact List.mem_append_left _ (by assumption) | (refine .tail _ ?_; walk_at "mb") | (refine List.mem_append_right _ ?_; walk_at "mb"))

/-- _deduplicate stands -/
noncomputable def DedAt (h : Heap) (a K : Addr) : Prop := DfltAt h 11 a .none (.ref K) ∧ ∃ mk, h.Ns K mk ∧ mk "unhashable_fallback" = some (.bool false)
theorem bindsKw {s : Shared} {fd : FuncData} {args : Args} {binds : List (Str × Value)} {K : Addr} {x : Str} {v : Value} {mk : Str → Option Value} {k : Option Value → Sem (List (Str × Value))} (hn : s.heap.Ns K mk) (hk : mk x = some v)
    (h₁ : bindArgs fd args = nsGet K x >>= k) (h₂ : k (some v) = Pure.pure binds) : BindsTo s fd args binds := fun M A E Q hq => by
  rw [h₁]
  refine wpAny_bind (wpAny_nsGet hn ?_)
  rw [hk, h₂]
  exact wpAny_pure hq
theorem ded_bind {K : Addr} {v : Value} (s : Shared) (pm cd doc : Value) (hK : ∃ mk, s.heap.Ns K mk ∧ mk "unhashable_fallback" = some (.bool false)) :
    BindsTo s { docDef (nameOf 11) (paramsOf 11) (bodyOf 11) (scopeOf 11) pm cd doc with defaults := .none, kwdefaults := .ref K } ⟨[v], []⟩ [("params", v), ("unhashable_fallback", .bool false)] := by
  refine t_box fun gbx hbx => ?_
  obtain ⟨mk, hn, hk⟩ := hK
  refine hbx ?_
  clear hbx gbx
  intro M A E Q hq
  have hp : ∃ a b : Arg, paramsOf 11 = { posonlyargs := [], args := [a], vararg := none, kwonlyargs := [b], kw_defaults := (paramsOf 11).kw_defaults, kwarg := none, defaults := [] } ∧ a.arg = "params" ∧ b.arg = "unhashable_fallback" := ⟨_, _, by with_unfolding_all rfl, by with_unfolding_all rfl, by with_unfolding_all rfl⟩
  refine t_box fun gbx hbx => ?_
  obtain ⟨⟨a, an, ap⟩, ⟨b, bn, bp⟩, hp, ha, hb⟩ := hp
  refine hbx ?_
  clear hbx gbx
  dsimp only at ha hb
  subst ha hb
  unfold bindArgs
  dsimp only [docDef]
  rw [hp]
  dsimp only
  repeat (any_goals (first | assumption | ((with_reducible show wpAny _ _ (nsGet _ _) _ _ _); refine wpAny_nsGet hn ?_; rw [hk]) | wp_step))
theorem spec_ded {prog : Program} {w : World} {G : Gl} {a K b : Addr} {vs : List Value} {xs : List W} (hv : Strs vs xs) (hz : xs.length ≤ 1000) :
    Spec (model prog w) G 1 a [.ref b] (fun h => DedAt h a K ∧ ∃ n, h.get? b = some (lst vs n)) (fun r out => ∃ d o, r = .ref d ∧ out = [(d, o)] ∧ Tab prog w (uniq xs) o) := by
  refine spec_ofD (params := paramsOf 11) (name := nameOf 11) (body := bodyOf 11) (scope := scopeOf 11) (dV := .none) (kV := .ref K) (binds := [("params", .ref b), ("unhashable_fallback", .bool false)]) (fun h _ hp => hp.1.1) (fun s pm cd doc hp => ded_bind s pm cd doc hp.1.2) (locs rfl) (by decide +kernel) ?_
  intro c F ⟨_, n0, hb⟩
  have X_int := F.inter
  have L_params : LocN c "params" := F.loc (by decide +kernel)
  have N_dict : Nm c "dict" (.type "dict") := F.bnm (by decide +kernel) (by decide +kernel)
  refine t_cons ?_
  refine t_Try0 ?_
  refine t_cons ?_
  refine t_Return ?_
  refine t_MethodF ?_ (by with_unfolding_all rfl)
  walk_at "go"
  refine v_methFk fun bb => ?_
  walk_at "go"
  refine ⟨.bound (.inr (.head _)) rfl rfl, ?_⟩
  refine v_callFk F.hn (.inr (.head _)) ⟨n0, .inl hb⟩ hv hz fun d o ho => ?_
  walk_at "go"
  exact ⟨[(d, o)], List.Sublist.cons_cons _ (List.nil_sublist _), d, o, rfl, rfl, ho⟩
end Mine
end
section
open PySem PySem.W PyProof.Rows PySem.Calls
set_option maxRecDepth 20000
set_option linter.unusedVariables false
namespace Mine
section
variable {prog : Program} {w : World} {c : FC} {m : Loc} {news : Led'} {E : Led' → Value → Shared → Prop} {env : Env}
theorem t_AssignPair {x y : Str} {elts : List Expr} {kt : Nat} {tpos pos : Pos} {value : Expr} {Q : Flow → Loc → Led' → Prop} (hn : c.A.handled = none) (Lx : LocN c x) (Ly : LocN c y)
    (h : Tr (model prog w) c (eval value c.env) m news (fun v m₁ n₁ => ∃ a u t n', v = .ref a ∧ There c n₁ a (tup [u, t] n') ∧ Q .next (upd (upd m₁ y t) x u) n₁) E)
    (hs : swapsWithSole [.Tuple elts kt tpos] value pos.line c.env = Pure.pure false) (hw : swappedStores [.Tuple elts kt tpos] value c.env = Pure.pure (some [x, y])) :
    Tr (model prog w) c (exec (.Assign [.Tuple elts kt tpos] value pos) c.env) m news Q E := fun k s l => by
  refine Assign_Tuple_swapped (wpAny_mono (h k s l) (fun v s₁ ⟨m₁, n₁, l₁, a, u, t, n', e, ht, q⟩ => ?_) fun _ _ e => e) hs hw
  subst e
  refine unpackItems_tuple (items := #[u, t]) hn ⟨_, ht.get l₁, rfl, n', rfl⟩ fun h' he => ?_
  have l₂ : Ld c k m₁ n₁ { s₁ with heap := h' } := l₁.grow (dr := s₁.drawn) (tk := s₁.toks) (fun b o e => he b o (Nat.ne_of_lt (Heap.lt_size e)) e) l₁.gens
  show wpAny _ _ (assignInOrder [bindName c.env y, bindName c.env x] [t, u]) _ _ _
  refine assignInOrder_cons (wpAny_bindName (wpAny_storeName_local Ly.loc l₂.ns (fun h₃ hn₃ hs₃ => ?_) (by rw [Ly.kind]; rfl)))
  have l₃ : Ld c k (upd m₁ y t) n₁ { s₁ with heap := h₃, toks := s₁.toks + 1 } := l₂.store hn₃ hs₃
  refine assignInOrder_cons (wpAny_bindName (wpAny_storeName_local Lx.loc l₃.ns (fun h₄ hn₄ hs₄ => ?_) (by rw [Lx.kind]; rfl)))
  have l₄ : Ld c k (upd (upd m₁ y t) x u) n₁ { s₁ with heap := h₄, toks := s₁.toks + 1 + 1 } := l₃.store hn₄ hs₄
  exact assignInOrder_nil ⟨_, _, l₄, q⟩
theorem t_Assert {test : Expr} {msg : Option Expr} {pos : Pos} {Q : Flow → Loc → Led' → Prop} (h : Tr (model prog w) c (PySem.isTrue test env (eval test env)) m news (fun b m₁ n₁ => b = true ∧ Q .next m₁ n₁) E) : Tr (model prog w) c (exec (.Assert test msg pos) env) m news Q E := fun k s l =>
  wpAny_Assert_holds (wpAny_mono (h k s l) (fun b s₁ ⟨m₁, n₁, l₁, hb, q⟩ => ⟨hb, m₁, n₁, l₁, q⟩) fun _ _ e => e)
theorem t_JoinedStr {v₁ v₂ : Expr} {rest : List Expr} {pos : Pos} {Q : Value → Loc → Led' → Prop} (h : Tr (model prog w) c (joinParts (S []) (eval v₁ env :: eval v₂ env :: evalEach rest env)) m news Q E) : Tr (model prog w) c (eval (.JoinedStr (v₁ :: v₂ :: rest) pos) env) m news Q E := fun k s l =>
  JoinedStr_many (h k s l)
theorem t_jpNil {out : W} {Q : Value → Loc → Led' → Prop} (hz : out.length ≤ sizeLine) (h : ∀ t, Q (.str (S out) t) m news) : Tr (model prog w) c (joinParts (S out) []) m news Q E := fun k s l =>
  joinParts_nil ⟨m, news, l.toks _, h _⟩ (by rw [S_len]; exact hz)
theorem t_jpCons {out : W} {x : Sem Value} {rest : List (Sem Value)} {Q : Value → Loc → Led' → Prop} (h : Tr (model prog w) c x m news (fun v m₁ n₁ => ∃ y t, v = .str (S y) t ∧ (out ++ y).length ≤ sizeLine ∧ Tr (model prog w) c (joinParts (S (out ++ y)) rest) m₁ n₁ Q E) E) :
    Tr (model prog w) c (joinParts (S out) (x :: rest)) m news Q E := fun k s l =>
  joinParts_cons (wpAny_mono (h k s l) (fun v s₁ ⟨m₁, n₁, l₁, y, t, e, hz, q⟩ => by
    subst e
    refine ⟨by rw [S_app, S_len]; exact hz, ?_⟩
    rw [S_app]
    exact q k s₁ l₁) fun _ _ e => e)
theorem t_jpE {out : Str} {e : Expr} {es : List Expr} {Q : Value → Loc → Led' → Prop} (h : Tr (model prog w) c (joinParts out (eval e env :: evalEach es env)) m news Q E) : Tr (model prog w) c (joinParts out (evalEach (e :: es) env)) m news Q E := h
theorem t_jpE0 {out : Str} {Q : Value → Loc → Led' → Prop} (h : Tr (model prog w) c (joinParts out []) m news Q E) : Tr (model prog w) c (joinParts out (evalEach [] env)) m news Q E := h
theorem t_FmtStr {value : Expr} {pos : Pos} {Q : Value → Loc → Led' → Prop} (h : Tr (model prog w) c (eval value env) m news (fun v m₁ n₁ => ∃ y t, v = .str (S y) t ∧ y.length ≤ sizeLine ∧ ∀ t', Q (.str (S y) t') m₁ n₁) E) : Tr (model prog w) c (eval (.FormattedValue value (-1) none pos) env) m news Q E := fun k s l =>
  FormattedValue_plain (wpAny_mono (h k s l) (fun v s₁ ⟨m₁, n₁, l₁, y, t, e, hz, q⟩ => by
    subst e
    exact wpAny_formatField_str ⟨m₁, n₁, l₁, q _⟩ ⟨m₁, n₁, l₁.toks _, q _⟩ (by rw [S_len]; exact hz)) fun _ _ e => e)
end

set_option compiler.extract_closed false
local macro_rules | `(tactic| walk_at "lk") => `(tactic| first | assumption | exact upd_hit | (refine upd_miss (by decide) ?_; walk_at "lk") | (with_unfolding_all rfl))
local macro_rules | `(tactic| walk_at "nm") => `(tactic| with_reducible assumption)
local macro_rules | `(tactic| walk_at "st") => `(tactic| with_reducible first
  | (refine' t_ld ?k1 ?k2 ?_; (case k1 => walk_at "nm"); (case k2 => walk_at "lk"))
  | (refine' t_nm ?k1 ?_; (case k1 => walk_at "nm"))
  | refine t_IntC fun _ => ?_
  | refine t_StrS fun _ => ?_
  | refine t_BoolC ?_
  | refine t_NoneC ?_
  | refine t_cons ?_
  | refine t_after ?_
  | refine t_afterR ?_
  | refine t_afterB ?_
  | refine t_If ?_
  | (refine t_isCompare ?_ ?k1; (case k1 => with_unfolding_all rfl))
  | refine t_isAnd2 ?_
  | refine t_isOr2 ?_
  | refine t_isNot ?_
  | (refine t_isPlain ?_ ?k1; (case k1 => with_unfolding_all rfl))
  | refine t_truthy_bool ?_
  | (refine t_ifTrue ?k1 ?_; (case k1 => with_unfolding_all rfl))
  | (refine t_ifFalse ?k1 ?_; (case k1 => with_unfolding_all rfl))
  | (refine t_Assign ?_ ?k1; (case k1 => with_unfolding_all rfl))
  | (refine t_st ?k1 ?_; (case k1 => walk_at "nm"))
  | refine t_AugAssign ?_
  | (refine' t_ldn ?k1 ?k2 ?_; (case k1 => walk_at "nm"); (case k2 => walk_at "lk"))
  | refine t_BinOp ?_
  | (refine t_Compare ?_ ?k1; (case k1 => with_unfolding_all rfl))
  | (refine t_CallE ?_ ?k1; (case k1 => with_unfolding_all rfl))
  | (refine t_callWith0 ?k1 ?_; (case k1 => with_unfolding_all rfl))
  | (refine t_callWith1 ?k1 ?_; (case k1 => with_unfolding_all rfl))
  | (refine t_argS ?_ ?k1; (case k1 => with_unfolding_all rfl))
  | refine t_arg0 ?_
  | refine And.intro (KeepOk.builtin _) ?_
  | refine And.intro (KeepOk.type _) ?_
  | refine Exists.intro _ (And.intro rfl ?_)
  | refine t_Return ?_
  | refine t_IfExp ?_
  | refine t_UnaryOp ?_
  | (refine t_ExprStmt ?_ ?k1 ?k2; (case k1 => walk_at "nm"); (case k2 => with_unfolding_all rfl))
  | refine And.intro rfl ?_
  | refine t_Break ?_
  | refine t_nil ?_
  | refine v_eqInt ?_
  | refine v_neInt ?_
  | refine v_ltInt ?_
  | refine v_gtInt ?_
  | refine v_geInt ?_
  | refine v_eqStr ?_
  | refine v_neStr ?_
  | refine v_ltStr ?_
  | refine v_gtStr ?_
  | refine v_addInt fun _ => ?_
  | refine v_iaddInt fun _ => ?_
  | refine v_subInt fun _ => ?_
  | refine v_negInt fun _ => ?_
  | refine v_isNone ?_
  | (refine v_modPos ?k1 fun _ => ?_; (case k1 => decide))
  | (refine v_divSmall ?k1 fun _ => ?_; (case k1 => decide))
  | refine t_Tuple ?_
  | refine t_List ?_
  | ((fail_if_success (refine t_strSlice ?_ ?_)); (fail_if_success (refine t_listSliceS ?_ ?_)); refine t_Subscript ?_)
  | refine t_part0 ?_
  | refine t_part ?_
  | (refine v_is ?k1 ?_; (case k1 => with_unfolding_all rfl))
  | (refine v_isNot ?k1 ?_; (case k1 => with_unfolding_all rfl))
  | refine v_abs fun _ => ?_
  | refine v_isiIntInt ?_
  | refine v_isiStrInt ?_
  | (refine t_Method ?_ (by with_unfolding_all rfl))
  | (refine t_tests1 ?_)
  | (refine t_tests0 ?_)
  | refine t_Pass ?_
  | refine t_Dict0 fun _ _ _ => ?_
  | refine t_Try0 ?_
  | refine t_Assert ?_
  | refine t_JoinedStr ?_
  | refine t_jpE ?_
  | refine t_jpE0 ?_
  | refine t_jpCons ?_
  | refine t_FmtStr ?_
  | (refine t_AssignSub ?_ ?k1; (case k1 => with_unfolding_all rfl))
  | (refine' t_use ?k1 ?_; (case k1 => assumption))
  | fail)
local macro_rules | `(tactic| walk_at "go") => `(tactic| repeat' (walk_at "st"))
local macro_rules | `(tactic| walk_at "gT") => `(tactic| repeat' ((fail_if_success (with_reducible refine t_Try0 ?_)); walk_at "st"))
local macro_rules | `(tactic| walk_at "g0") => `(tactic| repeat' ((fail_if_success (with_reducible refine t_If ?_)); walk_at "st"))
local macro_rules | `(tactic| walk_at "lka") => `(tactic| ((repeat' (with_reducible refine And.intro ?_ ?_)) <;> first | walk_at "lk" | exact ⟨_, by walk_at "lk"⟩))
local macro_rules | `(tactic| walk_at "mm") => `(tactic| first | exact .head _ | exact .tail _ (.head _) | exact .tail _ (.tail _ (.head _)) | exact .tail _ (.tail _ (.tail _ (.head _))) | exact .tail _ (.tail _ (.tail _ (.tail _ (.head _)))))
local macro_rules | `(tactic| walk_at "mb") => `(tactic| first | exact .head _ | assumption | exact List.mem_append_left _ (by assumption) | (refine .tail _ ?_; walk_at "mb") | (refine List.mem_append_right _ ?_; walk_at "mb"))

structure JoinJ (ps : List W) (inp STAR : Addr) (i : Nat) (m : Loc) (n : Led') : Prop where
  h1 : m "inp" = some (.ref inp)
  h2 : m "STAR" = some (.ref STAR)
  h3 : ∃ t, m "n" = some (.int (ps.length : Nat) t)
  rest : ∃ j res b rv e t, j + i = ps.length ∧ m "i" = some (.int (j : Nat) t) ∧ m "res" = some (.ref res) ∧ m "add" = some (.ref b) ∧ n = [(b, bndO "list.append" (.ref res)), (res, lst rv e)] ∧ Strs rv (ps.take j) ∧ rv.length = j
theorem spec_join {prog : Program} {w : World} {G : Gl} {a inp STAR : Addr} {vs : List Value} {ps : List W} (hv : Strs vs ps) (hz : ps.length ≤ 100) (hB : ∀ p ∈ ps, p.length ≤ 10000) :
    Spec (model prog w) G 1 a [.ref inp, .ref STAR] (fun h => FnIs G h 9 a ∧ ∃ n, h.get? inp = some (lst vs n)) (fun r out => out = [] ∧ ∃ t, r = .str (S (L "(?s:" ++ joinL [] ps ++ L ")\\Z")) t) := by
  refine spec_of (binds := [("inp", .ref inp), ("STAR", .ref STAR)]) (fun h _ hp => hp.1) (fun _ _ _ => rfl) (locs rfl) (by decide +kernel) ?_
  intro c F ⟨_, n0, hb⟩
  have X_int := F.inter
  have X_env := F.env
  have L_inp : LocN c "inp" := F.loc (by decide +kernel)
  have L_STAR : LocN c "STAR" := F.loc (by decide +kernel)
  have L_res : LocN c "res" := F.loc (by decide +kernel)
  have L_add : LocN c "add" := F.loc (by decide +kernel)
  have L_i : LocN c "i" := F.loc (by decide +kernel)
  have L_n : LocN c "n" := F.loc (by decide +kernel)
  have N_len : Nm c "len" (.builtin "len") := F.bnm (by decide +kernel) (by decide +kernel)
  have hlen := Paired.length hv
  have hsz : 16777216 ≤ sizeLine := by decide +kernel
  refine t_cons ?_
  walk_at "go"
  refine ⟨Nat.zero_le _, fun res => ?_⟩
  walk_at "go"
  refine t_Attr ?_ (by with_unfolding_all rfl) ⟨_, _, rfl⟩
  walk_at "go"
  refine v_attrAppend (.new (by walk_at "mm")) fun b => ?_
  walk_at "go"
  refine t_AssignPair F.hn L_i L_n ?_ (by with_unfolding_all rfl) (by obtain ⟨nm, a', cd, e⟩ := X_env; rw [e]; with_unfolding_all rfl)
  walk_at "go"
  refine v_lenList (.old ⟨_, hb, rfl, _, rfl⟩) (by (first | lia | omega)) fun _ => ?_
  walk_at "go"
  refine ⟨show 2 ≤ sizeLine by (first | lia | omega), fun tp => ⟨tp, _, _, 0, rfl, .inr (by walk_at "mm"), ?_⟩⟩
  walk_at "go"
  refine t_While (JoinJ ps inp STAR) ⟨ps.length, [(b, bndO "list.append" (.ref res)), (res, lst [])], List.sublist_cons_self _ _, ⟨by walk_at "lk", by walk_at "lk", ⟨_, by rw [← hlen]; walk_at "lk"⟩, 0, res, b, [], 0, _, by (first | lia | omega), by walk_at "lk", by walk_at "lk", by walk_at "lk", rfl, .nil, rfl⟩⟩ ?_ passesNope
  rintro i m n xB1
  refine t_box fun gbx hbx => ?_
  obtain ⟨h1, h2, ⟨tn, h3⟩, j, res, b, rv, e, ti, hij, h4, h5, h6, eB0, hs, hrl⟩ := xB1
  refine hbx ?_
  clear hbx gbx
  subst eB0
  walk_at "go"
  refine t_ite (fun hlt => ?_) (fun hlt => ?_)
  · have hlt : j < ps.length := by have := of_decide_eq_true hlt; (first | lia | omega)
    have hp : ps[j]? = some ps[j] := List.getElem?_eq_getElem hlt
    generalize ps[j] = p at hp
    refine t_box fun gbx hbx => ?_
    obtain ⟨v, hv1, hv2⟩ := Paired.get2 hv hp
    refine hbx ?_
    clear hbx gbx
    cases hv2 with | mk _ tp =>
    walk_at "go"
    refine t_tailList (.old ⟨_, hb, rfl, _, rfl⟩) (by (first | lia | omega)) (by (first | lia | omega)) (by simpa using hv1) ?_ (by with_unfolding_all rfl)
    walk_at "go"
    refine t_tailList (.old ⟨_, hb, rfl, _, rfl⟩) (by (first | lia | omega)) (by (first | lia | omega)) (by simpa using hv1) ?_ (by with_unfolding_all rfl)
    walk_at "go"
    refine ⟨.bound (.inr (by walk_at "mm")) rfl rfl, ?_⟩
    refine v_callAppend (i := 1) (.inr (by walk_at "mm")) rfl (by (first | lia | omega)) fun e' => ?_
    walk_at "go"
    refine ⟨i - 1, by (first | lia | omega), _, List.Sublist.refl _, ⟨by walk_at "lk", by walk_at "lk", ⟨_, by walk_at "lk"⟩, j + 1, res, b, _, e', _, by (first | lia | omega), by rw [show ((j + 1 : Nat) : Int) = (j : Int) + 1 by (first | lia | omega)]; walk_at "lk", by walk_at "lk", by walk_at "lk", rfl, ?_, by simp; (first | lia | omega)⟩⟩
    rw [List.take_add_one, hp]
    exact Paired.snoc hs (.mk _ _)
  · have hge : j = ps.length := by have := of_decide_eq_false hlt; (first | lia | omega)
    subst hge
    rw [List.take_of_length_le (Nat.le_refl _)] at hs
    walk_at "go"
    refine t_While (fun i m' n' => i = 0 ∧ m' = m ∧ n' = [(b, bndO "list.append" (.ref res)), (res, lst rv e)]) ⟨0, _, List.Sublist.refl _, rfl, rfl, rfl⟩ ?_ passesNope
    rintro _ _ _ xB1
    refine t_box fun gbx hbx => ?_
    obtain ⟨eB0, eB1, eB2⟩ := xB1
    refine hbx ?_
    clear hbx gbx
    subst eB0
    subst eB1
    subst eB2
    walk_at "go"
    show ite _ _ _
    rw [if_neg (by rw [hlt]; exact Bool.false_ne_true)]
    walk_at "go"
    refine ⟨by simp, ?_⟩
    walk_at "go"
    refine t_methS PySem.F.slot_str_join PySem.F.type_str_join ?_
    walk_at "go"
    have hj := joinL_len (sep := []) (xs := ps) (B := 10000) hB
    have hj2 : ps.length * (10000 + ([] : W).length) ≤ 1000000 := by simp; (first | lia | omega)
    refine v_join (sep := []) (B := 10000) (.new (by walk_at "mm")) hs hB (by simp; (first | lia | omega)) fun _ => ?_
    walk_at "go"
    have hjl : (joinL [] ps).length ≤ 1000000 := Nat.le_trans hj hj2
    have e1 : (L "(?s:").length = 4 := by decide
    have e2 : (L ")\\Z").length = 3 := by decide
    refine ⟨_, _, rfl, by rw [List.nil_append]; (first | lia | omega), ?_⟩
    walk_at "go"
    refine ⟨_, _, rfl, by (first | lia | omega), fun t' => ⟨_, _, rfl, by rw [List.nil_append, List.length_append]; (first | lia | omega), ?_⟩⟩
    walk_at "go"
    refine ⟨_, _, rfl, by rw [List.nil_append, List.length_append, List.length_append]; (first | lia | omega), ?_⟩
    walk_at "go"
    refine t_jpNil (by rw [List.nil_append, List.length_append, List.length_append]; (first | lia | omega)) fun t => ?_
    exact ⟨[], List.nil_sublist _, rfl, t, rfl⟩
end Mine
end
section
open PySem PySem.W PyProof.Rows PySem.Calls
set_option maxRecDepth 20000
set_option linter.unusedVariables false
namespace Mine

set_option compiler.extract_closed false
local macro_rules | `(tactic| walk_at "lk") => `(tactic| first | assumption | exact upd_hit | (refine upd_miss (by decide) ?_; walk_at "lk") | (with_unfolding_all rfl))
local macro_rules | `(tactic| walk_at "nm") => `(tactic| with_reducible assumption)
local macro_rules | `(tactic| walk_at "st") => `(tactic| with_reducible first
  | (refine' t_ld ?k1 ?k2 ?_; (case k1 => walk_at "nm"); (case k2 => walk_at "lk"))
  | (refine' t_nm ?k1 ?_; (case k1 => walk_at "nm"))
  | refine t_IntC fun _ => ?_
  | refine t_StrS fun _ => ?_
  | refine t_BoolC ?_
  | refine t_NoneC ?_
  | refine t_cons ?_
  | refine t_after ?_
  | refine t_afterR ?_
  | refine t_afterB ?_
  | refine t_If ?_
  | (refine t_isCompare ?_ ?k1; (case k1 => with_unfolding_all rfl))
  | refine t_isAnd2 ?_
  | refine t_isOr2 ?_
  | refine t_isNot ?_
  | (refine t_isPlain ?_ ?k1; (case k1 => with_unfolding_all rfl))
  | refine t_truthy_bool ?_
  | (refine t_ifTrue ?k1 ?_; (case k1 => with_unfolding_all rfl))
  | (refine t_ifFalse ?k1 ?_; (case k1 => with_unfolding_all rfl))
  | (refine t_Assign ?_ ?k1; (case k1 => with_unfolding_all rfl))
  | (refine t_st ?k1 ?_; (case k1 => walk_at "nm"))
  | refine t_AugAssign ?_
  | (refine' t_ldn ?k1 ?k2 ?_; (case k1 => walk_at "nm"); (case k2 => walk_at "lk"))
  | refine t_BinOp ?_
  | (refine t_Compare ?_ ?k1; (case k1 => with_unfolding_all rfl))
  | (refine t_CallE ?_ ?k1; (case k1 => with_unfolding_all rfl))
  | (refine t_callWith0 ?k1 ?_; (case k1 => with_unfolding_all rfl))
  | (refine t_callWith1 ?k1 ?_; (case k1 => with_unfolding_all rfl))
  | (refine t_argS ?_ ?k1; (case k1 => with_unfolding_all rfl))
  | refine t_arg0 ?_
  | refine And.intro (KeepOk.builtin _) ?_
  | refine And.intro (KeepOk.type _) ?_
  | refine Exists.intro _ (And.intro rfl ?_)
  | refine t_Return ?_
  | refine t_IfExp ?_
  | refine t_UnaryOp ?_
  | (refine t_ExprStmt ?_ ?k1 ?k2; (case k1 => walk_at "nm"); (case k2 => with_unfolding_all rfl))
  | refine And.intro rfl ?_
  | refine t_Break ?_
  | refine t_nil ?_
  | refine v_eqInt ?_
  | refine v_neInt ?_
  | refine v_ltInt ?_
  | refine v_gtInt ?_
  | refine v_geInt ?_
  | refine v_eqStr ?_
  | refine v_neStr ?_
  | refine v_ltStr ?_
  | refine v_gtStr ?_
  | refine v_addInt fun _ => ?_
  | refine v_iaddInt fun _ => ?_
  | refine v_subInt fun _ => ?_
  | refine v_negInt fun _ => ?_
  | refine v_isNone ?_
  | (refine v_modPos ?k1 fun _ => ?_; (case k1 => decide))
  | (refine v_divSmall ?k1 fun _ => ?_; (case k1 => decide))
  | refine t_Tuple ?_
  | refine t_List ?_
  | ((fail_if_success (refine t_strSlice ?_ ?_)); (fail_if_success (refine t_listSliceS ?_ ?_)); refine t_Subscript ?_)
  | refine t_part0 ?_
  | refine t_part ?_
  | (refine v_is ?k1 ?_; (case k1 => with_unfolding_all rfl))
  | (refine v_isNot ?k1 ?_; (case k1 => with_unfolding_all rfl))
  | refine v_abs fun _ => ?_
  | refine v_isiIntInt ?_
  | refine v_isiStrInt ?_
  | (refine t_Method ?_ (by with_unfolding_all rfl))
  | (refine t_tests1 ?_)
  | (refine t_tests0 ?_)
  | refine t_Pass ?_
  | refine t_Dict0 fun _ _ _ => ?_
  | refine t_Try0 ?_
  | refine t_Assert ?_
  | refine t_JoinedStr ?_
  | refine t_jpE ?_
  | refine t_jpE0 ?_
  | refine t_jpCons ?_
  | refine t_FmtStr ?_
  | (refine t_AssignSub ?_ ?k1; (case k1 => with_unfolding_all rfl))
  | (refine' t_use ?k1 ?_; (case k1 => assumption))
  | fail)
local macro_rules | `(tactic| walk_at "go") => `(tactic| repeat' (walk_at "st"))
local macro_rules | `(tactic| walk_at "gT") => `(tactic| repeat' ((fail_if_success (with_reducible refine t_Try0 ?_)); walk_at "st"))
local macro_rules | `(tactic| walk_at "g0") => `(tactic| repeat' ((fail_if_success (with_reducible refine t_If ?_)); walk_at "st"))
local macro_rules | `(tactic| walk_at "lka") => `(tactic| ((repeat' (with_reducible refine And.intro ?_ ?_)) <;> first | walk_at "lk" | exact ⟨_, by walk_at "lk"⟩))
local macro_rules | `(tactic| walk_at "mm") => `(tactic| first | exact .head _ | exact .tail _ (.head _) | exact .tail _ (.tail _ (.head _)) | exact .tail _ (.tail _ (.tail _ (.head _))) | exact .tail _ (.tail _ (.tail _ (.tail _ (.head _)))))
local macro_rules | `(tactic| walk_at "mb") => `(tactic| first | exact .head _ | assumption | exact List.mem_append_left _ (by assumption) | (refine .tail _ ?_; walk_at "mb") | (refine List.mem_append_right _ ?_; walk_at "mb"))

/-- the table of signs, as the one sign needs it -/
noncomputable def escObj (o : Obj) : Bool := o.cls == .type "dict" && o.dict.isNone && o.slots.isEmpty && match o.data with
  | .dict es _ => es.toList.all (fun e => match e.key with | .int k _ => e.hash == hashInt k | _ => false) && (match (es.toList.find? fun e => Value.isInt 93 e.key) with | some e => (match e.val with | .str x _ => x == S (L "\\]") | _ => false) | none => false)
  | _ => false
noncomputable def EscAt (h : Heap) (D : Addr) : Prop := ∃ o, h.get? D = some o ∧ escObj o = true
section
variable {prog : Program} {w : World} {A : Around} {E : Value → Shared → Prop} {s : Shared}
theorem EscAt.map {h : Heap} {D : Addr} (x : EscAt h D) : ∃ f t, h.MapOf (PySem.intKind prog w) D f ∧ f 93 = some (.str (S (L "\\]")) t) := by
  refine t_box fun gbx hbx => ?_
  obtain ⟨⟨cls, dct, dat, sl⟩, ho, hb⟩ := x
  refine hbx ?_
  clear hbx gbx
  unfold escObj at hb
  simp only [Bool.and_eq_true] at hb
  refine t_box fun gbx hbx => ?_
  obtain ⟨⟨⟨h1, h2⟩, h3⟩, h4⟩ := hb
  refine hbx ?_
  clear hbx gbx
  cases dat with
  | dict es n =>
    simp only [Bool.and_eq_true] at h4
    obtain ⟨h5, h6⟩ := h4
    refine ⟨fun k => findBy (PySem.intKind prog w).is es k, ?_⟩
    cases hf : es.toList.find? (fun e => Value.isInt 93 e.key) with
    | none => rw [hf] at h6; cases h6
    | some e =>
      rw [hf] at h6
      dsimp only at h6
      cases hv : e.val with
      | str x t =>
        rw [hv] at h6
        refine ⟨t, ⟨_, es, n, ho, ⟨by simpa using h1, by simpa using h2, by simpa using h3⟩, rfl, fun e he => ?_, fun _ => rfl⟩, ?_⟩
        · have := List.all_eq_true.mp h5 e (by simpa using he)
          cases hk : e.key with
          | int k t =>
            rw [hk] at this
            exact ⟨k, by show Value.isInt k (.int k t) = true; simp [Value.isInt], eq_of_beq this⟩
          | _ => rw [hk] at this; cases this
        · show (es.find? fun e => Value.isInt 93 e.key).map (·.val) = _
          rw [← Array.find?_toList, hf]
          show some e.val = _
          rw [hv, eq_of_beq h6]
      | _ => rw [hv] at h6; cases h6
  | _ => cases h4
theorem look_93 {D : Addr} {Q : Builtin.Str.Mapped → Shared → Prop} (h : EscAt s.heap D) (hQ : ∀ tk, Q (.text (S (L "\\]"))) { s with toks := tk }) : wpAny (model prog w) A (Builtin.Str.tableLookup (.ref D) 93) Q E s := by
  refine t_box fun gbx hbx => ?_
  obtain ⟨f, t, hm, hf⟩ := h.map (prog := prog) (w := w)
  refine hbx ?_
  clear hbx gbx
  unfold Builtin.Str.tableLookup
  refine wpAny_bind (wpAny_attempt (wpAny_bind (wpAny_bind (wpAny_fresh (wpAny_pure ?_)))))
  refine wpAny_getItem_of (knd := PySem.intKind prog w) (k := 93) (intKind_is _ _ _ _) hm hf ?_
  refine t_box fun gbx hbx => ?_
  obtain ⟨hp, g, d, tk, os⟩ := s
  refine hbx ?_
  clear hbx gbx
  repeat (any_goals (first | assumption | exact hQ _ | wp_step))
theorem meets_translate (D : Addr) (t : Tok) :
    Meets (Builtin.«str.translate» ⟨[.str (S [93]) t, .ref D], []⟩) (fun A R s => EscAt s.heap D ∧ ∀ tk t', R (.ok (.ret (.str (S (L "\\]")) t'))) { s with toks := tk }) :=
  Meets.of_wp fun prog w A R s hs => by
    refine t_box fun gbx hbx => ?_
    obtain ⟨hp, g, d, tk, os⟩ := s
    refine hbx ?_
    clear hbx gbx
    obtain ⟨hk, hs⟩ := hs
    unfold Builtin.«str.translate»
    repeat (any_goals (first | assumption | ((with_reducible show wpAny _ _ (Builtin.Str.tableLookup _ _) _ _ _); refine look_93 hk fun tk' => ?_) | wp_step))
    exact ⟨_, rfl, hs _ _⟩
end
section
variable {prog : Program} {w : World} {c : FC} {m : Loc} {news : Led'} {E : Led' → Value → Shared → Prop} {Q : Value → Loc → Led' → Prop} {t : Tok}
theorem v_translate {D : Addr} (hD : EscAt c.g D) (h : ∀ t', Q (.str (S (L "\\]")) t') m news) : Tr (model prog w) c (call (.builtin "str.translate") [.str (S [93]) t, .ref D]) m news Q E := fun k s l =>
  call_meets PySem.F.slot_str_translate (typeIs_str _ _ _) PySem.F.entry_str_translate (PySem.F.args_str_translate_2 _ _) (meets_translate D t)
    ⟨let ⟨o, ho, hb⟩ := hD; ⟨o, l.old _ _ ho, hb⟩, fun tk t' => ⟨m, news, l.toks _, h _⟩⟩
theorem v_isiStrStr {a : Str} (h : Q (.bool true) m news) : Tr (model prog w) c (call (.builtin "isinstance") [.str a t, .type "str"]) m news Q E := fun _ _ l => IsiPair.str_str ⟨m, news, l, h⟩
end
theorem spec_escape {prog : Program} {w : World} {G : Gl} {a D : Addr} {t : Tok} :
    Spec (model prog w) G 1 a [.str (S [93]) t] (fun h => FnIs G h 6 a ∧ G.mg "_special_chars_map" = some (.ref D) ∧ EscAt h D) (fun r out => out = [] ∧ ∃ t, r = .str (S (L "\\]")) t) := by
  refine spec_of (binds := [("pattern", .str (S [93]) t)]) (fun h _ hp => hp.1) (fun _ _ _ => rfl) (locs rfl) (by decide +kernel) ?_
  intro c F ⟨_, hD, hE⟩
  have X_int := F.inter
  have L_pattern : LocN c "pattern" := F.loc (by decide +kernel)
  have N_isinstance : Nm c "isinstance" (.builtin "isinstance") := F.bnm (by decide +kernel) (by decide +kernel)
  have N_str : Nm c "str" (.type "str") := F.bnm (by decide +kernel) (by decide +kernel)
  have N_map : Nm c "_special_chars_map" (.ref D) := F.gnm (by decide +kernel) hD
  refine t_cons ?_
  walk_at "go"
  refine v_isiStrStr ?_
  walk_at "go"
  refine t_methS PySem.F.slot_str_translate PySem.F.type_str_translate ?_
  walk_at "go"
  refine v_translate hE fun t' => ?_
  exact ⟨[], List.nil_sublist _, rfl, t', rfl⟩
end Mine
end
section
open PySem PySem.W PyProof.Rows PySem.Calls
set_option maxRecDepth 20000
namespace Mine
theorem At_single {x : W} {c i : Nat} (h : StrLaws.At (S x) (S [c]) (S x).length i) : x[i]? = some c := by
  have := (StrLaws.subAt_one (S x) c i).mp h
  simpa using this
noncomputable def rep (x : W) : W := x.flatMap fun n => if n = 45 then [92, 45] else [n]
theorem no_cuts {x : W} {c : Nat} (h : c ∉ x) (l : Nat) (hl : 1 ≤ l) : Builtin.Str.occurrences (S x) (S [c]) 0 (S x).length l = [] := by
  rcases StrLaws.occ_head (S x) (S [c]) l hl with ⟨e, _⟩ | ⟨i, r, _, hat, _⟩
  · exact e
  · exact absurd (List.mem_of_getElem? (At_single hat)) h
theorem split_none {x : W} {c : Nat} (h : c ∉ x) : Txt.split (S x) (S [c]) = [S x] := by
  unfold Txt.split
  split
  · rfl
  · rw [no_cuts h _ (by (first | lia | omega))]; rfl
theorem replace_none {x z : W} {c : Nat} (h : c ∉ x) : Txt.replace (S x) (S [c]) (S z) = S x := by
  have e := StrLaws.replace_one (S x) (S z) c
  rw [show (⟨#[c]⟩ : Str) = S [c] from rfl] at e
  rw [e, split_none h]; rfl
theorem replace_head {r z : W} {c : Nat} (h : c ∉ r) : Txt.replace (S (c :: r)) (S [c]) (S z) = S (z ++ r) := by
  have e := StrLaws.replace_one (S (c :: r)) (S z) c
  rw [show (⟨#[c]⟩ : Str) = S [c] from rfl] at e
  have hj := StrLaws.join_split (S (c :: r)) (S [c])
  have hf := StrLaws.split_free (S (c :: r)) c
  rw [show (⟨#[c]⟩ : Str) = S [c] from rfl] at hf
  rw [e]
  generalize Txt.split (S (c :: r)) (S [c]) = parts at hj hf
  have cl : ∀ p : Str, p = S p.cps.toList := fun p => by cases p; simp
  match parts with
  | [] => exact absurd (S_inj (show S [] = S (c :: r) from hj)) (by simp)
  | [p] =>
    have hj : p = S (c :: r) := hj
    exact absurd (by rw [hj]; simp : c ∈ p.cps.toList) (hf p (.head _))
  | p :: q :: rest =>
    have hp := hf p (.head _)
    have hj : p ++ S [c] ++ Str.join (S [c]) (q :: rest) = S (c :: r) := hj
    have hp0 : p.cps.toList = [] := by
      rw [cl p, cl (Str.join (S [c]) (q :: rest)), S_app, S_app] at hj
      have hj := S_inj hj
      cases hpp : p.cps.toList with
      | nil => rfl
      | cons a b =>
        rw [hpp] at hj hp
        simp at hj hp
        exact absurd hj.1.symm hp.1
    have hp1 : p = S [] := by rw [cl p, hp0]
    subst hp1
    have hj2 : Str.join (S [c]) (q :: rest) = S r := by
      rw [cl (Str.join (S [c]) (q :: rest)), S_app, S_app] at hj
      have := S_inj hj
      simp at this
      rw [cl (Str.join (S [c]) (q :: rest)), this]
    have hr : rest = [] := by
      cases rest with
      | nil => rfl
      | cons q2 rest2 =>
        have hj2 : q ++ S [c] ++ Str.join (S [c]) (q2 :: rest2) = S r := hj2
        rw [cl q, cl (Str.join (S [c]) (q2 :: rest2)), S_app, S_app] at hj2
        have := S_inj hj2
        exact absurd (by rw [← this]; simp : c ∈ r) h
    subst hr
    have hq : q = S r := hj2
    subst hq
    show S [] ++ S z ++ S r = S (z ++ r)
    rw [S_app, S_app]; simp
section
variable {prog : Program} {w : World} {A : Around} {E : Value → Shared → Prop} {s : Shared} {Q : Value → Shared → Prop}
theorem call_replace_none {x z : W} {c : Nat} {t u v : Tok} (h : c ∉ x) (hQ : Q (.str (S x) t) s) : wpAny (model prog w) A (call (.builtin "str.replace") [.str (S x) t, .str (S [c]) u, .str (S z) v]) Q E s := by
  have he : ((Builtin.Str.occurrences (S x) (S [c]) 0 (S x).length ((S x).length + 1)).isEmpty || ((S [c]).length == 0 && (S z).length == 0)) = true := by
    rw [no_cuts h _ (by (first | lia | omega))]; rfl
  refine call_gives PySem.F.slot_str_replace (typeIs_str _ _ _) PySem.F.entry_str_replace (PySem.F.args_str_replace_3 _ _ _) (gives_str_replace (S x) (S [c]) (S z) t u v fun e => by rw [he] at e; cases e) ?_
  rw [if_pos he]
  exact hQ
theorem call_replace_head {r z : W} {c : Nat} {t u v : Tok} (h : c ∉ r) (hz : z ≠ [c]) (hl : r.length ≤ 10000) (hl2 : z.length ≤ 10) (hu : u ≠ 0) (hv : v ≠ 0) (huv : u ≠ v) (hQ : ∀ t' k, Q (.str (S (z ++ r)) t') { s with toks := k }) :
    wpAny (model prog w) A (call (.builtin "str.replace") [.str (S (c :: r)) t, .str (S [c]) u, .str (S z) v]) Q E s := by
  refine SC.replaceW hu hv huv (by rw [S_eq, decide_eq_false (Ne.symm hz)]) (by rw [S_len]; simp; (first | lia | omega)) (by rw [S_len]; (first | lia | omega)) fun t' k => ?_
  rw [replace_head h]; exact hQ t' k
end
end Mine
end
section
open PySem PySem.W PyProof.Rows PySem.Calls
set_option maxRecDepth 20000
namespace Mine
/-- what a chunk may be -/
noncomputable def Chunk (x : W) : Prop := 92 ∉ x ∧ x.length ≤ 10000 ∧ (45 ∉ x ∨ ∃ r, x = 45 :: r ∧ 45 ∉ r)
noncomputable def esc (x : W) : W := if x.headD 0 = 45 then 92 :: x else x
section
variable {prog : Program} {w : World} {A : Around} {E : Value → Shared → Prop} {s : Shared} {Q : Value → Shared → Prop}
theorem Keeps.rfl' {s : Shared} : Keeps s s := ⟨s.heap, s.toks, rfl, fun _ _ e => e⟩
theorem call_method2 {pos : Pos} {id : String} {ov : Value} {a b : Str} {k1 k2 : Nat} {p1 p2 : Pos} {env : Env} (h : wpAny (model prog w) A (call (.builtin id) [ov, .str a s.toks, .str b (s.toks + 1)]) Q E { s with toks := s.toks + 1 + 1 }) :
    wpAny (model prog w) A (callWith pos (.builtin id) [ov] (backTo pos (starEach [.Constant (.str a) k1 p1, .Constant (.str b) k2 p2] env)) []) Q E s := by
  refine callWith_method1 ?_ (by rfl) (by rfl)
  refine Calls.spliced_cons (wpAny_mkText (Calls.spliced_cons (wpAny_mkText (Calls.spliced_nil h))))
set_option maxHeartbeats 2000000 in
theorem elt_replace {cenv : Env} {m₂ : Str → Option Value} {x : W} {t : Tok} {k1 k2 k3 k4 : Nat} {pn p1 p2 p3 p4 p5 p6 a1 a2 : Pos} {pl1 pl2 : Sem Bool} (hx : Chunk x) (hn : s.heap.Ns cenv.locals m₂) (hm : m₂ "s" = some (.str (S x) t)) (hk : cenv.scope.kind = .function) (hloc : cenv.kindOf "s" = some .local)
    (he1 : eval (.Call (.Attribute (.Name "s" pn) "replace" a1) [.Constant (.str "\\") k1 p1, .Constant (.str "\\\\") k2 p2] [] p5) cenv = (do
      let ov ← eval (.Name "s" pn) cenv
      PySem.standAt a1.atName
      let (f, first) ← PySem.holding [ov] (getMethod ov "replace" pl1)
      callWith p5 f first (backTo p5 (starEach [.Constant (.str "\\") k1 p1, .Constant (.str "\\\\") k2 p2] cenv)) []))
    (he2 : eval (.Call (.Attribute (.Call (.Attribute (.Name "s" pn) "replace" a1) [.Constant (.str "\\") k1 p1, .Constant (.str "\\\\") k2 p2] [] p5) "replace" a2) [.Constant (.str "-") k3 p3, .Constant (.str "\\-") k4 p4] [] p6) cenv = (do
      let ov ← eval (.Call (.Attribute (.Name "s" pn) "replace" a1) [.Constant (.str "\\") k1 p1, .Constant (.str "\\\\") k2 p2] [] p5) cenv
      PySem.standAt a2.atName
      let (f, first) ← PySem.holding [ov] (getMethod ov "replace" pl2)
      callWith p6 f first (backTo p6 (starEach [.Constant (.str "-") k3 p3, .Constant (.str "\\-") k4 p4] cenv)) []))
    (hQ : ∀ u s₃, Keeps s s₃ → Q (.str (S (esc x)) u) s₃) :
    wpAny (model prog w) A (eval (.Call (.Attribute (.Call (.Attribute (.Name "s" pn) "replace" a1) [.Constant (.str "\\") k1 p1, .Constant (.str "\\\\") k2 p2] [] p5) "replace" a2) [.Constant (.str "-") k3 p3, .Constant (.str "\\-") k4 p4] [] p6) cenv) Q E s := by
  refine MethodCall_ (pl := pl2) ?_ he2
  refine MethodCall_ (pl := pl1) ?_ he1
  refine wpAny_Name (wpAny_loadName_local hk hloc hn hm ?_)
  refine getMethod_builtin (typeIs_str _ _ _) PySem.F.plainAttrs_str PySem.F.slot_str_replace PySem.F.type_str_replace (fun a e => by cases e) ?_
  refine call_method2 ?_
  rw [show Str.ofString "\\" = S [92] from ofString_S "\\", show Str.ofString "\\\\" = S [92, 92] from ofString_S "\\\\"]
  obtain ⟨hx1, hx2, hx3⟩ := hx
  have key : ∀ (Q' : Value → Shared → Prop) (s' : Shared) (u v : Tok), Q' (.str (S x) t) s' → wpAny (model prog w) A (call (.builtin "str.replace") [.str (S x) t, .str (S [92]) u, .str (S [92, 92]) v]) Q' E s' := fun Q' s' u v h => call_replace_none hx1 h
  refine key _ _ _ _ ?_
  refine getMethod_builtin (typeIs_str _ _ _) PySem.F.plainAttrs_str PySem.F.slot_str_replace PySem.F.type_str_replace (fun a e => by cases e) ?_
  refine call_method2 ?_
  rw [show Str.ofString "-" = S [45] from ofString_S "-", show Str.ofString "\\-" = S [92, 45] from ofString_S "\\-"]
  rcases hx3 with h45 | ⟨r, rfl, h45⟩
  · refine call_replace_none (x := x) (c := 45) (z := [92, 45]) h45 ?_
    have e : esc x = x := by
      unfold esc
      cases x with
      | nil => rfl
      | cons a b => exact if_neg fun e => h45 (by simp at e; subst e; exact .head _)
    rw [← e]
    exact hQ _ _ ⟨s.heap, _, rfl, fun _ _ e => e⟩
  · refine call_replace_head (r := r) (c := 45) (z := [92, 45]) h45 (by decide) (by have := hx2; simp at this; (first | lia | omega)) (by decide) (by show s.toks + 1 + 1 ≠ 0; (first | lia | omega)) (by show s.toks + 1 + 1 + 1 ≠ 0; (first | lia | omega)) (by show s.toks + 1 + 1 ≠ s.toks + 1 + 1 + 1; (first | lia | omega)) fun t' k => ?_
    have e : esc (45 :: r) = [92, 45] ++ r := rfl
    rw [← e]
    exact hQ _ _ ⟨s.heap, _, rfl, fun _ _ e => e⟩
end
end Mine
end
section
open PySem PySem.W PyProof.Rows PySem.Calls
set_option maxRecDepth 20000
set_option linter.unusedVariables false
namespace Mine
/-- a code object's table of places -/
noncomputable def TokOk (tb0 : Array Value) (_ : Addr) (o : Obj) : Prop := ∃ ps : Array Value, o = { cls := .none, data := .fields ps } ∧ TriplesOk ps.toList ∧ ∃ more, ps = tb0 ++ more
theorem tok_grow {tb0 ps x : Array Value} (h : ∃ more, ps = tb0 ++ more) : ∃ more, ps ++ x = tb0 ++ more := by
  obtain ⟨more, rfl⟩ := h
  exact ⟨more ++ x, Array.append_assoc ..⟩
/-- a code object, its table left out -/
noncomputable def CodeOk (g : Heap) (cc P : Addr) : Prop := ∃ o vs file tf flags tg inF text tt, g.get? cc = some o ∧ o.data = .fields vs ∧ vs.getD 11 .none = .ref P ∧ vs.getD 18 .none = .str file tf ∧
    vs.getD 7 .none = .int flags tg ∧ vs.getD 9 .none = .bool inF ∧ vs.getD 10 .none = .int text tt ∧ cc ≠ P ∧ o.cls = .type "code" ∧ vs[11]? = some (.ref P)
noncomputable def BM (G : Gl) (g : Heap) : Prop := ∃ bm ob, G.mg "__builtins__" = some (.ref bm) ∧ bm ≠ builtinsNs ∧ g.get? bm = some ob ∧ ob.cls = .type "module" ∧ ob.dict = some builtinsNs ∧ ob.data = .plain
section
variable {prog : Program} {w : World} {c : FC} {k : Led'} {m : Loc} {news : Led'} {E : Led' → Value → Shared → Prop} {s : Shared}
theorem CodeOk.is {g h : Heap} {cc P : Addr} {ps : Array Value} (x : CodeOk g cc P) (hk : ∀ b o, g.get? b = some o → h.get? b = some o) (hP : h.get? P = some { cls := .none, data := .fields ps }) (ht : TriplesOk ps.toList) : h.IsCode cc P ps ∧ h.TableAt cc P ps := by
  obtain ⟨o, vs, file, tf, flags, tg, inF, text, tt, h1, h2, h3, h4, h5, h6, h7, h8, h9, h10⟩ := x
  exact ⟨⟨o, vs, file, tf, flags, tg, inF, text, tt, _, hk _ _ h1, h2, h3, h4, h5, h6, h7, hP, rfl, ht, h8⟩, ⟨⟨o, vs, hk _ _ h1, h9, h2, h10⟩, hP⟩⟩
/-- the heap has grown, but for the tables -/
theorem Ld.growT (h : Ld c k m news s) {h' : Heap} {gs : Array GenState} {dr : Drawn} {tk : Nat} (hk : ∀ b o, b ∉ c.tabs → s.heap.get? b = some o → h'.get? b = some o) (htb : ∀ P ∈ c.tabs, ∃ o, h'.get? P = some o ∧ c.tok P o) (hg : AllBare gs) :
    Ld c k m news { heap := h', gens := gs, drawn := dr, toks := tk, os := s.os } := by
  have hi : ∀ a, c.lo ≤ a → a ∉ c.tabs := fun a ha hm => absurd (h.tb a hm).1 (Nat.not_lt.mpr ha)
  have go : ∀ b o, c.g.get? b = some o → b ∉ c.tabs := fun b o e hm => by rw [(h.tb b hm).2.1] at e; cases e
  exact ⟨h.ns.at' fun o e => hk _ o (hi _ h.locs) e, fun b o e => hk b o (go b o e) (h.old b o e), h.above, h.locs, fun p hp => let z := h.nw p hp; ⟨hk _ _ (hi _ z.2.1) z.1, z.2⟩, h.ord,
    fun p hp => let z := h.kp p hp; ⟨hk _ _ (hi _ z.2.1) z.1, z.2⟩, hg, h.os, fun P hP => let ⟨a, b, _⟩ := h.tb P hP; ⟨a, b, htb P hP⟩⟩
/-- the code of a generator expression: made, or found again -/
theorem genCode {tb0 : Array Value} {env : Env} {cc P : Addr} {A : Around} {M : Model} {g : Heap} {pos : Pos} {qn : Str} {scope : Scope} {Q : Value → Shared → Prop} {E : Value → Shared → Prop} (hc : env.code = .ref cc) (hC : CodeOk g cc P) (hg : ∀ b o, g.get? b = some o → s.heap.get? b = some o) (hP : ∃ o, s.heap.get? P = some o ∧ TokOk tb0 P o)
    (hQ : ∀ v h' tk, (∀ b o, b ≠ P → s.heap.get? b = some o → h'.get? b = some o) → (∃ o, h'.get? P = some o ∧ TokOk tb0 P o) → Q v { s with heap := h', toks := tk }) : wpAny M A (genexprCode env pos qn scope) Q E s := by
  obtain ⟨_, ho, ps, rfl, ht, hmo⟩ := hP
  obtain ⟨i1, i2⟩ := hC.is hg ho ht
  cases hf : codeAmong pos ps.toList with
  | some v => exact wpAny_genexprCode_hit hc i1 hf (hQ v s.heap s.toks (fun _ _ _ e => e) ⟨_, ho, ps, rfl, ht, hmo⟩)
  | none =>
    refine wpAny_genexprCodeX hc i1 i2 hf fun c' h' tk hx _ _ hi _ htab _ => hQ _ h' tk (fun b o hb e => hx b o hb e) ⟨_, htab.2, _, rfl, ?_, tok_grow hmo⟩
    have := hi
    obtain ⟨_, _, _, _, _, _, _, _, _, op, _, _, _, _, _, _, _, hP2, hd2, ht2, _⟩ := hi
    exact ht2
theorem funCode {tb0 : Array Value} {env : Env} {cc P : Addr} {A : Around} {M : Model} {g : Heap} {pos : Pos} {fl : Nat} {nm qn : Str} {p : Arguments} {scope : Scope} {body : FuncBody} {Q : Value → Shared → Prop} {E : Value → Shared → Prop} (hc : env.code = .ref cc) (hC : CodeOk g cc P) (hg : ∀ b o, g.get? b = some o → s.heap.get? b = some o) (hP : ∃ o, s.heap.get? P = some o ∧ TokOk tb0 P o)
    (hQ : ∀ v h' tk, (∀ b o, b ≠ P → s.heap.get? b = some o → h'.get? b = some o) → (∃ o, h'.get? P = some o ∧ TokOk tb0 P o) → Q v { s with heap := h', toks := tk }) : wpAny M A (functionCode env pos fl nm qn p scope body) Q E s := by
  obtain ⟨_, ho, ps, rfl, ht, hmo⟩ := hP
  obtain ⟨i1, i2⟩ := hC.is hg ho ht
  cases hf : codeAmong pos ps.toList with
  | some v => exact wpAny_functionCode_hit hc i1 hf (hQ v s.heap s.toks (fun _ _ _ e => e) ⟨_, ho, ps, rfl, ht, hmo⟩)
  | none =>
    refine wpAny_functionCodeX hc i1 i2 hf fun c' h' tk hx _ _ hi _ htab _ => hQ _ h' tk (fun b o hb e => hx b o hb e) ⟨_, htab.2, _, rfl, ?_, tok_grow hmo⟩
    obtain ⟨_, _, _, _, _, _, _, _, _, op, _, _, _, _, _, _, _, hP2, hd2, ht2, _⟩ := hi
    exact ht2
end
end Mine
end
section
open PySem PySem.W PyProof.Rows PySem.Calls
set_option maxRecDepth 20000
set_option linter.unusedVariables false
namespace Mine
section
variable {prog : Program} {w : World} {c : FC} {m : Loc} {news : Led'} {E : Led' → Value → Shared → Prop} {G : Gl}
/-- what the element of the generator does -/
noncomputable def EltOk (prog : Program) (w : World) (scope : Scope) (elt : Expr) : Prop := ∀ (cenv : Env), cenv.scope = scope → ∀ (A : Around) (s : Shared) (m₂ : Loc) (x : W) (t : Tok) (Q E : Value → Shared → Prop), Chunk x → s.heap.Ns cenv.locals m₂ → m₂ "s" = some (.str (S x) t) →
  (∀ u s₃, Keeps s s₃ → Q (.str (S (esc x)) u) s₃) → wpAny (model prog w) A (eval elt cenv) Q E s
theorem passing_all (n : Nat) : passing (fun _ => true) n 0 = List.range n := by
  unfold passing; simp
theorem t_joinGen {sep : W} {t : Tok} {cc P : Addr} {elt iter : Expr} {px pos gpos : Pos} {scope : Scope} {Q : Value → Loc → Led' → Prop}
    (hh : c.A.handled = none) (hroom : c.A.depth < recursionLimit) (hnl : c.g.NoLimit) (hg : c.g.Ns mainGlobals G.mg) (hgl : c.env.globals = mainGlobals) (hbm : BM G c.g)
    (hcode : c.env.code = .ref cc) (hC : CodeOk c.g cc P) (htabs : c.tabs = [P]) (htok : c.tok = TokOk G.ps)
    (hsc : scope.isCoroutine = false ∧ (∀ y ∈ scope.names, y.2 ≠ .cell) ∧ (∀ y ∈ scope.names, y.2 ≠ .free) ∧ scope.names.lookup (".0" : Str) = some NameKind.local ∧ scope.names.lookup ("s" : Str) = some .local ∧ scope.kind = .function)
    (helt : EltOk prog w scope elt)
    (h : Tr (model prog w) c (eval iter c.env) m news (fun xv m₁ n₁ => ∃ a vs xs, xv = .ref a ∧ LstAt c n₁ a vs ∧ Strs vs xs ∧ (∀ x ∈ xs, Chunk x) ∧ xs.length ≤ 1000 ∧ ∀ t', Q (.str (S (joinL sep (xs.map esc))) t') m₁ n₁) E)
    (hsep : sep.length ≤ 10)
    (hs : ∀ x, genFold iter c.env x = Pure.pure x) (hst : starEach [.GeneratorExp elt [⟨.Name "s" px, iter, [], 0⟩] scope gpos] c.env = [(false, eval (.GeneratorExp elt [⟨.Name "s" px, iter, [], 0⟩] scope gpos) c.env)]) :
    Tr (model prog w) c (callWith pos (.builtin "str.join") [.str (S sep) t] (backTo pos (starEach [.GeneratorExp elt [⟨.Name "s" px, iter, [], 0⟩] scope gpos] c.env)) []) m news Q E := fun k s l => by
  obtain ⟨hco, hcell, hfree, h0, hx, hkind⟩ := hsc
  refine callWith_method1 ?_ hst (by rfl)
  rw [hst]
  refine Calls.spliced_cons ?_
  refine wpAny_GeneratorExp_walksQ hh hco (closureFor_none hfree) hcell h0 hx hkind hroom (wpAny_mono (h k s l) (fun xv s₁ ⟨m₁, n₁, l₁, a, vs, xs, e, hl, hv, hck, hlen, q⟩ => ?_) fun _ _ e => e) hs
  subst e
  refine wpAny_pyIter_list (hl.isList l₁) ⟨?_, ?_⟩
  · exact hnl.keeps fun b o e => Heap.get?_push_of_some _ (l₁.old b o e)
  have htb := l₁.tb P (by rw [htabs]; exact .head _)
  obtain ⟨hPlt, hPg, oP, hoP, htP⟩ := htb
  rw [htok] at htP
  refine genCode hcode hC (g := c.g) (fun b o e => Heap.get?_push_of_some _ (l₁.old b o e)) ⟨oP, Heap.get?_push_of_some _ hoP, htP⟩ fun code h₃ tk₃ hk₃ hP₃ => ?_
  have ha0 : s₁.heap.get? a = some (hl.choose) := hl.choose_spec.1.get l₁
  have hsize : (s₁.heap.push { cls := .type "list_iterator", data := .fields #[.ref a, .int 0 0] }).objs.size = s₁.heap.objs.size + 1 := Heap.size_push ..
  have hI : (s₁.heap.push { cls := .type "list_iterator", data := .fields #[.ref a, .int 0 0] }).get? s₁.heap.objs.size = some { cls := .type "list_iterator", data := .fields #[.ref a, .int 0 0] } := Heap.get?_push_size _ rfl
  have hPsz : P < s₁.heap.objs.size := Heap.lt_size hoP
  have haP : a ≠ P := by
    rintro rfl
    rcases hl.choose_spec.1 with hx | hx
    · rw [hPg] at hx; cases hx
    · exact absurd hPlt (Nat.not_lt.mpr (l₁.nw _ hx).2.1)
  have hIP : s₁.heap.objs.size ≠ P := Nat.ne_of_gt hPsz
  have haI : a ≠ s₁.heap.objs.size := Nat.ne_of_lt (Heap.lt_size ha0)
  have old3 : ∀ b o, b ≠ P → s₁.heap.get? b = some o → h₃.get? b = some o := fun b o hb e => hk₃ b o hb (Heap.get?_push_of_some _ e)
  have g3 : ∀ b o, c.g.get? b = some o → h₃.get? b = some o := fun b o e => old3 b o (by rintro rfl; rw [hPg] at e; cases e) (l₁.old b o e)
  obtain ⟨bm, ob, b1, b2, b3, b4, b5, b6⟩ := hbm
  refine wpAny_builtinsFor (by rw [hgl]; exact hg.keeps g3) b1 b2 (g3 _ _ b3) b4 b5 b6 ?_
  have hI3 : h₃.get? s₁.heap.objs.size = some { cls := .type "list_iterator", data := .fields #[.ref a, .int 0 0] } := hk₃ _ _ hIP hI
  have hl3 : h₃.IsList a vs.toArray := by
    obtain ⟨o, ht, hc, n, hd⟩ := hl
    exact ⟨o, old3 a o haP (ht.get l₁), hc, n, hd⟩
  have ha3 : a < h₃.objs.size := by obtain ⟨o, ho, _⟩ := hl3; exact Heap.lt_size ho
  have hlen2 := Paired.length hv
  refine ⟨s₁.heap.objs.size, [s₁.heap.objs.size, a], [s₁.heap.objs.size], vs.length, fun i v => vs[i]? = some v, fun i h => h.IsListIter s₁.heap.objs.size a i ∧ h.IsList a vs.toArray, fun _ => true,
    fun i y => ∃ x u, xs[i]? = some x ∧ y = .str (S (esc x)) u, rfl, fun A' hA => ?_, ⟨⟨_, hI3, rfl, rfl⟩, hl3⟩, ?_, hnl.keeps g3, ?_, fun href hhref => ⟨?_, ?_⟩, ?_⟩
  · have := Walks.list (prog := prog) (w := w) hA s₁.heap.objs.size a haI vs.toArray
    simpa using this
  · intro b hb
    rcases List.mem_cons.mp hb with rfl | hb
    · exact Heap.lt_size hI3
    · rw [List.mem_singleton.mp hb]; exact ha3
  · intro hm
    have z : cStatics < c.g.objs.size := let ⟨_, hn, _⟩ := hnl; hn.lt
    have z2 : cStatics = s₁.heap.objs.size := by simpa using hm
    have z3 := Nat.le_trans l₁.above l₁.locs
    have z4 := l₁.locs_lt
    exact absurd (z2 ▸ z) (Nat.not_lt.mpr (Nat.le_of_lt (Nat.lt_of_le_of_lt z3 z4)))
  · intro A' E' i v s₂ m₂ _ _ _ _ _
    exact wpAny_pure ⟨rfl, Keeps.rfl'⟩
  · intro A' E' i v s₂ m₂ _ hvi _ hn2 hm2 _
    obtain ⟨x, hx1, hx2⟩ := Paired.get1 hv hvi
    cases hx2 with | mk _ tx =>
    exact helt _ rfl A' s₂ m₂ x tx _ _ (hck x (List.mem_of_getElem? hx1)) hn2 hm2 fun u s₃ hk => ⟨⟨x, u, hx1, rfl⟩, hk⟩
  · intro ga h₅ tk gs hbare hga hsz5 hk5 W hst5
    refine Calls.spliced_nil ?_
    rw [passing_all] at W
    have W := W.in4_2
    have ga2 : h₃.objs.size < ga := hga
    have hst5' := hst5
    obtain ⟨hgen, -, -⟩ := hst5'
    refine SC.joinGen W (fun i s h => h.1.typeIs) hst5 (fun b hb => ?_) (by exact .head _) (fun j v hv => ?_) (fun s' lt hm hacc => ?_) ?_
    · show b < h₅.objs.size
      rw [hsz5]
      rcases List.mem_cons.mp hb with rfl | hb
      · exact Nat.lt_succ_self _
      · rcases List.mem_cons.mp hb with rfl | hb
        · exact Nat.lt_succ_of_lt ga2
        · exact Nat.lt_succ_of_lt (Nat.lt_trans (List.mem_range.mp hb) ga2)
    · obtain ⟨i, _, x, u, _, rfl⟩ := hv
      exact ⟨_, u, rfl⟩
    · have hl : lt.map (·.1) = (xs.map esc).map S := by
        apply List.ext_getElem?
        intro j
        have hsz : lt.length = vs.length := by simpa [strValues] using hacc.1
        by_cases hj : j < vs.length
        · have hj' : j < lt.length := hsz ▸ hj
          obtain ⟨i, hi, x, u, hx, hv⟩ := hacc.2 j (.str lt[j].1 lt[j].2) (by simp [strValues, List.getElem?_eq_getElem hj'])
          rw [List.getElem?_range hj] at hi
          cases hi
          injection hv with h1 _
          simp only [List.getElem?_map, List.getElem?_eq_getElem hj', hx, h1, Option.map_some]
        · rw [List.getElem?_eq_none (by simpa [hsz] using Nat.le_of_not_lt hj), List.getElem?_eq_none (by simpa [hlen2] using Nat.le_of_not_lt hj)]
      rw [hl]
      refine ⟨?_, fun t' kk => ?_⟩
      · unfold JoinOk
        rw [Bool.not_eq_true']
        refine StrLaws.joinFits (B := 10001) (fun y hy => ?_) (by
          rw [List.length_map, List.length_map, S_len]
          exact Nat.le_trans (Nat.add_le_add (Nat.mul_le_mul_right _ hlen) (Nat.mul_le_mul hlen hsep)) (by decide))
        obtain ⟨x', hx', rfl⟩ := List.mem_map.mp hy
        obtain ⟨x, hx, rfl⟩ := List.mem_map.mp hx'
        rw [S_len]
        have := (hck x hx).2.1
        unfold esc
        split
        · show x.length + 1 ≤ 10001
          (first | lia | omega)
        · (first | lia | omega)
      · have hos : s'.os = s₁.os := hm.os
        have hke : ∀ b o, b ≠ P → s₁.heap.get? b = some o → s'.heap.get? b = some o := fun b o hb e => by
          have e3 := old3 b o hb e
          refine hm.heap b o (fun hmem => ?_) (hk5 b o e3)
          rcases List.mem_cons.mp hmem with rfl | hmem
          · exact absurd (Heap.lt_size e3) (Nat.lt_irrefl _)
          · rw [List.mem_singleton.mp hmem] at e
            exact absurd (Heap.lt_size e) (Nat.lt_irrefl _)
        have hP' : ∃ o, s'.heap.get? P = some o ∧ TokOk G.ps P o := by
          obtain ⟨o, ho, hok⟩ := hP₃
          refine ⟨o, hm.heap P o (fun hmem => ?_) (hk5 P o ho), hok⟩
          rcases List.mem_cons.mp hmem with rfl | hmem
          · exact absurd (Heap.lt_size ho) (Nat.lt_irrefl _)
          · exact absurd (List.mem_singleton.mp hmem) (Ne.symm hIP)
        have hb' : AllBare s'.gens := AllBare.movedS (AllBare.push l₁.gens hbare) hm
        refine ⟨m₁, n₁, ?_, by rw [join_S]; exact q t'⟩
        have := l₁.growT (h' := s'.heap) (gs := s'.gens) (dr := s'.drawn) (tk := kk) (fun b o hb e => hke b o (by rintro rfl; exact hb (by rw [htabs]; exact .head _)) e) (fun P' hP'' => ?_) hb'
        · rw [← hos] at this
          exact this
        · rw [htabs] at hP''
          rw [List.mem_singleton.mp hP'', htok]
          exact hP'
    · show (List.range vs.length).length ≤ sizeLine
      rw [List.length_range, hlen2]
      exact Nat.le_trans hlen (by decide +kernel)
end
end Mine
end
section
open PySem PySem.W PyProof.Rows PySem.Calls
set_option maxRecDepth 20000
set_option linter.unusedVariables false
namespace Mine
/-- the heap with one object left out -/
noncomputable def hide (h : Heap) (P : Addr) : Heap := { h with objs := h.objs.modify P fun _ => { cls := .none, data := .freed } }
theorem hide_size (h : Heap) (P : Addr) : (hide h P).objs.size = h.objs.size := by simp [hide]
theorem hide_none (h : Heap) (P : Addr) : (hide h P).get? P = none := by
  unfold hide Heap.get?
  simp only [Array.getElem?_modify, if_true]
  cases h.objs[P]? <;> rfl
theorem hide_ne {h : Heap} {P b : Addr} (hb : b ≠ P) : (hide h P).get? b = h.get? b := by
  unfold hide Heap.get?
  simp only [Array.getElem?_modify, if_neg (Ne.symm hb)]
theorem hide_sub {h : Heap} {P b : Addr} {o : Obj} (e : (hide h P).get? b = some o) : h.get? b = some o := by
  have hb : b ≠ P := by rintro rfl; rw [hide_none] at e; cases e
  rwa [hide_ne hb] at e
theorem sub_hide {g h : Heap} {P : Addr} (hg : g.get? P = none) (hk : ∀ b o, g.get? b = some o → h.get? b = some o) {b : Addr} {o : Obj} (e : g.get? b = some o) : (hide h P).get? b = some o := by
  have hb : b ≠ P := by rintro rfl; rw [hg] at e; cases e
  rw [hide_ne hb]; exact hk b o e
/-- what a def's call gives back, where the table of places P may grow -/
noncomputable def SpecT (M : Model) (G : Gl) (d : Nat) (a : Addr) (vs : List Value) (P : Addr) (pre : Heap → Prop) (post : Value → Led' → Prop) : Prop :=
  ∀ (A : Around) (s : Shared) (Q : Value → Shared → Prop) (E : Value → Shared → Prop), GOk G (hide s.heap P) → (∃ base outer, Below A base outer s.heap ∧ base.get? P = none) → A.depth + d < recursionLimit → A.units + 4 * d + 100 < cLine → A.handled = none → A.guards = some [] → AllBare s.gens → pre (hide s.heap P) →
    (∃ o, s.heap.get? P = some o ∧ TokOk G.ps P o) →
    (∀ r out h' gs dr tk, (∀ b o, b ≠ P → s.heap.get? b = some o → h'.get? b = some o) → (∃ o, h'.get? P = some o ∧ TokOk G.ps P o) → (∀ p ∈ out, h'.get? p.1 = some p.2 ∧ s.heap.objs.size ≤ p.1) → (out.map (·.1)).Pairwise (· > ·) → AllBare gs → post r out → Q r { heap := h', gens := gs, drawn := dr, toks := tk, os := s.os }) →
    wpAny M A (call (.ref a) vs) Q E s
/-- a frame above which the table of places may grow -/
structure TF (G : Gl) (c : FC) (P : Addr) : Prop where
  tabs : c.tabs = [P]
  tok : c.tok = TokOk G.ps
  hid : c.g.get? P = none
  below : ∀ k m news s, Ld c k m news s → ∃ base outer, Below c.A base outer s.heap ∧ base.get? P = none
theorem spec_ofT {prog : Program} {w : World} {G : Gl} {d : Nat} {name : Str} {params : Arguments} {body : List Stmt} {scope : Scope} {a P : Addr} {vs : List Value} {binds : List (Str × Value)} {pre : Heap → Prop} {post : Value → Led' → Prop}
    (hf : ∀ h, GOk G h → pre h → FnAt G h name params body scope a)
    (hbind : ∀ pm cd doc, bindArgs (docDef name params body scope pm cd doc) ⟨vs, []⟩ = Pure.pure binds)
    (hloc : ∀ x ∈ binds, scope.names.lookup x.1 = some .local)
    (hsc : (scope.isCoroutine = false ∧ scope.isGenerator = false ∧ scope.kind = .function) ∧ ∀ x ∈ scope.names, x.2 ≠ .cell)
    (h : ∀ c, CF G c scope d → TF G c P → pre c.g → (∃ o pm cd doc, c.g.get? a = some o ∧ o.data = .func (docDef name params body scope pm cd doc) ∧ c.env.code = cd) →
      Tr (model prog w) c (execs body c.env) (fun x => binds.reverse.lookup x) [] (fun fl _ n' => ∃ out, out.Sublist n' ∧ post (match fl with | .ret v => v | _ => .none) out) (fun _ _ _ => False)) :
    SpecT (model prog w) G (d + 1) a vs P pre post := by
  intro A s Q E hG hB hd hu hh hgd hgs hp hP hQ
  obtain ⟨base, outer, B, hbP⟩ := hB
  obtain ⟨oP, hoP, htP⟩ := hP
  obtain ⟨o, pm, cd, doc, ho', hdat, hcd'⟩ := (hf _ hG hp).obj
  have hsub : ∀ b o, (hide s.heap P).get? b = some o → s.heap.get? b = some o := fun _ _ e => hide_sub e
  have ho := hsub _ _ ho'
  have hcd := hcd'.keeps hsub
  refine wpAny_call (codeAny_call_def (Nat.lt_of_le_of_lt (Nat.le_add_right _ _) hd) ho hdat (hG.nolimit.keeps hsub) hcd rfl (BindsTo.of_eq (hbind pm cd doc)) hsc.2 hloc (fun h₁ hns hkeep => ?_) hsc.1.1 hsc.1.2.1 hsc.1.2.2)
  let c : FC := ⟨A.deeper (envOf name scope s.heap.objs.size a cd), hide s.heap P, s.heap.objs.size, envOf name scope s.heap.objs.size a cd, s.os, [P], TokOk G.ps⟩
  have hPl : P < s.heap.objs.size := Heap.lt_size hoP
  have hbel : ∀ k m news s', Ld c k m news s' → ∃ base outer, Below c.A base outer s'.heap ∧ base.get? P = none := fun k m news s' l => by
    refine ⟨base, envOf name scope s.heap.objs.size a cd :: outer, ⟨Around.frames_deeper B.stack, fun b o e => ?_, ?_⟩, hbP⟩
    · exact l.old b o (sub_hide hbP B.stays e)
    · refine .cons (by show scope.kind ≠ .module; rw [hsc.1.2.2]; decide) rfl l.ns ?_ (B.frames.of_keeps fun b o e hnf => ⟨o, l.old b o ?_, rfl⟩)
      · cases hq : base.get? s.heap.objs.size with
        | none => rfl
        | some o => exact absurd (Heap.lt_size (B.stays _ o hq)) (Nat.lt_irrefl _)
      · show (hide s.heap P).get? b = some o
        have hb : b ≠ P := by
          rintro rfl
          rw [hoP] at e; cases e
          obtain ⟨ps, rfl, _⟩ := htP
          exact hnf _ rfl
        rw [hide_ne hb]; exact e
  have hc : CF G c scope d := by
    refine ⟨⟨name, a, cd, rfl⟩, hsc.1.2.2, hG, hh, hgd, fun k m news s' l => let ⟨x, y, z, _⟩ := hbel k m news s' l; ⟨x, y, z⟩, ?_, ?_⟩
    · show A.depth + 1 + d < recursionLimit
      (first | lia | omega)
    · show A.units + 3 + 4 * d + 100 < cLine
      (first | lia | omega)
  have l : Ld c [] (fun x => binds.reverse.lookup x) [] { s with heap := h₁, toks := s.toks + binds.length } :=
    ⟨hns, fun b o e => hkeep b o (hsub b o e), by show (hide s.heap P).objs.size ≤ _; rw [hide_size]; exact Nat.le_refl _, Nat.le_refl _, fun _ hp => (nomatch hp), List.Pairwise.nil, fun _ hp => (nomatch hp), hgs, rfl,
      fun p hp => by
        rw [List.mem_singleton.mp hp]
        exact ⟨hPl, hide_none _ _, oP, hkeep P oP hoP, htP⟩⟩
  refine wpAny_mono (h c hc ⟨rfl, rfl, hide_none _ _, hbel⟩ hp ⟨o, pm, cd, doc, ho', hdat, rfl⟩ [] _ l) (fun fl s' hl => ?_) fun _ _ e => e.elim
  obtain ⟨m', n', l', out, hs, hpost⟩ := hl
  obtain ⟨h', gs, dr, tk, os⟩ := s'
  have hos : os = s.os := l'.os
  subst hos
  have key := hQ _ out h' gs dr tk (fun b o hb e => l'.old b o (by show (hide s.heap P).get? b = some o; rw [hide_ne hb]; exact e)) (l'.tb P (.head _)).2.2 (fun p hp => let z := l'.nw p (hs.subset hp); ⟨z.1, z.2.1⟩) (l'.ord.sublist (hs.map _)) l'.gens hpost
  cases fl <;> exact key
section
variable {M : Model} {c : FC} {k : Led'} {m : Loc} {news : Led'} {E : Led' → Value → Shared → Prop} {G : Gl} {d : Nat}
theorem Ld.outT {s : Shared} {P : Addr} (T : TF G c P) (l : Ld c k m news s) {out : Led'} {h' : Heap} {gs : Array GenState} {dr : Drawn} {tk : Nat} (hk : ∀ b o, b ≠ P → s.heap.get? b = some o → h'.get? b = some o) (hP : ∃ o, h'.get? P = some o ∧ TokOk G.ps P o) (ho : ∀ p ∈ out, h'.get? p.1 = some p.2 ∧ s.heap.objs.size ≤ p.1)
    (hp : (out.map (·.1)).Pairwise (· > ·)) (hg : AllBare gs) : Ld c k m (out ++ news) { heap := h', gens := gs, drawn := dr, toks := tk, os := s.os } := by
  have l' : Ld c k m news { heap := h', gens := gs, drawn := dr, toks := tk, os := s.os } := l.growT (fun b o hb e => hk b o (by rintro rfl; exact hb (by rw [T.tabs]; exact .head _)) e) (fun P' hP' => by
    rw [T.tabs] at hP'
    rw [List.mem_singleton.mp hP', T.tok]; exact hP) hg
  have L := l.locs_lt
  refine ⟨l'.ns, l'.old, l'.above, l'.locs, fun p hp => ?_, ?_, fun p hp => ?_, l'.gens, l'.os, l'.tb⟩
  · rcases List.mem_append.mp hp with hp | hp
    · have z := ho p hp
      exact ⟨z.1, Nat.le_trans (Nat.le_of_lt (Nat.lt_of_le_of_lt l.locs L)) z.2, Nat.ne_of_gt (Nat.lt_of_lt_of_le L z.2)⟩
    · exact l'.nw p hp
  · rw [List.map_append]
    refine List.pairwise_append.mpr ⟨hp, l'.ord, fun a ha b hb => ?_⟩
    obtain ⟨p, hp, rfl⟩ := List.mem_map.mp ha
    obtain ⟨q, hq, rfl⟩ := List.mem_map.mp hb
    exact Nat.lt_of_lt_of_le (Heap.lt_size (l.nw q hq).1) (ho p hp).2
  · have z := l'.kp p hp
    refine ⟨z.1, z.2.1, z.2.2.1, fun q hq => ?_⟩
    rcases List.mem_append.mp hq with hq | hq
    · exact Nat.ne_of_gt (Nat.lt_of_lt_of_le (Heap.lt_size (l.kp p hp).1) (ho q hq).2)
    · exact z.2.2.2 q hq
theorem t_specT {d' : Nat} {a P : Addr} {vs : List Value} {pre : Heap → Prop} {post : Value → Led' → Prop} {Q : Value → Loc → Led' → Prop} (F : CO G c d) (T : TF G c P) (S : SpecT M G d' a vs P pre post) (hd : d' ≤ d) (hp : ∀ k s, Ld c k m news s → pre (hide s.heap P))
    (h : ∀ r out, post r out → Q r m (out ++ news)) : Tr M c (call (.ref a) vs) m news Q E := fun k s l => by
  have htb := l.tb P (by rw [T.tabs]; exact .head _)
  rw [T.tok] at htb
  refine S c.A s _ (E k) (F.ok.keeps fun b o e => sub_hide T.hid l.old e) (T.below _ _ _ _ l) ?_ ?_ F.hn F.gd l.gens (hp k s l) htb.2.2 fun r out h' gs dr tk hk hP ho hpw hg hpost => ⟨m, out ++ news, l.outT T hk hP ho hpw hg, h r out hpost⟩
  · have := F.dp; (first | lia | omega)
  · have := F.un; (first | lia | omega)
end
end Mine
end
section
open PySem PySem.W PyProof.Rows PySem.Calls
set_option maxRecDepth 20000
set_option linter.unusedVariables false
namespace Mine
/-- the pattern of one sign out of three -/
noncomputable def reCode : Array Nat := #[14, 14, 4, 1, 1, 9, 0, 64, 0, 1342177280, 0, 0, 0, 0, 0, 17, 0, 13, 11, 9, 0, 64, 0, 1342177280, 0, 0, 0, 0, 0, 17, 1, 1]
noncomputable def Plain (x : W) : Prop := ∀ c ∈ x, c < 128 ∧ c ≠ 38 ∧ c ≠ 124 ∧ c ≠ 126
theorem re_bits : ∀ c, c < 128 → c ≠ 38 → c ≠ 124 → c ≠ 126 → (decide (c < 256) && (reCode.getD (5 + (1 + c / 32)) 0).testBit (c % 32)) = false := by decide +kernel
theorem re_set (c : Nat) (seen : Sre.Seen) (h : c < 128 ∧ c ≠ 38 ∧ c ≠ 124 ∧ c ≠ 126) : Sre.inSet reCode c reCode.size 5 true seen = .ok (false, (seen.add 9).add 0) := by
  have e : Sre.inSet reCode c reCode.size 5 true seen = if (decide (c < 256) && (reCode.getD (5 + (1 + c / 32)) 0).testBit (c % 32)) = true then .ok (true, seen.add 9) else .ok (false, (seen.add 9).add 0) := rfl
  rw [e, re_bits c h.1 h.2.1 h.2.2.1 h.2.2.2]
  rfl
theorem re_admitted (m : Sre.M) (hc : m.code = reCode) (hl : m.lim = m.text.size) (hx : ∀ c ∈ m.text.toList, c < 128 ∧ c ≠ 38 ∧ c ≠ 124 ∧ c ≠ 126) : ∀ (fuel s : Nat) (seen : Sre.Seen), ∃ seen', Sre.M.admitted m fuel s seen = .ok (none, seen')
  | 0, _, seen => ⟨seen, rfl⟩
  | fuel + 1, s, seen => by
    unfold Sre.M.admitted
    by_cases hs : s ≥ m.lim
    · rw [if_pos hs]; exact ⟨_, rfl⟩
    · rw [if_neg hs]
      have hs' : s < m.text.size := by (first | lia | omega)
      have hm : m.text.getD s 0 ∈ m.text.toList := by
        rw [Array.getD_eq_getD_getElem?, Array.getElem?_eq_getElem hs']
        simp
      rw [hc, re_set _ _ (hx _ hm)]
      obtain ⟨s', e⟩ := re_admitted m hc hl hx fuel (s + 1) ((seen.add 9).add 0)
      exact ⟨s', e⟩
theorem re_said (m : Sre.M) (ho : m.outcome = none) (hf : m.frames = []) : ((m.say false).runFor 4).outcome = some .failed := by
  obtain ⟨code, text, lim, start, ls, wt, ma, pc, pos, hd, om, mk, lm, li, lo, inn, fr, we, an, se, oc⟩ := m
  cases ho; cases hf
  rfl
theorem re_attempt (m : Sre.M) (hc : m.code = reCode) (hl : m.lim = m.text.size) (hx : ∀ c ∈ m.text.toList, c < 128 ∧ c ≠ 38 ∧ c ≠ 124 ∧ c ≠ 126) (ho : m.outcome = none) (hf : m.frames = []) : ((m.attemptFrom 0 true).runFor 4).outcome = some .failed := by
  obtain ⟨s', e⟩ := re_admitted m hc hl hx (m.lim + 1 - 0) 0 m.seen
  have h1 : m.hasFirstSet = true := by unfold Sre.M.hasFirstSet; rw [hc]; decide +kernel
  unfold Sre.M.attemptFrom
  rw [h1, e]
  exact re_said { m with seen := s' } ho hf
theorem re_fails (text : Array Nat) (hx : ∀ c ∈ text.toList, c < 128 ∧ c ≠ 38 ∧ c ≠ 124 ∧ c ≠ 126) (groups : Nat) : ((Sre.forSearch reCode text groups 0 text.size false).runFor 4).outcome = some .failed := by
  unfold Sre.forSearch
  dsimp only
  split
  · exact re_said _ rfl rfl
  · exact re_attempt _ rfl rfl hx rfl rfl
section
variable {M : Model} {A : Around} {E : Value → Shared → Prop} {s : Shared}
open Builtin.Re
theorem re_drive (m : Sre.M) {Q : Sre.M → Shared → Prop} (h : (m.runFor 4).outcome = some .failed) (hQ : Q (m.runFor 4) s) : wpAny M A (reDrive (2 ^ 64) m) Q E s := by
  rw [show (2 ^ 64 : Nat) = (2 ^ 64 - 1) + 1 by decide]
  unfold reDrive
  dsimp only
  rw [show m.runFor reTurnSteps = m.runFor 4 from rfl, h]
  exact wpAny_pure hQ
theorem re_seen (m : Sre.M) {Q : PUnit → Shared → Prop} : ∀ (l : List Nat), Q () s → wpAny M A (forIn (m := Sem) l PUnit.unit fun i _ => (do if m.seen.has i = true then (do rule (Sre.names.getD i ""); Pure.pure (ForInStep.yield PUnit.unit)) else Pure.pure (ForInStep.yield PUnit.unit))) Q E s
  | [], h => wpAny_pure h
  | i :: l, h => by
    rw [List.forIn_cons]
    refine wpAny_bind ?_
    split
    · exact wpAny_bind (wpAny_rule (wpAny_pure (re_seen m l h)))
    · exact wpAny_pure (re_seen m l h)
theorem re_run (m : Sre.M) {Q : Option Sre.M → Shared → Prop} (h : (m.runFor 4).outcome = some .failed) (hQ : Q none s) : wpAny M A (reRunToEnd m) Q E s := by
  unfold reRunToEnd
  refine wpAny_bind (re_drive m h ?_)
  refine wpAny_bind (wpAny_mono (re_seen (Q := fun _ s' => s' = s) (E := E) (m.runFor 4) _ rfl) (fun _ s' e => ?_) fun _ _ e => e)
  subst e
  rw [h]
  exact wpAny_pure hQ
end
end Mine
end
section
open PySem PySem.W PyProof.Rows PySem.Calls
set_option maxRecDepth 20000
set_option linter.unusedVariables false
namespace Mine
theorem re_plainAttrs : PlainAttrs "re.Pattern" := ⟨⟨"object.__getattribute__", by rw [typeLookup_type, builtinLookup_eq_fast]; kernel_rfl, by decide +kernel⟩, by rw [typeLookup_type, builtinLookup_eq_fast]; kernel_rfl⟩
theorem slot_re_sub : Slot "re.Pattern" "sub" "re.Pattern.sub" :=
  .of (owner := "re.Pattern") (n := "sub") (by rw [typeLookup_type, builtinLookup_eq_fast]; kernel_rfl) (by decide +kernel) (by decide +kernel) (by decide +kernel)
    (by first | exact .inl (by decide +kernel) | exact .inr (by decide +kernel)) (by rw [isSubtype_type]; kernel_rfl)
theorem type_re_sub : typeOf (.builtin "re.Pattern.sub") = pure (.type "method_descriptor") := by show builtinType _ = _; rw [builtinType_eq_fast]; kernel_rfl
theorem entry_re_sub : entryFor table "re.Pattern.sub" = some Builtin.«re.Pattern.sub» := entryFor_of_tree (by kernel_rfl)
theorem entry_re_loop : entryFor table "re.Pattern.sub.loop" = some Builtin.«re.Pattern.sub.loop» := entryFor_of_tree (by kernel_rfl)
theorem plain_re_loop : plainId "re.Pattern.sub.loop" = true := by decide +kernel
theorem owner_re : Manifest.owners.lookup (String.ofList ['n','r','e','t','t','a','P','.','e','r'].reverse) = some Manifest.sig_re_Pattern := by kernel_rfl
theorem args_re_sub_3 (a b c : Value) : argsOk "re.Pattern.sub" ⟨[a, b, c], []⟩ := by
  unfold argsOk; rw [signature?_of (id := "re.Pattern.sub") (n := ['b', 'u', 's']) (o := ['n','r','e','t','t','a','P','.','e','r']) (by kernel_rfl) owner_re]; kernel_rfl
/-- the pattern object of the program -/
noncomputable def PatAt (h : Heap) (p : Addr) : Prop := ∃ fs cd its n, h.get? p = some { cls := .type "re.Pattern", data := .fields fs } ∧ fs.getD 5 .none = .ref cd ∧ Builtin.Re.reRawNat (fs.getD 6 .none) = 0 ∧
  h.get? cd = some { cls := .type "tuple", data := .seq its n } ∧ (its.map Builtin.Re.reRawOf).map (·.toNat) = reCode
section
open Builtin.Re
variable {M : Model} {A : Around} {E : Value → Shared → Prop} {s : Shared}
theorem wpAny_reNoCol {v : Value} {Q : Unit → Shared → Prop} (h : Q () s) : wpAny M A (reNoCollectionInside v 0) Q E s := by
  unfold reNoCollectionInside
  exact wpAny_pure h
theorem re_target {p : Addr} {x : W} {t : Tok} {Q : ReTarget → Shared → Prop} (hp : PatAt s.heap p) (h : ∀ groups, Q { pattern := .ref p, string := .str (S x) t, code := reCode, text := (S x).cps, kind := 0, groups, pos := 0, lim := (S x).cps.size } s) : wpAny M A (reWholeTarget (.ref p) (.str (S x) t)) Q E s := by
  obtain ⟨fs, cd, its, n, h1, h2, h3, h4, h5⟩ := hp
  unfold reWholeTarget
  refine wpAny_bind (wpAny_fieldsOf h1 rfl ?_)
  refine wpAny_bind ?_
  have e : wpAny M A (reTextOf (.str (S x) t)) (fun a s' => a = ((S x).cps, 0) ∧ s' = s) E s := by
    unfold reTextOf
    repeat (any_goals (first | assumption | exact ⟨rfl, rfl⟩ | wp_step))
  refine wpAny_mono e (fun a s' hq => ?_) fun _ _ e => e
  obtain ⟨rfl, rfl⟩ := hq
  dsimp only
  rw [h3, h2]
  have e2 : wpAny M A (reRawItems (.ref cd)) (fun a s'' => a = its.map reRawOf ∧ s'' = s') E s' := by
    unfold reRawItems
    refine wpAny_bind (wpAny_seqItems h4 rfl ?_)
    exact wpAny_pure ⟨rfl, rfl⟩
  refine wpAny_bind (wpAny_reNoCol (wpAny_bind (wpAny_mono e2 (fun a s'' hq => ?_) fun _ _ e => e)))
  obtain ⟨rfl, rfl⟩ := hq
  refine wpAny_pure ?_
  rw [h5]
  exact h _
end
section
open Builtin.Re
theorem mkStr_eq {M : Model} {A : Around} {E : Value → Shared → Prop} {s : Shared} {x : W} {y : Str} {Q : Value → Shared → Prop} (e : y = S x) (hz : x.length ≤ 100000) (h : ∀ t tk, Q (.str (S x) t) { s with toks := tk }) : wpAny M A (mkStr y) Q E s := by
  subst e
  unfold mkStr
  have hs : 100000 ≤ sizeLine := by decide +kernel
  rw [if_neg (by rw [S_len]; (first | lia | omega))]
  exact wpAny_bind (wpAny_fresh (wpAny_pure (h _ _)))
theorem meets_re_loop (p f l : Addr) (x : W) (t : Tok) (n : Nat) (t1 t2 t3 t4 t5 : Tok) :
    Meets (Builtin.«re.Pattern.sub.loop» ⟨[.ref p, .str (S x) t, .ref f, .int 1 t1, .int 0 t2, .int 0 t3, .int 0 t4, .int 0 t5, .bool false, .ref l, .bool false], []⟩) (fun A R s => PatAt s.heap p ∧ x ≠ [] ∧ x.length ≤ 100000 ∧ Plain x ∧ s.heap.get? l = some (lst [] n) ∧ p ≠ l ∧
      ∀ h' tk t', Heap.SameBut l s.heap h' → R (.ok (.ret (.str (S x) t'))) { s with heap := h', toks := tk }) :=
  Meets.of_wp fun prog w A R s hs => by
    obtain ⟨hp, hx0, hxl, hpl, hl, hpl2, hR⟩ := hs
    have hlen : 0 < x.length := by cases x with | nil => exact absurd rfl hx0 | cons a b => simp
    unfold Builtin.«re.Pattern.sub.loop»
    dsimp only
    refine wpAny_bind (re_target hp fun groups => ?_)
    dsimp only
    refine wpAny_bind ?_
    rw [if_neg (by decide)]
    unfold reNextFound
    dsimp only
    have hfail := re_fails x.toArray hpl groups
    refine re_run _ hfail ?_
    dsimp only
    have hpos : (0 : Int).toNat < x.toArray.size := by simpa using hlen
    rw [if_pos hpos]
    unfold reSlice
    rw [if_pos (by decide)]
    refine wpAny_bind (mkStr_eq (x := x) ?_ hxl fun t' tk => ?_)
    · have : ((0 : Int).toNat) = 0 := rfl
      rw [this]
      congr 1
      simp
    have hu := (show IsL s.heap l #[] n from hl).update fun xs => xs.push (.str (S x) t')
    have hbut : Heap.SameBut l s.heap (s.heap.update l (Obj.mapSeq fun xs => xs.push (.str (S x) t'))) := Heap.SameBut.update ..
    refine wpAny_bind (wpAny_updateSeq (s := { s with toks := tk }) hl rfl ?_)
    generalize s.heap.update l (Obj.mapSeq fun xs => xs.push (.str (S x) t')) = h' at hu hbut
    rw [if_pos (by decide)]
    refine wpAny_bind (mkStr_eq (x := []) (by congr 1; simp) (Nat.zero_le _) fun t6 tk6 => ?_)
    refine wpAny_bind (wpAny_seqItems (s := { s with heap := h', toks := tk6 }) hu rfl ?_)
    rw [if_neg (by simp)]
    rw [if_pos (by decide)]
    refine wpAny_bind ?_
    refine SC.join (l := [(S x, t')]) (texts := [S x]) (s := { s with heap := h', toks := tk6 }) ⟨_, hu, rfl, _, rfl⟩ rfl ?_ fun t7 k7 => ?_
    · unfold JoinOk
      rw [Bool.not_eq_true']
      refine StrLaws.joinFits (B := 100000) (fun y hy => ?_) (by
        show 1 * 100000 + 1 * 0 ≤ 16777216
        decide)
      rw [List.mem_singleton.mp hy, S_len]; exact hxl
    rw [if_neg (by decide)]
    refine wpAny_pure ⟨_, rfl, ?_⟩
    have e : Txt.join (S []) [S x] = S x := rfl
    rw [e]
    exact hR _ _ _ hbut
theorem lk_fn_call : typeLookup (.type "function") "__call__" = pure (some (.builtin "function.__call__")) := by rw [typeLookup_type, builtinLookup_eq_fast]; kernel_rfl
theorem sub_str_ba : isSubtype (.type "str") (.type "bytearray") = pure false := by rw [isSubtype_type]; kernel_rfl
theorem meets_re_sub (p f : Addr) (x : W) (t : Tok) :
    Meets (Builtin.«re.Pattern.sub» ⟨[.ref p, .ref f, .str (S x) t], []⟩) (fun A R s => PatAt s.heap p ∧ x ≠ [] ∧ x.length ≤ 100000 ∧ Plain x ∧ (∃ o, s.heap.get? f = some o ∧ o.cls = .type "function") ∧
      ∀ h' tk t', (∀ b o, s.heap.get? b = some o → h'.get? b = some o) → R (.ok (.ret (.str (S x) t'))) { s with heap := h', toks := tk }) :=
  fun prog w A R s hs => by
    obtain ⟨hp, hx0, hxl, hpl, hf, hR⟩ := hs
    have hT : s.TypeIs (.ref f) "function" := hf
    unfold Builtin.«re.Pattern.sub» reSubstitute
    dsimp only
    refine wpAny_bind ?_
    have e1 : wpAny (model prog w) A.in1 (reNamed "re.Pattern.sub" "sub" ["repl", "string", "count"] 2 [.ref f, .str (S x) t] []) (fun a s' => a = [some (.ref f), some (.str (S x) t), none] ∧ s' = s) (fun e s' => R (Except.error e) s') s := by
      unfold reNamed
      repeat (any_goals (first | assumption | exact ⟨rfl, rfl⟩ | wp_step))
    refine wpAny_mono e1 (fun a s' hq => ?_) fun _ _ e => e
    obtain ⟨rfl, rfl⟩ := hq
    dsimp only
    refine wpAny_bind (wpAny_pure ?_)
    refine wpAny_bind (wpAny_specialOf hT lk_fn_call ?_)
    rw [if_pos Option.isSome_some]
    refine wpAny_bind (wpAny_pure ?_)
    rw [if_pos Option.isSome_some]
    refine wpAny_bind (wpAny_pure ?_)
    dsimp only
    refine wpAny_bind (wpAny_holding (re_target hp fun groups => ?_))
    rw [if_pos (by decide)]
    refine wpAny_bind ?_
    have e2 : wpAny (model prog w) A.in1 (reNotHeld "re.Pattern.sub" (.str (S x) t)) (fun _ s'' => s'' = s') (fun e s' => R (Except.error e) s') s' := by
      unfold reNotHeld
      repeat (any_goals (first | assumption | rfl | refine wpAny_of_eq sub_str_ba ?_ | wp_step))
    refine wpAny_mono e2 (fun _ s'' hq => ?_) fun _ _ e => e
    subst hq
    refine wpAny_bind (wpAny_newObj_type ?_ (by size_fits))
    refine wpAny_pure ⟨plainId_quiet plain_re_loop _, codeAny_builtin entry_re_loop ?_⟩
    rw [Around.under_plainId plain_re_loop]
    have hk : ∀ b o, s''.heap.get? b = some o → (s''.heap.push (lst [])).get? b = some o := fun b o e => Heap.get?_push_of_some _ e
    have hpn : p ≠ s''.heap.objs.size := by
      obtain ⟨_, _, _, _, h1, _⟩ := hp
      exact Nat.ne_of_lt (Heap.lt_size h1)
    have hp' : PatAt (s''.heap.push (lst [])) p := by
      obtain ⟨fs, cd, its, n, h1, h2, h3, h4, h5⟩ := hp
      exact ⟨fs, cd, its, n, hk _ _ h1, h2, h3, hk _ _ h4, h5⟩
    refine meets_re_loop p f s''.heap.objs.size x t 0 _ _ _ _ _ prog w A R { s'' with heap := s''.heap.push (lst []) } ⟨hp', hx0, hxl, hpl, Heap.get?_push_size _ rfl, hpn, fun h' tk t' hb => hR h' tk t' fun b o e => (hb.2 b (Nat.ne_of_lt (Heap.lt_size e))).trans (hk b o e)⟩
end
section
variable {prog : Program} {w : World} {c : FC} {m : Loc} {news : Led'} {E : Led' → Value → Shared → Prop} {Q : Value → Loc → Led' → Prop} {t : Tok}
theorem v_reSub {p f : Addr} {x : W} {o : Obj} (hp : PatAt c.g p) (hf : (f, o) ∈ news) (hc : o.cls = .type "function") (hx0 : x ≠ []) (hxl : x.length ≤ 100000) (hpl : Plain x) (h : ∀ t', Q (.str (S x) t') m news) :
    Tr (model prog w) c (call (.builtin "re.Pattern.sub") [.ref p, .ref f, .str (S x) t]) m news Q E := fun k s l =>
  call_meets slot_re_sub (show Shared.TypeIs s (.ref p) "re.Pattern" from let ⟨_, _, _, _, h1, _⟩ := hp; ⟨_, l.old _ _ h1, rfl⟩) entry_re_sub (args_re_sub_3 _ _ _) (meets_re_sub p f x t)
    ⟨let ⟨fs, cd, its, n, h1, h2, h3, h4, h5⟩ := hp; ⟨fs, cd, its, n, l.old _ _ h1, h2, h3, l.old _ _ h4, h5⟩, hx0, hxl, hpl, ⟨o, (l.nw _ hf).1, hc⟩, fun h' tk t' hk => ⟨m, news, l.grow (dr := s.drawn) hk l.gens, h t'⟩⟩
theorem t_methRe {p : Addr} {R : String → Prop} (hp : PatAt c.g p) (h : R "re.Pattern.sub") : ∃ id, MethOk prog w c news (.ref p) "sub" id ∧ R id := by
  refine ⟨"re.Pattern.sub", fun k m' s pl Q' E' l hq => ?_, h⟩
  obtain ⟨_, _, _, _, h1, _⟩ := hp
  exact getMethod_builtin ⟨_, l.old _ _ h1, rfl⟩ re_plainAttrs slot_re_sub type_re_sub (fun a' e => by cases e; exact ⟨_, l.old _ _ h1, rfl⟩) hq
end
end Mine
end
section
open PySem PySem.W PyProof.Rows PySem.Calls
set_option maxRecDepth 20000
set_option linter.unusedVariables false
namespace Mine
section
variable {prog : Program} {w : World} {c : FC} {m : Loc} {news : Led'} {E : Led' → Value → Shared → Prop} {Q : Value → Loc → Led' → Prop} {t : Tok} {G : Gl}
theorem CodeOk.hd {g h : Heap} {cc P : Addr} (x : CodeOk g cc P) (hk : ∀ b o, g.get? b = some o → h.get? b = some o) : CodeHd h cc P := by
  obtain ⟨o, vs, file, tf, flags, tg, inF, text, tt, h1, h2, h3, h4, h5, h6, h7, h8, h9, h10⟩ := x
  exact ⟨o, vs, file, tf, flags, tg, inF, text, tt, hk _ _ h1, h9, h2, h10, h3, h4, h5, h6, h7, h8⟩
theorem Ns_lt_ne {h : Heap} {P : Addr} {mg : Loc} (hn : h.Ns mainGlobals mg) (hP : h.get? P = none) : mainGlobals ≠ P := by
  rintro rfl
  obtain ⟨o, es, ep, e, _⟩ := hn
  rw [hP] at e; cases e
theorem BM.at {g h : Heap} {P : Addr} (x : BM G g) (hg : g.Ns mainGlobals G.mg) (hP : g.get? P = none) (hk : ∀ b o, g.get? b = some o → h.get? b = some o) : h.BuiltinsAt G.mg P := by
  obtain ⟨bm, ob, b1, b2, b3, b4, b5, b6⟩ := x
  refine ⟨bm, ob, b1, b2, ?_, ?_, hk _ _ b3, b4, b5, b6⟩
  · rintro rfl
    obtain ⟨o, es, ep, e, hd, _⟩ := hg
    rw [b3] at e; cases e
    rw [b6] at hd; cases hd
  · rintro rfl
    rw [hP] at b3; cases b3
/-- a lambda without closed-over names -/
theorem t_Lambda {P cc : Addr} {params : Arguments} {body : Expr} {scope : Scope} {pos : Pos} (T : TF G c P) (hg : c.g.Ns mainGlobals G.mg) (hgl : c.env.globals = mainGlobals) (hbm : BM G c.g) (hcode : c.env.code = .ref cc) (hC : CodeOk c.g cc P)
    (hdef : defaultsOf params c.env = ([], [])) (hcl : closureFor scope c.env = Pure.pure []) (h : ∀ f o, o.cls = .type "function" → Q (.ref f) m ((f, o) :: news)) :
    Tr (model prog w) c (eval (.Lambda params body scope pos) c.env) m news Q E := fun k s l => by
  have htb := l.tb P (by rw [T.tabs]; exact .head _)
  rw [T.tok] at htb
  obtain ⟨hPl, _, _, hoP, ps, rfl, htr, hmo⟩ := htb
  refine kla_eval hdef ?_
  have fin : ∀ (h' : Heap) (tk : Nat) (o : Obj), o.isFreed = false → o.cls = .type "function" → (∀ b x, b ≠ P → s.heap.get? b = some x → h'.get? b = some x) → (∃ x, h'.get? P = some x ∧ TokOk G.ps P x) → Post c k Q (.ref h'.objs.size) { s with heap := h'.push o, toks := tk } := fun h' tk o hf ho hk hP => by
    have l' : Ld c k m news { s with heap := h', toks := tk } := l.growT (gs := s.gens) (dr := s.drawn) (fun b x hb e => hk b x (by rintro rfl; exact hb (by rw [T.tabs]; exact .head _)) e) (fun P' hP' => by
      rw [T.tabs] at hP'
      rw [List.mem_singleton.mp hP', T.tok]; exact hP) l.gens
    exact ⟨m, _, l'.push hf, h _ _ ho⟩
  cases hf : codeAmong pos ps.toList with
  | some cv =>
    refine kla_makeFunctionHit (mg := G.mg) hcl hgl (hg.keeps l.old) hcode (hC.hd l.old) hoP htr hf (hbm.at hg T.hid l.old) fun ctv h' tk hk hsz => ?_
    exact fin h' tk _ rfl rfl (fun b x _ e => hk b x e) ⟨_, hk _ _ hoP, ps, rfl, htr, hmo⟩
  | none =>
    refine kla_makeFunction (mg := G.mg) hcl hgl (hg.keeps l.old) hcode (hC.hd l.old) hoP htr hf (Ns_lt_ne hg T.hid) (hbm.at hg T.hid l.old) fun c' ctv h' tk hx hge hlt hrec htb => ?_
    exact fin h' tk _ rfl rfl (fun b x hb e => hx b x hb e) ⟨_, htb, _, rfl, by rw [Array.toList_append]; exact TriplesOk_snoc _ _ _ _ htr, tok_grow hmo⟩
end
end Mine
end
section
open PySem PySem.W PyProof.Rows PySem.Calls
set_option maxRecDepth 20000
set_option linter.unusedVariables false
namespace Mine
open Builtin Builtin.Str in
theorem gives_find_to (x y : Str) (i j : Int) (t u v v' : Tok) : Gives («str.find» ⟨[.str x t, .str y u, .int i v, .int j v'], []⟩) (.int (match occurrences x y (fromIndex x.length i) (min (fromIndex x.length j) x.length) 1 with | k :: _ => (k : Int) | [] => -1)) := by
  show Gives (match occurrences x y (fromIndex x.length i) (min (fromIndex x.length j) x.length) 1 with | k :: _ => retInt k | [] => (do rule "str.find.not-found"; retInt (-1))) _
  cases occurrences x y (fromIndex x.length i) (min (fromIndex x.length j) x.length) 1 with
  | nil => exact .rule (.of_eq rfl)
  | cons k _ => exact .of_eq rfl
open Builtin Builtin.Str StrLaws in
theorem occ_head_to (x y : Str) (lo hi limit : Nat) (hl : 1 ≤ limit) :
    (occurrences x y lo hi limit = [] ∧ ∀ i, lo ≤ i → ¬ At x y hi i) ∨
    ∃ i r, occurrences x y lo hi limit = i :: r ∧ lo ≤ i ∧ At x y hi i ∧ ∀ k, lo ≤ k → k < i → ¬ At x y hi k := by
  rw [occ_eq]
  rcases occ_first x y hi limit hl (List.range' lo (hi + 1 - lo)) lo (fun i hi => by have := List.mem_range'_1.mp hi; (first | lia | omega)) with ⟨h0, hn⟩ | ⟨pre, a, post, e, h0, ha, hn⟩
  · refine .inl ⟨by rw [h0], fun i hlo hi => ?_⟩
    exact hn i (by have := hi.1; rw [List.mem_range'_1]; (first | lia | omega)) hi
  · have hs := range'_split_from e
    refine .inr ⟨a, ((forIn (List.range' lo (hi + 1 - lo)) ((#[] : Array Nat), lo) (occBody x y hi limit)).run.fst.toList).tail, ?_, hs.1, ha, fun k hk0 hk => hn k (hs.2 k hk0 hk)⟩
    generalize (forIn (List.range' lo (hi + 1 - lo)) ((#[] : Array Nat), lo) (occBody x y hi limit)).run.fst = arr at h0
    have h1 : arr.toList[0]? = some a := by simpa using h0
    cases hL : arr.toList with
    | nil => rw [hL] at h1; cases h1
    | cons b t => rw [hL] at h1; simp at h1; rw [h1]; rfl
theorem At_to {x : W} {c i hi : Nat} (hh : hi ≤ x.length) : StrLaws.At (S x) (S [c]) hi i ↔ i < hi ∧ x[i]? = some c := by
  unfold StrLaws.At
  have e := StrLaws.subAt_one (S x) c i
  rw [show (⟨#[c]⟩ : Str) = S [c] from rfl, S_len, S_len] at e
  rw [show (S [c]).length = 1 from rfl]
  have e1 : (S x).cps.toList[i]? = x[i]? := by simp
  rw [e1] at e
  constructor
  · rintro ⟨h1, h2⟩
    exact ⟨by (first | lia | omega), e.mp ⟨by show i + 1 ≤ _; (first | lia | omega), h2⟩⟩
  · rintro ⟨h1, h2⟩
    exact ⟨by (first | lia | omega), (e.mpr h2).2⟩
section
variable {prog : Program} {w : World} {c : FC} {m : Loc} {news : Led'} {E : Led' → Value → Shared → Prop} {Q : Value → Loc → Led' → Prop} {t u v v' : Tok}
theorem v_findTo {x : W} {ch k j : Nat} (hj : j ≤ x.length) (h0 : (∀ i, k ≤ i → i < j → x[i]? ≠ some ch) → ∀ t', Q (.int (-1) t') m news)
    (h1 : ∀ i : Nat, k ≤ i → i < j → x[i]? = some ch → (∀ i', k ≤ i' → i' < i → x[i']? ≠ some ch) → ∀ t', Q (.int i t') m news) :
    Tr (model prog w) c (call (.builtin "str.find") [.str (S x) t, .str (S [ch]) u, .int k v, .int j v']) m news Q E := fun kk s l => by
  refine call_gives PySem.F.slot_str_find (typeIs_str _ _ _) PySem.F.entry_str_find (PySem.F.args_str_find_4 _ _ _ _) (gives_find_to (S x) (S [ch]) k j t u v v') ?_
  have e1 : fromIndex (S x).length (k : Int) = k := by unfold fromIndex; rw [if_neg (by (first | lia | omega))]; (first | lia | omega)
  have e2 : fromIndex (S x).length (j : Int) = j := by unfold fromIndex; rw [if_neg (by (first | lia | omega))]; (first | lia | omega)
  rw [e1, e2, Nat.min_eq_left (by rw [S_len]; exact hj)]
  rcases occ_head_to (S x) (S [ch]) k j 1 (Nat.le_refl _) with ⟨e, hn⟩ | ⟨i, r, e, hlo, hat, hno⟩
  · rw [e]
    exact ⟨m, news, l.toks _, h0 (fun i h1 h2 h3 => hn i h1 ((At_to hj).mpr ⟨h2, h3⟩)) _⟩
  · rw [e]
    obtain ⟨h2, h3⟩ := (At_to hj).mp hat
    exact ⟨m, news, l.toks _, h1 i hlo h2 h3 (fun i' a b h => hno i' a b ((At_to hj).mpr ⟨by (first | lia | omega), h⟩)) _⟩
theorem contains_S {x : W} {ch : Nat} : (!(Builtin.Str.occurrences (S x) (S [ch]) 0 (S x).length 1).isEmpty) = decide (ch ∈ x) := by
  rcases StrLaws.occ_head (S x) (S [ch]) 1 (Nat.le_refl _) with ⟨e, hn⟩ | ⟨i, r, e, hat, _⟩
  · rw [e]
    symm
    apply decide_eq_false
    intro hm
    obtain ⟨i, hi⟩ := List.getElem?_of_mem hm
    exact hn i (by rw [S_len]; exact (At_to (Nat.le_refl _)).mpr ⟨(List.getElem?_eq_some_iff.mp hi).1, hi⟩)
  · rw [e]
    symm
    exact decide_eq_true (List.mem_of_getElem? (At_single hat))
theorem v_notInText {x : W} {ch : Nat} (h : Q (.bool (!decide (ch ∈ x))) m news) : Tr (model prog w) c (compareOp .NotIn (.str (S [ch]) u) (.str (S x) t)) m news Q E := fun _ _ l =>
  P.notIn_str ⟨m, news, l, by rw [contains_S]; exact h⟩
end
end Mine
end
section
namespace Mine
/-- the inside of a set, as the law writes it -/
structure SetOk (body : W) : Prop where
  ne : body ≠ []
  len : body.length ≤ 900
  plain : Plain body
  chars : ∀ c ∈ body, c ≠ 92 ∧ c ≠ 93
  head : ∀ c, body[0]? = some c → c ≠ 33 ∧ c ≠ 94 ∧ c ≠ 91
  hy : ∀ p, body[p]? = some 45 → (p = 0 ∨ body[p-1]? = some 32) ∧ ∃ d, body[p+1]? = some d ∧ 48 ≤ d ∧ d ≤ 57
  has : 45 ∈ body
noncomputable def Digit (o : Option Nat) : Prop := ∃ d, o = some d ∧ 48 ≤ d ∧ d ≤ 57
structure CutI (body : W) (i : Nat) (xs : List W) : Prop where
  pre : body = (xs.map (· ++ [45])).flatten ++ body.drop i
  le : i < body.length
  first : xs = [] → i = 0
  dig : xs ≠ [] → Digit body[i]?
  ch : ∀ x ∈ xs, Chunk x ∧ x.getLast? = some 32
  hd : ∀ q x, xs[q+1]? = some x → Digit x.head?
noncomputable def gap (xs : List W) : Nat := if xs = [] then 1 else 2
theorem CutI.start {body : W} (h : SetOk body) : CutI body 0 [] :=
  ⟨rfl, by have := h.ne; cases body with | nil => exact absurd rfl this | cons a b => simp, fun _ => rfl, fun h => absurd rfl h, fun x hx => (nomatch hx), fun q x hx => (nomatch hx)⟩
theorem CutI.no45 {body : W} {i p : Nat} {xs : List W} (h : SetOk body) (c : CutI body i xs) (hno : ∀ q, i + gap xs ≤ q → q < p → body[q]? ≠ some 45) : ∀ q, i < q → q < p → body[q]? ≠ some 45 := fun q h1 h2 e => by
  by_cases hx : xs = []
  · have : gap xs = 1 := if_pos hx
    exact hno q (by (first | lia | omega)) h2 e
  · have hg : gap xs = 2 := if_neg hx
    by_cases h3 : i + 2 ≤ q
    · exact hno q (by (first | lia | omega)) h2 e
    · have : q = i + 1 := by (first | lia | omega)
      subst this
      obtain ⟨h4, _⟩ := h.hy _ e
      rcases h4 with h4 | h4
      · (first | lia | omega)
      · obtain ⟨d, hd, hd1, hd2⟩ := c.dig hx
        have : i + 1 - 1 = i := by (first | lia | omega)
        rw [this, hd] at h4
        cases h4
        (first | lia | omega)
theorem CutI.head45 {body : W} {i : Nat} {xs : List W} (c : CutI body i xs) (hx : xs ≠ []) : body[i]? ≠ some 45 := fun e => by
  obtain ⟨d, hd, h1, h2⟩ := c.dig hx
  rw [e] at hd; cases hd; (first | lia | omega)
theorem cut_mem {body : W} {i p c q : Nat} (h : (cut body i p)[q]? = some c) : body[i + q]? = some c ∧ i + q < p := by
  unfold cut at h
  rw [List.getElem?_take] at h
  split at h
  · rw [List.getElem?_drop] at h
    exact ⟨h, by (first | lia | omega)⟩
  · cases h
theorem chunk_of {body y : W} {i : Nat} {xs : List W} (h : SetOk body) (c : CutI body i xs) (hy : ∀ q n, y[q]? = some n → body[i + q]? = some n ∧ (0 < q → n ≠ 45)) (hl : y.length ≤ 5000) : Chunk y := by
  have hm : ∀ n ∈ y, n ∈ body := fun n hn => by
    obtain ⟨q, hq⟩ := List.getElem?_of_mem hn
    exact List.mem_of_getElem? (hy q n hq).1
  refine ⟨fun e => (h.chars 92 (hm _ e)).1 rfl, by (first | lia | omega), ?_⟩
  cases y with
  | nil => exact .inl (by simp)
  | cons a r =>
    have hr : 45 ∉ r := fun e => by
      obtain ⟨q, hq⟩ := List.getElem?_of_mem e
      exact (hy (q + 1) 45 (by simpa using hq)).2 (by (first | lia | omega)) rfl
    by_cases ha : a = 45
    · subst ha; exact .inr ⟨r, rfl, hr⟩
    · refine .inl fun e => ?_
      rcases List.mem_cons.mp e with e | e
      · exact ha e.symm
      · exact hr e
theorem CutI.step {body : W} {i p : Nat} {xs : List W} (h : SetOk body) (c : CutI body i xs) (h1 : i + gap xs ≤ p) (h2 : p < body.length) (h3 : body[p]? = some 45) (hno : ∀ q, i + gap xs ≤ q → q < p → body[q]? ≠ some 45) : CutI body (p + 1) (xs ++ [cut body i p]) := by
  have hg : 1 ≤ gap xs := by unfold gap; split <;> (first | lia | omega)
  obtain ⟨hb, d, hd, hd1, hd2⟩ := h.hy p h3
  have hlen : (cut body i p).length = p - i := by unfold cut; rw [List.length_take, List.length_drop]; (first | lia | omega)
  refine ⟨?_, ?_, fun e => by simp at e, fun _ => ⟨d, hd, hd1, hd2⟩, fun x hx => ?_, fun q x hx => ?_⟩
  · have e := c.pre
    have e2 : body.drop i = cut body i p ++ [45] ++ body.drop (p + 1) := by
      unfold cut
      have : body.drop i = (body.drop i).take (p - i) ++ (body.drop i).drop (p - i) := (List.take_append_drop _ _).symm
      rw [List.drop_drop, show i + (p - i) = p by (first | lia | omega)] at this
      rw [List.append_assoc]
      have e3 : body.drop p = 45 :: body.drop (p + 1) := by
        rw [List.drop_eq_getElem_cons h2]
        congr 1
        have := List.getElem?_eq_getElem h2
        rw [h3] at this
        exact (Option.some.inj this).symm
      rw [e3] at this
      exact this
    rw [List.map_append, List.flatten_append]
    conv => lhs; rw [e]
    rw [e2]
    simp
  · exact (List.getElem?_eq_some_iff.mp hd).1
  · rcases List.mem_append.mp hx with hx | hx
    · exact c.ch x hx
    · rw [List.mem_singleton.mp hx]
      refine ⟨chunk_of h c (fun q n hq => ?_) ?_, ?_⟩
      · obtain ⟨e1, e2⟩ := cut_mem hq
        exact ⟨e1, fun h0 e => c.no45 h hno (i + q) (by (first | lia | omega)) e2 (by rw [e1, e])⟩
      · rw [hlen]; have := h.len; (first | lia | omega)
      · rw [List.getLast?_eq_getElem?, hlen]
        rcases hb with hb | hb
        · (first | lia | omega)
        · unfold cut
          rw [List.getElem?_take, if_pos (by (first | lia | omega)), List.getElem?_drop, show i + (p - i - 1) = p - 1 by (first | lia | omega)]
          exact hb
  · by_cases hq : q + 1 < xs.length
    · rw [List.getElem?_append_left hq] at hx
      exact c.hd q x hx
    · rw [List.getElem?_append_right (by (first | lia | omega))] at hx
      have hxs : xs ≠ [] := by rintro rfl; simp at hx
      obtain ⟨d', hd', a1, a2⟩ := c.dig hxs
      have : x = cut body i p := by
        have hq0 : q + 1 - xs.length = 0 := by
          rcases Nat.eq_zero_or_pos (q + 1 - xs.length) with e | e
          · exact e
          · rw [List.getElem?_eq_none (by simp; (first | lia | omega))] at hx; cases hx
        rw [hq0] at hx
        simpa using hx.symm
      subst this
      refine ⟨d', ?_, a1, a2⟩
      rw [List.head?_eq_getElem?]
      unfold cut
      rw [List.getElem?_take, if_pos (by (first | lia | omega)), List.getElem?_drop]
      exact hd'
theorem joinL_snoc (xs : List W) (l : W) : joinL [45] (xs ++ [l]) = (xs.map (· ++ [45])).flatten ++ l := by
  induction xs with
  | nil => rfl
  | cons x r ih =>
    cases r with
    | nil => simp [joinL]
    | cons y r =>
      rw [List.cons_append, List.cons_append]
      show x ++ [45] ++ joinL [45] (y :: (r ++ [l])) = _
      rw [List.cons_append] at ih
      rw [ih]
      simp
theorem esc_digit {x : W} (h : Digit x.head?) : esc x = x := by
  obtain ⟨d, e, h1, h2⟩ := h
  cases x with
  | nil => cases e
  | cons a r =>
    cases e
    unfold esc
    rw [if_neg (by show ¬ d = 45; (first | lia | omega))]
theorem map_esc : ∀ {r : List W}, (∀ (q : Nat) (x : W), r[q]? = some x → Digit x.head?) → r.map esc = r
  | [], _ => rfl
  | x :: r, h => by
    rw [List.map_cons, esc_digit (h 0 x rfl), map_esc fun q y e => h (q + 1) y e]
theorem CutI.last {body : W} {i : Nat} {xs : List W} (h : SetOk body) (c : CutI body i xs) (hno : ∀ q, i + gap xs ≤ q → q < body.length → body[q]? ≠ some 45) :
    (∀ x ∈ xs ++ [body.drop i], Chunk x ∧ x ≠ []) ∧ (∀ q x, (xs ++ [body.drop i])[q+1]? = some x → Digit x.head?) ∧ (∀ q x, q < xs.length → (xs ++ [body.drop i])[q]? = some x → x.getLast? = some 32) ∧ joinL [45] ((xs ++ [body.drop i]).map esc) = esc body := by
  have hle := c.le
  have hdne : body.drop i ≠ [] := by rw [Ne, List.drop_eq_nil_iff]; (first | lia | omega)
  have hhd : ∀ q x, (xs ++ [body.drop i])[q+1]? = some x → Digit x.head? := fun q x hx => by
    by_cases hq : q + 1 < xs.length
    · rw [List.getElem?_append_left hq] at hx
      exact c.hd q x hx
    · rw [List.getElem?_append_right (by (first | lia | omega))] at hx
      have hxs : xs ≠ [] := by rintro rfl; simp at hx
      have hq0 : q + 1 - xs.length = 0 := by
        rcases Nat.eq_zero_or_pos (q + 1 - xs.length) with e | e
        · exact e
        · rw [List.getElem?_eq_none (by simp; (first | lia | omega))] at hx; cases hx
      rw [hq0] at hx
      have hx : body.drop i = x := by simpa using hx
      subst hx
      rw [List.head?_drop]
      exact c.dig hxs
  refine ⟨fun x hx => ?_, hhd, fun q x hq hx => ?_, ?_⟩
  · rcases List.mem_append.mp hx with hx | hx
    · refine ⟨(c.ch x hx).1, fun e => ?_⟩
      have := (c.ch x hx).2
      rw [e] at this; cases this
    · rw [List.mem_singleton.mp hx]
      refine ⟨chunk_of h c (fun q n hq => ?_) (by rw [List.length_drop]; have := h.len; (first | lia | omega)), hdne⟩
      rw [List.getElem?_drop] at hq
      refine ⟨hq, fun h0 e => ?_⟩
      subst e
      exact c.no45 h hno (i + q) (by (first | lia | omega)) (List.getElem?_eq_some_iff.mp hq).1 hq
  · rw [List.getElem?_append_left hq] at hx
    exact (c.ch x (List.mem_of_getElem? hx)).2
  · cases xs with
    | nil =>
      have hi : i = 0 := c.first rfl
      subst hi
      rfl
    | cons x0 r =>
      have hr : ((r ++ [body.drop i]).map esc) = r ++ [body.drop i] := map_esc fun q x e => hhd q x (by simpa using e)
      rw [List.cons_append, List.map_cons, hr]
      have e := c.pre
      rw [show esc x0 :: (r ++ [body.drop i]) = (esc x0 :: r) ++ [body.drop i] from rfl, joinL_snoc]
      have hx0 := (c.ch x0 (.head _)).2
      cases x0 with
      | nil => cases hx0
      | cons a y =>
        rw [List.map_cons, List.flatten_cons] at e
        rw [List.map_cons, List.flatten_cons]
        have hh : body.headD 0 = a := by rw [e]; rfl
        unfold esc
        rw [hh]
        show (if a = 45 then 92 :: a :: y else a :: y) ++ [45] ++ _ ++ _ = _
        generalize body.drop i = z at e ⊢
        subst e
        split <;> simp
end Mine
end
section
open PySem PySem.W PyProof.Rows PySem.Calls
set_option maxRecDepth 20000
set_option linter.unusedVariables false
namespace Mine
theorem t_While0 {prog : Program} {w : World} {c : FC} {m : Loc} {news : Led'} {E : Led' → Value → Shared → Prop} {test : Expr} {body : List Stmt} {pos : Pos} {Q : Flow → Loc → Led' → Prop}
    (h : Tr (model prog w) c (PySem.isTrue test c.env (eval test c.env)) m news (fun b m₁ n₁ => b = false ∧ Q .next m₁ n₁) E) (hE : ∀ k, PassesOwn (model prog w) c.A c.env (E k)) : Tr (model prog w) c (exec (.While test body [] pos) c.env) m news Q E := by
  refine t_While (fun i m' n' => i = 0 ∧ m' = m ∧ n' = news) ⟨0, _, List.Sublist.refl _, rfl, rfl, rfl⟩ ?_ hE
  rintro _ _ _ ⟨rfl, rfl, rfl⟩
  exact h.mono (fun b m₁ n₁ q => by rw [q.1, if_neg Bool.false_ne_true]; exact q.2) fun _ _ _ e => e

set_option compiler.extract_closed false
local macro_rules | `(tactic| walk_at "lk") => `(tactic| first | assumption | exact upd_hit | (refine upd_miss (by decide) ?_; walk_at "lk") | (with_unfolding_all rfl))
local macro_rules | `(tactic| walk_at "nm") => `(tactic| with_reducible assumption)
local macro_rules | `(tactic| walk_at "st") => `(tactic| with_reducible first
  | (refine' t_ld ?k1 ?k2 ?_; (case k1 => walk_at "nm"); (case k2 => walk_at "lk"))
  | (refine' t_nm ?k1 ?_; (case k1 => walk_at "nm"))
  | refine t_IntC fun _ => ?_
  | refine t_StrS fun _ => ?_
  | refine t_BoolC ?_
  | refine t_NoneC ?_
  | refine t_cons ?_
  | refine t_after ?_
  | refine t_afterR ?_
  | refine t_afterB ?_
  | refine t_If ?_
  | (refine t_isCompare ?_ ?k1; (case k1 => with_unfolding_all rfl))
  | refine t_isAnd2 ?_
  | refine t_isOr2 ?_
  | refine t_isNot ?_
  | (refine t_isPlain ?_ ?k1; (case k1 => with_unfolding_all rfl))
  | refine t_truthy_bool ?_
  | (refine t_ifTrue ?k1 ?_; (case k1 => with_unfolding_all rfl))
  | (refine t_ifFalse ?k1 ?_; (case k1 => with_unfolding_all rfl))
  | (refine t_Assign ?_ ?k1; (case k1 => with_unfolding_all rfl))
  | (refine t_st ?k1 ?_; (case k1 => walk_at "nm"))
  | refine t_AugAssign ?_
  | (refine' t_ldn ?k1 ?k2 ?_; (case k1 => walk_at "nm"); (case k2 => walk_at "lk"))
  | refine t_BinOp ?_
  | (refine t_Compare ?_ ?k1; (case k1 => with_unfolding_all rfl))
  | (refine t_CallE ?_ ?k1; (case k1 => with_unfolding_all rfl))
  | (refine t_callWith0 ?k1 ?_; (case k1 => with_unfolding_all rfl))
  | (refine t_callWith1 ?k1 ?_; (case k1 => with_unfolding_all rfl))
  | (refine t_argS ?_ ?k1; (case k1 => with_unfolding_all rfl))
  | refine t_arg0 ?_
  | refine And.intro (KeepOk.builtin _) ?_
  | refine And.intro (KeepOk.type _) ?_
  | refine Exists.intro _ (And.intro rfl ?_)
  | refine t_Return ?_
  | refine t_IfExp ?_
  | refine t_UnaryOp ?_
  | (refine t_ExprStmt ?_ ?k1 ?k2; (case k1 => walk_at "nm"); (case k2 => with_unfolding_all rfl))
  | refine And.intro rfl ?_
  | refine t_Break ?_
  | refine t_nil ?_
  | refine v_eqInt ?_
  | refine v_neInt ?_
  | refine v_ltInt ?_
  | refine v_gtInt ?_
  | refine v_geInt ?_
  | refine v_eqStr ?_
  | refine v_neStr ?_
  | refine v_ltStr ?_
  | refine v_gtStr ?_
  | refine v_addInt fun _ => ?_
  | refine v_iaddInt fun _ => ?_
  | refine v_subInt fun _ => ?_
  | refine v_negInt fun _ => ?_
  | refine v_isNone ?_
  | (refine v_modPos ?k1 fun _ => ?_; (case k1 => decide))
  | (refine v_divSmall ?k1 fun _ => ?_; (case k1 => decide))
  | refine t_Tuple ?_
  | refine t_List ?_
  | ((fail_if_success (refine t_strSlice ?_ ?_)); (fail_if_success (refine t_listSliceS ?_ ?_)); refine t_Subscript ?_)
  | refine t_part0 ?_
  | refine t_part ?_
  | (refine v_is ?k1 ?_; (case k1 => with_unfolding_all rfl))
  | (refine v_isNot ?k1 ?_; (case k1 => with_unfolding_all rfl))
  | refine v_abs fun _ => ?_
  | refine v_isiIntInt ?_
  | refine v_isiStrInt ?_
  | (refine t_Method ?_ (by with_unfolding_all rfl))
  | (refine t_tests1 ?_)
  | (refine t_tests0 ?_)
  | refine t_Pass ?_
  | refine t_Dict0 fun _ _ _ => ?_
  | refine t_Try0 ?_
  | refine t_Assert ?_
  | refine t_JoinedStr ?_
  | refine t_jpE ?_
  | refine t_jpE0 ?_
  | refine t_jpCons ?_
  | refine t_FmtStr ?_
  | (refine t_AssignSub ?_ ?k1; (case k1 => with_unfolding_all rfl))
  | (refine' t_use ?k1 ?_; (case k1 => assumption))
  | fail)
local macro_rules | `(tactic| walk_at "go") => `(tactic| repeat' (walk_at "st"))
local macro_rules | `(tactic| walk_at "gT") => `(tactic| repeat' ((fail_if_success (with_reducible refine t_Try0 ?_)); walk_at "st"))
local macro_rules | `(tactic| walk_at "g0") => `(tactic| repeat' ((fail_if_success (with_reducible refine t_If ?_)); walk_at "st"))
local macro_rules | `(tactic| walk_at "lka") => `(tactic| ((repeat' (with_reducible refine And.intro ?_ ?_)) <;> first | walk_at "lk" | exact ⟨_, by walk_at "lk"⟩))
local macro_rules | `(tactic| walk_at "mm") => `(tactic| first | exact .head _ | exact .tail _ (.head _) | exact .tail _ (.tail _ (.head _)) | exact .tail _ (.tail _ (.tail _ (.head _))) | exact .tail _ (.tail _ (.tail _ (.tail _ (.head _)))))
local macro_rules | `(tactic| walk_at "mb") => `(tactic| first | exact .head _ | assumption | exact List.mem_append_left _ (by assumption) | (refine .tail _ ?_; walk_at "mb") | (refine List.mem_append_right _ ?_; walk_at "mb"))

structure TrJ (pat : W) (st : Addr) (ps : List W) (r : Nat) (m : Loc) (n : Led') : Prop where
  h1 : ∃ t, m "pat" = some (.str (S pat) t)
  h3 : ∃ t, m "n" = some (.int (pat.length : Nat) t)
  rest : ∃ j res b rv e t, j + r = 2 ∧ m "i" = some (.int (j : Nat) t) ∧ m "res" = some (.ref res) ∧ m "add" = some (.ref b) ∧ n = [(b, bndO "list.append" (.ref res)), (res, lst rv e)] ∧ Strs rv (ps.take j) ∧ rv.length = j
theorem spec_trE {prog : Program} {w : World} {G : Gl} {a P es D st : Addr} {t t2 : Tok} :
    SpecT (model prog w) G 2 a [.str (S (L "[]")) t, .ref st, .str (S (L ".")) t2] P (fun h => FnIs G h 8 a ∧ G.mg "escape" = some (.ref es) ∧ FnIs G h 6 es ∧ G.mg "_special_chars_map" = some (.ref D) ∧ EscAt h D) (fun r out => ∃ d vs n, r = .ref d ∧ out = [(d, lst vs n)] ∧ Strs vs [L "\\[", L "\\]"]) := by
  refine spec_ofT (binds := [("pat", .str (S (L "[]")) t), ("STAR", .ref st), ("QUESTION_MARK", .str (S (L ".")) t2)]) (fun h _ hp => hp.1) (fun _ _ _ => rfl) (locs rfl) (by decide +kernel) ?_
  intro c F T ⟨_, hes, hesF, hD, hE⟩ _
  have X_int := F.inter
  have X_env := F.env
  have L_pat : LocN c "pat" := F.loc (by decide +kernel)
  have L_res : LocN c "res" := F.loc (by decide +kernel)
  have L_add : LocN c "add" := F.loc (by decide +kernel)
  have L_i : LocN c "i" := F.loc (by decide +kernel)
  have L_n : LocN c "n" := F.loc (by decide +kernel)
  have L_c : LocN c "c" := F.loc (by decide +kernel)
  have L_j : LocN c "j" := F.loc (by decide +kernel)
  have N_len : Nm c "len" (.builtin "len") := F.bnm (by decide +kernel) (by decide +kernel)
  have N_escape : Nm c "escape" (.ref es) := F.gnm (by decide +kernel) hes
  refine t_cons ?_
  walk_at "go"
  refine ⟨Nat.zero_le _, fun res => ?_⟩
  walk_at "go"
  refine t_Attr ?_ (by with_unfolding_all rfl) ⟨_, _, rfl⟩
  walk_at "go"
  refine v_attrAppend (.new (by walk_at "mm")) fun b => ?_
  walk_at "go"
  refine t_AssignPair F.hn L_i L_n ?_ (by with_unfolding_all rfl) (by obtain ⟨nm, a', cd, e⟩ := X_env; rw [e]; with_unfolding_all rfl)
  walk_at "go"
  refine v_lenStr (by decide) fun _ => ?_
  walk_at "go"
  refine ⟨show 2 ≤ sizeLine by decide +kernel, fun tp => ⟨tp, _, _, 0, rfl, .inr (by walk_at "mm"), ?_⟩⟩
  walk_at "go"
  have q0 : (L "[]")[0]? = some 91 := by decide
  have q1 : (L "[]")[1]? = some 93 := by decide
  have ql : (L "[]").length = 2 := by decide
  refine t_While (TrJ (L "[]") st [L "\\[", L "\\]"]) ⟨2, [(b, bndO "list.append" (.ref res)), (res, lst [])], List.sublist_cons_self _ _, ⟨⟨_, by walk_at "lk"⟩, ⟨_, by walk_at "lk"⟩, 0, res, b, [], 0, _, by (first | lia | omega), by walk_at "lk", by walk_at "lk", by walk_at "lk", rfl, .nil, rfl⟩⟩ ?_ passesNope
  rintro r m n xB1
  refine t_box fun gbx hbx => ?_
  obtain ⟨⟨tp1, h1⟩, ⟨tn, h3⟩, j, res, b, rv, e, ti, hij, h4, h5, h6, eB0, hs, hrl⟩ := xB1
  refine hbx ?_
  clear hbx gbx
  subst eB0
  rw [ql] at h3
  have hj : j = 0 ∨ j = 1 ∨ j = 2 := by (first | lia | omega)
  rcases hj with rfl | rfl | rfl
  · walk_at "go"
    refine t_tailStr (j := 0) (y := 91) (by decide) (by decide) q0 (fun _ => ?_) (by with_unfolding_all rfl)
    walk_at "go"
    refine t_tailStr (j := 1) (y := 93) (by decide) (by decide) q1 (fun _ => ?_) (by with_unfolding_all rfl)
    walk_at "go"
    refine t_tailStr (j := 1) (y := 93) (by decide) (by decide) q1 (fun _ => ?_) (by with_unfolding_all rfl)
    walk_at "go"
    refine t_While0 ?_ passesNope
    walk_at "go"
    refine ⟨.bound (.inr (by walk_at "mm")) rfl rfl, ?_⟩
    walk_at "go"
    refine v_callAppend (i := 1) (.inr (by walk_at "mm")) rfl (by rw [hrl]; exact Nat.zero_le _) fun e' => ?_
    walk_at "go"
    refine ⟨1, by (first | lia | omega), _, List.Sublist.refl _, ⟨⟨_, by walk_at "lk"⟩, ⟨_, by rw [ql]; walk_at "lk"⟩, 1, res, b, _, e', _, by (first | lia | omega), by walk_at "lk", by walk_at "lk", by walk_at "lk", rfl, ?_, by simp [hrl]⟩⟩
    show Strs _ (([] : List W) ++ [L "\\["])
    exact Paired.snoc hs (.mk _ _)
  · walk_at "go"
    refine t_tailStr (j := 1) (y := 93) (by decide) (by decide) q1 (fun _ => ?_) (by with_unfolding_all rfl)
    walk_at "go"
    refine t_box fun gbx hbx => ?_
    obtain ⟨oe, pm', cd', doc', ho, hdat, _⟩ := hesF.obj
    refine hbx ?_
    clear hbx gbx
    refine ⟨.fn (.inl ho) hdat, ?_⟩
    refine t_spec F.co (spec_escape (D := D)) (by decide) (fun k s l => ⟨hesF.keeps l.old, hD, let ⟨o, h1, h2⟩ := hE; ⟨o, l.old _ _ h1, h2⟩⟩) ?_
    rintro _ _ xB1
    refine t_box fun gbx hbx => ?_
    obtain ⟨eB0, te, eB1⟩ := xB1
    refine hbx ?_
    clear hbx gbx
    subst eB0
    subst eB1
    walk_at "go"
    refine ⟨.bound (.inr (by walk_at "mm")) rfl rfl, ?_⟩
    refine v_callAppend (i := 1) (.inr (by walk_at "mm")) rfl (by rw [hrl]; decide +kernel) fun e' => ?_
    walk_at "go"
    refine ⟨0, by (first | lia | omega), _, List.Sublist.refl _, ⟨⟨_, by walk_at "lk"⟩, ⟨_, by rw [ql]; walk_at "lk"⟩, 2, res, b, _, e', _, by (first | lia | omega), by walk_at "lk", by walk_at "lk", by walk_at "lk", rfl, ?_, by simp [hrl]⟩⟩
    have := Paired.snoc hs (IsS.mk (L "\\]") te)
    exact this
  · walk_at "go"
    exact ⟨_, List.sublist_cons_self _ _, res, rv, e, rfl, rfl, hs⟩
end Mine
end
section
open PySem PySem.W PyProof.Rows PySem.Calls
set_option maxRecDepth 20000
set_option linter.unusedVariables false
namespace Mine

set_option compiler.extract_closed false
local macro_rules | `(tactic| walk_at "lk") => `(tactic| first | assumption | exact upd_hit | (refine upd_miss (by decide) ?_; walk_at "lk") | (with_unfolding_all rfl))
local macro_rules | `(tactic| walk_at "nm") => `(tactic| with_reducible assumption)
local macro_rules | `(tactic| walk_at "st") => `(tactic| with_reducible first
  | (refine' t_ld ?k1 ?k2 ?_; (case k1 => walk_at "nm"); (case k2 => walk_at "lk"))
  | (refine' t_nm ?k1 ?_; (case k1 => walk_at "nm"))
  | refine t_IntC fun _ => ?_
  | refine t_StrS fun _ => ?_
  | refine t_BoolC ?_
  | refine t_NoneC ?_
  | refine t_cons ?_
  | refine t_after ?_
  | refine t_afterR ?_
  | refine t_afterB ?_
  | refine t_If ?_
  | (refine t_isCompare ?_ ?k1; (case k1 => with_unfolding_all rfl))
  | refine t_isAnd2 ?_
  | refine t_isOr2 ?_
  | refine t_isNot ?_
  | (refine t_isPlain ?_ ?k1; (case k1 => with_unfolding_all rfl))
  | refine t_truthy_bool ?_
  | (refine t_ifTrue ?k1 ?_; (case k1 => with_unfolding_all rfl))
  | (refine t_ifFalse ?k1 ?_; (case k1 => with_unfolding_all rfl))
  | (refine t_Assign ?_ ?k1; (case k1 => with_unfolding_all rfl))
  | (refine t_st ?k1 ?_; (case k1 => walk_at "nm"))
  | refine t_AugAssign ?_
  | (refine' t_ldn ?k1 ?k2 ?_; (case k1 => walk_at "nm"); (case k2 => walk_at "lk"))
  | refine t_BinOp ?_
  | (refine t_Compare ?_ ?k1; (case k1 => with_unfolding_all rfl))
  | (refine t_CallE ?_ ?k1; (case k1 => with_unfolding_all rfl))
  | (refine t_callWith0 ?k1 ?_; (case k1 => with_unfolding_all rfl))
  | (refine t_callWith1 ?k1 ?_; (case k1 => with_unfolding_all rfl))
  | (refine t_argS ?_ ?k1; (case k1 => with_unfolding_all rfl))
  | refine t_arg0 ?_
  | refine And.intro (KeepOk.builtin _) ?_
  | refine And.intro (KeepOk.type _) ?_
  | refine Exists.intro _ (And.intro rfl ?_)
  | refine t_Return ?_
  | refine t_IfExp ?_
  | refine t_UnaryOp ?_
  | (refine t_ExprStmt ?_ ?k1 ?k2; (case k1 => walk_at "nm"); (case k2 => with_unfolding_all rfl))
  | refine And.intro rfl ?_
  | refine t_Break ?_
  | refine t_nil ?_
  | refine v_eqInt ?_
  | refine v_neInt ?_
  | refine v_ltInt ?_
  | refine v_gtInt ?_
  | refine v_geInt ?_
  | refine v_eqStr ?_
  | refine v_neStr ?_
  | refine v_ltStr ?_
  | refine v_gtStr ?_
  | refine v_addInt fun _ => ?_
  | refine v_iaddInt fun _ => ?_
  | refine v_subInt fun _ => ?_
  | refine v_negInt fun _ => ?_
  | refine v_isNone ?_
  | (refine v_modPos ?k1 fun _ => ?_; (case k1 => decide))
  | (refine v_divSmall ?k1 fun _ => ?_; (case k1 => decide))
  | refine t_Tuple ?_
  | refine t_List ?_
  | ((fail_if_success (refine t_strSlice ?_ ?_)); (fail_if_success (refine t_listSliceS ?_ ?_)); refine t_Subscript ?_)
  | refine t_part0 ?_
  | refine t_part ?_
  | (refine v_is ?k1 ?_; (case k1 => with_unfolding_all rfl))
  | (refine v_isNot ?k1 ?_; (case k1 => with_unfolding_all rfl))
  | refine v_abs fun _ => ?_
  | refine v_isiIntInt ?_
  | refine v_isiStrInt ?_
  | (refine t_Method ?_ (by with_unfolding_all rfl))
  | (refine t_tests1 ?_)
  | (refine t_tests0 ?_)
  | refine t_Pass ?_
  | refine t_Dict0 fun _ _ _ => ?_
  | refine t_Try0 ?_
  | refine t_Assert ?_
  | refine t_JoinedStr ?_
  | refine t_jpE ?_
  | refine t_jpE0 ?_
  | refine t_jpCons ?_
  | refine t_FmtStr ?_
  | (refine t_AssignSub ?_ ?k1; (case k1 => with_unfolding_all rfl))
  | (refine' t_use ?k1 ?_; (case k1 => assumption))
  | fail)
local macro_rules | `(tactic| walk_at "go") => `(tactic| repeat' (walk_at "st"))
local macro_rules | `(tactic| walk_at "gT") => `(tactic| repeat' ((fail_if_success (with_reducible refine t_Try0 ?_)); walk_at "st"))
local macro_rules | `(tactic| walk_at "g0") => `(tactic| repeat' ((fail_if_success (with_reducible refine t_If ?_)); walk_at "st"))
local macro_rules | `(tactic| walk_at "lka") => `(tactic| ((repeat' (with_reducible refine And.intro ?_ ?_)) <;> first | walk_at "lk" | exact ⟨_, by walk_at "lk"⟩))
local macro_rules | `(tactic| walk_at "mm") => `(tactic| first | exact .head _ | exact .tail _ (.head _) | exact .tail _ (.tail _ (.head _)) | exact .tail _ (.tail _ (.tail _ (.head _))) | exact .tail _ (.tail _ (.tail _ (.tail _ (.head _)))))
local macro_rules | `(tactic| walk_at "mb") => `(tactic| first | exact .head _ | assumption | exact List.mem_append_left _ (by assumption) | (refine .tail _ ?_; walk_at "mb") | (refine List.mem_append_right _ ?_; walk_at "mb"))

theorem flat_len : ∀ xs : List W, xs.length ≤ ((xs.map (· ++ [45])).flatten : W).length
  | [] => Nat.zero_le _
  | x :: r => by
    have := flat_len r
    rw [List.map_cons, List.flatten_cons, List.length_append, List.length_append]
    simp only [List.length_cons, List.length_nil]
    (first | lia | omega)
theorem CutI.len {body : W} {i : Nat} {xs : List W} (c : CutI body i xs) : xs.length ≤ body.length := by
  have h1 := congrArg List.length c.pre
  rw [List.length_append] at h1
  have := flat_len xs
  (first | lia | omega)
theorem v_inTupStrs {prog : Program} {w : World} {c : FC} {m : Loc} {news : Led'} {E : Led' → Value → Shared → Prop} {Q : Value → Loc → Led' → Prop} {t : Tok} {a : Addr} {vs : List Value} {n : Nat} {xs : List (List Nat)} {x : List Nat} (ha : There c news a (tup vs n)) (hv : Strs vs xs) (h : Q (.bool (decide (x ∈ xs))) m news) : Tr (model prog w) c (compareOp .In (.str (S x) t) (.ref a)) m news Q E := fun k s l =>
  PySem.SeqAt.in_tupleAt (isStrOf (S x)) ⟨_, ha.get l, rfl, n, rfl⟩ (fun y hy => by
    refine t_box fun gbx hbx => ?_
    obtain ⟨b, _, hb⟩ := Paired.left hv y (by simpa using hy)
    refine hbx ?_
    clear hbx gbx
    cases hb
    exact PySem.SeqAt.EqAt.str_str _ _ _ _) (by rw [any_strs x hv]; exact ⟨m, news, l, h⟩)
theorem esc_plain {body : W} (h : Plain body) : Plain (esc body) := fun c hc => by
  unfold esc at hc
  split at hc
  · rcases List.mem_cons.mp hc with rfl | hc
    · decide
    · exact h c hc
  · exact h c hc
theorem esc_head {body : W} (B : SetOk body) : ∃ e0 er, esc body = e0 :: er ∧ e0 ≠ 33 ∧ e0 ≠ 94 ∧ e0 ≠ 91 := by
  unfold esc
  split
  · exact ⟨92, body, rfl, by decide, by decide, by decide⟩
  · have hne := B.ne
    have hh := B.head
    cases body with
    | nil => exact absurd rfl hne
    | cons a r => exact ⟨a, r, rfl, hh a rfl⟩
theorem esc_len {body : W} : (esc body).length ≤ body.length + 1 := by
  unfold esc
  split
  · simp
  · (first | lia | omega)
theorem range_down {n : Nat} (h : n ≤ 100000) : Builtin.Range.rangeSize (n : Int) 0 (-1) = n := by
  unfold Builtin.Range.rangeSize
  rw [if_neg (by decide), show (-(-1) : Int) = 1 from rfl, Int.ediv_one]
  split <;> (first | lia | omega)
theorem small_down {n : Nat} (h : n ≤ 100000) : Builtin.Range.small (n : Int) 0 (-1) = true := by
  unfold Builtin.Range.small
  rw [range_down h]
  simp only [Builtin.Range.rangeFitsLong, Bool.and_eq_true, Bool.or_eq_true, decide_eq_true_eq, beq_iff_eq, show ¬ ((-1 : Int) > 0) by decide, if_false]
  (first | lia | omega)
structure TrS (pat out : W) (r : Nat) (m : Loc) (n : Led') : Prop where
  h1 : ∃ t, m "pat" = some (.str (S pat) t)
  h3 : ∃ t, m "n" = some (.int (pat.length : Nat) t)
  rest : ∃ j res b rv e t, ((r = 1 ∧ j = 0 ∧ rv = []) ∨ (r = 0 ∧ j = pat.length ∧ Strs rv [out])) ∧ m "i" = some (.int (j : Nat) t) ∧ m "res" = some (.ref res) ∧ m "add" = some (.ref b) ∧ n = [(b, bndO "list.append" (.ref res)), (res, lst rv e)]
structure Bs (pat : W) (res b : Addr) (i j : Nat) (m : Loc) : Prop where
  hp : ∃ t, m "pat" = some (.str (S pat) t)
  hn : ∃ t, m "n" = some (.int (pat.length : Nat) t)
  hi : ∃ t, m "i" = some (.int (i : Nat) t)
  hj : ∃ t, m "j" = some (.int (j : Nat) t)
  hr : m "res" = some (.ref res)
  ha : m "add" = some (.ref b)
structure ChJ (pat body : W) (res b ch : Addr) (e : Nat) (r i : Nat) (xs : List W) (m : Loc) (n : Led') : Prop where
  cut : CutI body i xs
  me : i + r = body.length
  bs : Bs pat res b (i + 1) (body.length + 1) m
  hc : m "chunks" = some (.ref ch)
  hn : ∃ cv e2, n = [(ch, lst cv e2), (b, bndO "list.append" (.ref res)), (res, lst [] e)] ∧ Strs cv xs
structure MgJ (pat body : W) (res b ch : Addr) (e : Nat) (i e7 : Nat) (cvf : List Value) (_ : Nat) (m : Loc) (n : Led') : Prop where
  bs : Bs pat res b (i + 1) (body.length + 1) m
  hc : m "chunks" = some (.ref ch)
  hn : n = [(ch, lst cvf e7), (b, bndO "list.append" (.ref res)), (res, lst [] e)]
set_option maxHeartbeats 4000000 in
theorem spec_trS {prog : Program} {w : World} {G : Gl} {a P pt cc st : Addr} {t t2 : Tok} {body : W} (B : SetOk body) :
    SpecT (model prog w) G 1 a [.str (S (91 :: (body ++ [93]))) t, .ref st, .str (S (L ".")) t2] P (fun h => FnIs G h 8 a ∧ G.mg "_twin_re_1" = some (.ref pt) ∧ PatAt h pt ∧ BM G h ∧ (∃ o pm doc, h.get? a = some o ∧ o.data = .func (docDef (nameOf 8) (paramsOf 8) (bodyOf 8) (scopeOf 8) pm (.ref cc) doc)) ∧ CodeOk h cc P)
      (fun r out => ∃ d vs n, r = .ref d ∧ out = [(d, lst vs n)] ∧ Strs vs [91 :: (esc body ++ [93])]) := by
  refine spec_ofT (binds := [("pat", .str (S (91 :: (body ++ [93]))) t), ("STAR", .ref st), ("QUESTION_MARK", .str (S (L ".")) t2)]) (fun h _ hp => hp.1) (fun _ _ _ => rfl) (locs rfl) (by decide +kernel) ?_
  intro c F T ⟨_, hpt, hpa, hbm, ⟨of, pmf, docf, hof, hdf⟩, hcok⟩ ⟨o', pm', cd', doc', ho', hd', hcd'⟩
  have hcode : c.env.code = .ref cc := by
    rw [hof] at ho'; cases ho'
    rw [hdf] at hd'
    injection hd' with e
    rw [hcd']
    exact (congrArg FuncData.code e).symm
  have X_int := F.inter
  have X_env := F.env
  have L_pat : LocN c "pat" := F.loc (by decide +kernel)
  have L_res : LocN c "res" := F.loc (by decide +kernel)
  have L_add : LocN c "add" := F.loc (by decide +kernel)
  have L_i : LocN c "i" := F.loc (by decide +kernel)
  have L_n : LocN c "n" := F.loc (by decide +kernel)
  have L_c : LocN c "c" := F.loc (by decide +kernel)
  have L_j : LocN c "j" := F.loc (by decide +kernel)
  have L_k : LocN c "k" := F.loc (by decide +kernel)
  have L_stuff : LocN c "stuff" := F.loc (by decide +kernel)
  have L_chunks : LocN c "chunks" := F.loc (by decide +kernel)
  have L_chunk : LocN c "chunk" := F.loc (by decide +kernel)
  have N_len : Nm c "len" (.builtin "len") := F.bnm (by decide +kernel) (by decide +kernel)
  have N_range : Nm c "range" (.type "range") := F.bnm (by decide +kernel) (by decide +kernel)
  have N_re : Nm c "_twin_re_1" (.ref pt) := F.gnm (by decide +kernel) hpt
  have hpl : (91 :: (body ++ [93])).length = body.length + 2 := by simp
  have hbl := B.len
  have hb0 : 0 < body.length := by have := B.ne; cases body with | nil => exact absurd rfl this | cons a b => simp
  have hsz : 16777216 ≤ sizeLine := by decide +kernel
  refine t_cons ?_
  walk_at "go"
  refine ⟨Nat.zero_le _, fun res => ?_⟩
  walk_at "go"
  refine t_Attr ?_ (by with_unfolding_all rfl) ⟨_, _, rfl⟩
  walk_at "go"
  refine v_attrAppend (.new (by walk_at "mm")) fun b => ?_
  walk_at "go"
  refine t_AssignPair F.hn L_i L_n ?_ (by with_unfolding_all rfl) (by obtain ⟨nm, a', cd, e⟩ := X_env; rw [e]; with_unfolding_all rfl)
  walk_at "go"
  refine v_lenStr (by rw [hpl]; (first | lia | omega)) fun _ => ?_
  walk_at "go"
  refine ⟨show 2 ≤ sizeLine by (first | lia | omega), fun tp => ⟨tp, _, _, 0, rfl, .inr (by walk_at "mm"), ?_⟩⟩
  walk_at "go"
  refine t_While (TrS (91 :: (body ++ [93])) (91 :: (esc body ++ [93]))) ⟨1, [(b, bndO "list.append" (.ref res)), (res, lst [])], List.sublist_cons_self _ _, ⟨⟨_, by walk_at "lk"⟩, ⟨_, by walk_at "lk"⟩, 0, res, b, [], 0, _, .inl ⟨rfl, rfl, rfl⟩, by walk_at "lk", by walk_at "lk", by walk_at "lk", rfl⟩⟩ ?_ passesNope
  rintro r m n xB1
  refine t_box fun gbx hbx => ?_
  obtain ⟨⟨tp1, h1⟩, ⟨tn, h3⟩, j, res, b, rv, e, ti, hcase, h4, h5, h6, eB0⟩ := xB1
  refine hbx ?_
  clear hbx gbx
  subst eB0
  have q0 : (91 :: (body ++ [93]))[0]? = some 91 := rfl
  have qs : ∀ q, q < body.length → (91 :: (body ++ [93]))[q + 1]? = body[q]? := fun q hq => by
    rw [List.getElem?_cons_succ, List.getElem?_append_left hq]
  have qe : (91 :: (body ++ [93]))[body.length + 1]? = some 93 := by
    rw [List.getElem?_cons_succ, List.getElem?_append_right (Nat.le_refl _)]; simp
  obtain ⟨b0, hb0'⟩ : ∃ b0, body[0]? = some b0 := ⟨body[0], List.getElem?_eq_getElem hb0⟩
  have q1 : (91 :: (body ++ [93]))[1]? = some b0 := by rw [qs 0 hb0]; exact hb0'
  refine t_box fun gbx hbx => ?_
  obtain ⟨hh1, hh3, hh4⟩ := B.head b0 hb0'
  refine hbx ?_
  clear hbx gbx
  have hh2 := (B.chars b0 (List.mem_of_getElem? hb0')).2
  generalize hpat : 91 :: (body ++ [93]) = pat at *
  rw [hpl] at h3
  rcases hcase with ⟨rfl, rfl, rfl⟩ | ⟨rfl, rfl, hs⟩
  · walk_at "go"
    refine t_ite (fun _ => ?_) (fun hb => by have := of_decide_eq_false hb; (first | lia | omega))
    walk_at "go"
    refine t_tailStr (j := 0) (y := 91) (by decide) (by rw [hpl]; exact idx_nat (k := 0) (by (first | lia | omega))) q0 (fun _ => ?_) (by with_unfolding_all rfl)
    walk_at "go"
    have n1 : ((0 : Nat) : Int) + 1 < ((body.length + 2 : Nat) : Int) := by (first | lia | omega)
    have z1 : ((0 : Nat) : Int) + 1 = ((1 : Nat) : Int) := rfl
    refine t_ite (fun _ => ?_) (fun hb => absurd n1 (of_decide_eq_false hb))
    walk_at "go"
    refine t_tailStr (j := 1) (y := b0) (by decide) (by rw [hpl]; exact idx_nat (k := 1) (by (first | lia | omega))) q1 (fun _ => ?_) (by with_unfolding_all rfl)
    walk_at "go"
    refine t_ite (fun hb => absurd (of_decide_eq_true hb) (by intro e; exact hh1 (by injection e))) (fun _ => ?_)
    walk_at "go"
    refine t_ite (fun _ => ?_) (fun hb => absurd n1 (of_decide_eq_false hb))
    walk_at "go"
    refine t_tailStr (j := 1) (y := b0) (by decide) (by rw [hpl]; exact idx_nat (k := 1) (by (first | lia | omega))) q1 (fun _ => ?_) (by with_unfolding_all rfl)
    walk_at "go"
    refine t_ite (fun hb => absurd (of_decide_eq_true hb) (by intro e; exact hh2 (by injection e))) (fun _ => ?_)
    walk_at "go"
    refine t_mid (fun m' n' => Bs pat res b 1 (body.length + 1) m' ∧ n' = [(b, bndO "list.append" (.ref res)), (res, lst [] e)]) ?_ ?_
    · refine t_While (fun r m' n' => ∃ j, j + r = body.length + 1 ∧ 1 ≤ j ∧ Bs pat res b 1 j m' ∧ n' = [(b, bndO "list.append" (.ref res)), (res, lst [] e)]) ⟨body.length, _, List.Sublist.refl _, 1, by (first | lia | omega), by (first | lia | omega), ⟨⟨_, by walk_at "lk"⟩, ⟨_, by rw [hpl]; walk_at "lk"⟩, ⟨_, by walk_at "lk"⟩, ⟨_, by walk_at "lk"⟩, by walk_at "lk", by walk_at "lk"⟩, rfl⟩ ?_ passesNope
      rintro r m' _ xB1
      refine t_box fun gbx hbx => ?_
      obtain ⟨j, hjr, hj1, ⟨⟨_, g1⟩, ⟨_, g2⟩, ⟨_, g3⟩, ⟨_, g4⟩, g5, g6⟩, eB0⟩ := xB1
      refine hbx ?_
      clear hbx gbx
      subst eB0
      rw [hpl] at g2
      walk_at "go"
      refine t_ite (fun _ => ?_) (fun hb => absurd (of_decide_eq_false hb) (by (first | lia | omega)))
      walk_at "go"
      by_cases hje : j = body.length + 1
      · subst hje
        refine t_tailStr (j := body.length + 1) (y := 93) (by (first | lia | omega)) (by rw [hpl]; exact idx_nat (by (first | lia | omega))) qe (fun _ => ?_) (by with_unfolding_all rfl)
        walk_at "go"
        exact ⟨⟨⟨_, g1⟩, ⟨_, by rw [hpl]; exact g2⟩, ⟨_, g3⟩, ⟨_, g4⟩, g5, g6⟩, rfl⟩
      · obtain ⟨j', rfl⟩ : ∃ j', j = j' + 1 := ⟨j - 1, by (first | lia | omega)⟩
        have hj' : j' < body.length := by (first | lia | omega)
        have hbj : body[j']? = some body[j'] := List.getElem?_eq_getElem hj'
        refine t_tailStr (j := j' + 1) (y := body[j']) (by (first | lia | omega)) (by rw [hpl]; exact idx_nat (by (first | lia | omega))) (by rw [qs j' hj']; exact hbj) (fun _ => ?_) (by with_unfolding_all rfl)
        walk_at "go"
        refine t_ite (fun _ => ?_) (fun hb => ?_)
        · walk_at "go"
          refine ⟨r - 1, by (first | lia | omega), _, List.Sublist.refl _, j' + 1 + 1, by (first | lia | omega), by (first | lia | omega), ⟨⟨_, by walk_at "lk"⟩, ⟨_, by rw [hpl]; walk_at "lk"⟩, ⟨_, by walk_at "lk"⟩, ⟨_, by walk_at "lk"⟩, by walk_at "lk", by walk_at "lk"⟩, rfl⟩
        · have hne := (B.chars _ (List.mem_of_getElem? hbj)).2
          exact absurd hb (by simp only [Bool.not_eq_false', decide_eq_true_eq]; intro e; exact hne (by injection e))
    rintro m' _ xB1
    refine t_box fun gbx hbx => ?_
    obtain ⟨⟨⟨_, g1⟩, ⟨_, g2⟩, ⟨_, g3⟩, ⟨_, g4⟩, g5, g6⟩, eB0⟩ := xB1
    refine hbx ?_
    clear hbx gbx
    subst eB0
    rw [hpl] at g2
    walk_at "go"
    refine t_ite (fun hb => absurd (of_decide_eq_true hb) (by (first | lia | omega))) (fun _ => ?_)
    walk_at "go"
    refine t_strSlice ?_ (by intro _ _; rfl)
    walk_at "go"
    refine ⟨_, _, _, _, rfl, .int 1 _, .int _ _, by rw [S_len, hpl]; (first | lia | omega), fun t' => ?_⟩
    have hslice : Txt.slice (S pat) (some ((1 : Nat) : Int)) (some ((body.length + 1 : Nat) : Int)) = S body := by
      rw [S_slice (by (first | lia | omega)) (by rw [hpl]; (first | lia | omega)), ← hpat]
      unfold cut
      rw [List.drop_succ_cons, List.drop_zero]
      simp
    rw [show (1 : Int) = ((1 : Nat) : Int) from rfl, hslice]
    walk_at "go"
    refine v_notInText (ch := 45) ?_
    walk_at "go"
    refine t_ite (fun hb => absurd hb (by simp [B.has])) (fun _ => ?_)
    walk_at "go"
    refine ⟨Nat.zero_le _, fun ch => ?_⟩
    walk_at "go"
    refine t_tailStr (j := 1) (y := b0) (by decide) (by rw [hpl]; exact idx_nat (k := 1) (by (first | lia | omega))) q1 (fun _ => ?_) (by with_unfolding_all rfl)
    walk_at "go"
    refine t_ite (fun hb => absurd (of_decide_eq_true hb) (by intro e; exact hh1 (by injection e))) (fun _ => ?_)
    walk_at "go"
    refine t_mid (fun m' n' => ∃ r i xs, ChJ pat body res b ch e r i xs m' n' ∧ (∀ q, i + gap xs ≤ q → q < body.length → body[q]? ≠ some 45)) ?_ ?_
    · refine t_While (fun r m' n' => ∃ i xs, ChJ pat body res b ch e r i xs m' n' ∧ ∃ t, m' "k" = some (.int (i + 1 + gap xs : Nat) t)) ⟨body.length, _, List.Sublist.refl _, 0, [], ⟨.start B, by (first | lia | omega), ⟨⟨_, by walk_at "lk"⟩, ⟨_, by rw [hpl]; walk_at "lk"⟩, ⟨_, by walk_at "lk"⟩, ⟨_, by walk_at "lk"⟩, by walk_at "lk", by walk_at "lk"⟩, by walk_at "lk", ⟨_, _, rfl, .nil⟩⟩, ⟨_, by walk_at "lk"⟩⟩ ?_ passesNope
      rintro r m' _ xB1
      refine t_box fun gbx hbx => ?_
      obtain ⟨i, xs, ⟨hcut, hme, ⟨⟨_, g1⟩, ⟨_, g2⟩, ⟨_, g3⟩, ⟨_, g4⟩, g5, g6⟩, g7, cv, e2, eB0, hcv⟩, _, g8⟩ := xB1
      refine hbx ?_
      clear hbx gbx
      subst eB0
      rw [hpl] at g2
      have hile := hcut.le
      have hxsl : cv.length ≤ 5000 := by
        rw [Paired.length hcv]; have := hcut.len; (first | lia | omega)
      walk_at "go"
      refine t_methS PySem.F.slot_str_find PySem.F.type_str_find ?_
      walk_at "go"
      refine v_findTo (x := pat) (ch := 45) (by rw [hpl]; (first | lia | omega)) (fun hno t6 => ?_) (fun ip hi1 hi2 hi3 hno t6 => ?_)
      · walk_at "go"
        refine ⟨rfl, r, i, xs, ⟨hcut, hme, ⟨⟨_, by walk_at "lk"⟩, ⟨_, by rw [hpl]; walk_at "lk"⟩, ⟨_, by walk_at "lk"⟩, ⟨_, by walk_at "lk"⟩, by walk_at "lk", by walk_at "lk"⟩, by walk_at "lk", ⟨_, _, rfl, hcv⟩⟩, fun q h1 h2 h3 => hno (q + 1) (by (first | lia | omega)) (by (first | lia | omega)) (by rw [qs q (by (first | lia | omega))]; exact h3)⟩
      · obtain ⟨p, rfl⟩ : ∃ p, ip = p + 1 := ⟨ip - 1, by (first | lia | omega)⟩
        have hp2 : p < body.length := by (first | lia | omega)
        rw [qs p hp2] at hi3
        have hstep := hcut.step B (p := p) (by (first | lia | omega)) hp2 hi3 (fun q h1 h2 h3 => hno (q + 1) (by (first | lia | omega)) (by (first | lia | omega)) (by rw [qs q (by (first | lia | omega))]; exact h3))
        walk_at "go"
        refine t_methL (.new (by walk_at "mm")) PySem.F.slot_list_append PySem.F.type_list_append ?_
        walk_at "go"
        refine t_strSlice ?_ (by intro _ _; rfl)
        walk_at "go"
        refine ⟨_, _, _, _, rfl, .int _ _, .int _ _, by rw [S_len, hpl]; (first | lia | omega), fun t' => ?_⟩
        have hsl : Txt.slice (S pat) (some ((i + 1 : Nat) : Int)) (some ((p + 1 : Nat) : Int)) = S (cut body i p) := by
          rw [S_slice (by (first | lia | omega)) (by rw [hpl]; (first | lia | omega)), ← hpat]
          unfold cut
          rw [List.drop_succ_cons, List.drop_append_of_le_length (by (first | lia | omega)), show p + 1 - (i + 1) = p - i by (first | lia | omega), List.take_append_of_le_length (by rw [List.length_drop]; (first | lia | omega))]
        rw [hsl]
        walk_at "go"
        refine v_append (i := 0) rfl (by (first | lia | omega)) fun e7 => ?_
        walk_at "go"
        have hgp : gap (xs ++ [cut body i p]) = 2 := if_neg (by simp)
        refine ⟨body.length - (p + 1), by (first | lia | omega), _, List.Sublist.refl _, p + 1, _, ⟨hstep, by (first | lia | omega), ⟨⟨_, by walk_at "lk"⟩, ⟨_, by rw [hpl]; walk_at "lk"⟩, ⟨_, by walk_at "lk"⟩, ⟨_, by walk_at "lk"⟩, by walk_at "lk", by walk_at "lk"⟩, by walk_at "lk", ⟨_, _, rfl, Paired.snoc hcv (.mk _ _)⟩⟩, ⟨_, by
          rw [hgp, show ((p + 1 + 1 + 2 : Nat) : Int) = ((p + 1 : Nat) : Int) + 3 by (first | lia | omega)]
          walk_at "lk"⟩⟩
    rintro m' _ xB1
    refine t_box fun gbx hbx => ?_
    obtain ⟨r, i, xs, ⟨hcut, hme, ⟨⟨_, g1⟩, ⟨_, g2⟩, ⟨_, g3⟩, ⟨_, g4⟩, g5, g6⟩, g7, cv, e2, eB0, hcv⟩, hno⟩ := xB1
    refine hbx ?_
    clear hbx gbx
    subst eB0
    rw [hpl] at g2
    have hile := hcut.le
    refine t_box fun gbx hbx => ?_
    obtain ⟨hl1, hl2, hl3, hl4⟩ := hcut.last B hno
    refine hbx ?_
    clear hbx gbx
    have hxl := hcut.len
    have hcl := Paired.length hcv
    walk_at "go"
    refine t_strSlice ?_ (by intro _ _; rfl)
    walk_at "go"
    refine ⟨_, _, _, _, rfl, .int _ _, .int _ _, by rw [S_len, hpl]; (first | lia | omega), fun t' => ?_⟩
    have hsl : Txt.slice (S pat) (some ((i + 1 : Nat) : Int)) (some ((body.length + 1 : Nat) : Int)) = S (body.drop i) := by
      rw [S_slice (by (first | lia | omega)) (by rw [hpl]; (first | lia | omega)), ← hpat]
      unfold cut
      rw [List.drop_succ_cons, List.drop_append_of_le_length (by (first | lia | omega)), List.take_append_of_le_length (by rw [List.length_drop]; (first | lia | omega)), List.take_of_length_le (by rw [List.length_drop]; (first | lia | omega))]
    rw [hsl]
    walk_at "go"
    refine v_truthyStr (by rw [List.length_drop]; (first | lia | omega)) ?_
    walk_at "go"
    refine t_ite (fun _ => ?_) (fun hb => absurd hb (by
      rw [Bool.not_eq_false', List.isEmpty_iff, List.drop_eq_nil_iff]
      (first | lia | omega)))
    walk_at "go"
    refine t_methL (.new (by walk_at "mm")) PySem.F.slot_list_append PySem.F.type_list_append ?_
    walk_at "go"
    refine v_append (i := 0) rfl (by (first | lia | omega)) fun e7 => ?_
    walk_at "go"
    refine t_mid (MgJ pat body res b ch e i e7 (cv ++ [.str (S (body.drop i)) t']) 0) ?_ ?_
    · have hX : Strs (cv ++ [.str (S (body.drop i)) t']) (xs ++ [body.drop i]) := Paired.snoc hcv (.mk _ _)
      refine t_For L_k (n := xs.length) (P := fun q v => ∃ t, v = .int ((xs.length : Int) + q * (-1)) t) (fpo := []) (MgJ pat body res b ch e i e7 (cv ++ [.str (S (body.drop i)) t'])) ?_ (fun _ _ _ _ p hp => (nomatch hp)) ?_ (fun m' n' h => ⟨rfl, h.1, h.2, h.3⟩) (fun _ => rfl) passesNope (fun _ _ _ _ h => h)
      · walk_at "go"
        refine v_lenList (.new (by walk_at "mm")) (by rw [List.length_append, hcl]; simp; (first | lia | omega)) fun t8 => ?_
        walk_at "go"
        refine v_range3 (by decide) (PyProof.noPylong_small (by decide)) fun r' t9 u9 v9 => ?_
        have hN : ((cv ++ [.str (S (body.drop i)) t'] : List Value).length : Int) - 1 = (xs.length : Int) := by
          rw [List.length_append, hcl]; simp
        have hN' := hN
        rw [show (1 : Int) = ((1 : Nat) : Int) from rfl] at hN'
        first | rw [hN] | rw [hN'] | (simp only [Int.ofNat_eq_natCast] at *; rw [hN])
        refine ⟨itOk_range F.hn (.inr (.head _)) (small_down (by (first | lia | omega))) (range_down (by (first | lia | omega))), _, List.sublist_cons_self _ _, ⟨⟨⟨_, by walk_at "lk"⟩, ⟨_, by rw [hpl]; walk_at "lk"⟩, ⟨_, by walk_at "lk"⟩, ⟨_, by walk_at "lk"⟩, by walk_at "lk", by walk_at "lk"⟩, by walk_at "lk", rfl⟩⟩
      · rintro q v m' _ hq xB1 xB2
        refine t_box fun gbx hbx => ?_
        obtain ⟨tv, eB0⟩ := xB1
        obtain ⟨⟨⟨_, g1⟩, ⟨_, g2⟩, ⟨_, g3⟩, ⟨_, g4⟩, g5, g6⟩, g7, eB1⟩ := xB2
        refine hbx ?_
        clear hbx gbx
        subst eB0
        subst eB1
        rw [hpl] at g2
        obtain ⟨k, hk, hkq⟩ : ∃ k : Nat, k < xs.length ∧ (xs.length : Int) + q * (-1) = ((k + 1 : Nat) : Int) := ⟨xs.length - q - 1, by (first | lia | omega), by (first | lia | omega)⟩
        rw [hkq]
        have hXl : (xs ++ [body.drop i]).length = xs.length + 1 := by simp
        have hx0 : (xs ++ [body.drop i])[k]? = some (xs ++ [body.drop i])[k] := List.getElem?_eq_getElem (by (first | lia | omega))
        have hx1 : (xs ++ [body.drop i])[k + 1]? = some (xs ++ [body.drop i])[k + 1] := List.getElem?_eq_getElem (by (first | lia | omega))
        have y1 := hl3 k _ hk hx0
        have c0 := (hl1 _ (List.mem_of_getElem? hx0)).1.2.1
        have c1 := (hl1 _ (List.mem_of_getElem? hx1)).1.2.1
        refine t_box fun gbx hbx => ?_
        obtain ⟨dg, y2, y3, y4⟩ := hl2 k _ hx1
        refine hbx ?_
        clear hbx gbx
        refine t_box fun gbx hbx => ?_
        obtain ⟨v0, hv0, w0⟩ := Paired.get2 hX hx0
        refine hbx ?_
        clear hbx gbx
        refine t_box fun gbx hbx => ?_
        obtain ⟨v1, hv1, w1⟩ := Paired.get2 hX hx1
        refine hbx ?_
        clear hbx gbx
        generalize (xs ++ [body.drop i])[k] = x0 at *
        generalize (xs ++ [body.drop i])[k + 1] = x1 at *
        cases w0 with | mk _ ta =>
        cases w1 with | mk _ tb =>
        walk_at "go"
        refine t_tailList (.new (by walk_at "mm")) (by (first | lia | omega)) (by (first | lia | omega)) (by rw [show (((k + 1 : Nat) : Int) - ((1 : Nat) : Int)).toNat = k by (first | lia | omega)]; exact hv0) ?_ (by with_unfolding_all rfl)
        walk_at "go"
        have hx0p : 0 < x0.length := by cases x0 with | nil => cases y1 | cons _ _ => simp
        refine t_tailStr (j := x0.length - 1) (y := 32) (by decide) (idx_neg (k := 1) (by (first | lia | omega)) hx0p) (by rw [← List.getLast?_eq_getElem?]; exact y1) (fun _ => ?_) (by with_unfolding_all rfl)
        walk_at "go"
        refine t_tailList (.new (by walk_at "mm")) (by (first | lia | omega)) (by (first | lia | omega)) (by rw [show ((k + 1 : Nat) : Int).toNat = k + 1 by (first | lia | omega)]; exact hv1) ?_ (by with_unfolding_all rfl)
        walk_at "go"
        have hx1p : 0 < x1.length := by cases x1 with | nil => cases y2 | cons _ _ => simp
        refine t_tailStr (j := 0) (y := dg) (by decide) (idx_nat (k := 0) hx1p) (by rw [← List.head?_eq_getElem?]; exact y2) (fun _ => ?_) (by with_unfolding_all rfl)
        walk_at "go"
        refine t_ite (fun hb => ?_) (fun _ => ?_)
        · have := of_decide_eq_true hb
          exact absurd this (by
            intro hlt
            rw [List.cons_lt_cons_iff] at hlt
            rcases hlt with h | ⟨_, h⟩
            · (first | lia | omega)
            · exact absurd h (List.not_lt_nil _))
        walk_at "go"
        refine ⟨_, List.Sublist.refl _, ⟨⟨_, by walk_at "lk"⟩, ⟨_, by rw [hpl]; walk_at "lk"⟩, ⟨_, by walk_at "lk"⟩, ⟨_, by walk_at "lk"⟩, by walk_at "lk", by walk_at "lk"⟩, by walk_at "lk", rfl⟩
    rintro m' _ xB1
    refine t_box fun gbx hbx => ?_
    obtain ⟨⟨⟨_, g1⟩, ⟨_, g2⟩, ⟨_, g3⟩, ⟨_, g4⟩, g5, g6⟩, g7, eB0⟩ := xB1
    refine hbx ?_
    clear hbx gbx
    subst eB0
    rw [hpl] at g2
    walk_at "go"
    refine t_methS PySem.F.slot_str_join PySem.F.type_str_join ?_
    refine t_joinGen (G := G) (sep := L "-") F.hn (by have := F.dp; (first | lia | omega)) F.ok.nolimit F.ok.g F.gl hbm hcode hcok T.tabs T.tok ⟨by decide +kernel, by decide +kernel, by decide +kernel, by decide +kernel, by decide +kernel, by decide +kernel⟩ ?_ ?_ (by decide) (fun _ => rfl) ?_
    · intro cenv hsc A' s' m₂ x t' Q' E' hx hn hm hq
      exact elt_replace hx hn hm (by rw [hsc]) (by unfold Env.kindOf; rw [hsc]; decide +kernel) (by rfl) (by rfl) hq
    · walk_at "go"
      have hX : Strs (cv ++ [.str (S (body.drop i)) t']) (xs ++ [body.drop i]) := Paired.snoc hcv (.mk _ _)
      refine ⟨ch, _, _, rfl, .new (by walk_at "mm"), hX, fun x hx => (hl1 x hx).1, by rw [List.length_append]; simp; (first | lia | omega), fun t8 => ?_⟩
      rw [show L "-" = [45] from rfl, hl4]
      walk_at "go"
      refine t_methRe hpa ?_
      walk_at "go"
      refine t_Lambda T F.ok.g F.gl hbm hcode hcok (by rfl) (closureFor_none (by decide +kernel)) fun fa fo hfo => ?_
      walk_at "go"
      have hel := esc_len (body := body)
      have hepl := esc_plain B.plain
      refine t_box fun gbx hbx => ?_
      obtain ⟨e0, er, hee, he1, he2, he3⟩ := esc_head B
      refine hbx ?_
      clear hbx gbx
      refine v_reSub hpa (.head _) hfo (by rw [hee]; simp) (by (first | lia | omega)) hepl fun t9 => ?_
      walk_at "go"
      refine v_truthyStr (by (first | lia | omega)) ?_
      refine t_ite (fun hb => absurd hb (by rw [hee]; simp)) (fun _ => ?_)
      walk_at "go"
      refine t_ite (fun hb => absurd (of_decide_eq_true hb) (by rw [hee]; intro h; injection h with h1 h2; exact he1 h1)) (fun _ => ?_)
      walk_at "go"
      refine t_tailStr (j := 0) (y := e0) (by decide) (idx_nat (k := 0) (by rw [hee]; simp)) (by rw [hee]; rfl) (fun _ => ?_) (by with_unfolding_all rfl)
      walk_at "go"
      refine t_ite (fun hb => absurd (of_decide_eq_true hb) (by intro h; injection h with h1 h2; exact he1 h1)) (fun _ => ?_)
      walk_at "go"
      refine t_tailStr (j := 0) (y := e0) (by decide) (idx_nat (k := 0) (by rw [hee]; simp)) (by rw [hee]; rfl) (fun _ => ?_) (by with_unfolding_all rfl)
      walk_at "go"
      refine ⟨show 2 ≤ sizeLine by (first | lia | omega), fun aT => ?_⟩
      refine v_inTupStrs (x := [e0]) (xs := [L "^", L "["]) (.inr (.head _)) ?_ ?_
      · exact .cons (.mk _ _) (.cons (.mk _ _) .nil)
      walk_at "go"
      refine t_ite (fun hb => absurd (of_decide_eq_true hb) (by
        intro h
        rcases List.mem_cons.mp h with h | h
        · injection h with h1 h2; exact he2 h1
        · have h := List.mem_singleton.mp h
          injection h with h1 h2; exact he3 h1)) (fun _ => ?_)
      walk_at "go"
      have e1 : (L "[").length = 1 := by decide
      have e2 : (L "]").length = 1 := by decide
      refine ⟨_, _, rfl, by rw [List.nil_append]; (first | lia | omega), ?_⟩
      walk_at "go"
      refine t_FmtStr ?_
      walk_at "go"
      refine ⟨_, _, rfl, by (first | lia | omega), fun t10 => ⟨_, _, rfl, by rw [List.nil_append, List.length_append]; (first | lia | omega), ?_⟩⟩
      walk_at "go"
      refine ⟨_, _, rfl, by rw [List.nil_append, List.length_append, List.length_append]; (first | lia | omega), ?_⟩
      walk_at "go"
      refine t_jpNil (by rw [List.nil_append, List.length_append, List.length_append]; (first | lia | omega)) fun t11 => ?_
      walk_at "go"
      refine ⟨.bound (.inr (by walk_at "mm")) rfl rfl, ?_⟩
      refine v_callAppend (i := 4) (.inr (by walk_at "mm")) rfl (by simp) fun e' => ?_
      walk_at "go"
      refine ⟨0, by (first | lia | omega), [(b, bndO "list.append" (.ref res)), (res, _)], (List.sublist_cons_self _ _).trans ((List.sublist_cons_self _ _).trans (List.sublist_cons_self _ _)), ⟨⟨_, by walk_at "lk"⟩, ⟨_, by rw [hpl]; walk_at "lk"⟩, pat.length, res, b, _, e', _, .inr ⟨rfl, rfl, ?_⟩, by rw [hpl]; walk_at "lk", by walk_at "lk", by walk_at "lk", rfl⟩⟩
      exact .cons (.mk _ _) .nil
    · rfl
  · walk_at "go"
    refine t_ite (fun hb => by have := of_decide_eq_true hb; rw [hpl] at this; (first | lia | omega)) (fun hb => ?_)
    walk_at "go"
    refine ⟨by rw [hpl]; simp, ?_⟩
    walk_at "go"
    exact ⟨_, List.sublist_cons_self _ _, res, rv, e, rfl, rfl, hs⟩
end Mine
end
section
open PySem PySem.W PyProof.Rows PySem.Calls
set_option maxRecDepth 100000
namespace Mine
section
variable {prog : Program} {w : World} {A : Around} {E : Value → Shared → Prop} {s : Shared} {Q : Value → Shared → Prop}
theorem mro_object : mroOf (.type "object") = pure [.type "object"] := by rw [mroOf_type]; kernel_rfl
theorem lk_object_new : typeLookup (.type "object") "__new__" = pure (some (.builtin "object.__new__")) := by rw [typeLookup_type, builtinLookup_eq_fast]; kernel_rfl
theorem sub_object : isSubtype (.type "object") (.type "object") = pure true := by rw [isSubtype_type]; kernel_rfl
theorem called_object : TypeCalled "object" "object.__new__" "object.__init__" :=
  ⟨by decide +kernel, by decide +kernel, ⟨_, _, mro_object⟩, madeBy_type mro_object lk_object_new (by decide +kernel), by decide +kernel, sub_object, PySem.F.slot_object_init⟩
theorem tc_object : checkTypeCall "object" ⟨[], []⟩ = pure () := by kernel_rfl
theorem nc_object : checkBuiltinCall "object.__new__" ⟨[.type "object"], []⟩ = pure () := by kernel_rfl
theorem plain_object_new : plainId "object.__new__" = true := by decide +kernel
theorem entry_onew : entryFor table "object.__new__" = some Builtin.«object.__new__» := entryFor_of_tree (by kernel_rfl)
theorem entry_oinit : entryFor table "object.__init__" = some Builtin.«object.__init__» := entryFor_of_tree (by kernel_rfl)
theorem args_oinit (a : Value) : argsOk "object.__init__" ⟨[a], []⟩ := by
  unfold argsOk; rw [signature?_of (id := "object.__init__") (n := "__init__".toList.reverse) (o := "object".toList.reverse) (rows := Manifest.sig_object) (by kernel_rfl) (by kernel_rfl)]; kernel_rfl
noncomputable abbrev objO : Obj := { cls := .type "object", data := .plain }
theorem code_object_new {Q₁ : Value → Shared → Prop} (h : Q₁ (.ref s.heap.objs.size) { s with heap := s.heap.push objO }) :
    codeAny (model prog w) A (.call (.builtin "object.__new__") ⟨[.type "object"], []⟩) (wants Q₁ E) s := by
  refine codeAny_call_builtin plain_object_new entry_onew (wpAny_of_eq nc_object ?_)
  have hsub := sub_object
  have hmro := mro_object
  have hlk := lk_object_new
  have hmade := called_object.made
  have hdot : (!("object.__new__".endsWith ".__new__")) = false := by decide +kernel
  obtain ⟨hp, g, d, tk, os⟩ := s
  unfold Builtin.«object.__new__»
  wp_walk
  exact h
theorem call_object (h : Q (.ref s.heap.objs.size) { s with heap := s.heap.push objO }) : wpAny (model prog w) A (call (.type "object") []) Q E s := by
  refine callType_codes (Q₁ := fun obj s₁ => obj = .ref s.heap.objs.size ∧ s₁ = { s with heap := s.heap.push objO }) called_object tc_object entry_oinit (code_object_new ⟨rfl, rfl⟩) ?_
  rintro obj s₁ ⟨rfl, rfl⟩
  refine ⟨⟨_, Heap.get?_push_size _ rfl, rfl⟩, args_oinit _, ?_⟩
  unfold Builtin.«object.__init__»
  exact wpAny_pure ⟨rfl, h⟩
end
end Mine
end
section
open PySem PySem.W PyProof.Rows PySem.Calls
set_option maxRecDepth 20000
set_option linter.unusedVariables false
namespace Mine
theorem v_object {prog : Program} {w : World} {c : FC} {m : Loc} {news : Led'} {E : Led' → Value → Shared → Prop} {Q : Value → Loc → Led' → Prop} (h : ∀ a, Q (.ref a) m ((a, objO) :: news)) : Tr (model prog w) c (call (.type "object") []) m news Q E := fun k s l =>
  call_object ⟨m, _, l.push rfl, h _⟩

set_option compiler.extract_closed false
local macro_rules | `(tactic| walk_at "lk") => `(tactic| first | assumption | exact upd_hit | (refine upd_miss (by decide) ?_; walk_at "lk") | (with_unfolding_all rfl))
local macro_rules | `(tactic| walk_at "nm") => `(tactic| with_reducible assumption)
local macro_rules | `(tactic| walk_at "st") => `(tactic| with_reducible first
  | (refine' t_ld ?k1 ?k2 ?_; (case k1 => walk_at "nm"); (case k2 => walk_at "lk"))
  | (refine' t_nm ?k1 ?_; (case k1 => walk_at "nm"))
  | refine t_IntC fun _ => ?_
  | refine t_StrS fun _ => ?_
  | refine t_BoolC ?_
  | refine t_NoneC ?_
  | refine t_cons ?_
  | refine t_after ?_
  | refine t_afterR ?_
  | refine t_afterB ?_
  | refine t_If ?_
  | (refine t_isCompare ?_ ?k1; (case k1 => with_unfolding_all rfl))
  | refine t_isAnd2 ?_
  | refine t_isOr2 ?_
  | refine t_isNot ?_
  | (refine t_isPlain ?_ ?k1; (case k1 => with_unfolding_all rfl))
  | refine t_truthy_bool ?_
  | (refine t_ifTrue ?k1 ?_; (case k1 => with_unfolding_all rfl))
  | (refine t_ifFalse ?k1 ?_; (case k1 => with_unfolding_all rfl))
  | (refine t_Assign ?_ ?k1; (case k1 => with_unfolding_all rfl))
  | (refine t_st ?k1 ?_; (case k1 => walk_at "nm"))
  | refine t_AugAssign ?_
  | (refine' t_ldn ?k1 ?k2 ?_; (case k1 => walk_at "nm"); (case k2 => walk_at "lk"))
  | refine t_BinOp ?_
  | (refine t_Compare ?_ ?k1; (case k1 => with_unfolding_all rfl))
  | (refine t_CallE ?_ ?k1; (case k1 => with_unfolding_all rfl))
  | (refine t_callWith0 ?k1 ?_; (case k1 => with_unfolding_all rfl))
  | (refine t_callWith1 ?k1 ?_; (case k1 => with_unfolding_all rfl))
  | (refine t_argS ?_ ?k1; (case k1 => with_unfolding_all rfl))
  | refine t_arg0 ?_
  | refine And.intro (KeepOk.builtin _) ?_
  | refine And.intro (KeepOk.type _) ?_
  | refine Exists.intro _ (And.intro rfl ?_)
  | refine t_Return ?_
  | refine t_IfExp ?_
  | refine t_UnaryOp ?_
  | (refine t_ExprStmt ?_ ?k1 ?k2; (case k1 => walk_at "nm"); (case k2 => with_unfolding_all rfl))
  | refine And.intro rfl ?_
  | refine t_Break ?_
  | refine t_nil ?_
  | refine v_eqInt ?_
  | refine v_neInt ?_
  | refine v_ltInt ?_
  | refine v_gtInt ?_
  | refine v_geInt ?_
  | refine v_eqStr ?_
  | refine v_neStr ?_
  | refine v_ltStr ?_
  | refine v_gtStr ?_
  | refine v_addInt fun _ => ?_
  | refine v_iaddInt fun _ => ?_
  | refine v_subInt fun _ => ?_
  | refine v_negInt fun _ => ?_
  | refine v_isNone ?_
  | (refine v_modPos ?k1 fun _ => ?_; (case k1 => decide))
  | (refine v_divSmall ?k1 fun _ => ?_; (case k1 => decide))
  | refine t_Tuple ?_
  | refine t_List ?_
  | ((fail_if_success (refine t_strSlice ?_ ?_)); (fail_if_success (refine t_listSliceS ?_ ?_)); refine t_Subscript ?_)
  | refine t_part0 ?_
  | refine t_part ?_
  | (refine v_is ?k1 ?_; (case k1 => with_unfolding_all rfl))
  | (refine v_isNot ?k1 ?_; (case k1 => with_unfolding_all rfl))
  | refine v_abs fun _ => ?_
  | refine v_isiIntInt ?_
  | refine v_isiStrInt ?_
  | (refine t_Method ?_ (by with_unfolding_all rfl))
  | (refine t_tests1 ?_)
  | (refine t_tests0 ?_)
  | refine t_Pass ?_
  | refine t_Dict0 fun _ _ _ => ?_
  | refine t_Try0 ?_
  | refine t_Assert ?_
  | refine t_JoinedStr ?_
  | refine t_jpE ?_
  | refine t_jpE0 ?_
  | refine t_jpCons ?_
  | refine t_FmtStr ?_
  | (refine t_AssignSub ?_ ?k1; (case k1 => with_unfolding_all rfl))
  | (refine' t_use ?k1 ?_; (case k1 => assumption))
  | fail)
local macro_rules | `(tactic| walk_at "go") => `(tactic| repeat' (walk_at "st"))
local macro_rules | `(tactic| walk_at "gT") => `(tactic| repeat' ((fail_if_success (with_reducible refine t_Try0 ?_)); walk_at "st"))
local macro_rules | `(tactic| walk_at "g0") => `(tactic| repeat' ((fail_if_success (with_reducible refine t_If ?_)); walk_at "st"))
local macro_rules | `(tactic| walk_at "lka") => `(tactic| ((repeat' (with_reducible refine And.intro ?_ ?_)) <;> first | walk_at "lk" | exact ⟨_, by walk_at "lk"⟩))
local macro_rules | `(tactic| walk_at "mm") => `(tactic| first | exact .head _ | exact .tail _ (.head _) | exact .tail _ (.tail _ (.head _)) | exact .tail _ (.tail _ (.tail _ (.head _))) | exact .tail _ (.tail _ (.tail _ (.tail _ (.head _)))))
local macro_rules | `(tactic| walk_at "mb") => `(tactic| first | exact .head _ | assumption | exact List.mem_append_left _ (by assumption) | (refine .tail _ ?_; walk_at "mb") | (refine List.mem_append_right _ ?_; walk_at "mb"))

theorem spec_trans {prog : Program} {w : World} {G : Gl} {a tr jn P : Addr} {t : Tok} {pat : W} {ps : List W} {d8 : Nat} {pre8 : Heap → Prop} (hz : ps.length ≤ 100) (hB : ∀ p ∈ ps, p.length ≤ 10000) (hd8 : d8 ≤ 2)
    (hk8 : ∀ h h' : Heap, (∀ b o, h.get? b = some o → h'.get? b = some o) → pre8 h → pre8 h')
    (S8 : ∀ st t t2, SpecT (model prog w) G d8 tr [.str (S pat) t, .ref st, .str (S (L ".")) t2] P pre8 (fun r out => ∃ d vs n, r = .ref d ∧ out = [(d, lst vs n)] ∧ Strs vs ps)) :
    SpecT (model prog w) G 3 a [.str (S pat) t] P (fun h => FnIs G h 3 a ∧ G.mg "_translate" = some (.ref tr) ∧ FnIs G h 8 tr ∧ G.mg "_join_translated_parts" = some (.ref jn) ∧ FnIs G h 9 jn ∧ pre8 h)
      (fun r out => out = [] ∧ ∃ t, r = .str (S (L "(?s:" ++ joinL [] ps ++ L ")\\Z")) t) := by
  refine spec_ofT (binds := [("pat", .str (S pat) t)]) (fun h _ hp => hp.1) (fun _ _ _ => rfl) (locs rfl) (by decide +kernel) ?_
  intro c F T ⟨_, htr, htrF, hjn, hjnF, hp8⟩ _
  have X_int := F.inter
  have X_env := F.env
  have L_pat : LocN c "pat" := F.loc (by decide +kernel)
  have L_STAR : LocN c "STAR" := F.loc (by decide +kernel)
  have L_parts : LocN c "parts" := F.loc (by decide +kernel)
  have N_object : Nm c "object" (.type "object") := F.bnm (by decide +kernel) (by decide +kernel)
  have N_tr : Nm c "_translate" (.ref tr) := F.gnm (by decide +kernel) htr
  have N_jn : Nm c "_join_translated_parts" (.ref jn) := F.gnm (by decide +kernel) hjn
  refine t_cons ?_
  walk_at "go"
  refine v_object fun st => ?_
  walk_at "go"
  refine t_box fun gbx hbx => ?_
  obtain ⟨oe, pm', cd', doc', ho, hdat, _⟩ := htrF.obj
  refine hbx ?_
  clear hbx gbx
  refine ⟨.fn (.inl ho) hdat, ?_⟩
  refine t_specT F.co T (S8 _ _ _) hd8 (fun k s l => hk8 _ _ (fun b o e => sub_hide T.hid l.old e) hp8) ?_
  rintro _ _ xB1
  refine t_box fun gbx hbx => ?_
  obtain ⟨d, vs, n, eB0, eB1, hvs⟩ := xB1
  refine hbx ?_
  clear hbx gbx
  subst eB0
  subst eB1
  walk_at "go"
  refine t_box fun gbx hbx => ?_
  obtain ⟨oe, pm', cd', doc', ho, hdat, _⟩ := hjnF.obj
  refine hbx ?_
  clear hbx gbx
  refine ⟨.fn (.inl ho) hdat, ?_⟩
  refine t_spec F.co (spec_join hvs hz hB) (by decide) (fun k s l => ⟨hjnF.keeps l.old, n, (l.nw _ (.head _)).1⟩) ?_
  rintro _ _ xB1
  refine t_box fun gbx hbx => ?_
  obtain ⟨eB0, tt, eB1⟩ := xB1
  refine hbx ?_
  clear hbx gbx
  subst eB0
  subst eB1
  walk_at "go"
  exact ⟨[], List.nil_sublist _, rfl, tt, rfl⟩
end Mine
end
section
open PySem PySem.W PyProof.Rows PySem.Calls
set_option maxRecDepth 20000
set_option linter.unusedVariables false
namespace Mine
noncomputable def noH : Heap := { objs := #[] }
theorem noH_none (b : Addr) : noH.get? b = none := Heap.get?_none_of_le (Nat.zero_le _)
/-- a frame in which an exception may be caught: the frames around it are among the tables -/
structure SX (c : FC) : Prop where
  stack : ∃ outer : List Env, c.A.frames = some (c.env :: outer) ∧ ∀ x ∈ outer, x.scope.kind ≠ .module ∧ ∃ b, x.frame = some b ∧ b ∈ c.tabs
  frame : c.env.frame = some c.env.locals
  kind : c.env.scope.kind ≠ .module
  tok : ∀ P o, c.tok P o → (∀ vs, o.data ≠ .fields vs) ∧ ∀ sl, c.tok P { o with slots := sl }
section
variable {M : Model} {c : FC} {k : Led'} {m : Loc} {news n : Led'} {s : Shared}
theorem SX.outer (X : SX c) (l : Ld c k m news s) : ∀ {outer : List Env}, (∀ x ∈ outer, x.scope.kind ≠ .module ∧ ∃ b, x.frame = some b ∧ b ∈ c.tabs) → s.heap.FunFrames noH outer ∧ ∀ b ∈ outer.filterMap (·.frame), b ∈ c.tabs
  | [], _ => ⟨trivial, fun _ h => (nomatch h)⟩
  | x :: r, h => by
    obtain ⟨h1, h2⟩ := X.outer l (outer := r) fun y hy => h y (.tail _ hy)
    obtain ⟨hk, b, hb, hbt⟩ := h x (.head _)
    obtain ⟨_, _, o, ho, ht⟩ := l.tb b hbt
    refine ⟨⟨hk, ⟨b, o, hb, noH_none _, ho, (X.tok _ _ ht).1⟩, h1⟩, fun y hy => ?_⟩
    rw [List.filterMap_cons, hb] at hy
    rcases List.mem_cons.mp hy with rfl | hy
    · exact hbt
    · exact h2 y hy
theorem SX.fun (X : SX c) (l : Ld c k m news s) : ∃ outer : List Env, c.A.frames = some (c.env :: outer) ∧ s.heap.FunFrames noH (c.env :: outer) ∧ ∀ b ∈ (c.env :: outer).filterMap (·.frame), b = c.env.locals ∨ b ∈ c.tabs := by
  obtain ⟨outer, h1, h2⟩ := X.stack
  obtain ⟨h3, h4⟩ := X.outer l h2
  refine ⟨outer, h1, Heap.FunFrames.cons X.kind X.frame l.ns (noH_none _) h3, fun b hb => ?_⟩
  rw [List.filterMap_cons, X.frame] at hb
  rcases List.mem_cons.mp hb with rfl | hb
  · exact .inl rfl
  · exact .inr (h4 b hb)
theorem Ld.slots (X : SX c) (l : Ld c k m news s) {S : List Addr} {h' : Heap} (hs : Heap.SlotsOnly S s.heap h') (hS : ∀ b ∈ S, b = c.env.locals ∨ b ∈ c.tabs) : Ld c k m news { s with heap := h' } := by
  have up : s.heap.UpToSlots h' := fun b o e _ => hs.2.2 b o e
  have nt : ∀ b, c.lo ≤ b → b ≠ c.env.locals → b ∉ S := fun b h1 h2 h3 => by
    rcases hS b h3 with h | h
    · exact h2 h
    · exact absurd (l.tb b h).1 (Nat.not_lt.mpr h1)
  refine ⟨up.ns l.ns, fun b o e => (hs.2.1 b fun h3 => ?_).trans (l.old b o e), l.above, l.locs, fun p hp => ?_, l.ord, fun p hp => ?_, l.gens, l.os, fun P hP => ?_⟩
  · rcases hS b h3 with h | h
    · subst h; exact absurd (Nat.lt_of_lt_of_le (Heap.lt_size e) l.above) (Nat.not_lt.mpr l.locs)
    · rw [(l.tb b h).2.1] at e; cases e
  · have z := l.nw p hp
    exact ⟨(hs.2.1 _ (nt _ z.2.1 z.2.2)).trans z.1, z.2⟩
  · have z := l.kp p hp
    exact ⟨(hs.2.1 _ (nt _ z.2.1 z.2.2.1)).trans z.1, z.2⟩
  · obtain ⟨a, b, o, d, e⟩ := l.tb P hP
    obtain ⟨sl, hsl⟩ := hs.2.2 P o d
    exact ⟨a, b, _, hsl, (X.tok _ _ e).2 sl⟩
variable {E : Value → Shared → Prop} {Q : Unit → Shared → Prop} {e T : Addr} {oe oT : Obj} {vs ts : Array Value}
theorem Ld.field {i : Nat} {a : Addr} {o : Obj} (l : Ld c k m n s) (hi : n[i]? = some (a, o)) (hd : o.data = .fields vs) (f : Array Value → Array Value) :
    Ld c k m (n.set i (a, o.mapFields f)) { s with heap := s.heap.update a (Obj.mapFields f) } :=
  l.change (tk := s.toks) hi (Heap.SameBut.update ..) (Heap.get?_update_self _ (l.nw _ (List.mem_of_getElem? hi)).1 (Obj.isFreed_of_fields (Obj.data_mapFields hd _)))
theorem x_entry {i : Nat} {head : Value} {hadNext : Bool} (X : SX c) (l : Ld c k m n s) (hi : n[i]? = some (e, oe)) (hd : oe.data = .fields vs) (hsz : 1 < vs.size)
    (hQ : ∀ T oT ts s', oT.data = .fields ts → ts[3]? = some (rawInt c.env.locals) → Ld c k m ((T, oT) :: n.set i (e, oe.mapFields (·.setIfInBounds 1 (.ref T)))) s' → Q () s') :
    wpAny M c.A (do let a ← PySem.frameOf c.env; let pl ← entryPlaceOf c.env.locals hadNext; let b ← EntryCells.newEntry head a .none (rawInt c.env.locals) .none pl; setField (.ref e) 1 b) Q E s := by
  obtain ⟨outer, hfr, hfun, hmem⟩ := X.fun l
  refine wpAny_bind (wpAny_frameOf_fun hfr hfun X.frame fun h₁ hs₁ => ?_)
  have l₁ := l.slots X hs₁ hmem
  refine wpAny_bind (wpAny_entryPlaceOf fun pl hpl => ?_)
  unfold EntryCells.newEntry newFields
  refine wpAny_bind (wpAny_newObj_type ?_ (hpl.sizeOk5 _ _ _ _ _))
  have l₂ := l₁.push (o := { cls := .type "traceback", dict := none, data := .fields ([head, .ref c.env.locals, .none, rawInt c.env.locals, .none] ++ (if pl.isEmpty then List.replicate 6 Value.none else pl)).toArray }) rfl
  have he₂ := (l₂.nw (e, oe) (.tail _ (List.mem_of_getElem? hi))).1
  refine wpAny_setField he₂ hd hsz (hQ _ _ _ _ rfl ?_ (l₂.field (i := i + 1) (by simpa using hi) hd _))
  first | (simp; done) | (rcases hpl with rfl | ⟨_, _, _, _, _, _, _, rfl⟩ <;> simp)
/-- an exception that no frame has noted -/
theorem x_note_raw {i : Nat} (X : SX c) (l : Ld c k m n s) (hi : n[i]? = some (e, oe)) (hd : oe.data = .fields vs) (h1 : vs[1]? = some .none)
    (hQ : ∀ T oT ts s', oT.data = .fields ts → ts[3]? = some (rawInt c.env.locals) → Ld c k m ((T, oT) :: n.set i (e, oe.mapFields (·.setIfInBounds 1 (.ref T)))) s' → Q () s') : wpAny M c.A (noteFrame (.ref e) c.env) Q E s := by
  unfold noteFrame
  simp only [X.frame]
  refine wpAny_bind (wpAny_field (l.nw _ (List.mem_of_getElem? hi)).1 hd h1 ?_)
  rw [if_neg (by decide)]
  exact x_entry X l hi hd (Array.getElem?_eq_some_iff.mp h1).1 hQ
theorem x_note_next {i j : Nat} (X : SX c) (l : Ld c k m n s) (hi : n[i]? = some (e, oe)) (hd : oe.data = .fields vs) (h1 : vs[1]? = some (.ref T)) (hj : n[j]? = some (T, oT)) (hdT : oT.data = .fields ts) (h3 : ts[3]? = some .none) (hij : i ≠ j)
    (hQ : ∀ T' oT' ts' oT₂ s', oT'.data = .fields ts' → ts'[3]? = some (rawInt c.env.locals) → Ld c k m ((T', oT') :: (n.set j (T, oT₂)).set i (e, oe.mapFields (·.setIfInBounds 1 (.ref T')))) s' → Q () s') : wpAny M c.A (noteFrame (.ref e) c.env) Q E s := by
  unfold noteFrame
  simp only [X.frame]
  refine wpAny_bind (wpAny_field (l.nw _ (List.mem_of_getElem? hi)).1 hd h1 ?_)
  rw [if_pos (show (Value.ref T != Value.none) = true from by simp)]
  refine wpAny_bind (wpAny_field (l.nw _ (List.mem_of_getElem? hj)).1 hdT h3 ?_)
  rw [if_neg (show ¬ ((Value.none == rawInt c.env.locals) = true) from by simp [rawInt])]
  refine wpAny_bind (wpAny_setField (l.nw _ (List.mem_of_getElem? hj)).1 hdT (Array.getElem?_eq_some_iff.mp h3).1 ?_)
  have l₁ := l.field hj hdT (·.setIfInBounds 3 Value.none)
  exact x_entry X l₁ (by rw [List.getElem?_set_ne (Ne.symm hij)]; exact hi) hd (Array.getElem?_eq_some_iff.mp h1).1 fun T' oT' ts' s' a b l' => hQ T' oT' ts' _ s' a b l'
theorem x_note_held {i j : Nat} (X : SX c) (l : Ld c k m n s) (hi : n[i]? = some (e, oe)) (hd : oe.data = .fields vs) (h1 : vs[1]? = some (.ref T)) (hj : n[j]? = some (T, oT)) (hdT : oT.data = .fields ts) (h3 : ts[3]? = some (rawInt c.env.locals))
    (hQ : Q () s) {A : Around} : wpAny M A (noteFrame (.ref e) c.env) Q E s :=
  wpAny_noteFrame_inFlight X.frame (l.nw _ (List.mem_of_getElem? hi)).1 hd h1 (l.nw _ (List.mem_of_getElem? hj)).1 hdT h3 hQ
theorem x_flight {i j : Nat} {fr : Option Addr} (l : Ld c k m n s) (hi : n[i]? = some (e, oe)) (hd : oe.data = .fields vs) (h1 : vs[1]? = some (.ref T)) (hj : n[j]? = some (T, oT)) (hdT : oT.data = .fields ts) (h3 : 3 < ts.size)
    (hQ : ∀ oT' s', oT'.data = .fields (ts.setIfInBounds 3 (fr.elim .none fun f => rawInt f)) → Ld c k m (n.set j (T, oT')) s' → Q () s') {A : Around} : wpAny M A (setFlight (.ref e) fr) Q E s := by
  unfold setFlight
  refine wpAny_bind (wpAny_field (l.nw _ (List.mem_of_getElem? hi)).1 hd h1 ?_)
  rw [if_pos (show (Value.ref T != Value.none) = true from by simp)]
  exact wpAny_setField (l.nw _ (List.mem_of_getElem? hj)).1 hdT h3 (hQ _ _ (Obj.data_mapFields hdT _) (l.field hj hdT _))
end
end Mine
end
section
open PySem PySem.W PyProof.Rows PySem.Calls
set_option maxRecDepth 20000
set_option linter.unusedVariables false
namespace Mine
theorem entry_unchain : entryFor table "proto.unchain" = some Builtin.«proto.unchain» := entryFor_of_tree (by kernel_rfl)
/-- an exception that was just made -/
structure Raw (oe : Obj) (X : String) (cx : Value) : Prop where
  ex : ∃ vs : Array Value, oe.cls = .type X ∧ oe.data = .fields vs ∧ vs[1]? = some .none ∧ vs[2]? = some cx
/-- what is handled at a raise -/
noncomputable def HandOk (A : Around) (n : Led') (cx : Value) : Prop := (A.handled = none ∧ cx = .none) ∨ ∃ h oh vs, A.handled = some (.ref h) ∧ cx = .ref h ∧ (h, oh) ∈ n ∧ oh.data = .fields vs ∧ vs[2]? = some .none
section
variable {prog : Program} {w : World} {A : Around} {E : Value → Shared → Prop} {s : Shared} {c : FC} {k : Led'} {m : Loc} {n news : Led'}
theorem x_raise {α : Type} {cls msg : String} {cx : Value} {Q : α → Shared → Prop} (hp : PlainExc cls) (hh : HandOk A n cx) (l : Ld c k m n s)
    (hE : ∀ e oe s', Raw oe cls cx → Ld c k m ((e, oe) :: n) s' → E (.ref e) s') : wpAny (model prog w) A (raiseErrorWords cls msg : Sem α) Q E s := by
  unfold raiseErrorWords
  refine wpAny_bind (wpAny_mkText (wpAny_bind ?_))
  unfold newExc newTuple
  refine wpAny_bind (wpAny_newObj_type ?_)
  refine wpAny_bind (m := firstArgMember _ _) (wpAny_of_eq (a := Value.none) (by simp only [firstArgMember, hp.first]; rfl) ?_)
  rw [hp.own]
  refine wpAny_newObj_type ?_
  have l₁ := l.toks (s.toks + 1)
  have l₂ := l₁.push (o := { cls := .type "tuple", data := .seq [Value.str (Str.ofString msg) s.toks].toArray }) rfl
  have l₃ := l₂.push (o := { cls := .type cls, data := .fields (#[Value.ref s.heap.objs.size, .none, .none, .none, .bool false, .none] ++ #[]) }) rfl
  have l₄ := l₃.sub (news' := (s.heap.objs.size + 1, { cls := .type cls, data := .fields (#[Value.ref s.heap.objs.size, .none, .none, .none, .bool false, .none] ++ #[]) }) :: n) (by
    rw [Heap.size_push]
    exact (List.sublist_cons_self _ _).cons_cons _)
  rw [Heap.size_push]
  unfold raiseNew
  refine wpAny_bind (wpAny_handled ?_)
  rcases hh with ⟨hh, rfl⟩ | ⟨h, oh, hvs, hh, rfl, hm, hd, h2⟩
  · rw [hh]
    first
      | refine wpAny_throw ?_
      | refine wpAny_bind (wpAny_pure (wpAny_throw ?_))
    exact hE _ _ _ ⟨_, rfl, rfl, rfl, rfl⟩ l₄
  · rw [hh]
    have hne : (Value.ref h != Value.ref (s.heap.objs.size + 1)) = true := by
      have hlt := Heap.lt_size (l.nw _ hm).1
      exact bne_iff_ne.mpr fun q => by
        injection q with q
        have hlt' : h < s.heap.objs.size := hlt
        rw [q] at hlt'
        exact absurd hlt' (Nat.not_lt.mpr (Nat.le_succ _))
    dsimp only
    rw [if_pos hne]
    refine wpAny_bind (wpAny_holding (wpAny_runValue (codeAny_builtin entry_unchain ?_)))
    unfold Builtin.«proto.unchain»
    refine wpAny_bind (wpAny_field (l₄.nw _ (.tail _ hm)).1 hd h2 ?_)
    rw [if_pos (by rfl)]
    refine wpAny_pure ?_
    have l₅ := l₄.field (i := 0) rfl rfl (·.setIfInBounds 2 (.ref h))
    dsimp only
    refine wpAny_bind ?_
    show wpAny _ _ (setField (.ref (s.heap.objs.size + 1)) 2 (.ref h)) _ _ _
    refine wpAny_setField (l₄.nw _ (.head _)).1 rfl (i := 2) (by simp) ?_
    refine wpAny_throw ?_
    exact hE _ _ _ ⟨_, rfl, rfl, rfl, rfl⟩ l₅
/-- a raise, whoever asks -/
noncomputable abbrev Raises (prog : Program) (w : World) (A : Around) (cls msg : String) (E : Value → Shared → Prop) (s : Shared) : Prop :=
  ∀ (A' : Around) (α : Type) (Q' : α → Shared → Prop), A'.handled = A.handled → wpAny (model prog w) A' (raiseErrorWords cls msg : Sem α) Q' E s
theorem getItem_outX {a : Addr} {items : Array Value} {k : Int} {j : Nat} {t : Tok} {Q : Value → Shared → Prop} (hl : s.heap.IsList a items) (hk : k = Int.ofNat j) (hout : items.size ≤ j) (hlo : -(2 ^ 63) ≤ k) (hhi : k < 2 ^ 63)
    (hR : Raises prog w A "IndexError" "list index out of range" E s) : wpAny (model prog w) A (getItem (.ref a) (.int k t)) Q E s := by
  obtain ⟨o, ho, hc, ne, hd⟩ := id hl
  unfold getItem
  try with_reducible refine wpAny_holding ?_
  first | refine wpAny_bind (wpAny_pure ?_) | skip
  refine wpAny_bind (wpAny_sequenceKey hl.typeIs (by decide) ?_)
  refine wpAny_bind (wpAny_callSpecial?_slot (name := Str.ofString "__getitem__") hl.typeIs slot_list_getitem
    (wpAny_call_entry slot_list_getitem hl.typeIs entry_list_getitem ?_ (args_list_getitem _ _)))
  show wpAny _ _ (Builtin.List.listSubscript? (.int k t) >>= _) _ _ s
  refine wpAny_bind (wpAny_listSubscript_int (fitsIndex_both hlo hhi) ?_)
  clear hlo hhi
  subst hk
  have hx : items[j]? = none := Array.getElem?_eq_none hout
  show wpAny _ _ ((seqItemAt a j >>= fun r => pure (r.map (j, ·))) >>= _) _ _ s
  refine wpAny_bind (wpAny_bind (wpAny_seqItemAt ho hd (wpAny_pure ?_)))
  rw [hx]
  refine wpAny_bind (wpAny_rule ?_)
  first
    | exact hR _ _ _ rfl
    | exact wpAny_bind (hR _ _ _ rfl)
end
end Mine
end
section
open PySem PySem.W PyProof.Rows PySem.Calls
set_option maxRecDepth 20000
set_option linter.unusedVariables false
namespace Mine
/-- the frame while an exception is handled -/
noncomputable abbrev mk (c : FC) (e : Addr) : FC := { c with A := c.A.mark (some (.ref e)) }
section
variable {prog : Program} {w : World} {c : FC} {k : Led'} {m : Loc} {n news : Led'} {s : Shared} {E : Led' → Value → Shared → Prop}
theorem Ld.mkd {e : Addr} (l : Ld c k m n s) : Ld (Mine.mk c e) k m n s := ⟨l.ns, l.old, l.above, l.locs, l.nw, l.ord, l.kp, l.gens, l.os, l.tb⟩
theorem Ld.unmk {e : Addr} (l : Ld (Mine.mk c e) k m n s) : Ld c k m n s := ⟨l.ns, l.old, l.above, l.locs, l.nw, l.ord, l.kp, l.gens, l.os, l.tb⟩
theorem LocN.mkd {e : Addr} {x : Str} (h : LocN c x) : LocN (Mine.mk c e) x := ⟨h.kind, h.loc, h.nd⟩
theorem NF.mkd {e : Addr} {G : Gl} {sc : Scope} (h : NF G c sc) : NF G (Mine.mk c e) sc := ⟨h.hsc, h.hkind, h.gl, h.bi, h.ok⟩
theorem t_tailOut {value slice : Expr} {a : Addr} {vs : List Value} {j : Nat} {u : Tok} {cx : Value} {Q : Value → Loc → Led' → Prop} (hl : LstAt c n a vs) (hout : vs.length ≤ j) (hhi : j < 100000) (hh : HandOk c.A n cx)
    (hE : ∀ k' e oe s', Raw oe "IndexError" cx → Ld c k' m ((e, oe) :: n) s' → E k' (.ref e) s')
    (hs : subscripted slice false (.ref a) (.int (j : Int) u) = PySem.operate [.ref a, .int (j : Int) u] (getItem (.ref a) (.int (j : Int) u))) : Tr (model prog w) c (subscriptTail value slice (.ref a) (.int (j : Int) u)) m n Q E := fun k' s l => by
  refine tail_any (hl.isList l).typeIs slot_list_getitem.lookup (getItem_outX (hl.isList l) rfl (by simpa using hout) (by (first | lia | omega)) (by (first | lia | omega)) fun A' α Q' hA => ?_) hs
  refine x_raise plainExc_IndexError (cx := cx) ?_ l fun e oe s' h1 h2 => hE k' e oe s' h1 h2
  unfold HandOk; rw [hA]; exact hh
/-- where an exception of a try's body goes -/
noncomputable abbrev EH (prog : Program) (w : World) (c : FC) (hs : List ExceptHandler) (Q : Flow → Loc → Led' → Prop) (E : Led' → Value → Shared → Prop) : Led' → Value → Shared → Prop := fun k v s =>
  wpAny (model prog w) c.A (noteFrame v c.env) (fun _ s₂ => wpAny (model prog w) c.A (setFlight v none) (fun _ s₃ => wpAny (model prog w) c.A (handleBy v c.env hs) (Post c k Q) (E k) s₃) (E k) s₂) (E k) s
theorem t_TryX {body orelse : List Stmt} {h₀ : ExceptHandler} {hs : List ExceptHandler} {pos : Pos} {Q : Flow → Loc → Led' → Prop}
    (h : Tr (model prog w) c (execs body c.env) m news (After (model prog w) c orelse c.env Q E) (EH prog w c (h₀ :: hs) Q E)) : Tr (model prog w) c (exec (.Try body (h₀ :: hs) orelse [] pos) c.env) m news Q E := fun k s l =>
  wpAny_Try_except (wpAny_mono (h k s l) (fun f s₁ ⟨m₁, n₁, l₁, q⟩ => by
    cases f with
    | next => exact q k s₁ l₁
    | cont => exact ⟨m₁, n₁, l₁, q⟩
    | brk => exact ⟨m₁, n₁, l₁, q⟩
    | ret v => exact ⟨m₁, n₁, l₁, q⟩) (fun _ _ e => e))
/-- a class of exceptions that may be caught by its own name -/
structure CatchOk (X : String) : Prop where
  isExc : isSubtype (.type X) (.type "BaseException") = pure true
  notTup : isSubtype (.type ((Manifest.find? X).elim "type" fun x => x.metatype)) (.type "tuple") = pure false
  self : isSubtype (.type X) (.type X) = pure true
theorem x_caught1 {X : String} {e T : Addr} {oe oT : Obj} {vs ts : Array Value} {x : Str} {np pos : Pos} {b₀ : Stmt} {suite : List Stmt} {rest : List ExceptHandler} {Q : Flow → Loc → Led' → Prop} (CX : CatchOk X)
    (l : Ld c k m ((T, oT) :: (e, oe) :: n) s) (hc : oe.cls = .type X) (hd : oe.data = .fields vs) (h1 : vs[1]? = some (.ref T)) (hdT : oT.data = .fields ts) (h3 : 3 < ts.size)
    (hN : Nm (mk c e) x (.type X)) (hsuite : Tr (model prog w) (mk c e) (execs (b₀ :: suite) c.env) m n Q nope) :
    wpAny (model prog w) c.A (setFlight (.ref e) none) (fun _ s₃ => wpAny (model prog w) c.A (handleBy (.ref e) c.env (.ExceptHandler (some (.Name x np)) none (b₀ :: suite) pos :: rest)) (Post c k Q) (E k) s₃) (E k) s := by
  refine x_flight (i := 1) (j := 0) l rfl hd h1 rfl hdT h3 fun oT₁ s₁ hT₁ l₁ => ?_
  refine wpAny_handleBy_builtin (X := X) (T := X) (b := true) CX.isExc CX.notTup CX.self ?_
  refine wpAny_mono (hN (model prog w) np m ((T, oT₁) :: (e, oe) :: n) (fun v m' n' => v = .type X ∧ m' = m ∧ n' = (T, oT₁) :: (e, oe) :: n) nope ⟨rfl, rfl, rfl⟩ k s₁ l₁.mkd) (fun v s₂ hv => ?_) fun _ _ f => f.elim
  obtain ⟨_, _, l₂, rfl, rfl, rfl⟩ := hv
  refine ⟨rfl, ⟨oe, (l₂.nw _ (.tail _ (.head _))).1, hc⟩, ?_⟩
  rw [if_pos rfl]
  refine x_flight (i := 1) (j := 0) l₂.unmk rfl hd h1 rfl hT₁ (by simpa using h3) fun oT₂ s₃ hT₂ l₃ => ?_
  refine wpAny_mono (hsuite k s₃ (l₃.mkd.sub ((List.sublist_cons_self _ _).trans (List.sublist_cons_self _ _)))) (fun f s₄ hf => ?_) fun _ _ f => f.elim
  obtain ⟨m₄, n₄, l₄, q⟩ := hf
  exact ⟨m₄, n₄, l₄.unmk, q⟩
/-- an exception that was just raised is caught -/
theorem x_caught {X : String} {e : Addr} {oe : Obj} {cx : Value} {x : Str} {np pos : Pos} {b₀ : Stmt} {suite : List Stmt} {rest : List ExceptHandler} {Q : Flow → Loc → Led' → Prop} (CX : CatchOk X) (SC : SX c) (R : Raw oe X cx)
    (l : Ld c k m ((e, oe) :: n) s) (hN : Nm (mk c e) x (.type X)) (hsuite : Tr (model prog w) (mk c e) (execs (b₀ :: suite) c.env) m n Q nope) :
    EH prog w c (.ExceptHandler (some (.Name x np)) none (b₀ :: suite) pos :: rest) Q E k (.ref e) s := by
  obtain ⟨vs, hc, hd, h1, h2⟩ := R.ex
  refine x_note_raw (i := 0) SC l rfl hd h1 fun T oT ts s' hdT h3 l' => ?_
  exact x_caught1 CX l' ((Obj.cls_mapFields _ _).trans hc) (Obj.data_mapFields hd _) (by simp [(Array.getElem?_eq_some_iff.mp h1).1]) hdT (Array.getElem?_eq_some_iff.mp h3).1 hN hsuite
/-- an exception that this frame has noted is caught -/
theorem x_caughtH {X : String} {e T : Addr} {oe oT : Obj} {vs ts : Array Value} {x : Str} {np pos : Pos} {b₀ : Stmt} {suite : List Stmt} {rest : List ExceptHandler} {Q : Flow → Loc → Led' → Prop} (CX : CatchOk X) (SC : SX c)
    (l : Ld c k m ((T, oT) :: (e, oe) :: n) s) (hc : oe.cls = .type X) (hd : oe.data = .fields vs) (h1 : vs[1]? = some (.ref T)) (hdT : oT.data = .fields ts) (h3 : ts[3]? = some (rawInt c.env.locals))
    (hN : Nm (mk c e) x (.type X)) (hsuite : Tr (model prog w) (mk c e) (execs (b₀ :: suite) c.env) m n Q nope) :
    EH prog w c (.ExceptHandler (some (.Name x np)) none (b₀ :: suite) pos :: rest) Q E k (.ref e) s :=
  x_note_held (i := 1) (j := 0) SC l rfl hd h1 rfl hdT h3 (x_caught1 CX l hc hd h1 hdT (Array.getElem?_eq_some_iff.mp h3).1 hN hsuite)
/-- where an exception of a try-finally's body goes -/
noncomputable abbrev EF (prog : Program) (w : World) (c : FC) (final : List Stmt) (Q : Flow → Loc → Led' → Prop) (E : Led' → Value → Shared → Prop) : Led' → Value → Shared → Prop := fun k v s =>
  wpAny (model prog w) c.A (noteFrame v c.env) (fun _ s₂ => FinallyRaised prog w c.A (E k) c.env final (Post c k Q) v s₂) (FinallyRaised prog w c.A (E k) c.env final (Post c k Q)) s
/-- behind a finally -/
noncomputable def AfterF (Q : Flow → Loc → Led' → Prop) (f : Flow) : Flow → Loc → Led' → Prop
  | .next, m, n => Q f m n
  | g, m, n => Q g m n
theorem t_TryF {body : List Stmt} {f₀ : Stmt} {fs : List Stmt} {pos : Pos} {Q : Flow → Loc → Led' → Prop} (hE : ∀ k, PassesOwn (model prog w) c.A c.env (E k))
    (h : Tr (model prog w) c (execs body c.env) m news (fun f m₁ n₁ => Tr (model prog w) c (execs (f₀ :: fs) c.env) m₁ n₁ (AfterF Q f) E) (EF prog w c (f₀ :: fs) Q E)) : Tr (model prog w) c (exec (.Try body [] [] (f₀ :: fs) pos) c.env) m news Q E := fun k s l => by
  refine wpAny_Try_finally (wpAny_mono (h k s l) (fun f s₁ ⟨m₁, n₁, l₁, q⟩ => ?_) (fun _ _ e => e))
  have key : ∀ f, wpAny (model prog w) c.A (execs (f₀ :: fs) c.env) (Post c k (AfterF Q f)) (E k) s₁ →
      wpAny (model prog w) c.A (execs (f₀ :: fs) c.env) (fun g s' => match g with | .next => Post c k Q f s' | g => Post c k Q g s') (notedBy (model prog w) c.A c.env (cameBackBy (model prog w) c.A c.env (E k))) s₁ := fun f h => by
    refine wpAny_passesOwn (hE k) (wpAny_mono h (fun g s₂ ⟨m₂, n₂, l₂, q₂⟩ => ?_) fun _ _ e => e)
    cases g <;> exact ⟨m₂, n₂, l₂, q₂⟩
  cases f with
  | next => exact wpAny_execs_nil (key .next (q k s₁ l₁))
  | cont => exact key .cont (q k s₁ l₁)
  | brk => exact key .brk (q k s₁ l₁)
  | ret v => exact key (.ret v) (q k s₁ l₁)
/-- an exception that was just raised goes through a finally -/
theorem x_finally {X : String} {e : Addr} {oe : Obj} {final : List Stmt} {Q : Flow → Loc → Led' → Prop} (SC : SX c) (R : Raw oe X .none) (l : Ld c k m ((e, oe) :: n) s) (hE : ∀ k v, PassesOwnAt (model prog w) (c.A.mark (some v)) c.A c.env (E k))
    (hfinal : ∀ T oT oe' vs', oe'.cls = .type X → oe'.data = .fields vs' → vs'[1]? = some (.ref T) → vs'[2]? = some .none →
      Tr (model prog w) (mk c e) (execs final c.env) m ((T, oT) :: (e, oe') :: n) (fun g m₂ n₂ => g = .next ∧ n₂ = (T, oT) :: (e, oe') :: n ∧
        ∀ k s oT' ts', oT'.data = .fields ts' → ts'[3]? = some (rawInt c.env.locals) → Ld c k m₂ ((T, oT') :: (e, oe') :: n) s → E k (.ref e) s) E) :
    EF prog w c final Q E k (.ref e) s := by
  obtain ⟨vs, hc, hd, h1, h2⟩ := R.ex
  refine x_note_raw (i := 0) SC l rfl hd h1 fun T oT ts s' hdT h3 l' => ⟨ref_ne_byPass e, ?_⟩
  have hd' : (oe.mapFields (·.setIfInBounds 1 (Value.ref T))).data = .fields (vs.setIfInBounds 1 (.ref T)) := Obj.data_mapFields hd _
  have h1' : (vs.setIfInBounds 1 (Value.ref T))[1]? = some (.ref T) := by simp [(Array.getElem?_eq_some_iff.mp h1).1]
  have h2' : (vs.setIfInBounds 1 (Value.ref T))[2]? = some .none := by rw [Array.getElem?_setIfInBounds_ne (by decide)]; exact h2
  have h3' := (Array.getElem?_eq_some_iff.mp h3).1
  refine x_note_held (i := 1) (j := 0) SC l' rfl hd' h1' rfl hdT h3 ?_
  refine x_flight (i := 1) (j := 0) l' rfl hd' h1' rfl hdT h3' fun oT₁ s₁ hT₁ l₁ => ?_
  refine wpAny_passesOwnAt (hE k _) (wpAny_mono (hfinal T oT₁ _ _ ((Obj.cls_mapFields _ _).trans hc) hd' h1' h2' k s₁ l₁.mkd) (fun g s₂ hg => ?_) fun _ _ f => f)
  obtain ⟨m₂, _, l₂, rfl, rfl, hp⟩ := hg
  dsimp only
  unfold PySem.passOn
  have l₂ := l₂.unmk
  refine wpAny_bind (wpAny_field (l₂.nw _ (.tail _ (.head _))).1 hd' h1' ?_)
  rw [if_neg (show ¬ ((Value.ref T == Value.none) = true) from by simp)]
  try refine wpAny_bind (wpAny_pure ?_)
  refine wpAny_bind ?_
  rw [SC.frame]
  refine x_flight (i := 1) (j := 0) l₂ rfl hd' h1' rfl hT₁ (by simpa using h3') fun oT₂ s₃ hT₂ l₃ => wpAny_throw ?_
  exact hp k s₃ oT₂ _ hT₂ (by simp [h3']) l₃
end
end Mine
end
section
open PySem PySem.W PyProof.Rows PySem.Calls
set_option maxRecDepth 20000
set_option linter.unusedVariables false
namespace Mine
/-- what a def's call gives back, where the caller's frame object may get its slots -/
noncomputable def SpecX (M : Model) (G : Gl) (d : Nat) (a : Addr) (vs : List Value) (pre : Heap → Prop) (post : Value → Led' → Prop) : Prop :=
  ∀ (A : Around) (s : Shared) (Q : Value → Shared → Prop) (E : Value → Shared → Prop) (env₀ : Env) (L₀ : Addr) (o₀ : Obj), GOk G (hide s.heap L₀) → A.frames = some [env₀] → env₀.frame = some L₀ → env₀.scope.kind ≠ .module →
    s.heap.get? L₀ = some o₀ → (∀ vs, o₀.data ≠ .fields vs) → A.depth + d < recursionLimit → A.units + 4 * d + 100 < cLine → A.handled = none → A.guards = some [] → AllBare s.gens → pre (hide s.heap L₀) →
    (∀ r out h' gs dr tk, (∀ b o, b ≠ L₀ → s.heap.get? b = some o → h'.get? b = some o) → (∃ sl, h'.get? L₀ = some { o₀ with slots := sl }) → (∀ p ∈ out, h'.get? p.1 = some p.2 ∧ s.heap.objs.size ≤ p.1) → (out.map (·.1)).Pairwise (· > ·) → AllBare gs → post r out → Q r { heap := h', gens := gs, drawn := dr, toks := tk, os := s.os }) →
    wpAny M A (call (.ref a) vs) Q E s
theorem spec_ofX {prog : Program} {w : World} {G : Gl} {d : Nat} {name : Str} {params : Arguments} {body : List Stmt} {scope : Scope} {a : Addr} {vs : List Value} {binds : List (Str × Value)} {pre : Heap → Prop} {post : Value → Led' → Prop}
    (hf : ∀ h, GOk G h → pre h → FnAt G h name params body scope a)
    (hbind : ∀ pm cd doc, bindArgs (docDef name params body scope pm cd doc) ⟨vs, []⟩ = Pure.pure binds)
    (hloc : ∀ x ∈ binds, scope.names.lookup x.1 = some .local)
    (hsc : (scope.isCoroutine = false ∧ scope.isGenerator = false ∧ scope.kind = .function) ∧ ∀ x ∈ scope.names, x.2 ≠ .cell)
    (h : ∀ c, CF G c scope d → SX c → pre c.g → Tr (model prog w) c (execs body c.env) (fun x => binds.reverse.lookup x) [] (fun fl _ n' => ∃ out, out.Sublist n' ∧ post (match fl with | .ret v => v | _ => .none) out) (fun _ _ _ => False)) :
    SpecX (model prog w) G (d + 1) a vs pre post := by
  intro A s Q E env₀ L₀ o₀ hG hfr hf0 hk0 ho0 hd0 hd hu hh hgd hgs hp hQ
  obtain ⟨o, pm, cd, doc, ho', hdat, hcd'⟩ := (hf _ hG hp).obj
  have hsub : ∀ b o, (hide s.heap L₀).get? b = some o → s.heap.get? b = some o := fun _ _ e => hide_sub e
  have ho := hsub _ _ ho'
  have hcd := hcd'.keeps hsub
  refine wpAny_call (codeAny_call_def (Nat.lt_of_le_of_lt (Nat.le_add_right _ _) hd) ho hdat (hG.nolimit.keeps hsub) hcd rfl (BindsTo.of_eq (hbind pm cd doc)) hsc.2 hloc (fun h₁ hns hkeep => ?_) hsc.1.1 hsc.1.2.1 hsc.1.2.2)
  let c : FC := ⟨A.deeper (envOf name scope s.heap.objs.size a cd), hide s.heap L₀, s.heap.objs.size, envOf name scope s.heap.objs.size a cd, s.os, [L₀], fun _ o => ∃ sl, o = { o₀ with slots := sl }⟩
  have hPl : L₀ < s.heap.objs.size := Heap.lt_size ho0
  have hk : scope.kind ≠ .module := by rw [hsc.1.2.2]; decide
  have hX : SX c := by
    refine ⟨⟨[env₀], Around.frames_deeper hfr, fun x hx => ?_⟩, rfl, hk, ?_⟩
    · rw [List.mem_singleton.mp hx]
      exact ⟨hk0, L₀, hf0, .head _⟩
    · rintro P o ⟨sl, rfl⟩
      exact ⟨hd0, fun sl' => ⟨sl', rfl⟩⟩
  have hc : CF G c scope d := by
    refine ⟨⟨name, a, cd, rfl⟩, hsc.1.2.2, hG, hh, hgd, fun k m news s' l => ?_, ?_, ?_⟩
    · obtain ⟨outer, h1, h2, _⟩ := hX.fun l
      exact ⟨noH, _, ⟨h1, fun b o e => (by rw [noH_none] at e; cases e), h2⟩⟩
    · show A.depth + 1 + d < recursionLimit
      (first | lia | omega)
    · show A.units + 3 + 4 * d + 100 < cLine
      (first | lia | omega)
  have l : Ld c [] (fun x => binds.reverse.lookup x) [] { s with heap := h₁, toks := s.toks + binds.length } :=
    ⟨hns, fun b o e => hkeep b o (hsub b o e), by show (hide s.heap L₀).objs.size ≤ _; rw [hide_size]; exact Nat.le_refl _, Nat.le_refl _, fun _ hp => (nomatch hp), List.Pairwise.nil, fun _ hp => (nomatch hp), hgs, rfl,
      fun p hp => by
        rw [List.mem_singleton.mp hp]
        exact ⟨hPl, hide_none _ _, o₀, hkeep L₀ o₀ ho0, ⟨o₀.slots, rfl⟩⟩⟩
  refine wpAny_mono (h c hc hX hp [] _ l) (fun fl s' hl => ?_) fun _ _ e => e.elim
  obtain ⟨m', n', l', out, hs, hpost⟩ := hl
  obtain ⟨h', gs, dr, tk, os⟩ := s'
  have hos : os = s.os := l'.os
  subst hos
  obtain ⟨_, _, oL, hoL, sl, hsl⟩ := l'.tb L₀ (.head _)
  have key := hQ _ out h' gs dr tk (fun b o hb e => l'.old b o (by show (hide s.heap L₀).get? b = some o; rw [hide_ne hb]; exact e)) ⟨sl, by rw [← hsl]; exact hoL⟩ (fun p hp => let z := l'.nw p (hs.subset hp); ⟨z.1, z.2.1⟩) (l'.ord.sublist (hs.map _)) l'.gens hpost
  cases fl <;> exact key
/-- the frame that stands alone -/
structure AX (c : FC) : Prop where
  frames : c.A.frames = some [c.env]
  frame : c.env.frame = some c.env.locals
  kind : c.env.scope.kind ≠ .module
section
variable {M : Model} {c : FC} {k : Led'} {m : Loc} {news : Led'} {E : Led' → Value → Shared → Prop} {G : Gl} {d : Nat}
theorem Ld.outX {s : Shared} (l : Ld c k m news s) {out : Led'} {h' : Heap} {gs : Array GenState} {dr : Drawn} {tk : Nat} {o₀ : Obj} (ho : s.heap.get? c.env.locals = some o₀) (hk : ∀ b o, b ≠ c.env.locals → s.heap.get? b = some o → h'.get? b = some o) (h0 : ∃ sl, h'.get? c.env.locals = some { o₀ with slots := sl })
    (hout : ∀ p ∈ out, h'.get? p.1 = some p.2 ∧ s.heap.objs.size ≤ p.1) (hp : (out.map (·.1)).Pairwise (· > ·)) (hg : AllBare gs) : Ld c k m (out ++ news) { heap := h', gens := gs, drawn := dr, toks := tk, os := s.os } := by
  have L := l.locs_lt
  have hns : h'.Ns c.env.locals m := by
    obtain ⟨o, es, ep, e, hd, r⟩ := l.ns
    rw [ho] at e; cases e
    obtain ⟨sl, hsl⟩ := h0
    exact ⟨_, es, ep, hsl, hd, r⟩
  refine ⟨hns, fun b o e => hk b o (fun q => ?_) (l.old b o e), l.above, l.locs, fun p hp => ?_, ?_, fun p hp => ?_, hg, l.os, fun P hP => ?_⟩
  · subst q; exact absurd (Nat.lt_of_lt_of_le (Heap.lt_size e) l.above) (Nat.not_lt.mpr l.locs)
  · rcases List.mem_append.mp hp with hp | hp
    · have z := hout p hp
      exact ⟨z.1, Nat.le_trans (Nat.le_of_lt (Nat.lt_of_le_of_lt l.locs L)) z.2, Nat.ne_of_gt (Nat.lt_of_lt_of_le L z.2)⟩
    · have z := l.nw p hp
      exact ⟨hk _ _ z.2.2 z.1, z.2⟩
  · rw [List.map_append]
    refine List.pairwise_append.mpr ⟨hp, l.ord, fun a ha b hb => ?_⟩
    obtain ⟨p, hp, rfl⟩ := List.mem_map.mp ha
    obtain ⟨q, hq, rfl⟩ := List.mem_map.mp hb
    exact Nat.lt_of_lt_of_le (Heap.lt_size (l.nw q hq).1) (hout p hp).2
  · have z := l.kp p hp
    refine ⟨hk _ _ z.2.2.1 z.1, z.2.1, z.2.2.1, fun q hq => ?_⟩
    rcases List.mem_append.mp hq with hq | hq
    · exact Nat.ne_of_gt (Nat.lt_of_lt_of_le (Heap.lt_size z.1) (hout q hq).2)
    · exact z.2.2.2 q hq
  · obtain ⟨a, b, o, d, e⟩ := l.tb P hP
    exact ⟨a, b, o, hk _ _ (Nat.ne_of_lt (Nat.lt_of_lt_of_le a l.locs)) d, e⟩
theorem t_specX {d' : Nat} {a : Addr} {vs : List Value} {pre : Heap → Prop} {post : Value → Led' → Prop} {Q : Value → Loc → Led' → Prop} (F : CO G c d) (X : AX c) (S : SpecX M G d' a vs pre post) (hd : d' ≤ d) (hp : ∀ k s, Ld c k m news s → pre (hide s.heap c.env.locals))
    (h : ∀ r out, post r out → Q r m (out ++ news)) : Tr M c (call (.ref a) vs) m news Q E := fun k s l => by
  obtain ⟨o₀, es, ep, ho, hdat, _⟩ := id l.ns
  have hno : c.g.get? c.env.locals = none := Heap.get?_none_of_le (Nat.le_trans l.above l.locs)
  refine S c.A s _ (E k) c.env c.env.locals o₀ (F.ok.keeps fun b o e => sub_hide hno l.old e) X.frames X.frame X.kind ho (fun vs q => by rw [hdat] at q; cases q) ?_ ?_ F.hn F.gd l.gens (hp k s l) fun r out h' gs dr tk hk h0 ho' hpw hg hpost => ⟨m, out ++ news, l.outX ho hk h0 ho' hpw hg, h r out hpost⟩
  · have := F.dp; (first | lia | omega)
  · have := F.un; (first | lia | omega)
end
end Mine
end
section
namespace Mine
noncomputable abbrev Asc (xs : List W) : Prop := xs.Pairwise (· < ·)
noncomputable def diffL (xs ys : List W) : List W := xs.filter fun x => !decide (x ∈ ys)
theorem W_irrefl (x : W) : ¬ x < x := List.lt_irrefl x
theorem W_trans {x y z : W} (h1 : x < y) (h2 : y < z) : x < z := List.lt_trans h1 h2
theorem W_eq {x y : W} (h1 : ¬ x < y) (h2 : ¬ y < x) : x = y := List.le_antisymm (List.not_lt.mp h2) (List.not_lt.mp h1)
theorem asc_notin {x y : W} {ys : List W} (h : x < y) (hy : Asc (y :: ys)) : x ∉ y :: ys := fun hm => by
  rcases List.mem_cons.mp hm with rfl | hm
  · exact W_irrefl _ h
  · exact W_irrefl _ (W_trans h ((List.pairwise_cons.mp hy).1 _ hm))
theorem filter_congr' {p q : W → Bool} {l : List W} (h : ∀ x ∈ l, p x = q x) : l.filter p = l.filter q := List.filter_congr h
theorem diff_lt1 {x y : W} {xs ys : List W} (h : x < y) (hy : Asc (y :: ys)) : diffL (x :: xs) (y :: ys) = x :: diffL xs (y :: ys) := by
  unfold diffL
  rw [List.filter_cons, if_pos (by rw [decide_eq_false (asc_notin h hy)]; rfl)]
theorem diff_lt2 {x y : W} {xs ys : List W} (h : x < y) (hy : Asc (y :: ys)) : diffL (y :: ys) (x :: xs) = diffL (y :: ys) xs :=
  filter_congr' fun z hz => by
    have hne : z ≠ x := fun e => asc_notin h hy (e ▸ hz)
    congr 1
    rw [decide_eq_decide, List.mem_cons]
    exact ⟨fun h => h.resolve_left hne, .inr⟩
theorem diff_eq {x : W} {xs ys : List W} (hx : Asc (x :: xs)) (hy : Asc (x :: ys)) : diffL (x :: xs) (x :: ys) = diffL xs ys := by
  unfold diffL
  rw [List.filter_cons, if_neg (by rw [decide_eq_true (List.mem_cons_self)]; decide)]
  exact filter_congr' fun z hz => by
    have hne : z ≠ x := fun e => W_irrefl x (e ▸ (List.pairwise_cons.mp hx).1 z hz)
    congr 1
    rw [decide_eq_decide, List.mem_cons]
    exact ⟨fun h => h.resolve_left hne, .inr⟩
structure DInv (xs ys : List W) (i j : Nat) (M U : List W) : Prop where
  h1 : M ++ diffL (xs.drop i) (ys.drop j) = diffL xs ys
  h2 : U ++ diffL (ys.drop j) (xs.drop i) = diffL ys xs
  li : i ≤ xs.length
  lj : j ≤ ys.length
  lm : M.length ≤ i
  lu : U.length ≤ j
theorem drop_of {xs : List W} {i : Nat} {x : W} (h : xs[i]? = some x) : xs.drop i = x :: xs.drop (i + 1) := by
  obtain ⟨h1, h2⟩ := List.getElem?_eq_some_iff.mp h
  rw [List.drop_eq_getElem_cons h1, h2]
theorem asc_drop {xs : List W} (h : Asc xs) (i : Nat) : Asc (xs.drop i) := h.sublist (List.drop_sublist _ _)
theorem DInv.start (xs ys : List W) : DInv xs ys 0 0 [] [] := ⟨rfl, rfl, Nat.zero_le _, Nat.zero_le _, Nat.le_refl _, Nat.le_refl _⟩
section
variable {xs ys : List W} {i j : Nat} {M U : List W} {x y : W}
theorem DInv.lt (h : DInv xs ys i j M U) (ax : Asc xs) (ay : Asc ys) (hx : xs[i]? = some x) (hy : ys[j]? = some y) (hlt : x < y) : DInv xs ys (i + 1) j (M ++ [x]) U := by
  have a1 := asc_drop ay j
  have li := (List.getElem?_eq_some_iff.mp hx).1
  have h1 := h.h1
  have h2 := h.h2
  rw [drop_of hx, drop_of hy] at h1 h2
  rw [drop_of hy] at a1
  rw [diff_lt1 hlt a1] at h1
  rw [diff_lt2 hlt a1] at h2
  refine ⟨?_, ?_, li, h.lj, by have := h.lm; simp; (first | lia | omega), h.lu⟩
  · rw [List.append_assoc, drop_of hy]; exact h1
  · rw [drop_of hy]; exact h2
theorem DInv.gt (h : DInv xs ys i j M U) (ax : Asc xs) (ay : Asc ys) (hx : xs[i]? = some x) (hy : ys[j]? = some y) (hlt : y < x) : DInv xs ys i (j + 1) M (U ++ [y]) := by
  have := DInv.lt (xs := ys) (ys := xs) (M := U) (U := M) ⟨h.h2, h.h1, h.lj, h.li, h.lu, h.lm⟩ ay ax hy hx hlt
  exact ⟨this.h2, this.h1, this.lj, this.li, this.lu, this.lm⟩
theorem DInv.eq (h : DInv xs ys i j M U) (ax : Asc xs) (ay : Asc ys) (hx : xs[i]? = some x) (hy : ys[j]? = some y) (h1' : ¬ x < y) (h2' : ¬ y < x) : DInv xs ys (i + 1) (j + 1) M U := by
  have e := W_eq h1' h2'
  subst e
  have a1 := asc_drop ay j
  have a2 := asc_drop ax i
  have li := (List.getElem?_eq_some_iff.mp hx).1
  have lj := (List.getElem?_eq_some_iff.mp hy).1
  have h1 := h.h1
  have h2 := h.h2
  rw [drop_of hx, drop_of hy] at h1 h2
  rw [drop_of hy] at a1
  rw [drop_of hx] at a2
  rw [diff_eq a2 a1] at h1
  rw [diff_eq a1 a2] at h2
  exact ⟨h1, h2, li, lj, Nat.le_succ_of_le h.lm, Nat.le_succ_of_le h.lu⟩
theorem diff_nil (l : List W) : diffL l [] = l := by unfold diffL; exact List.filter_eq_self.mpr fun x _ => rfl
theorem DInv.end (h : DInv xs ys i j M U) (he : i = xs.length ∨ j = ys.length) : M ++ xs.drop i = diffL xs ys ∧ U ++ ys.drop j = diffL ys xs := by
  have h1 := h.h1
  have h2 := h.h2
  rcases he with rfl | rfl
  · rw [List.drop_length] at h1 h2 ⊢
    rw [diff_nil] at h2
    exact ⟨h1, h2⟩
  · rw [List.drop_length] at h1 h2 ⊢
    rw [diff_nil] at h1
    exact ⟨h1, h2⟩
theorem asc_next (ax : Asc xs) {x' : W} (h1 : xs[i]? = some x) (h2 : xs[i + 1]? = some x') : x' ≠ x := fun e => by
  obtain ⟨l1, e1⟩ := List.getElem?_eq_some_iff.mp h1
  obtain ⟨l2, e2⟩ := List.getElem?_eq_some_iff.mp h2
  have := List.pairwise_iff_getElem.mp ax i (i + 1) l1 l2 (Nat.lt_succ_self _)
  rw [e1, e2, e] at this
  exact W_irrefl _ this
end
end Mine
end
section
open PySem PySem.W PyProof.Rows PySem.Calls
set_option maxRecDepth 20000
set_option linter.unusedVariables false
namespace Mine
section
variable {prog : Program} {w : World} {c : FC} {m : Loc} {n news : Led'} {E : Led' → Value → Shared → Prop}
theorem catch_IndexError : CatchOk "IndexError" := ⟨by rw [isSubtype_type]; kernel_rfl, by rw [show ((Manifest.find? "IndexError").elim "type" fun x => x.metatype) = "type" from by kernel_rfl, isSubtype_type]; kernel_rfl, by rw [isSubtype_type]; kernel_rfl⟩
theorem catch_ValueError : CatchOk "ValueError" := ⟨by rw [isSubtype_type]; kernel_rfl, by rw [show ((Manifest.find? "ValueError").elim "type" fun x => x.metatype) = "type" from by kernel_rfl, isSubtype_type]; kernel_rfl, by rw [isSubtype_type]; kernel_rfl⟩
/-- a way out of a frame's try -/
structure Way (prog : Program) (w : World) (c : FC) (X : String) (End : Loc → Led' → Prop) (EE : Led' → Value → Shared → Prop) : Prop where
  own : ∀ k, PassesOwn (model prog w) c.A c.env (EE k)
  ownF : ∀ k v, PassesOwnAt (model prog w) (c.A.mark (some v)) c.A c.env (EE k)
  ownM : ∀ k v, PassesOwn (model prog w) (c.A.mark (some v)) c.env (EE k)
  fewer : ∀ k p e s, EE (p :: k) e s → EE k e s
  raw : ∀ m n k e oe cx s, End m n → Raw oe X cx → Ld c k m ((e, oe) :: n) s → EE k (.ref e) s
  held : ∀ m n k e T oe oT vs ts s, End m n → oe.cls = .type X → oe.data = .fields vs → vs[1]? = some (.ref T) → oT.data = .fields ts → ts[3]? = some (rawInt c.env.locals) → Ld c k m ((T, oT) :: (e, oe) :: n) s → EE k (.ref e) s
theorem t_TryWay {X : String} {body orelse : List Stmt} {x : Str} {np hpos pos : Pos} {b₀ : Stmt} {suite : List Stmt} {rest : List ExceptHandler} {Q : Flow → Loc → Led' → Prop} (End : Loc → Led' → Prop) (CX : CatchOk X) (SC : SX c)
    (hN : ∀ e, Nm (mk c e) x (.type X)) (hE : ∀ k p e s, E (p :: k) e s → E k e s) (hsuite : ∀ m n e, End m n → Tr (model prog w) (mk c e) (execs (b₀ :: suite) c.env) m n Q nope)
    (h : ∀ EE, Way prog w c X End EE → Tr (model prog w) c (execs body c.env) m news (After (model prog w) c orelse c.env Q E) EE) :
    Tr (model prog w) c (exec (.Try body (.ExceptHandler (some (.Name x np)) none (b₀ :: suite) hpos :: rest) orelse [] pos) c.env) m news Q E := by
  refine t_TryX (h _ ⟨fun k => PassesOwn.looking, fun k v => PassesOwnAt.looking, fun k v => PassesOwnAt.lookingOf (SameStack.mark _ _), fun k p e s hs => ?_, fun m n k e oe cx s he R l => x_caught CX SC R l (hN e) (hsuite m n e he),
    fun m n k e T oe oT vs ts s he h1 h2 h3 h4 h5 l => x_caughtH CX SC l h1 h2 h3 h4 h5 (hN e) (hsuite m n e he)⟩)
  exact wpAny_mono hs (fun _ s₂ h₂ => wpAny_mono h₂ (fun _ s₃ h₃ => wpAny_mono h₃ (fun f s₄ ⟨m', n', l, q⟩ => ⟨m', n', l.ks fun q hq => .tail _ hq, q⟩) fun _ _ e => hE _ _ _ _ e) fun _ _ e => hE _ _ _ _ e) fun _ _ e => hE _ _ _ _ e
theorem t_Assign2 {x y : Str} {px py pos : Pos} {value : Expr} {Q : Flow → Loc → Led' → Prop} (Lx : LocN c x) (Ly : LocN c y) (h : Tr (model prog w) c (eval value c.env) m n (fun v m₁ n₁ => Q .next (upd (upd m₁ x v) y v) n₁) E)
    (he : (assignEach [.Name x px, .Name y py] c.env).map (·.2) = [assign (.Name x px) c.env, assign (.Name y py) c.env])
    (hw : swappedStores [.Name x px, .Name y py] value c.env = Pure.pure none) : Tr (model prog w) c (exec (.Assign [.Name x px, .Name y py] value pos) c.env) m n Q E := fun k s l => by
  refine wpAny_Assign_two (wpAny_mono (h k s l) (fun v s₁ ⟨m₁, n₁, l₁, q⟩ => ?_) fun _ _ e => e) he hw
  refine wpAny_assign_Name (wpAny_storeName_local Lx.loc l₁.ns (fun h₂ hn₂ hs₂ => ?_) (by rw [Lx.kind]; rfl))
  have l₂ := l₁.store (tk := s₁.toks + 1) hn₂ hs₂
  refine wpAny_assign_Name (wpAny_storeName_local Ly.loc l₂.ns (fun h₃ hn₃ hs₃ => ?_) (by rw [Ly.kind]; rfl))
  exact ⟨_, _, l₂.store (tk := s₁.toks + 1 + 1) hn₃ hs₃, q⟩
theorem t_tailOut' {value slice : Expr} {a : Addr} {vs : List Value} {i : Int} {j : Nat} {u : Tok} {cx : Value} {Q : Value → Loc → Led' → Prop} (hi : i = (j : Int)) (hl : LstAt c n a vs) (hout : vs.length ≤ j) (hhi : j < 100000) (hh : HandOk c.A n cx)
    (hE : ∀ k' e oe s', Raw oe "IndexError" cx → Ld c k' m ((e, oe) :: n) s' → E k' (.ref e) s')
    (hs : subscripted slice false (.ref a) (.int i u) = PySem.operate [.ref a, .int i u] (getItem (.ref a) (.int i u))) : Tr (model prog w) c (subscriptTail value slice (.ref a) (.int i u)) m n Q E := by
  subst hi; exact t_tailOut hl hout hhi hh hE hs
end
set_option compiler.extract_closed false
local macro_rules | `(tactic| walk_at "lk") => `(tactic| first | assumption | exact upd_hit | (refine upd_miss (by decide) ?_; walk_at "lk") | (with_unfolding_all rfl))
local macro_rules | `(tactic| walk_at "nm") => `(tactic| with_reducible assumption)
local macro_rules | `(tactic| walk_at "st") => `(tactic| with_reducible first
  | (refine' t_ld ?k1 ?k2 ?_; (case k1 => walk_at "nm"); (case k2 => walk_at "lk"))
  | (refine' t_nm ?k1 ?_; (case k1 => walk_at "nm"))
  | refine t_IntC fun _ => ?_
  | refine t_StrS fun _ => ?_
  | refine t_BoolC ?_
  | refine t_NoneC ?_
  | refine t_cons ?_
  | refine t_after ?_
  | refine t_afterR ?_
  | refine t_afterB ?_
  | refine t_If ?_
  | (refine t_isCompare ?_ ?k1; (case k1 => with_unfolding_all rfl))
  | refine t_isAnd2 ?_
  | refine t_isOr2 ?_
  | refine t_isNot ?_
  | (refine t_isPlain ?_ ?k1; (case k1 => with_unfolding_all rfl))
  | refine t_truthy_bool ?_
  | (refine t_ifTrue ?k1 ?_; (case k1 => with_unfolding_all rfl))
  | (refine t_ifFalse ?k1 ?_; (case k1 => with_unfolding_all rfl))
  | (refine t_Assign ?_ ?k1; (case k1 => with_unfolding_all rfl))
  | (refine t_st ?k1 ?_; (case k1 => walk_at "nm"))
  | refine t_AugAssign ?_
  | (refine' t_ldn ?k1 ?k2 ?_; (case k1 => walk_at "nm"); (case k2 => walk_at "lk"))
  | refine t_BinOp ?_
  | (refine t_Compare ?_ ?k1; (case k1 => with_unfolding_all rfl))
  | (refine t_CallE ?_ ?k1; (case k1 => with_unfolding_all rfl))
  | (refine t_callWith0 ?k1 ?_; (case k1 => with_unfolding_all rfl))
  | (refine t_callWith1 ?k1 ?_; (case k1 => with_unfolding_all rfl))
  | (refine t_argS ?_ ?k1; (case k1 => with_unfolding_all rfl))
  | refine t_arg0 ?_
  | refine And.intro (KeepOk.builtin _) ?_
  | refine And.intro (KeepOk.type _) ?_
  | refine Exists.intro _ (And.intro rfl ?_)
  | refine t_Return ?_
  | refine t_IfExp ?_
  | refine t_UnaryOp ?_
  | (refine t_ExprStmt ?_ ?k1 ?k2; (case k1 => walk_at "nm"); (case k2 => with_unfolding_all rfl))
  | refine And.intro rfl ?_
  | refine t_Break ?_
  | refine t_nil ?_
  | refine v_eqInt ?_
  | refine v_neInt ?_
  | refine v_ltInt ?_
  | refine v_gtInt ?_
  | refine v_geInt ?_
  | refine v_eqStr ?_
  | refine v_neStr ?_
  | refine v_ltStr ?_
  | refine v_gtStr ?_
  | refine v_addInt fun _ => ?_
  | refine v_iaddInt fun _ => ?_
  | refine v_subInt fun _ => ?_
  | refine v_negInt fun _ => ?_
  | refine v_isNone ?_
  | (refine v_modPos ?k1 fun _ => ?_; (case k1 => decide))
  | (refine v_divSmall ?k1 fun _ => ?_; (case k1 => decide))
  | refine t_Tuple ?_
  | refine t_List ?_
  | ((fail_if_success (refine t_strSlice ?_ ?_)); (fail_if_success (refine t_listSliceS ?_ ?_)); refine t_Subscript ?_)
  | refine t_part0 ?_
  | refine t_part ?_
  | (refine v_is ?k1 ?_; (case k1 => with_unfolding_all rfl))
  | (refine v_isNot ?k1 ?_; (case k1 => with_unfolding_all rfl))
  | refine v_abs fun _ => ?_
  | refine v_isiIntInt ?_
  | refine v_isiStrInt ?_
  | (refine t_Method ?_ (by with_unfolding_all rfl))
  | (refine t_tests1 ?_)
  | (refine t_tests0 ?_)
  | refine t_Pass ?_
  | refine t_Dict0 fun _ _ _ => ?_
  | refine t_Try0 ?_
  | (refine t_AssignSub ?_ ?k1; (case k1 => with_unfolding_all rfl))
  | (refine' t_use ?k1 ?_; (case k1 => assumption))
  | fail)
local macro_rules | `(tactic| walk_at "go") => `(tactic| repeat' (walk_at "st"))
local macro_rules | `(tactic| walk_at "gT") => `(tactic| repeat' ((fail_if_success (with_reducible refine t_Try0 ?_)); walk_at "st"))
local macro_rules | `(tactic| walk_at "g0") => `(tactic| repeat' ((fail_if_success (with_reducible refine t_If ?_)); walk_at "st"))
local macro_rules | `(tactic| walk_at "lka") => `(tactic| ((repeat' (with_reducible refine And.intro ?_ ?_)) <;> first | walk_at "lk" | exact ⟨_, by walk_at "lk"⟩))
local macro_rules | `(tactic| walk_at "mm") => `(tactic| first | exact .head _ | exact .tail _ (.head _) | exact .tail _ (.tail _ (.head _)) | exact .tail _ (.tail _ (.tail _ (.head _))) | exact .tail _ (.tail _ (.tail _ (.tail _ (.head _)))))
local macro_rules | `(tactic| walk_at "mb") => `(tactic| first | exact .head _ | assumption | exact List.mem_append_left _ (by assumption) | (refine .tail _ ?_; walk_at "mb") | (refine List.mem_append_right _ ?_; walk_at "mb"))

structure SldS (b1 b2 : Addr) (i j : Nat) (M U : List W) (m : Loc) (n : Led') : Prop where
  i : ∃ t, m "i" = some (.int (i : Nat) t)
  j : ∃ t, m "j" = some (.int (j : Nat) t)
  a1 : m "expected" = some (.ref b1)
  a2 : m "actual" = some (.ref b2)
  rest : ∃ am au mv uv e1 e2, m "missing" = some (.ref am) ∧ m "unexpected" = some (.ref au) ∧ n = [(au, lst uv e2), (am, lst mv e1)] ∧ Strs mv M ∧ Strs uv U
noncomputable def SldEnd (xs ys : List W) (b1 b2 : Addr) (m : Loc) (n : Led') : Prop := ∃ i j M U, SldS b1 b2 i j M U m n ∧ DInv xs ys i j M U ∧ (i = xs.length ∨ j = ys.length)
structure SldJ (xs ys : List W) (b1 b2 : Addr) (r : Nat) (m : Loc) (n : Led') : Prop where
  st : ∃ i j M U, SldS b1 b2 i j M U m n ∧ DInv xs ys i j M U ∧ i + j + r = xs.length + ys.length
structure SldD (xs ys : List W) (m : Loc) (n : Led') : Prop where
  rest : ∃ am au mv uv e1 e2, m "missing" = some (.ref am) ∧ m "unexpected" = some (.ref au) ∧ [(au, lst uv e2), (am, lst mv e1)].Sublist n ∧ Strs mv (diffL xs ys) ∧ Strs uv (diffL ys xs)
theorem tooLong_small {k : Nat} {b : Bool} (h : k ≤ 1000000) : (!b && Builtin.List.listTooLong k) = false := by
  have : Builtin.List.listTooLong k = false := by
    have hsz : 1000000 ≤ sizeLine := by decide +kernel
    exact decide_eq_false (Nat.not_lt.mpr (Nat.le_trans h hsz))
  rw [this, Bool.and_false]
theorem strs_drop {vs : List Value} {xs : List W} (h : Strs vs xs) : ∀ i, Strs (vs.drop i) (xs.drop i) := by
  induction h with
  | nil => intro i; rw [List.drop_nil, List.drop_nil]; exact .nil
  | cons hx t ih => intro i; cases i with
    | zero => exact .cons hx t
    | succ i => exact ih i
set_option maxHeartbeats 4000000 in
theorem spec_sld {prog : Program} {w : World} {G : Gl} {a b1 b2 : Addr} {v1 v2 : List Value} {xs ys : List W} (h1 : Strs v1 xs) (h2 : Strs v2 ys) (ax : Asc xs) (ay : Asc ys) (z1 : xs.length ≤ 1000) (z2 : ys.length ≤ 1000) :
    SpecX (model prog w) G 1 a [.ref b1, .ref b2] (fun h => FnIs G h 17 a ∧ (∃ n, h.get? b1 = some (lst v1 n)) ∧ ∃ n, h.get? b2 = some (lst v2 n))
      (fun r out => ∃ d am au mv uv e1 e2 n, r = .ref d ∧ out = [(d, tup [.ref am, .ref au] n), (au, lst uv e2), (am, lst mv e1)] ∧ Strs mv (diffL xs ys) ∧ Strs uv (diffL ys xs)) := by
  refine spec_ofX (binds := [("expected", .ref b1), ("actual", .ref b2)]) (fun h _ hp => hp.1) (fun _ _ _ => rfl) (locs rfl) (by decide +kernel) ?_
  intro c F SC ⟨_, ⟨n1, hb1⟩, ⟨n2, hb2⟩⟩
  have X_int := F.inter
  have X_env := F.env
  have L_expected : LocN c "expected" := F.loc (by decide +kernel)
  have L_actual : LocN c "actual" := F.loc (by decide +kernel)
  have L_i : LocN c "i" := F.loc (by decide +kernel)
  have L_j : LocN c "j" := F.loc (by decide +kernel)
  have L_missing : LocN c "missing" := F.loc (by decide +kernel)
  have L_unexpected : LocN c "unexpected" := F.loc (by decide +kernel)
  have L_e : LocN c "e" := F.loc (by decide +kernel)
  have L_a : LocN c "a" := F.loc (by decide +kernel)
  have N_IE : ∀ e, Nm (mk c e) "IndexError" (.type "IndexError") := fun e => (F.nf.mkd).bnm (by decide +kernel) (by decide +kernel)
  have hl1 := Paired.length h1
  have hl2 := Paired.length h2
  have hsz : 1000000 ≤ sizeLine := by decide +kernel
  refine t_cons ?_
  refine t_Assign2 L_i L_j ?_ (by with_unfolding_all rfl) (by obtain ⟨nm, a', cd, e⟩ := X_env; rw [e]; with_unfolding_all rfl)
  walk_at "go"
  refine ⟨Nat.zero_le _, fun am => ?_⟩
  walk_at "go"
  refine ⟨Nat.zero_le _, fun au => ?_⟩
  walk_at "go"
  refine t_mid (SldD xs ys) ?_ ?_
  · refine t_While (SldJ xs ys b1 b2) ⟨xs.length + ys.length, _, List.Sublist.refl _, ⟨0, 0, [], [], ⟨⟨_, by walk_at "lk"⟩, ⟨_, by walk_at "lk"⟩, by walk_at "lk", by walk_at "lk", am, au, [], [], _, _, by walk_at "lk", by walk_at "lk", rfl, .nil, .nil⟩, .start _ _, by (first | lia | omega)⟩⟩ ?_ passesNope
    rintro r m n xB1
    refine t_box fun gbx hbx => ?_
    obtain ⟨i, j, M, U, ⟨⟨ti, hi⟩, ⟨tj, hj⟩, g1, g2, am, au, mv, uv, e1, e2, g3, g4, eB0, s1, s2⟩, D, hr⟩ := xB1
    refine hbx ?_
    clear hbx gbx
    subst eB0
    walk_at "gT"
    refine t_TryWay (SldEnd xs ys b1 b2) catch_IndexError SC N_IE (fun _ _ _ _ h => h) ?_ ?_
    · rintro m n ex xB1
      refine t_box fun gbx hbx => ?_
      obtain ⟨i, j, M, U, ⟨⟨ti, hi⟩, ⟨tj, hj⟩, g1, g2, am, au, mv, uv, e1, e2, g3, g4, eB0, s1, s2⟩, D, he⟩ := xB1
      refine hbx ?_
      clear hbx gbx
      subst eB0
      have L_expected' := L_expected.mkd (e := ex)
      have L_actual' := L_actual.mkd (e := ex)
      have L_i' := L_i.mkd (e := ex)
      have L_j' := L_j.mkd (e := ex)
      have L_missing' := L_missing.mkd (e := ex)
      have L_unexpected' := L_unexpected.mkd (e := ex)
      have X_int' : interactive (mk c ex).env = false := X_int
      have hlm := Paired.length s1
      have hlu := Paired.length s2
      have hli := D.li
      have hlj := D.lj
      have hlm' := D.lm
      have hlu' := D.lu
      obtain ⟨d1, d2⟩ := D.end he
      show Tr (model prog w) (mk c ex) (execs _ (mk c ex).env) _ _ _ _
      walk_at "go"
      refine t_methL (.new (by walk_at "mm")) PySem.F.slot_list_extend PySem.F.type_list_extend ?_
      walk_at "go"
      refine t_listSlice ?_ (by intro _ _; rfl)
      walk_at "go"
      refine ⟨b1, v1, _, _, rfl, .old ⟨_, hb1, rfl, _, rfl⟩, .int _ _, .none, by (first | lia | omega), fun sl1 => ?_⟩
      rw [slicePick_from']
      walk_at "go"
      refine v_extend (i := 2) (ws := v1.drop i) rfl (.new (by walk_at "mm")) (by rw [List.length_drop]; (first | lia | omega)) (by
        simp only [List.size_toArray, List.length_drop]
        exact tooLong_small (by (first | lia | omega))) fun e1' => ?_
      walk_at "go"
      refine t_methL (.new (by walk_at "mm")) PySem.F.slot_list_extend PySem.F.type_list_extend ?_
      walk_at "go"
      refine t_listSlice ?_ (by intro _ _; rfl)
      walk_at "go"
      refine ⟨b2, v2, _, _, rfl, .old ⟨_, hb2, rfl, _, rfl⟩, .int _ _, .none, by (first | lia | omega), fun sl2 => ?_⟩
      rw [slicePick_from']
      walk_at "go"
      refine v_extend (i := 2) (ws := v2.drop j) rfl (.new (by walk_at "mm")) (by rw [List.length_drop]; (first | lia | omega)) (by
        simp only [List.size_toArray, List.length_drop]
        exact tooLong_small (by (first | lia | omega))) fun e2' => ?_
      walk_at "go"
      refine ⟨rfl, ⟨am, au, mv ++ v1.drop i, uv ++ v2.drop j, e1', e2', g3, g4, ?_, ?_, ?_⟩⟩
      · exact (List.sublist_cons_self _ _).trans (List.sublist_cons_self _ _)
      · rw [← d1]; exact Paired.app s1 (strs_drop h1 i)
      · rw [← d2]; exact Paired.app s2 (strs_drop h2 j)
    · intro EE W
      have hlm := Paired.length s1
      have hlu := Paired.length s2
      have hli := D.li
      have hlj := D.lj
      have hlm' := D.lm
      have hlu' := D.lu
      have lo1 : LstAt c [(au, lst uv e2), (am, lst mv e1)] b1 v1 := .old ⟨_, hb1, rfl, _, rfl⟩
      have lo2 : LstAt c [(au, lst uv e2), (am, lst mv e1)] b2 v2 := .old ⟨_, hb2, rfl, _, rfl⟩
      have ho1 : ∀ n', LstAt c n' b1 v1 := fun n' => .old ⟨_, hb1, rfl, _, rfl⟩
      have ho2 : ∀ n', LstAt c n' b2 v2 := fun n' => .old ⟨_, hb2, rfl, _, rfl⟩
      by_cases hie : i = xs.length
      · walk_at "go"
        refine t_tailOut' rfl (ho1 _) (by (first | lia | omega)) (by (first | lia | omega)) (.inl ⟨F.hn, rfl⟩) (fun k' e oe s' R l => W.raw _ _ _ _ _ _ _ ?_ R l) (by with_unfolding_all rfl)
        exact ⟨i, j, M, U, ⟨⟨_, hi⟩, ⟨_, hj⟩, g1, g2, am, au, mv, uv, e1, e2, g3, g4, rfl, s1, s2⟩, D, .inl hie⟩
      have hx : xs[i]? = some xs[i] := List.getElem?_eq_getElem (by (first | lia | omega))
      generalize xs[i] = x at hx
      refine t_box fun gbx hbx => ?_
      obtain ⟨vx, hvx, hxx⟩ := Paired.get2 h1 hx
      refine hbx ?_
      clear hbx gbx
      cases hxx with | mk _ tx =>
      walk_at "go"
      refine t_tailList (ho1 _) (by (first | lia | omega)) (by (first | lia | omega)) (by simpa using hvx) ?_ (by with_unfolding_all rfl)
      by_cases hje : j = ys.length
      · walk_at "go"
        refine t_tailOut' rfl (ho2 _) (by (first | lia | omega)) (by (first | lia | omega)) (.inl ⟨F.hn, rfl⟩) (fun k' e oe s' R l => W.raw _ _ _ _ _ _ _ ?_ R l) (by with_unfolding_all rfl)
        exact ⟨i, j, M, U, ⟨⟨_, by walk_at "lk"⟩, ⟨_, by walk_at "lk"⟩, by walk_at "lk", by walk_at "lk", am, au, mv, uv, e1, e2, by walk_at "lk", by walk_at "lk", rfl, s1, s2⟩, D, .inr hje⟩
      have hy : ys[j]? = some ys[j] := List.getElem?_eq_getElem (by (first | lia | omega))
      generalize ys[j] = y at hy
      refine t_box fun gbx hbx => ?_
      obtain ⟨vy, hvy, hyy⟩ := Paired.get2 h2 hy
      refine hbx ?_
      clear hbx gbx
      cases hyy with | mk _ ty =>
      walk_at "go"
      refine t_tailList (ho2 _) (by (first | lia | omega)) (by (first | lia | omega)) (by simpa using hvy) ?_ (by with_unfolding_all rfl)
      walk_at "go"
      refine t_ite (fun hlt => ?_) (fun hnlt => ?_)
      · have hlt := of_decide_eq_true hlt
        have D' := D.lt ax ay hx hy hlt
        walk_at "go"
        refine t_methL (.new (by walk_at "mm")) PySem.F.slot_list_append PySem.F.type_list_append ?_
        walk_at "go"
        refine v_append (i := 1) rfl (by (first | lia | omega)) fun e1' => ?_
        walk_at "go"
        have hs1 : Strs (mv ++ [.str (S x) tx]) (M ++ [x]) := Paired.snoc s1 (.mk _ _)
        refine t_While0 ?_ W.own
        walk_at "go"
        by_cases hie2 : i + 1 = xs.length
        · refine t_tailOut' (j := i + 1) rfl (ho1 _) (by (first | lia | omega)) (by (first | lia | omega)) (.inl ⟨F.hn, rfl⟩) (fun k' e oe s' R l => W.raw _ _ _ _ _ _ _ ?_ R l) (by with_unfolding_all rfl)
          exact ⟨i + 1, j, M ++ [x], U, ⟨⟨_, by rw [show ((i + 1 : Nat) : Int) = (i : Int) + 1 by (first | lia | omega)]; walk_at "lk"⟩, ⟨_, by walk_at "lk"⟩, by walk_at "lk", by walk_at "lk", am, au, _, uv, e1', e2, by walk_at "lk", by walk_at "lk", rfl, hs1, s2⟩, D', .inl hie2⟩
        have hx2 : xs[i + 1]? = some xs[i + 1] := List.getElem?_eq_getElem (by (first | lia | omega))
        have hne := asc_next ax hx hx2
        generalize xs[i + 1] = x2 at hx2 hne
        refine t_box fun gbx hbx => ?_
        obtain ⟨vx2, hvx2, hxx2⟩ := Paired.get2 h1 hx2
        refine hbx ?_
        clear hbx gbx
        cases hxx2 with | mk _ tx2 =>
        refine t_tailList (ho1 _) (by (first | lia | omega)) (by (first | lia | omega)) (by rw [show ((i : Int) + 1).toNat = i + 1 by (first | lia | omega)]; exact hvx2) ?_ (by with_unfolding_all rfl)
        walk_at "go"
        refine ⟨decide_eq_false hne, ?_⟩
        walk_at "go"
        exact ⟨r - 1, by (first | lia | omega), _, List.Sublist.refl _, ⟨i + 1, j, M ++ [x], U, ⟨⟨_, by rw [show ((i + 1 : Nat) : Int) = (i : Int) + 1 by (first | lia | omega)]; walk_at "lk"⟩, ⟨_, by walk_at "lk"⟩, by walk_at "lk", by walk_at "lk", am, au, _, uv, e1', e2, by walk_at "lk", by walk_at "lk", rfl, hs1, s2⟩, D', by have := D'.li; (first | lia | omega)⟩⟩
      have hnlt := of_decide_eq_false hnlt
      walk_at "go"
      refine t_ite (fun hgt => ?_) (fun hngt => ?_)
      · have hgt := of_decide_eq_true hgt
        have D' := D.gt ax ay hx hy hgt
        walk_at "go"
        refine t_methL (.new (by walk_at "mm")) PySem.F.slot_list_append PySem.F.type_list_append ?_
        walk_at "go"
        refine v_append (i := 0) rfl (by (first | lia | omega)) fun e2' => ?_
        walk_at "go"
        have hs2 : Strs (uv ++ [.str (S y) ty]) (U ++ [y]) := Paired.snoc s2 (.mk _ _)
        refine t_While0 ?_ W.own
        walk_at "go"
        by_cases hje2 : j + 1 = ys.length
        · refine t_tailOut' (j := j + 1) rfl (ho2 _) (by (first | lia | omega)) (by (first | lia | omega)) (.inl ⟨F.hn, rfl⟩) (fun k' e oe s' R l => W.raw _ _ _ _ _ _ _ ?_ R l) (by with_unfolding_all rfl)
          exact ⟨i, j + 1, M, U ++ [y], ⟨⟨_, by walk_at "lk"⟩, ⟨_, by rw [show ((j + 1 : Nat) : Int) = (j : Int) + 1 by (first | lia | omega)]; walk_at "lk"⟩, by walk_at "lk", by walk_at "lk", am, au, mv, _, e1, e2', by walk_at "lk", by walk_at "lk", rfl, s1, hs2⟩, D', .inr hje2⟩
        have hy2 : ys[j + 1]? = some ys[j + 1] := List.getElem?_eq_getElem (by (first | lia | omega))
        have hne := asc_next ay hy hy2
        generalize ys[j + 1] = y2 at hy2 hne
        refine t_box fun gbx hbx => ?_
        obtain ⟨vy2, hvy2, hyy2⟩ := Paired.get2 h2 hy2
        refine hbx ?_
        clear hbx gbx
        cases hyy2 with | mk _ ty2 =>
        refine t_tailList (ho2 _) (by (first | lia | omega)) (by (first | lia | omega)) (by rw [show ((j : Int) + 1).toNat = j + 1 by (first | lia | omega)]; exact hvy2) ?_ (by with_unfolding_all rfl)
        walk_at "go"
        refine ⟨decide_eq_false hne, ?_⟩
        walk_at "go"
        exact ⟨r - 1, by (first | lia | omega), _, List.Sublist.refl _, ⟨i, j + 1, M, U ++ [y], ⟨⟨_, by walk_at "lk"⟩, ⟨_, by rw [show ((j + 1 : Nat) : Int) = (j : Int) + 1 by (first | lia | omega)]; walk_at "lk"⟩, by walk_at "lk", by walk_at "lk", am, au, mv, _, e1, e2', by walk_at "lk", by walk_at "lk", rfl, s1, hs2⟩, D', by have := D'.lj; (first | lia | omega)⟩⟩
      have hngt := of_decide_eq_false hngt
      have D' := D.eq ax ay hx hy hnlt hngt
      have hli2 := D'.li
      have hlj2 := D'.lj
      walk_at "go"
      refine t_TryF W.own ?_
      refine t_last ?_
      refine t_While0 ?_ (fun k => PassesOwn.looking)
      walk_at "go"
      by_cases hie2 : i + 1 = xs.length
      · refine t_tailOut' (j := i + 1) rfl (ho1 _) (by (first | lia | omega)) (by (first | lia | omega)) (.inl ⟨F.hn, rfl⟩) (fun k' e oe s' R l => x_finally SC R l W.ownF ?_) (by with_unfolding_all rfl)
        intro T oT oe' vs' hc hd hT hcx
        have L_actual' := L_actual.mkd (e := e)
        have L_j' := L_j.mkd (e := e)
        have L_a' := L_a.mkd (e := e)
        have X_int' : interactive (mk c e).env = false := X_int
        have ho2' : ∀ n', LstAt (mk c e) n' b2 v2 := fun n' => .old ⟨_, hb2, rfl, _, rfl⟩
        show Tr (model prog w) (mk c e) (execs _ (mk c e).env) _ _ _ _
        walk_at "go"
        refine t_While0 ?_ (fun k => W.ownM k _)
        walk_at "go"
        by_cases hje2 : j + 1 = ys.length
        · refine t_tailOut' (j := j + 1) rfl (ho2' _) (by (first | lia | omega)) (by (first | lia | omega)) (.inr ⟨e, oe', vs', rfl, rfl, .tail _ (.head _), hd, hcx⟩) (fun k' e2 oe2 s2' R2 l2 => W.raw _ _ _ _ _ _ _ ?_ R2 (l2.unmk.sub ((((List.Sublist.refl _).cons _).cons _).cons_cons _))) (by with_unfolding_all rfl)
          exact ⟨i + 1, j + 1, M, U, ⟨⟨_, by rw [show ((i + 1 : Nat) : Int) = (i : Int) + 1 by (first | lia | omega)]; walk_at "lk"⟩, ⟨_, by rw [show ((j + 1 : Nat) : Int) = (j : Int) + 1 by (first | lia | omega)]; walk_at "lk"⟩, by walk_at "lk", by walk_at "lk", am, au, mv, uv, _, _, by walk_at "lk", by walk_at "lk", rfl, s1, s2⟩, D', .inl hie2⟩
        have hy2 : ys[j + 1]? = some ys[j + 1] := List.getElem?_eq_getElem (by (first | lia | omega))
        have hne := asc_next ay hy hy2
        generalize ys[j + 1] = y2 at hy2 hne
        refine t_box fun gbx hbx => ?_
        obtain ⟨vy2, hvy2, hyy2⟩ := Paired.get2 h2 hy2
        refine hbx ?_
        clear hbx gbx
        cases hyy2 with | mk _ ty2 =>
        refine t_tailList (ho2' _) (by (first | lia | omega)) (by (first | lia | omega)) (by rw [show ((j : Int) + 1).toNat = j + 1 by (first | lia | omega)]; exact hvy2) ?_ (by with_unfolding_all rfl)
        walk_at "go"
        refine ⟨decide_eq_false hne, ?_⟩
        walk_at "go"
        refine fun k s oT' ts' hdT h3 l => W.held _ _ _ _ _ _ _ _ _ _ ?_ hc hd hT hdT h3 l
        exact ⟨i + 1, j + 1, M, U, ⟨⟨_, by rw [show ((i + 1 : Nat) : Int) = (i : Int) + 1 by (first | lia | omega)]; walk_at "lk"⟩, ⟨_, by rw [show ((j + 1 : Nat) : Int) = (j : Int) + 1 by (first | lia | omega)]; walk_at "lk"⟩, by walk_at "lk", by walk_at "lk", am, au, mv, uv, _, _, by walk_at "lk", by walk_at "lk", rfl, s1, s2⟩, D', .inl hie2⟩
      have hx2 : xs[i + 1]? = some xs[i + 1] := List.getElem?_eq_getElem (by (first | lia | omega))
      have hne := asc_next ax hx hx2
      generalize xs[i + 1] = x2 at hx2 hne
      refine t_box fun gbx hbx => ?_
      obtain ⟨vx2, hvx2, hxx2⟩ := Paired.get2 h1 hx2
      refine hbx ?_
      clear hbx gbx
      cases hxx2 with | mk _ tx2 =>
      refine t_tailList (ho1 _) (by (first | lia | omega)) (by (first | lia | omega)) (by rw [show ((i : Int) + 1).toNat = i + 1 by (first | lia | omega)]; exact hvx2) ?_ (by with_unfolding_all rfl)
      walk_at "go"
      refine ⟨decide_eq_false hne, ?_⟩
      walk_at "go"
      refine t_While0 ?_ W.own
      walk_at "go"
      by_cases hje2 : j + 1 = ys.length
      · refine t_tailOut' (j := j + 1) rfl (ho2 _) (by (first | lia | omega)) (by (first | lia | omega)) (.inl ⟨F.hn, rfl⟩) (fun k' e oe s' R l => W.raw _ _ _ _ _ _ _ ?_ R l) (by with_unfolding_all rfl)
        exact ⟨i + 1, j + 1, M, U, ⟨⟨_, by rw [show ((i + 1 : Nat) : Int) = (i : Int) + 1 by (first | lia | omega)]; walk_at "lk"⟩, ⟨_, by rw [show ((j + 1 : Nat) : Int) = (j : Int) + 1 by (first | lia | omega)]; walk_at "lk"⟩, by walk_at "lk", by walk_at "lk", am, au, mv, uv, _, _, by walk_at "lk", by walk_at "lk", rfl, s1, s2⟩, D', .inr hje2⟩
      have hy2 : ys[j + 1]? = some ys[j + 1] := List.getElem?_eq_getElem (by (first | lia | omega))
      have hne2 := asc_next ay hy hy2
      generalize ys[j + 1] = y2 at hy2 hne2
      refine t_box fun gbx hbx => ?_
      obtain ⟨vy2, hvy2, hyy2⟩ := Paired.get2 h2 hy2
      refine hbx ?_
      clear hbx gbx
      cases hyy2 with | mk _ ty2 =>
      refine t_tailList (ho2 _) (by (first | lia | omega)) (by (first | lia | omega)) (by rw [show ((j : Int) + 1).toNat = j + 1 by (first | lia | omega)]; exact hvy2) ?_ (by with_unfolding_all rfl)
      walk_at "go"
      refine ⟨decide_eq_false hne2, ?_⟩
      walk_at "go"
      show Tr _ _ _ _ _ _ _
      walk_at "go"
      exact ⟨r - 2, by (first | lia | omega), _, List.Sublist.refl _, ⟨i + 1, j + 1, M, U, ⟨⟨_, by rw [show ((i + 1 : Nat) : Int) = (i : Int) + 1 by (first | lia | omega)]; walk_at "lk"⟩, ⟨_, by rw [show ((j + 1 : Nat) : Int) = (j : Int) + 1 by (first | lia | omega)]; walk_at "lk"⟩, by walk_at "lk", by walk_at "lk", am, au, mv, uv, _, _, by walk_at "lk", by walk_at "lk", rfl, s1, s2⟩, D', by (first | lia | omega)⟩⟩
  · rintro m' n xB1
    refine t_box fun gbx hbx => ?_
    obtain ⟨am, au, mv, uv, e1, e2, g3, g4, hsub, s1, s2⟩ := xB1
    refine hbx ?_
    clear hbx gbx
    refine Tr.sub hsub ?_
    walk_at "go"
    refine ⟨show 2 ≤ sizeLine by (first | lia | omega), fun d => ?_⟩
    walk_at "go"
    exact ⟨_, List.Sublist.refl _, d, am, au, mv, uv, e1, e2, _, rfl, rfl, s1, s2⟩
end Mine
end
section
open PySem PySem.W PyProof.Rows PySem.Calls
set_option maxRecDepth 20000
set_option linter.unusedVariables false
namespace Mine
section
variable {prog : Program} {w : World} {c : FC} {m : Loc} {n news : Led'} {E : Led' → Value → Shared → Prop} {t : Tok}
noncomputable abbrev rmMsg : String := "list.remove(x): x not in list"
theorem rm_loopX (a : Addr) (items : Array Value) (n : Nat) (x : Value) (e : Value → Bool) (he : ∀ y, y ∈ items → MeetsSeq.EqGives y x (e y)) (hno : ∀ m (hm : m < items.size), e items[m] = false) (k : Nat) :
    ∀ i : Nat, items.size - i = k → MeetsIn prog w (Builtin.«list.remove.loop» ⟨[.ref a, x, rawInt i], []⟩)
      (fun A R s => s.heap.get? a = some { cls := .type "list", dict := none, data := .seq items n, slots := #[] } ∧ Raises prog w A "ValueError" rmMsg (fun e s' => R (.error e) s') s) := by
  induction k with
  | zero =>
    intro i hk A R s h
    obtain ⟨hp, g, d, tk, os⟩ := s; obtain ⟨hl, h⟩ := h
    wp_walk using wpAny_loadPart' hl
    have hi : items[((i : Nat) : Int).toNat]? = none := by simp; (first | lia | omega)
    rw [hi]
    wp_walk
    exact h _ _ _ rfl
  | succ k ih =>
    intro i hk A R s h
    obtain ⟨hp, g, d, tk, os⟩ := s; obtain ⟨hl, h⟩ := h
    have hlt : i < items.size := by (first | lia | omega)
    wp_walk using wpAny_loadPart' hl
    have hi : items[((i : Nat) : Int).toNat]? = some items[i] := by simp [hlt]
    have hc : ((i : Int) + 1) = ((i + 1 : Nat) : Int) := by push_cast; rfl
    rw [hi]
    refine wpAny_bind (he _ (Array.getElem_mem hlt) prog w _ _ _ _ ?_)
    rw [hno i hlt]
    wp_walk
    rw [hc]
    exact ⟨plainId_quiet MeetsSeq.plain_remove_loop _, codeAny_builtin MeetsSeq.entry_remove_loop (by
      rw [Around.under_plainId MeetsSeq.plain_remove_loop _]
      exact ih (i + 1) (by (first | lia | omega)) A R _ ⟨hl, h⟩)⟩
theorem rm_noneX (a : Addr) (items : Array Value) (n : Nat) (x : Value) (e : Value → Bool) (he : ∀ y, y ∈ items → MeetsSeq.EqGives y x (e y)) (hno : ∀ m (hm : m < items.size), e items[m] = false) :
    MeetsIn prog w (Builtin.«list.remove» ⟨[.ref a, x], []⟩)
      (fun A R s => s.heap.get? a = some { cls := .type "list", dict := none, data := .seq items n, slots := #[] } ∧ Raises prog w A "ValueError" rmMsg (fun e s' => R (.error e) s') s) := by
  intro A R s h
  obtain ⟨hp, g, d, tk, os⟩ := s; obtain ⟨hl, h⟩ := h
  wp_walk using wpAny_loadPart' hl
  exact ⟨plainId_quiet MeetsSeq.plain_remove_loop _, codeAny_builtin MeetsSeq.entry_remove_loop (by
    rw [Around.under_plainId MeetsSeq.plain_remove_loop _]
    exact rm_loopX a items n x e he hno _ 0 rfl A R _ ⟨hl, h⟩)⟩
theorem v_removeOut {a : Addr} {vs : List Value} {e0 : Nat} {xs : List W} {x : W} {cx : Value} {Q : Value → Loc → Led' → Prop} (hi : (a, lst vs e0) ∈ n) (hv : Strs vs xs) (hno : x ∉ xs) (hh : HandOk c.A n cx)
    (hE : ∀ k' e oe s', Raw oe "ValueError" cx → Ld c k' m ((e, oe) :: n) s' → E k' (.ref e) s') : Tr (model prog w) c (call (.builtin "list.remove") [.ref a, .str (S x) t]) m n Q E := fun k s l => by
  have ha := (l.nw _ hi).1
  refine call_meetsIn PySem.F.slot_list_remove ⟨_, ha, rfl⟩ PySem.F.entry_list_remove (PySem.F.args_list_remove_2 _ _) (rm_noneX a vs.toArray e0 (.str (S x) t) (isStrOf (S x)) (str_gives x t hv) (isStr_false hv hno)) ⟨ha, fun A' α Q' hA => ?_⟩
  refine x_raise plainExc_ValueError (cx := cx) ?_ l fun e oe s' h1 h2 => hE k e oe s' h1 h2
  unfold HandOk; rw [hA]; exact hh
end
/-- what is left of a list -/
theorem erase_nodup {l : List W} (h : l.Nodup) {j : Nat} {x : W} (hj : l[j]? = some x) : l.eraseIdx j = l.filter (fun y => !decide (y = x)) := by
  induction l generalizing j with
  | nil => cases hj
  | cons a r ih =>
    have hn := List.nodup_cons.mp h
    cases j with
    | zero =>
      have : a = x := by simpa using hj
      subst this
      rw [List.eraseIdx_zero, List.tail_cons, List.filter_cons, if_neg (by simp)]
      exact (List.filter_eq_self.mpr fun y hy => by
        have : y ≠ a := fun e => hn.1 (e ▸ hy)
        simp [this]).symm
    | succ j =>
      have hj' : r[j]? = some x := by simpa using hj
      have : a ≠ x := fun e => hn.1 (e ▸ List.mem_of_getElem? hj')
      rw [List.eraseIdx_cons_succ, List.filter_cons, if_pos (by simp [this]), ih hn.2 hj']
theorem strs_erase {vs : List Value} {xs : List W} (h : Strs vs xs) : ∀ j, Strs (vs.eraseIdx j) (xs.eraseIdx j) := by
  induction h with
  | nil => intro j; exact .nil
  | cons hx t ih => intro j; cases j with
    | zero => exact t
    | succ j => exact .cons hx (ih j)
theorem nodup_first {l : List W} (h : l.Nodup) {j : Nat} {x : W} (hj : l[j]? = some x) : ∀ k, k < j → l[k]? ≠ some x := fun k hk e => by
  obtain ⟨l1, e1⟩ := List.getElem?_eq_some_iff.mp hj
  obtain ⟨l2, e2⟩ := List.getElem?_eq_some_iff.mp e
  have := List.pairwise_iff_getElem.mp h k j l2 l1 hk
  exact this (by rw [e1, e2])
theorem strs_things {vs : List Value} {xs : List W} (h : Strs vs xs) : Things vs (xs.map .str) := by
  induction h with
  | nil => exact .nil
  | cons hx t ih => cases hx; exact .cons (.str _ _) ih
theorem things_strs {vs : List Value} : ∀ {xs : List W}, Things vs (xs.map .str) → Strs vs xs
  | [], h => by cases h; exact .nil
  | x :: r, h => by
    cases h with | cons hx t =>
    cases hx
    exact .cons (.mk _ _) (things_strs t)
theorem any_str (ks : List W) (x : W) : (ks.map Th.str).any (·.eqv (.str x)) = decide (x ∈ ks) := by
  rw [Bool.eq_iff_iff]
  simp only [List.any_map, List.any_eq_true, Function.comp, decide_eq_true_eq]
  constructor
  · rintro ⟨y, hy, h⟩
    have : y = x := of_decide_eq_true h
    exact this ▸ hy
  · intro h
    exact ⟨x, h, decide_eq_true rfl⟩
theorem ded_strs (xs : List W) : dedTh (xs.map .str) = (uniq xs).map .str := by
  have key : ∀ (l acc : List W), (l.map Th.str).foldl (fun acc x => if acc.any (·.eqv x) then acc else acc ++ [x]) (acc.map .str) = (l.foldl addK acc).map .str := fun l => by
    induction l with
    | nil => intro acc; rfl
    | cons x r ih =>
      intro acc
      rw [List.map_cons, List.foldl_cons, List.foldl_cons, any_str]
      by_cases h : x ∈ acc
      · rw [decide_eq_true h, if_pos rfl, show addK acc x = acc from if_pos h, ih]
      · rw [decide_eq_false h, if_neg Bool.false_ne_true, show addK acc x = acc ++ [x] from if_neg h, ← ih, List.map_append]; rfl
  unfold dedTh dupAt uniq
  rw [List.take_of_length_le (Nat.le_refl _)]
  exact key xs []
theorem foldl_addK_mem {l ks : List W} {y : W} : y ∈ l.foldl addK ks ↔ y ∈ ks ∨ y ∈ l := by
  induction l generalizing ks with
  | nil => simp
  | cons x r ih =>
    rw [List.foldl_cons, ih, addK_mem, List.mem_cons]
    constructor
    · rintro ((h | h) | h)
      · exact .inl h
      · exact .inr (.inl h)
      · exact .inr (.inr h)
    · rintro (h | h | h)
      · exact .inl (.inl h)
      · exact .inl (.inr h)
      · exact .inr h
theorem foldl_addK_nodup {l : List W} : ∀ {ks : List W}, ks.Nodup → (l.foldl addK ks).Nodup := by
  induction l with
  | nil => intro ks h; exact h
  | cons x r ih => intro ks h; exact ih (addK_nodup h x)
theorem uniq_mem {l : List W} {y : W} : y ∈ uniq l ↔ y ∈ l := by unfold uniq; rw [foldl_addK_mem]; simp
theorem uniq_nodup (l : List W) : (uniq l).Nodup := foldl_addK_nodup List.nodup_nil
noncomputable def sameSet (A B : List W) : Bool := A.all (fun x => decide (x ∈ B)) && B.all (fun x => decide (x ∈ A))
/-- what is left when the first i are taken away -/
noncomputable def leftAt (A B : List W) (i : Nat) : List W := B.filter fun y => !decide (y ∈ A.take i)
theorem leftAt_nodup {A B : List W} (h : B.Nodup) (i : Nat) : (leftAt A B i).Nodup := h.sublist List.filter_sublist
theorem leftAt_succ {A B : List W} {i : Nat} {x : W} (hx : A[i]? = some x) : leftAt A B (i + 1) = (leftAt A B i).filter (fun y => !decide (y = x)) := by
  unfold leftAt
  rw [List.filter_filter]
  refine List.filter_congr fun y _ => ?_
  rw [List.take_add_one, hx, Bool.eq_iff_iff]
  simp [and_comm]
theorem leftAt_mem {A B : List W} (hA : A.Nodup) {i : Nat} {x : W} (hx : A[i]? = some x) : x ∈ leftAt A B i ↔ x ∈ B := by
  unfold leftAt
  rw [List.mem_filter]
  refine ⟨fun h => h.1, fun h => ⟨h, ?_⟩⟩
  have : x ∉ A.take i := fun hm => by
    obtain ⟨k, hk⟩ := List.getElem?_of_mem hm
    rw [List.getElem?_take] at hk
    split at hk
    · rename_i hlt
      exact nodup_first hA hx k hlt hk
    · cases hk
  simp [this]
theorem leftAt_end {A B : List W} : leftAt A B A.length = B.filter fun y => !decide (y ∈ A) := by unfold leftAt; rw [List.take_length]
end Mine
end
section
open PySem PySem.W PyProof.Rows PySem.Calls
set_option maxRecDepth 20000
set_option linter.unusedVariables false
namespace Mine
theorem v_not {prog : Program} {w : World} {c : FC} {m : Loc} {n : Led'} {E : Led' → Value → Shared → Prop} {v : Value} {Q : Value → Loc → Led' → Prop} (h : Tr (model prog w) c (truthy v) m n (fun b m' n' => Q (.bool (!b)) m' n') E) : Tr (model prog w) c (unaryOp .Not v) m n Q E := by
  exact fun k s l => PyProof.Rows.not_of (h k s l)
set_option compiler.extract_closed false
local macro_rules | `(tactic| walk_at "lk") => `(tactic| first | assumption | exact upd_hit | (refine upd_miss (by decide) ?_; walk_at "lk") | (with_unfolding_all rfl))
local macro_rules | `(tactic| walk_at "nm") => `(tactic| with_reducible assumption)
local macro_rules | `(tactic| walk_at "st") => `(tactic| with_reducible first
  | (refine' t_ld ?k1 ?k2 ?_; (case k1 => walk_at "nm"); (case k2 => walk_at "lk"))
  | (refine' t_nm ?k1 ?_; (case k1 => walk_at "nm"))
  | refine t_IntC fun _ => ?_
  | refine t_StrS fun _ => ?_
  | refine t_BoolC ?_
  | refine t_NoneC ?_
  | refine t_cons ?_
  | refine t_after ?_
  | refine t_afterR ?_
  | refine t_afterB ?_
  | refine t_If ?_
  | (refine t_isCompare ?_ ?k1; (case k1 => with_unfolding_all rfl))
  | refine t_isAnd2 ?_
  | refine t_isOr2 ?_
  | refine t_isNot ?_
  | (refine t_isPlain ?_ ?k1; (case k1 => with_unfolding_all rfl))
  | refine t_truthy_bool ?_
  | (refine t_ifTrue ?k1 ?_; (case k1 => with_unfolding_all rfl))
  | (refine t_ifFalse ?k1 ?_; (case k1 => with_unfolding_all rfl))
  | (refine t_Assign ?_ ?k1; (case k1 => with_unfolding_all rfl))
  | (refine t_st ?k1 ?_; (case k1 => walk_at "nm"))
  | refine t_AugAssign ?_
  | (refine' t_ldn ?k1 ?k2 ?_; (case k1 => walk_at "nm"); (case k2 => walk_at "lk"))
  | refine t_BinOp ?_
  | (refine t_Compare ?_ ?k1; (case k1 => with_unfolding_all rfl))
  | (refine t_CallE ?_ ?k1; (case k1 => with_unfolding_all rfl))
  | (refine t_callWith0 ?k1 ?_; (case k1 => with_unfolding_all rfl))
  | (refine t_callWith1 ?k1 ?_; (case k1 => with_unfolding_all rfl))
  | (refine t_argS ?_ ?k1; (case k1 => with_unfolding_all rfl))
  | refine t_arg0 ?_
  | refine And.intro (KeepOk.builtin _) ?_
  | refine And.intro (KeepOk.type _) ?_
  | refine Exists.intro _ (And.intro rfl ?_)
  | refine t_Return ?_
  | refine t_IfExp ?_
  | refine t_UnaryOp ?_
  | (refine t_ExprStmt ?_ ?k1 ?k2; (case k1 => walk_at "nm"); (case k2 => with_unfolding_all rfl))
  | refine And.intro rfl ?_
  | refine t_Break ?_
  | refine t_nil ?_
  | refine v_eqInt ?_
  | refine v_neInt ?_
  | refine v_ltInt ?_
  | refine v_gtInt ?_
  | refine v_geInt ?_
  | refine v_eqStr ?_
  | refine v_neStr ?_
  | refine v_ltStr ?_
  | refine v_gtStr ?_
  | refine v_addInt fun _ => ?_
  | refine v_iaddInt fun _ => ?_
  | refine v_subInt fun _ => ?_
  | refine v_negInt fun _ => ?_
  | refine v_isNone ?_
  | (refine v_modPos ?k1 fun _ => ?_; (case k1 => decide))
  | (refine v_divSmall ?k1 fun _ => ?_; (case k1 => decide))
  | refine t_Tuple ?_
  | refine t_List ?_
  | ((fail_if_success (refine t_strSlice ?_ ?_)); (fail_if_success (refine t_listSliceS ?_ ?_)); refine t_Subscript ?_)
  | refine t_part0 ?_
  | refine t_part ?_
  | (refine v_is ?k1 ?_; (case k1 => with_unfolding_all rfl))
  | (refine v_isNot ?k1 ?_; (case k1 => with_unfolding_all rfl))
  | refine v_abs fun _ => ?_
  | refine v_isiIntInt ?_
  | refine v_isiStrInt ?_
  | (refine t_Method ?_ (by with_unfolding_all rfl))
  | (refine t_tests1 ?_)
  | (refine t_tests0 ?_)
  | refine t_Pass ?_
  | refine t_Dict0 fun _ _ _ => ?_
  | refine t_Try0 ?_
  | (refine t_AssignSub ?_ ?k1; (case k1 => with_unfolding_all rfl))
  | (refine' t_use ?k1 ?_; (case k1 => assumption))
  | fail)
local macro_rules | `(tactic| walk_at "go") => `(tactic| repeat' (walk_at "st"))
local macro_rules | `(tactic| walk_at "gT") => `(tactic| repeat' ((fail_if_success (with_reducible refine t_Try0 ?_)); walk_at "st"))
local macro_rules | `(tactic| walk_at "g0") => `(tactic| repeat' ((fail_if_success (with_reducible refine t_If ?_)); walk_at "st"))
local macro_rules | `(tactic| walk_at "lka") => `(tactic| ((repeat' (with_reducible refine And.intro ?_ ?_)) <;> first | walk_at "lk" | exact ⟨_, by walk_at "lk"⟩))
local macro_rules | `(tactic| walk_at "mm") => `(tactic| first | exact .head _ | exact .tail _ (.head _) | exact .tail _ (.tail _ (.head _)) | exact .tail _ (.tail _ (.tail _ (.head _))) | exact .tail _ (.tail _ (.tail _ (.tail _ (.head _)))))
local macro_rules | `(tactic| walk_at "mb") => `(tactic| first | exact .head _ | assumption | exact List.mem_append_left _ (by assumption) | (refine .tail _ ?_; walk_at "mb") | (refine List.mem_append_right _ ?_; walk_at "mb"))

structure CaoJ (d1 d2 : Addr) (tv1 tv2 : List Value) (e1 e2 : Nat) (A B : List W) (i : Nat) (m : Loc) (n : Led') : Prop where
  rest : ∃ t lv e3, m "t" = some (.ref t) ∧ n = [(t, lst lv e3), (d2, lst tv2 e2), (d1, lst tv1 e1)] ∧ Strs lv (leftAt A B i)
  sub : ∀ k x, k < i → A[k]? = some x → x ∈ B
theorem spec_cao {prog : Program} {w : World} {G : Gl} {a du b1 b2 : Addr} {v1 v2 : List Value} {xs ys : List W} (h1 : Strs v1 xs) (h2 : Strs v2 ys) (z1 : xs.length ≤ 1000) (z2 : ys.length ≤ 1000) :
    SpecX (model prog w) G 2 a [.ref b1, .ref b2] (fun h => FnIs G h 13 a ∧ G.mg "_deduplicate_unhashable" = some (.ref du) ∧ FnIs G h 12 du ∧ (∃ n, h.get? b1 = some (lst v1 n)) ∧ ∃ n, h.get? b2 = some (lst v2 n))
      (fun r out => out = [] ∧ r = .bool (sameSet xs ys)) := by
  refine spec_ofX (binds := [("first_args", .ref b1), ("second_args", .ref b2)]) (fun h _ hp => hp.1) (fun _ _ _ => rfl) (locs rfl) (by decide +kernel) ?_
  intro c F SC ⟨_, hdu, hduF, ⟨n1, hb1⟩, ⟨n2, hb2⟩⟩
  have X_int := F.inter
  have X_env := F.env
  have L_first : LocN c "first_args" := F.loc (by decide +kernel)
  have L_second : LocN c "second_args" := F.loc (by decide +kernel)
  have L_fu : LocN c "first_unhashable" := F.loc (by decide +kernel)
  have L_su : LocN c "second_unhashable" := F.loc (by decide +kernel)
  have L_t : LocN c "t" := F.loc (by decide +kernel)
  have L_elem : LocN c "elem" := F.loc (by decide +kernel)
  have N_du : Nm c "_deduplicate_unhashable" (.ref du) := F.gnm (by decide +kernel) hdu
  have N_list : Nm c "list" (.type "list") := F.bnm (by decide +kernel) (by decide +kernel)
  have N_VE : ∀ e, Nm (mk c e) "ValueError" (.type "ValueError") := fun e => (F.nf.mkd).bnm (by decide +kernel) (by decide +kernel)
  have hl1 := Paired.length h1
  have hl2 := Paired.length h2
  have hsz : 1000000 ≤ sizeLine := by decide +kernel
  refine t_box fun gbx hbx => ?_
  obtain ⟨oe, pm', cd', doc', ho, hdat, _⟩ := hduF.obj
  refine hbx ?_
  clear hbx gbx
  refine t_cons ?_
  walk_at "go"
  refine ⟨.fn (.inl ho) hdat, ?_⟩
  refine t_spec F.co (spec_dedU (strs_things h1) (by (first | lia | omega))) (by decide) (fun k s l => ⟨hduF.keeps l.old, n1, l.old _ _ hb1⟩) ?_
  rintro _ _ xB1
  refine t_box fun gbx hbx => ?_
  obtain ⟨d1, tv1, e1, eB0, eB1, hT1, hz1⟩ := xB1
  refine hbx ?_
  clear hbx gbx
  subst eB0
  subst eB1
  rw [ded_strs] at hT1
  have hA := things_strs hT1
  walk_at "go"
  refine ⟨.fn (.inl ho) hdat, ?_⟩
  refine t_spec F.co (spec_dedU (strs_things h2) (by (first | lia | omega))) (by decide) (fun k s l => ⟨hduF.keeps l.old, n2, l.old _ _ hb2⟩) ?_
  rintro _ _ xB1
  refine t_box fun gbx hbx => ?_
  obtain ⟨d2, tv2, e2, eB0, eB1, hT2, hz2⟩ := xB1
  refine hbx ?_
  clear hbx gbx
  subst eB0
  subst eB1
  rw [ded_strs] at hT2
  have hB := things_strs hT2
  walk_at "go"
  refine v_listOf (.new (by walk_at "mm")) (by (first | lia | omega)) fun t e3 => ?_
  walk_at "gT"
  have hlA := Paired.length hA
  have hlB := Paired.length hB
  have ndA := uniq_nodup xs
  have ndB := uniq_nodup ys
  refine t_TryWay (fun _ _ => sameSet xs ys = false) catch_ValueError SC N_VE (fun _ _ _ _ h => h) ?_ ?_
  · intro m n ex hs
    have X_int' : interactive (mk c ex).env = false := X_int
    show Tr (model prog w) (mk c ex) (execs _ (mk c ex).env) _ _ _ _
    walk_at "go"
    exact ⟨[], List.nil_sublist _, rfl, by rw [hs]⟩
  · intro EE Wy
    refine t_last ?_
    refine t_For (n := tv1.length) (P := fun i v => tv1[i]? = some v) (fpo := [(d1, lst tv1 e1)]) L_elem (CaoJ d1 d2 tv1 tv2 e1 e2 (uniq xs) (uniq ys)) ?_ ?_ ?_ ?_ (fun _ => rfl) Wy.own Wy.fewer
    · walk_at "go"
      refine ⟨itOk_list F.hn (.inr (by walk_at "mm")) rfl rfl, _, List.Sublist.refl _, ⟨t, tv2, e3, by walk_at "lk", rfl, ?_⟩, fun k x hk => absurd hk (Nat.not_lt_zero _)⟩
      have : leftAt (uniq xs) (uniq ys) 0 = uniq ys := List.filter_eq_self.mpr fun y _ => rfl
      rw [this]; exact hB
    · rintro i m n xB1 p hp
      refine t_box fun gbx hbx => ?_
      obtain ⟨⟨t, lv, e3, _, eB0, _⟩, _⟩ := xB1
      refine hbx ?_
      clear hbx gbx
      subst eB0
      rw [List.mem_singleton.mp hp]; exact .inr (by walk_at "mm")
    · rintro i v m n hi hvi xB1
      refine t_box fun gbx hbx => ?_
      obtain ⟨⟨t, lv, e3, g1, eB0, hlv⟩, hsub⟩ := xB1
      refine hbx ?_
      clear hbx gbx
      subst eB0
      refine t_box fun gbx hbx => ?_
      obtain ⟨x, hx, hvx⟩ := Paired.get1 hA hvi
      refine hbx ?_
      clear hbx gbx
      cases hvx with | mk _ tx =>
      have hlv' := Paired.length hlv
      have hle : lv.length ≤ 1000 := by
        rw [hlv']
        have : (leftAt (uniq xs) (uniq ys) i).length ≤ (uniq ys).length := List.length_filter_le _ _
        (first | lia | omega)
      walk_at "go"
      refine t_methL (.new (by walk_at "mm")) PySem.F.slot_list_remove PySem.F.type_list_remove ?_
      walk_at "go"
      by_cases hxB : x ∈ uniq ys
      · obtain ⟨j, hj⟩ := List.getElem?_of_mem ((leftAt_mem ndA hx).mpr hxB)
        refine v_remove (i := 0) rfl hlv hj (nodup_first (leftAt_nodup ndB i) hj) (by (first | lia | omega)) fun e4 => ?_
        walk_at "go"
        refine ⟨_, List.Sublist.refl _, ⟨t, _, e4, by walk_at "lk", rfl, ?_⟩, fun k y hk hy => ?_⟩
        · rw [leftAt_succ hx, ← erase_nodup (leftAt_nodup ndB i) hj]
          exact strs_erase hlv j
        · by_cases hki : k = i
          · subst hki; rw [hx] at hy; cases hy; exact hxB
          · exact hsub k y (by (first | lia | omega)) hy
      · refine v_removeOut (.head _) hlv (fun hm => hxB ((leftAt_mem ndA hx).mp hm)) (.inl ⟨F.hn, rfl⟩) (fun k' e oe s' R l => Wy.raw _ _ _ _ _ _ _ ?_ R l)
        unfold sameSet
        rw [Bool.and_eq_false_iff]
        refine .inl ?_
        rw [List.all_eq_false]
        exact ⟨x, uniq_mem.mp (List.mem_of_getElem? hx), by simpa [uniq_mem] using hxB⟩
    · rintro m n xB1
      refine t_box fun gbx hbx => ?_
      obtain ⟨⟨t, lv, e3, g1, eB0, hlv⟩, hsub⟩ := xB1
      refine hbx ?_
      clear hbx gbx
      subst eB0
      walk_at "go"
      refine v_not ?_
      have hlv' := Paired.length hlv
      rw [hlA, leftAt_end] at hlv
      have hlv' := Paired.length hlv
      have hle : lv.length ≤ 1000 := by
        rw [hlv']
        have : ((uniq ys).filter fun y => !decide (y ∈ uniq xs)).length ≤ (uniq ys).length := List.length_filter_le _ _
        (first | lia | omega)
      refine v_truthyList (.new (by walk_at "mm")) (by (first | lia | omega)) ?_
      walk_at "go"
      refine ⟨[], List.nil_sublist _, rfl, ?_⟩
      refine congrArg Value.bool ?_
      show (!!lv.isEmpty) = sameSet xs ys
      rw [Bool.not_not]
      rw [Bool.eq_iff_iff]
      unfold sameSet
      simp only [Bool.and_eq_true, List.all_eq_true, decide_eq_true_eq, List.isEmpty_iff]
      constructor
      · intro he
        subst he
        have hnil : (uniq ys).filter (fun y => !decide (y ∈ uniq xs)) = [] := List.length_eq_zero_iff.mp hlv'.symm
        refine ⟨fun x hx => ?_, fun y hy => ?_⟩
        · obtain ⟨k, hk⟩ := List.getElem?_of_mem (uniq_mem.mpr hx)
          exact uniq_mem.mp (hsub k x (by rw [hlA]; exact (List.getElem?_eq_some_iff.mp hk).1) hk)
        · have := List.filter_eq_nil_iff.mp hnil y (uniq_mem.mpr hy)
          simpa [uniq_mem] using this
      · rintro ⟨_, hy⟩
        have hnil : (uniq ys).filter (fun y => !decide (y ∈ uniq xs)) = [] := List.filter_eq_nil_iff.mpr fun y hm => by
          simpa [uniq_mem] using hy y (uniq_mem.mp hm)
        rw [hnil] at hlv
        cases hlv; rfl
end Mine
end
section
set_option maxRecDepth 20000
namespace Mine
/-- a sign of a word -/
noncomputable def wSign (n : Nat) : Bool := n == 39 || n == 45 || (48 ≤ n && n ≤ 57) || [78, 111, 110, 101, 84, 114, 117, 70, 97, 108, 115, 105, 116].contains n
/-- each hyphen stands behind a blank (or first, where b) and ahead of a digit 1..9 -/
noncomputable def hyB : Bool → W → Bool
  | _, [] => true
  | b, [n] => n != 45
  | b, n :: m :: r => (n != 45 || (b && 49 ≤ m && m ≤ 57)) && hyB (n == 32) (m :: r)
noncomputable def wordB (x : W) : Bool := (!x.isEmpty && x.all wSign) && (decide (x.length ≤ 10) && hyB true x && (x.drop 1).all (· != 45))
/-- what a word tells -/
noncomputable def code (x : W) : Int :=
  if x = L "None" then 5000 else if x = L "'a'" then 5001 else if x = L "'it'" then 5002 else match x with
    | 45 :: r => -((r.foldl (fun a d => a * 10 + (d - 48)) 0 : Nat) : Int)
    | r => ((r.foldl (fun a d => a * 10 + (d - 48)) 0 : Nat) : Int)
noncomputable def intOk (i : Int) : Bool := wordB (L (toString i)) && code (L (toString i)) == i && decide (L (toString i) ≠ L "True") && decide (L (toString i) ≠ L "False")
theorem ints_ok1 : ∀ n < 1000, intOk (Int.ofNat n) = true := by decide +kernel
theorem ints_ok2 : ∀ n < 1000, intOk (Int.negSucc n) = true := by decide +kernel
theorem int_ok {i : Int} (h : -1000 < i ∧ i < 1000) : intOk i = true := by
  cases i with
  | ofNat n => exact ints_ok1 n (by have := h.2; simp at this; (first | lia | omega))
  | negSucc n => exact ints_ok2 n (by have := h.1; (first | lia | omega))
theorem word_ok {x : Th} (h : x.ok) : wordB x.wr = true := by
  cases x with
  | none => decide +kernel
  | bool b => cases b <;> decide +kernel
  | int i => have := int_ok h; unfold intOk at this; simp only [Bool.and_eq_true] at this; exact this.1.1.1
  | str y => rcases h with rfl | rfl <;> decide +kernel
/-- what a thing tells -/
noncomputable def val : Th → Int
  | .none => 5000 | .bool true => 1 | .bool false => 0 | .int i => i | .str x => if x = L "a" then 5001 else 5002
theorem code_mark {x : Th} (h : x.ok) : code (mark true x.wr) = val x := by
  cases x with
  | none => decide +kernel
  | bool b => cases b <;> decide +kernel
  | int i =>
    have h := int_ok h
    unfold intOk at h
    simp only [Bool.and_eq_true, decide_eq_true_eq, beq_iff_eq] at h
    obtain ⟨⟨⟨_, h1⟩, h2⟩, h3⟩ := h
    show code (mark true (L (toString i))) = i
    unfold mark
    rw [decide_eq_false h2, decide_eq_false h3]
    exact h1
  | str y => rcases h with rfl | rfl <;> decide +kernel
noncomputable def wrv (i : Int) : W := if i = 5000 then L "None" else if i = 5001 then L "'a'" else if i = 5002 then L "'it'" else L (toString i)
theorem mark_val {x : Th} (h : x.ok) : mark true x.wr = wrv (val x) := by
  cases x with
  | none => decide +kernel
  | bool b => cases b <;> decide +kernel
  | int i =>
    have h0 : -1000 < i ∧ i < 1000 := h
    have h := int_ok h
    unfold intOk at h
    simp only [Bool.and_eq_true, decide_eq_true_eq, beq_iff_eq] at h
    obtain ⟨⟨⟨_, h1⟩, h2⟩, h3⟩ := h
    have e : mark true (L (toString i)) = L (toString i) := by
      unfold mark
      rw [decide_eq_false h2, decide_eq_false h3]; rfl
    show mark true (L (toString i)) = wrv i
    rw [e]
    unfold wrv
    rw [if_neg (show ¬ i = 5000 by (first | lia | omega)), if_neg (show ¬ i = 5001 by (first | lia | omega)), if_neg (show ¬ i = 5002 by (first | lia | omega))]
  | str y => rcases h with rfl | rfl <;> decide +kernel
theorem mark_iff {x y : Th} (hx : x.ok) (hy : y.ok) : mark true x.wr = mark true y.wr ↔ val x = val y := by
  constructor
  · intro h; rw [← code_mark hx, ← code_mark hy, h]
  · intro h; rw [mark_val hx, mark_val hy, h]
theorem eqv_val {x y : Th} (hx : x.ok) (hy : y.ok) : x.eqv y = decide (val x = val y) := by
  cases x with
  | none => cases y with
    | none => rfl
    | bool b => cases b <;> rfl
    | int i =>
      have h : -1000 < i ∧ i < 1000 := hy
      exact (decide_eq_false (show ¬ (5000 : Int) = i by (first | lia | omega))).symm
    | str z => rcases hy with rfl | rfl <;> decide +kernel
  | bool b => cases y with
    | none => cases b <;> rfl
    | bool c => cases b <;> cases c <;> rfl
    | int i =>
      cases b
      · show ((0 : Int) == i) = decide ((0 : Int) = i)
        rw [Bool.eq_iff_iff]; simp
      · show ((1 : Int) == i) = decide ((1 : Int) = i)
        rw [Bool.eq_iff_iff]; simp
    | str z => rcases hy with rfl | rfl <;> cases b <;> decide +kernel
  | int i =>
    have h : -1000 < i ∧ i < 1000 := hx
    cases y with
    | none => exact (decide_eq_false (show ¬ i = (5000 : Int) by (first | lia | omega))).symm
    | bool c =>
      cases c
      · show (i == (0 : Int)) = decide (i = (0 : Int))
        rw [Bool.eq_iff_iff]; simp
      · show (i == (1 : Int)) = decide (i = (1 : Int))
        rw [Bool.eq_iff_iff]; simp
    | int j =>
      show (i == j) = decide (i = j)
      rw [Bool.eq_iff_iff]; simp
    | str z =>
      rcases hy with rfl | rfl
      · exact (decide_eq_false (show ¬ i = val (.str (L "a")) by rw [show val (.str (L "a")) = 5001 by decide +kernel]; (first | lia | omega))).symm
      · exact (decide_eq_false (show ¬ i = val (.str (L "it")) by rw [show val (.str (L "it")) = 5002 by decide +kernel]; (first | lia | omega))).symm
  | str x => cases y with
    | none => rcases hx with rfl | rfl <;> decide +kernel
    | bool b => rcases hx with rfl | rfl <;> cases b <;> decide +kernel
    | int i =>
      have h : -1000 < i ∧ i < 1000 := hy
      rcases hx with rfl | rfl
      · exact (decide_eq_false (show ¬ val (.str (L "a")) = i by rw [show val (.str (L "a")) = 5001 by decide +kernel]; (first | lia | omega))).symm
      · exact (decide_eq_false (show ¬ val (.str (L "it")) = i by rw [show val (.str (L "it")) = 5002 by decide +kernel]; (first | lia | omega))).symm
    | str z => rcases hx with rfl | rfl <;> rcases hy with rfl | rfl <;> decide +kernel
/-- row 1 -/
theorem ded_weed {xs : List Th} (h : ∀ x ∈ xs, x.ok) : (dedTh xs).map Th.wr = weed true (xs.map Th.wr) ∧ ∀ x ∈ dedTh xs, x ∈ xs := by
  have key : ∀ (l A : List Th), (∀ x ∈ l, x.ok) → (∀ x ∈ A, x.ok) →
      (l.map Th.wr).foldl (weedStep true) (A.map (fun x => mark true x.wr), A.map Th.wr) = ((l.foldl (fun acc x => if acc.any (·.eqv x) then acc else acc ++ [x]) A).map (fun x => mark true x.wr), (l.foldl (fun acc x => if acc.any (·.eqv x) then acc else acc ++ [x]) A).map Th.wr) := fun l => by
    induction l with
    | nil => intro A _ _; rfl
    | cons x r ih =>
      intro A hl hA
      rw [List.map_cons, List.foldl_cons, List.foldl_cons]
      have hx := hl x (.head _)
      have e : (mark true x.wr ∈ A.map (fun x => mark true x.wr)) ↔ A.any (·.eqv x) = true := by
        rw [List.mem_map, List.any_eq_true]
        constructor
        · rintro ⟨y, hy, e⟩
          exact ⟨y, hy, by rw [eqv_val (hA y hy) hx]; exact decide_eq_true ((mark_iff (hA y hy) hx).mp e)⟩
        · rintro ⟨y, hy, e⟩
          rw [eqv_val (hA y hy) hx] at e
          exact ⟨y, hy, (mark_iff (hA y hy) hx).mpr (of_decide_eq_true e)⟩
      by_cases hm : A.any (·.eqv x) = true
      · rw [if_pos hm, show weedStep true (A.map (fun x => mark true x.wr), A.map Th.wr) x.wr = (A.map (fun x => mark true x.wr), A.map Th.wr) from if_pos (e.mpr hm)]
        exact ih A (fun y hy => hl y (.tail _ hy)) hA
      · rw [if_neg hm, show weedStep true (A.map (fun x => mark true x.wr), A.map Th.wr) x.wr = ((A ++ [x]).map (fun x => mark true x.wr), (A ++ [x]).map Th.wr) from by
          rw [List.map_append, List.map_append]; exact if_neg fun q => hm (e.mp q)]
        exact ih (A ++ [x]) (fun y hy => hl y (.tail _ hy)) fun y hy => by
          rcases List.mem_append.mp hy with hy | hy
          · exact hA y hy
          · rw [List.mem_singleton.mp hy]; exact hx
  have mem : ∀ (l A : List Th) (y : Th), y ∈ l.foldl (fun acc x => if acc.any (·.eqv x) then acc else acc ++ [x]) A → y ∈ A ∨ y ∈ l := fun l => by
    induction l with
    | nil => intro A y h; exact .inl h
    | cons x r ih =>
      intro A y hy
      rw [List.foldl_cons] at hy
      rcases ih _ _ hy with h | h
      · split at h
        · exact .inl h
        · rcases List.mem_append.mp h with h | h
          · exact .inl h
          · rw [List.mem_singleton.mp h]; exact .inr (.head _)
      · exact .inr (.tail _ h)
  refine ⟨?_, fun x hx => ?_⟩
  · have := key xs [] h (fun _ hx => (nomatch hx))
    unfold weed weedAt dedTh dupAt
    rw [List.take_of_length_le (Nat.le_refl _), List.take_of_length_le (Nat.le_refl _)]
    exact (congrArg Prod.snd this).symm
  · unfold dedTh dupAt at hx
    rw [List.take_of_length_le (Nat.le_refl _)] at hx
    rcases mem xs [] x hx with h | h
    · cases h
    · exact h
/-- row 2 -/
theorem weed_uniq (xs : List W) : weed false xs = uniq xs := by
  have key : ∀ (l A : List W), l.foldl (weedStep false) (A, A) = (l.foldl addK A, l.foldl addK A) := fun l => by
    induction l with
    | nil => intro A; rfl
    | cons x r ih =>
      intro A
      rw [List.foldl_cons, List.foldl_cons]
      have e : weedStep false (A, A) x = (addK A x, addK A x) := by
        unfold weedStep addK
        have : mark false x = x := rfl
        rw [this]
        by_cases h : x ∈ A
        · rw [if_pos h, if_pos h]
        · rw [if_neg h, if_neg h]
      rw [e, ih]
  unfold weed weedAt uniq
  rw [List.take_of_length_le (Nat.le_refl _), key]
theorem weed_true_mem {xs : List W} {x : W} (h : x ∈ xs) (hu : ∀ y ∈ xs, mark true y = x → y = x) (hm : mark true x = x) : x ∈ weed true xs := by
  have key : ∀ (l : List W) (p : List W × List W), (∀ y ∈ l, mark true y = x → y = x) → (x ∈ p.1 → x ∈ p.2) → (x ∈ l ∨ x ∈ p.1) → x ∈ (l.foldl (weedStep true) p).2 := fun l => by
    induction l with
    | nil =>
      intro p _ h1 h2
      rcases h2 with h2 | h2
      · cases h2
      · exact h1 h2
    | cons y r ih =>
      intro p hu h1 h2
      rw [List.foldl_cons]
      refine ih _ (fun z hz => hu z (.tail _ hz)) ?_ ?_
      · unfold weedStep
        split
        · exact h1
        · intro hx
          rcases List.mem_append.mp hx with hx | hx
          · exact List.mem_append_left _ (h1 hx)
          · have := List.mem_singleton.mp hx
            rw [hu y (.head _) this.symm]
            exact List.mem_append_right _ (.head _)
      · rcases h2 with h2 | h2
        · rcases List.mem_cons.mp h2 with rfl | h2
          · refine .inr ?_
            unfold weedStep
            split
            · rename_i h3; rw [hm] at h3; exact h3
            · rw [hm]; exact List.mem_append_right _ (.head _)
          · exact .inl h2
        · refine .inr ?_
          unfold weedStep
          split
          · exact h2
          · exact List.mem_append_left _ h2
  unfold weed weedAt
  rw [List.take_of_length_le (Nat.le_refl _)]
  exact key xs ([], []) hu (fun h => (nomatch h)) (.inl h)
end Mine
end
section
set_option maxRecDepth 20000
set_option linter.unusedVariables false
namespace Mine
/-- a word, by its parts -/
structure WordX (x : W) : Prop where
  ne : x ≠ []
  sign : ∀ n ∈ x, wSign n = true
  len : x.length ≤ 10
  hy : hyB true x = true
  tl : ∀ n ∈ x.drop 1, n ≠ 45
theorem wordX {x : W} (h : wordB x = true) : WordX x := by
  unfold wordB at h
  simp only [Bool.and_eq_true, Bool.not_eq_true', List.all_eq_true, decide_eq_true_eq, bne_iff_ne] at h
  obtain ⟨⟨h1, h2⟩, ⟨h3, h4⟩, h5⟩ := h
  exact ⟨fun e => (by subst e; cases h1), h2, h3, h4, h5⟩
theorem wSign_ok {n : Nat} (h : wSign n = true) : okSign n ∧ n ≠ 38 ∧ n ≠ 92 ∧ n ≠ 93 ∧ n ≠ 32 ∧ n ≠ 33 ∧ n ≠ 94 ∧ n ≠ 91 ∧ n ≠ 124 ∧ n ≠ 126 ∧ n < 128 := by
  unfold wSign at h
  simp only [Bool.or_eq_true, Bool.and_eq_true, beq_iff_eq, decide_eq_true_eq, List.contains_iff_mem] at h
  rcases h with ((rfl | rfl) | h) | h
  · exact ⟨.inl (by (first | lia | omega)), by decide⟩
  · exact ⟨.inl (by (first | lia | omega)), by decide⟩
  · exact ⟨.inl (by (first | lia | omega)), by (first | lia | omega)⟩
  · exact ⟨.inr h, (by decide : ∀ k ∈ _, k ≠ 38 ∧ k ≠ 92 ∧ k ≠ 93 ∧ k ≠ 32 ∧ k ≠ 33 ∧ k ≠ 94 ∧ k ≠ 91 ∧ k ≠ 124 ∧ k ≠ 126 ∧ k < 128) n h⟩
/-- a word that opens with a hyphen -/
theorem WordX.neg {x : W} (h : WordX x) (h0 : x.headD 0 = 45) : ∃ y z, x = 45 :: y :: z ∧ 49 ≤ y ∧ y ≤ 57 := by
  have hh := h.hy
  cases x with
  | nil => cases h0
  | cons a r =>
    have : a = 45 := h0
    subst this
    cases r with
    | nil => cases hh
    | cons y z =>
      simp only [hyB, Bool.and_eq_true, Bool.or_eq_true, bne_self_eq_false, Bool.false_eq_true, false_or, decide_eq_true_eq, true_and] at hh
      exact ⟨y, z, rfl, hh.1.1, hh.1.2⟩
theorem WordX.word {x : W} (h : WordX x) : WordOk x := ⟨h.ne, fun n hn => (wSign_ok (h.sign n hn)).1, h.neg, h.len, h.tl⟩
noncomputable abbrev sepW : W := [44, 32]
theorem sep_eq : L ", " = sepW := by decide
/-- all but the first word -/
noncomputable def tailB (D : List W) : W := D.flatMap fun w => 44 :: 32 :: w
theorem join_tail (w : W) : ∀ D : List W, joinL sepW (w :: D) = w ++ tailB D
  | [] => by simp [joinL, tailB]
  | x :: r => by
    show w ++ sepW ++ joinL sepW (x :: r) = _
    rw [join_tail x r]
    simp [tailB, sepW]
theorem hy_cons {b : Bool} {n : Nat} {v : W} (h : hyB b [n] = true) (hv : hyB (n == 32) v = true) (h0 : v.head? ≠ some 45 ∨ True) : hyB b (n :: v) = true := by
  cases v with
  | nil => exact h
  | cons m r =>
    have h' : (n != 45) = true := h
    show ((n != 45 || (b && 49 ≤ m && m ≤ 57)) && hyB (n == 32) (m :: r)) = true
    rw [h', hv]; rfl
theorem hy_app {v : W} (hv : hyB true v = true) : ∀ {b : Bool} {u : W}, hyB b u = true → u ≠ [] → hyB b (u ++ 44 :: 32 :: v) = true
  | b, [], _, h => absurd rfl h
  | b, [n], h, _ => hy_cons h (hy_cons rfl (hy_cons rfl hv (.inr trivial)) (.inr trivial)) (.inr trivial)
  | b, n :: m :: r, h, _ => by
    have h' : ((n != 45 || (b && 49 ≤ m && m ≤ 57)) && hyB (n == 32) (m :: r)) = true := h
    obtain ⟨h1, h2⟩ := Bool.and_eq_true_iff.mp h'
    show ((n != 45 || (b && 49 ≤ m && m ≤ 57)) && hyB (n == 32) (m :: r ++ 44 :: 32 :: v)) = true
    rw [h1, hy_app hv h2 (by simp)]; rfl
theorem hy_join : ∀ {D : List W} {w : W}, (∀ x ∈ w :: D, WordX x) → hyB true (joinL sepW (w :: D)) = true
  | [], w, h => (h w (.head _)).hy
  | x :: r, w, h => by
    show hyB true (w ++ sepW ++ joinL sepW (x :: r)) = true
    rw [List.append_assoc]
    exact hy_app (hy_join fun y hy => h y (.tail _ hy)) (h w (.head _)).hy (h w (.head _)).ne
theorem hy_get : ∀ {l : W} {b : Bool} {p : Nat}, hyB b l = true → l[p]? = some 45 → ((p = 0 ∧ b = true) ∨ (0 < p ∧ l[p - 1]? = some 32)) ∧ ∃ d, l[p + 1]? = some d ∧ 48 ≤ d ∧ d ≤ 57
  | [], b, p, _, e => by simp at e
  | [n], b, p, h, e => by
    cases p with
    | zero =>
      have : n = 45 := by simpa using e
      subst this; cases h
    | succ p => simp at e
  | n :: m :: r, b, p, h, e => by
    have h' : ((n != 45 || (b && 49 ≤ m && m ≤ 57)) && hyB (n == 32) (m :: r)) = true := h
    obtain ⟨h1, h2⟩ := Bool.and_eq_true_iff.mp h'
    cases p with
    | zero =>
      have : n = 45 := by simpa using e
      subst this
      simp only [Bool.or_eq_true, bne_self_eq_false, Bool.false_eq_true, false_or, Bool.and_eq_true, decide_eq_true_eq] at h1
      exact ⟨.inl ⟨rfl, h1.1.1⟩, m, rfl, by (first | lia | omega), h1.2⟩
    | succ p =>
      obtain ⟨h3, d, h4, h5⟩ := hy_get (p := p) h2 (by simpa using e)
      refine ⟨.inr ⟨Nat.succ_pos _, ?_⟩, d, by simpa using h4, h5⟩
      rcases h3 with ⟨rfl, h3⟩ | ⟨h0, h3⟩
      · simpa using h3
      · obtain ⟨q, rfl⟩ : ∃ q, p = q + 1 := ⟨p - 1, by (first | lia | omega)⟩
        simpa using h3
theorem joinL_mem {D : List W} {n : Nat} (h : n ∈ joinL sepW D) : (∃ w ∈ D, n ∈ w) ∨ n = 44 ∨ n = 32 := by
  cases D with
  | nil => cases h
  | cons w r =>
    rw [join_tail] at h
    rcases List.mem_append.mp h with h | h
    · exact .inl ⟨w, .head _, h⟩
    · obtain ⟨x, hx, hn⟩ := List.mem_flatMap.mp h
      rcases List.mem_cons.mp hn with rfl | hn
      · exact .inr (.inl rfl)
      · rcases List.mem_cons.mp hn with rfl | hn
        · exact .inr (.inr rfl)
        · exact .inl ⟨x, .tail _ hx, hn⟩
/-- the words of a row -/
structure DOk (D : List W) : Prop where
  len : D.length ≤ 7
  word : ∀ w ∈ D, WordX w
  has : D ≠ [] → L "-31" ∈ D
theorem mem_joinL {D : List W} {w : W} {n : Nat} (hw : w ∈ D) (hn : n ∈ w) : n ∈ joinL sepW D := by
  cases D with
  | nil => cases hw
  | cons x r =>
    rw [join_tail]
    rcases List.mem_cons.mp hw with rfl | hw
    · exact List.mem_append_left _ hn
    · exact List.mem_append_right _ (List.mem_flatMap.mpr ⟨w, hw, .tail _ (.tail _ hn)⟩)
theorem DOk.set {D : List W} (h : DOk D) (hD : D ≠ []) : SetOk (joinL sepW D) := by
  cases D with
  | nil => exact absurd rfl hD
  | cons w r =>
  have hw := h.word w (.head _)
  have hch : ∀ n ∈ joinL sepW (w :: r), okSign n ∧ n ≠ 38 ∧ n ≠ 92 ∧ n ≠ 93 ∧ n ≠ 33 ∧ n ≠ 94 ∧ n ≠ 91 ∧ n ≠ 124 ∧ n ≠ 126 ∧ n < 128 := fun n hn => by
    rcases joinL_mem hn with ⟨x, hx, hn⟩ | rfl | rfl
    · obtain ⟨a1, a2, a3, a4, a5, a6, a7, a8, a9, a10, a11⟩ := wSign_ok ((h.word x hx).sign n hn)
      exact ⟨a1, a2, a3, a4, a6, a7, a8, a9, a10, a11⟩
    · exact ⟨.inl (by (first | lia | omega)), by decide⟩
    · exact ⟨.inl (by (first | lia | omega)), by decide⟩
  have hne : joinL sepW (w :: r) ≠ [] := by
    rw [join_tail]
    intro e
    exact hw.ne (List.append_eq_nil_iff.mp e).1
  refine ⟨hne, ?_, fun c hc => ?_, fun c hc => ?_, fun c hc => ?_, fun p hp => ?_, ?_⟩
  · have := joinL_len (sep := sepW) (xs := w :: r) (B := 10) fun x hx => (h.word x hx).len
    have hl := h.len
    have e2 : sepW.length = 2 := rfl
    rw [e2] at this
    (first | lia | omega)
  · have := hch c hc; exact ⟨this.2.2.2.2.2.2.2.2.2, this.2.1, this.2.2.2.2.2.2.2.1, this.2.2.2.2.2.2.2.2.1⟩
  · have := hch c hc; exact ⟨this.2.2.1, this.2.2.2.1⟩
  · have := hch c (List.mem_of_getElem? hc); exact ⟨this.2.2.2.2.1, this.2.2.2.2.2.1, this.2.2.2.2.2.2.1⟩
  · obtain ⟨h1, h2⟩ := hy_get (hy_join h.word) hp
    refine ⟨?_, h2⟩
    rcases h1 with ⟨h1, _⟩ | ⟨_, h1⟩
    · exact .inl h1
    · exact .inr h1
  · exact mem_joinL (h.has hD) (show 45 ∈ L "-31" by decide)
theorem list_eq (D : List W) (hD : D ≠ []) : listW D = 91 :: (joinL sepW D ++ [93]) := by
  unfold listW
  rw [sep_eq]
  have e1 : L "[" = [91] := by decide
  have e2 : L "]" = [93] := by decide
  rw [e1, e2]; rfl
noncomputable def partsOf (D : List W) : List W := if D = [] then [L "\\[", L "\\]"] else [91 :: (esc (joinL sepW D) ++ [93])]
theorem head_join {w : W} {r : List W} (h : w ≠ []) : (joinL sepW (w :: r)).headD 0 = w.headD 0 := by
  rw [join_tail]
  cases w with
  | nil => exact absurd rfl h
  | cons a b => rfl
theorem frame_parts {D : List W} (h : DOk D) : L "(?s:" ++ joinL [] (partsOf D) ++ L ")\\Z" = frameOf D := by
  cases D with
  | nil => decide
  | cons w r =>
    have hw := (h.word w (.head _)).ne
    unfold partsOf frameOf
    rw [if_neg (by simp), if_neg (by simp), sep_eq]
    have e1 : L "(?s:[" = L "(?s:" ++ [91] := by decide
    have e2 : L "])\\Z" = [93] ++ L ")\\Z" := by decide
    have e3 : L "\\" = [92] := by decide
    rw [e1, e2, e3]
    unfold esc
    rw [head_join hw]
    show L "(?s:" ++ (91 :: ((if w.headD 0 = 45 then 92 :: joinL sepW (w :: r) else joinL sepW (w :: r)) ++ [93])) ++ L ")\\Z" = L "(?s:" ++ [91] ++ (if w.headD 0 = 45 then [92] else []) ++ joinL sepW (w :: r) ++ ([93] ++ L ")\\Z")
    split <;> simp
theorem frame_text {D : List W} (h : DOk D) (hD : D ≠ []) : frameOf D = L "(?s:[" ++ esc (joinL sepW D) ++ L "])\\Z" := by
  rw [← frame_parts h]
  unfold partsOf
  rw [if_neg hD]
  have e1 : L "(?s:[" = L "(?s:" ++ [91] := by decide
  have e2 : L "])\\Z" = [93] ++ L ")\\Z" := by decide
  rw [e1, e2]
  simp [joinL]
/-- what the pile tells, word by word -/
noncomputable def pileT (D : List W) : W := D.flatMap fun w => 44 :: (if w.headD 0 = 45 then List.range' 32 (w.getD 1 0 + 1 - 32) ++ w.drop 2 else 32 :: w)
theorem pile_chars {v p : W} (hv : PileR v p) (h0 : v.head? ≠ some 45) : ∀ {u : W}, (∀ n ∈ u, n ≠ 45 ∧ n ≠ 92) → PileR (u ++ v) (u ++ p)
  | [], _ => hv
  | a :: r, h => .one (h a (.head _)).2 (by
      cases r with
      | nil => exact h0
      | cons b r => exact fun e => (h b (.tail _ (.head _))).1 (by simpa using e)) (pile_chars hv h0 fun n hn => h n (.tail _ hn))
theorem tail_head (D : List W) : (tailB D).head? ≠ some 45 := by
  cases D with
  | nil => exact fun e => by cases e
  | cons w r => exact fun e => by cases e
theorem pile_tail : ∀ {D : List W}, (∀ w ∈ D, WordX w) → PileR (tailB D) (pileT D)
  | [], _ => .nil
  | w :: r, h => by
    have ih := pile_tail fun x hx => h x (.tail _ hx)
    have hw := h w (.head _)
    show PileR ((44 :: 32 :: w) ++ tailB r) ((44 :: (if w.headD 0 = 45 then List.range' 32 (w.getD 1 0 + 1 - 32) ++ w.drop 2 else 32 :: w)) ++ pileT r)
    by_cases h0 : w.headD 0 = 45
    · rw [if_pos h0]
      obtain ⟨y, z, rfl, h1, h2⟩ := hw.neg h0
      have hz : ∀ n ∈ z, n ≠ 45 ∧ n ≠ 92 := fun n hn => ⟨hw.tl n (.tail _ hn), (wSign_ok (hw.sign n (.tail _ (.tail _ hn)))).2.2.1⟩
      have hr := PileR.rng (a := 32) (z := y) (by decide) (by (first | lia | omega)) (pile_chars ih (tail_head r) hz)
      rw [← List.append_assoc] at hr
      exact .one (by decide) (fun e => by cases e) hr
    · rw [if_neg h0]
      have hz : ∀ n ∈ w, n ≠ 45 ∧ n ≠ 92 := fun n hn => by
        refine ⟨?_, (wSign_ok (hw.sign n hn)).2.2.1⟩
        cases w with
        | nil => cases hn
        | cons a b =>
          rcases List.mem_cons.mp hn with rfl | hn
          · exact h0
          · exact hw.tl n hn
      refine .one (by decide) (fun e => by cases e) (.one (by decide) (fun e => ?_) (pile_chars ih (tail_head r) hz))
      cases w with
      | nil => exact hw.ne rfl
      | cons a b => exact h0 (by simpa using e)
noncomputable def pileW : List W → W
  | [] => []
  | w :: r => w ++ pileT r
theorem pile_esc {D : List W} (h : DOk D) (hD : D ≠ []) : PileR (esc (joinL sepW D)) (pileW D) := by
  cases D with
  | nil => exact absurd rfl hD
  | cons w r =>
    have hw := h.word w (.head _)
    have ih := pile_tail fun x hx => h.word x (.tail _ hx)
    unfold esc
    rw [head_join hw.ne, join_tail]
    by_cases h0 : w.headD 0 = 45
    · rw [if_pos h0]
      obtain ⟨y, z, rfl, h1, h2⟩ := hw.neg h0
      have hz : ∀ n ∈ y :: z, n ≠ 45 ∧ n ≠ 92 := fun n hn => ⟨hw.tl n hn, (wSign_ok (hw.sign n (.tail _ hn))).2.2.1⟩
      exact .esc 45 (pile_chars ih (tail_head r) hz)
    · rw [if_neg h0]
      have hz : ∀ n ∈ w, n ≠ 45 ∧ n ≠ 92 := fun n hn => by
        refine ⟨?_, (wSign_ok (hw.sign n hn)).2.2.1⟩
        cases w with
        | nil => cases hn
        | cons a b =>
          rcases List.mem_cons.mp hn with rfl | hn
          · exact h0
          · exact hw.tl n hn
      exact pile_chars ih (tail_head r) hz
end Mine
end
section
set_option maxRecDepth 20000
set_option linter.unusedVariables false
namespace Mine
theorem pileT_mem {D : List W} {n : Nat} : n ∈ pileT D ↔ ∃ w ∈ D, n = 44 ∨ n ∈ (if w.headD 0 = 45 then List.range' 32 (w.getD 1 0 + 1 - 32) ++ w.drop 2 else 32 :: w) := by
  unfold pileT
  rw [List.mem_flatMap]
  constructor
  · rintro ⟨w, hw, h⟩; exact ⟨w, hw, List.mem_cons.mp h⟩
  · rintro ⟨w, hw, h⟩; exact ⟨w, hw, List.mem_cons.mpr h⟩
theorem seq_mem {D : List W} {n : Nat} : n ∈ (D.mapIdx dueSeq).flatten ↔ ∃ i w, D[i]? = some w ∧ n ∈ dueSeq i w := by
  rw [List.mem_flatten]
  constructor
  · rintro ⟨l, hl, hn⟩
    obtain ⟨i, hi, rfl⟩ := List.mem_mapIdx.mp hl
    exact ⟨i, D[i], List.getElem?_eq_getElem hi, hn⟩
  · rintro ⟨i, w, hw, hn⟩
    obtain ⟨hi, e⟩ := List.getElem?_eq_some_iff.mp hw
    exact ⟨dueSeq i w, List.mem_mapIdx.mpr ⟨i, hi, by rw [e]⟩, hn⟩
theorem due_word {w : W} (hw : WordX w) {i : Nat} {n : Nat} : n ∈ dueSeq (i + 1) w ↔ n = 44 ∨ n ∈ (if w.headD 0 = 45 then List.range' 32 (w.getD 1 0 + 1 - 32) ++ w.drop 2 else 32 :: w) := by
  unfold dueSeq prefixPart restPart
  rw [if_neg (Nat.succ_ne_zero i), if_neg (Nat.succ_ne_zero i)]
  by_cases h0 : w.headD 0 = 45
  · obtain ⟨y, z, rfl, h1, h2⟩ := hw.neg h0
    rw [if_pos h0, if_pos h0, if_pos h0]
    show n ∈ (44 :: 32 :: List.range' 32 (y - 32)) ++ (y :: z) ↔ n = 44 ∨ n ∈ List.range' 32 (y + 1 - 32) ++ z
    simp only [List.mem_append, List.mem_cons, List.mem_range'_1]
    by_cases hz : n ∈ z
    · simp [hz]
    · simp only [hz, or_false]
      constructor <;> intro h <;> (first | lia | omega)
  · rw [if_neg h0, if_neg h0, if_neg h0]
    show n ∈ [44, 32] ++ w ↔ n = 44 ∨ n ∈ 32 :: w
    simp
theorem pile_due {D : List W} (h : DOk D) {n : Nat} : n ∈ pileW D ↔ n ∈ (D.mapIdx dueSeq).flatten := by
  rw [seq_mem]
  cases D with
  | nil => simp [pileW]
  | cons w r =>
    show n ∈ w ++ pileT r ↔ _
    rw [List.mem_append, pileT_mem]
    constructor
    · rintro (hn | ⟨x, hx, hn⟩)
      · exact ⟨0, w, rfl, hn⟩
      · obtain ⟨i, hi⟩ := List.getElem?_of_mem hx
        exact ⟨i + 1, x, by simpa using hi, (due_word (h.word x (.tail _ hx))).mpr hn⟩
    · rintro ⟨i, x, hx, hn⟩
      cases i with
      | zero =>
        have : w = x := by simpa using hx
        subst this
        exact .inl hn
      | succ i =>
        have hx : r[i]? = some x := by simpa using hx
        have hm := List.mem_of_getElem? hx
        exact .inr ⟨x, hm, (due_word (h.word x (.tail _ hm))).mp hn⟩
/-- the signs of a row -/
noncomputable def signsOf (D : List W) : List W := if D = [] then [L "[]"] else dueAt D D.length
theorem due_mem {D : List W} {y : W} : y ∈ dueAt D D.length ↔ ∃ n ∈ (D.mapIdx dueSeq).flatten, y = [n] := by
  unfold dueAt
  rw [List.take_of_length_le (by rw [List.length_mapIdx]; exact Nat.le_refl _), addAll_mem]
  simp
noncomputable def pileOf (D : List W) : List W := if D = [] then [L "[]"] else single (pileW D)
theorem single_mem {p : W} {y : W} : y ∈ single p ↔ ∃ n ∈ p, y = [n] := by
  unfold single
  rw [List.mem_map]
  constructor
  · rintro ⟨n, h1, h2⟩; exact ⟨n, h1, h2.symm⟩
  · rintro ⟨n, h1, h2⟩; exact ⟨n, h1, h2.symm⟩
theorem pile_signs {D : List W} (h : DOk D) {y : W} : y ∈ uniq (pileOf D) ↔ y ∈ signsOf D := by
  rw [uniq_mem]
  unfold pileOf signsOf
  split
  · rfl
  · rw [single_mem, due_mem]
    constructor
    · rintro ⟨n, h1, h2⟩; exact ⟨n, (pile_due h).mp h1, h2⟩
    · rintro ⟨n, h1, h2⟩; exact ⟨n, (pile_due h).mpr h1, h2⟩
theorem signs_small {D : List W} (h : DOk D) : (signsOf D).Nodup ∧ (signsOf D).length ≤ 39 := by
  unfold signsOf
  split
  · exact ⟨List.nodup_cons.mpr ⟨by simp, List.nodup_nil⟩, by decide⟩
  · have := dueAt_small (fun x hx => (h.word x hx).word) D.length
    exact ⟨this.nd, this.len⟩
theorem pile_small {D : List W} (h : DOk D) : (uniq (pileOf D)).length ≤ 39 :=
  Nat.le_trans (nodup_len (uniq_nodup _) fun x hx => (pile_signs h).mp hx) (signs_small h).2
-- sorted texts
theorem ltCps_lt : ∀ a b : W, PySem.Spec.ltCps a b = true ↔ a < b
  | [], [] => by simp [PySem.Spec.ltCps]
  | [], _ :: _ => by simp [PySem.Spec.ltCps]
  | _ :: _, [] => by simp [PySem.Spec.ltCps]
  | x :: a, y :: b => by
    have ih := ltCps_lt a b
    show (decide (x < y) || (x == y && PySem.Spec.ltCps a b)) = true ↔ _
    rw [List.cons_lt_cons_iff, Bool.or_eq_true, Bool.and_eq_true, decide_eq_true_eq, beq_iff_eq, ih]
theorem rising_le : ∀ {r : List W} {p : W}, PyProof.Rows.risingS (S p) (r.map S) = true → (p :: r).Pairwise (· ≤ ·)
  | [], p, _ => List.pairwise_singleton _ _
  | x :: r, p, h => by
    have h' : (!PySem.Spec.ltCps x p && PyProof.Rows.risingS (S x) (r.map S)) = true := h
    obtain ⟨h1, h2⟩ := Bool.and_eq_true_iff.mp h'
    have ih := rising_le h2
    have hpx : p ≤ x := List.not_lt.mp fun e => by
      rw [(ltCps_lt x p).mpr e] at h1; cases h1
    refine List.pairwise_cons.mpr ⟨fun y hy => ?_, ih⟩
    rcases List.mem_cons.mp hy with rfl | hy
    · exact hpx
    · exact List.le_trans hpx ((List.pairwise_cons.mp ih).1 y hy)
theorem sorted_asc {ws : List W} (hs : Sorted ws) (hn : ws.Nodup) : Asc ws := by
  have hle : ws.Pairwise (· ≤ ·) := by
    cases ws with
    | nil => exact .nil
    | cons x r => exact rising_le hs
  have := hle.and hn
  exact this.imp fun {a b} ⟨h1, h2⟩ => by
    by_cases h : a < b
    · exact h
    · exact absurd (List.le_antisymm h1 (List.not_lt.mp h)) h2
theorem asc_ext : ∀ {xs ys : List W}, Asc xs → Asc ys → (∀ z, z ∈ xs ↔ z ∈ ys) → xs = ys
  | [], [], _, _, _ => rfl
  | [], y :: ys, _, _, h => absurd ((h y).mpr (.head _)) (by simp)
  | x :: xs, [], _, _, h => absurd ((h x).mp (.head _)) (by simp)
  | x :: xs, y :: ys, hx, hy, h => by
    obtain ⟨x1, x2⟩ := List.pairwise_cons.mp hx
    obtain ⟨y1, y2⟩ := List.pairwise_cons.mp hy
    have e : x = y := by
      rcases List.mem_cons.mp ((h x).mp (.head _)) with e | e
      · exact e
      · rcases List.mem_cons.mp ((h y).mpr (.head _)) with e' | e'
        · exact e'.symm
        · exact absurd (W_trans (x1 y e') (y1 x e)) (W_irrefl _)
    subst e
    rw [asc_ext x2 y2 fun z => ?_]
    constructor
    · intro hz
      rcases List.mem_cons.mp ((h z).mp (.tail _ hz)) with e | e
      · subst e; exact absurd (x1 _ hz) (W_irrefl _)
      · exact e
    · intro hz
      rcases List.mem_cons.mp ((h z).mpr (.tail _ hz)) with e | e
      · subst e; exact absurd (y1 _ hz) (W_irrefl _)
      · exact e
/-- the signs of a row, in order -/
theorem signs_eq {D : List W} (h : DOk D) {s1 s2 : List W} (p1 : s1.Perm (uniq (pileOf D))) (o1 : Sorted s1) (p2 : s2.Perm (signsOf D)) (o2 : Sorted s2) : s1 = s2 ∧ Asc s1 := by
  have n1 : s1.Nodup := p1.symm.nodup (uniq_nodup _)
  have n2 : s2.Nodup := p2.symm.nodup (signs_small h).1
  have a1 := sorted_asc o1 n1
  exact ⟨asc_ext a1 (sorted_asc o2 n2) fun z => by rw [p1.mem_iff, p2.mem_iff]; exact pile_signs h, a1⟩
theorem same_is {A B s1 s2 : List W} (p1 : s1.Perm A) (p2 : s2.Perm B) (a1 : Asc s1) (a2 : Asc s2) : sameSet A (B ++ B.take 1) = decide (s1 = s2) := by
  rw [Bool.eq_iff_iff]
  unfold sameSet
  simp only [Bool.and_eq_true, List.all_eq_true, decide_eq_true_eq]
  have hm : ∀ z, z ∈ B ++ B.take 1 ↔ z ∈ B := fun z => by
    rw [List.mem_append]
    exact ⟨fun h => h.elim id List.mem_of_mem_take, .inl⟩
  constructor
  · rintro ⟨h1, h2⟩
    refine asc_ext a1 a2 fun z => ?_
    rw [p1.mem_iff, p2.mem_iff]
    exact ⟨fun h => (hm z).mp (h1 z h), fun h => h2 z ((hm z).mpr h)⟩
  · intro e
    subst e
    have hz : ∀ z, z ∈ A ↔ z ∈ B := fun z => by rw [← p1.mem_iff, ← p2.mem_iff]
    exact ⟨fun z h => (hm z).mpr ((hz z).mp h), fun z h => (hz z).mpr ((hm z).mp h)⟩
theorem pile_len {D : List W} (h : DOk D) : (pileW D).length ≤ 1000 ∧ ∀ x ∈ pileW D, x < 1000 := by
  refine ⟨?_, fun x hx => ?_⟩
  · have key : ∀ (r : List W), (∀ w ∈ r, WordX w) → (pileT r).length ≤ r.length * 100 := fun r => by
      induction r with
      | nil => intro _; exact Nat.zero_le _
      | cons w r ih =>
        intro hr
        have hw := hr w (.head _)
        have := ih fun x hx => hr x (.tail _ hx)
        show ((44 :: (if w.headD 0 = 45 then List.range' 32 (w.getD 1 0 + 1 - 32) ++ w.drop 2 else 32 :: w)) ++ pileT r).length ≤ (r.length + 1) * 100
        rw [List.length_append, List.length_cons]
        have hl := hw.len
        split
        · rename_i h0
          obtain ⟨y, z, rfl, h1, h2⟩ := hw.neg h0
          simp at hl ⊢
          (first | lia | omega)
        · rw [List.length_cons]; (first | lia | omega)
    cases D with
    | nil => exact Nat.zero_le _
    | cons w r =>
      show (w ++ pileT r).length ≤ 1000
      have := key r fun x hx => h.word x (.tail _ hx)
      have hl := (h.word w (.head _)).len
      have hD := h.len
      rw [List.length_append]
      simp at hD
      (first | lia | omega)
  · have := (signs_small h)
    have h2 := (pile_due h).mp hx
    have h3 := seq_mem.mp h2
    obtain ⟨i, w, hw, hn⟩ := h3
    have ww := (h.word w (List.mem_of_getElem? hw)).word
    unfold dueSeq at hn
    rcases List.mem_append.mp hn with hn | hn
    · have := (ww.prefix i x hn).lt; (first | lia | omega)
    · have := (ww.rest i x hn).lt; (first | lia | omega)
end Mine
end
section
open PySem PySem.W PyProof.Rows PySem.Calls
set_option maxRecDepth 20000
set_option linter.unusedVariables false
namespace Mine
section
variable {prog : Program} {w : World} {c : FC} {m : Loc} {n news : Led'} {E : Led' → Value → Shared → Prop}
/-- a name that lives in a cell -/
structure CellN (c : FC) (x : Str) (a : Addr) : Prop where
  kind : c.env.scope.kind = .function
  cell : c.env.kindOf x = some .cell
  at_ : c.env.cells.lookup x = some a
  nd : (x == ("__debug__" : Str)) = false
theorem t_ldCell {x : Str} {pos : Pos} {a : Addr} {o : Obj} {v : Value} {Q : Value → Loc → Led' → Prop} (C : CellN c x a) (ho : There c n a o) (hd : o.data = .cell (some v)) (h : Q v m n) : Tr (model prog w) c (eval (.Name x pos) c.env) m n Q E :=
  t_Name (fun k s l => wpAny_loadName_cell C.kind C.cell C.at_ ⟨o, ho.get l, hd⟩ ⟨m, n, l, h⟩) C.nd
theorem t_stCell {x : Str} {i : Nat} {a : Addr} {o : Obj} {v₀ : Option Value} {v : Value} {Q : Unit → Loc → Led' → Prop} (C : CellN c x a) (hi : n[i]? = some (a, o)) (hd : o.data = .cell v₀)
    (h : ∀ o', o'.data = .cell (some v) → Q () m (n.set i (a, o'))) : Tr (model prog w) c (storeName c.env x v) m n Q E := fun k s l => by
  refine wpAny_storeName_cell C.kind C.cell C.at_ ⟨o, (l.nw _ (List.mem_of_getElem? hi)).1, hd⟩ fun h' hc hs => ?_
  obtain ⟨o', ho', hd'⟩ := hc
  exact ⟨m, _, l.change (tk := s.toks) hi hs ho', h o' hd'⟩
theorem v_sum {a : Addr} {vs : List Value} {Q : Value → Loc → Led' → Prop} (hn : c.A.handled = none) (ha : LstAt c n a vs) (hv : ∀ v ∈ vs, ∃ i t, v = .int i t) (h : ∀ i t, Q (.int i t) m n) : Tr (model prog w) c (call (.builtin "sum") [.ref a]) m n Q E := fun k s l => by
  have hl := ha.isList l
  have lt : a < s.heap.objs.size := by obtain ⟨o, ho, _⟩ := hl; exact Heap.lt_size ho
  refine call_sum_walkG (wpAny_pyIter_list hl ⟨s.heap.objs.size, _, _, _, _, _, fun i => match vs[i]? with | some (.int x _) => x | _ => 0, rfl, Walks.list (prog := prog) (w := w) (A := c.A.in1) hn s.heap.objs.size a (Nat.ne_of_lt lt) vs.toArray,
    ⟨⟨_, Heap.get?_push_size _ rfl, rfl, rfl⟩, hl.at fun o e => Heap.get?_push_of_some _ e⟩, fun b hb => ?_, fun i v hi => ?_, fun h' tk t' hk => ?_⟩)
  · show b < (s.heap.push _).objs.size
    rw [Heap.size_push]
    rcases List.mem_cons.mp hb with rfl | hb
    · exact Nat.lt_succ_self _
    · rw [List.mem_singleton.mp hb]; exact Nat.lt_succ_of_lt lt
  · have hi' : vs[i]? = some v := by simpa using hi
    obtain ⟨x, t, rfl⟩ := hv v (List.mem_of_getElem? hi')
    refine ⟨t, ?_⟩
    show Value.int x t = Value.int (match vs[i]? with | some (.int x _) => x | _ => 0) t
    rw [hi']
  · refine ⟨m, n, l.grow (gs := s.gens) (dr := s.drawn) (fun b o e => hk b o (fun hb => ?_) (Heap.get?_push_of_some _ e)) l.gens, h _ _⟩
    rw [List.mem_singleton.mp hb] at e
    exact absurd (Heap.lt_size e) (Nat.lt_irrefl _)
theorem v_min {a b : Int} {t u : Tok} {Q : Value → Loc → Led' → Prop} (hn : c.A.handled = none) (h : ∀ t, Q (.int (if b < a then b else a) t) m n) : Tr (model prog w) c (call (.builtin "min") [.int a t, .int b u]) m n Q E := fun k s l => by
  refine min_two_ints hn fun h' tk hk => ⟨m, n, l.grow (gs := s.gens) (dr := s.drawn) hk l.gens, ?_⟩
  split
  · rename_i hb; have := h u; rwa [if_pos hb] at this
  · rename_i hb; have := h t; rwa [if_neg hb] at this
end
/-- the law's frame -/
structure LF (G : Gl) (c : FC) (P : Addr) (sc : Scope) : Prop where
  nf : NF G c sc
  co : CO G c 3
  tf : TF G c P
  ax : AX c
theorem NF.loc {G : Gl} {c : FC} {sc : Scope} (F : NF G c sc) {x : Str} (h : isLocB sc x = true) : LocN c x := by
  obtain ⟨h1, h2⟩ := Bool.and_eq_true_iff.mp h
  refine ⟨by rw [F.hsc]; exact F.hkind, ?_, by simpa using h2⟩
  unfold Env.kindOf
  rw [F.hsc]
  revert h1
  split
  · rename_i e; intro _; exact e
  · intro e; cases e
theorem NF.inter {G : Gl} {c : FC} {sc : Scope} (F : NF G c sc) : interactive c.env = false := by
  unfold interactive
  simp only [F.hsc, F.hkind]
  rfl
noncomputable def isCellB (sc : Scope) (x : Str) : Bool := (match sc.names.lookup x with | some .cell => true | _ => false) && !(x == ("__debug__" : Str))
theorem NF.cell {G : Gl} {c : FC} {sc : Scope} (F : NF G c sc) {x : Str} {a : Addr} (h : isCellB sc x = true) (ha : c.env.cells.lookup x = some a) : CellN c x a := by
  obtain ⟨h1, h2⟩ := Bool.and_eq_true_iff.mp h
  refine ⟨by rw [F.hsc]; exact F.hkind, ?_, ha, by simpa using h2⟩
  unfold Env.kindOf
  rw [F.hsc]
  revert h1
  split
  · rename_i e; intro _; exact e
  · intro e; cases e
noncomputable def cellsAt (a b c d e f : Addr) : List (Str × Addr) := [(Str.ofString "due", a), (Str.ofString "signs", b), (Str.ofString "told", c), (Str.ofString "words", d), (Str.ofString "row", e), (Str.ofString "script", f)]
theorem law_cells (x : Nat) : cellsFrom (x + 1) (scopeOf 25).names [] = cellsAt (x + 6) (x + 5) (x + 4) (x + 3) (x + 2) (x + 1) := by with_unfolding_all rfl
theorem six_down (x : Nat) : [x + 6, x + 5, x + 4, x + 3, x + 2, x + 1].Pairwise (· > ·) := by
  simp only [List.pairwise_cons, List.mem_cons, List.not_mem_nil, or_false]
  refine ⟨fun y hy => by (first | lia | omega), fun y hy => by (first | lia | omega), fun y hy => by (first | lia | omega), fun y hy => by (first | lia | omega), fun y hy => by (first | lia | omega), fun y hy => hy.elim, .nil⟩
theorem law_entry {prog : Program} {w : World} {G : Gl} {a P : Addr} {v : Value} {s : Shared} {Q : Value → Shared → Prop} {E : Value → Shared → Prop}
    (hG : GOk G (hide s.heap P)) (hf : FnIs G s.heap 25 a) (hP : ∃ o, s.heap.get? P = some o ∧ TokOk G.ps P o) (hgs : AllBare s.gens)
    (h : ∀ c aDue aSigns aTold aWords aRow aScript oDue oSigns oTold oWords oRow oScript, LF G c P (scopeOf 25) → c.g = hide s.heap P →
      c.env.cells = cellsAt aDue aSigns aTold aWords aRow aScript →
      oDue.data = .cell none → oSigns.data = .cell none → oTold.data = .cell none → oWords.data = .cell none → oRow.data = .cell none → oScript.data = .cell (some v) →
      ∀ m, Tr (model prog w) c (execs (bodyOf 25) c.env) m [(aDue, oDue), (aSigns, oSigns), (aTold, oTold), (aWords, oWords), (aRow, oRow), (aScript, oScript)] (fun fl _ _ => fl = .ret (.bool true)) nope)
    (hQ : ∀ h' gs dr tk, (∀ b o, b ≠ P → s.heap.get? b = some o → h'.get? b = some o) → (∃ o, h'.get? P = some o ∧ TokOk G.ps P o) → AllBare gs → Q (.bool true) { heap := h', gens := gs, drawn := dr, toks := tk, os := s.os }) :
    wpAny (model prog w) callerA (call (.ref a) [v]) Q E s := by
  obtain ⟨o, pm, cd, doc, ho, hdat, hcd⟩ := hf.obj
  obtain ⟨oP, hoP, htP⟩ := hP
  have hsub : ∀ b o, (hide s.heap P).get? b = some o → s.heap.get? b = some o := fun _ _ e => hide_sub e
  have hlk : (scopeOf 25).names.lookup (Str.ofString "script") = some .cell := by decide +kernel
  have hk1 : (scopeOf 25).kind = .function := by decide +kernel
  refine wpAny_call (call_cellsN_ret (by decide +kernel) ho hdat (hG.nolimit.keeps hsub) hcd (binds := [(Str.ofString "script", v)]) rfl (fun x hx => ?_) (by decide +kernel) (fun h₁ tk cells F N X => ?_) (by decide +kernel) (by decide +kernel) hk1)
  · rw [List.mem_singleton.mp hx]
    refine .inr ⟨hlk, ?_⟩
    rw [law_cells]; rfl
  rw [law_cells] at X
  cases X with | cons dDue X =>
  cases X with | cons dSigns X =>
  cases X with | cons dTold X =>
  cases X with | cons dWords X =>
  cases X with | cons dRow X =>
  cases X with | cons dScript X =>
  cases X
  rename_i oDue oSigns oTold oWords oRow oScript
  generalize hL : s.heap.objs.size = L at *
  let c : FC := ⟨callerA.deeper (envOfC (nameOf 25) (scopeOf 25) L a cd), hide s.heap P, L, envOfC (nameOf 25) (scopeOf 25) L a cd, s.os, [P], TokOk G.ps⟩
  have hkm : (scopeOf 25).kind ≠ .module := by rw [hk1]; decide
  have hPl : P < L := by rw [← hL]; exact Heap.lt_size hoP
  have hbel : ∀ k m news s', Ld c k m news s' → ∃ base outer, Below c.A base outer s'.heap ∧ base.get? P = none := fun k m news s' l =>
    ⟨noH, [c.env], ⟨rfl, fun b o e => (by rw [noH_none] at e; cases e), Heap.FunFrames.cons hkm rfl l.ns (noH_none _) trivial⟩, noH_none _⟩
  have hLF : LF G c P (scopeOf 25) := by
    refine ⟨⟨rfl, hk1, rfl, rfl, hG⟩, ⟨hG, rfl, rfl, fun k m news s' l => let ⟨x, y, z, _⟩ := hbel k m news s' l; ⟨x, y, z⟩, ?_, ?_⟩, ⟨rfl, rfl, hide_none _ _, hbel⟩, ⟨rfl, rfl, hkm⟩⟩
    · show 1 + claimMargin + 1 + 3 < recursionLimit
      decide +kernel
    · show 4 + 3 + 4 * 3 + 100 < cLine
      decide +kernel
  have ht := h c _ _ _ _ _ _ _ _ _ _ _ _ hLF rfl (law_cells L) (dDue.trans (by with_unfolding_all rfl)) (dSigns.trans (by with_unfolding_all rfl)) (dTold.trans (by with_unfolding_all rfl)) (dWords.trans (by with_unfolding_all rfl)) (dRow.trans (by with_unfolding_all rfl)) (dScript.trans (by with_unfolding_all rfl)) (bindL (envOfC (nameOf 25) (scopeOf 25) L a cd).kindOf [(Str.ofString "script", v)] fun x => none)
  have l : Ld c [] (bindL (envOfC (nameOf 25) (scopeOf 25) L a cd).kindOf [(Str.ofString "script", v)] fun x => none) [(L + 6, oDue), (L + 5, oSigns), (L + 4, oTold), (L + 3, oWords), (L + 2, oRow), (L + 1, oScript)] { s with heap := h₁, toks := tk } := by
    refine ⟨F.ns, fun b o e => F.keep b o (hsub b o e), by show (hide s.heap P).objs.size ≤ L; rw [hide_size, hL]; exact Nat.le_refl _, Nat.le_refl _, fun p hp => ⟨(N p hp).1, ?_, (N p hp).2.1⟩, ?_, fun _ hp => (nomatch hp), hgs, rfl, fun p hp => ?_⟩
    · show L ≤ p.1
      simp only [List.mem_cons, List.not_mem_nil, or_false] at hp
      rcases hp with rfl | rfl | rfl | rfl | rfl | rfl <;> simp
    · exact six_down L
    · rw [List.mem_singleton.mp hp]
      exact ⟨hPl, hide_none _ _, oP, F.keep P oP hoP, htP⟩
  refine wpAny_mono (ht [] _ l) (fun fl s' hl => ?_) fun _ _ e => e.elim
  obtain ⟨m', n', l', hfl⟩ := hl
  subst hfl
  obtain ⟨h', gs, dr, tk', os⟩ := s'
  have hos : os = s.os := l'.os
  subst hos
  exact hQ h' gs dr tk' (fun b o hb e => l'.old b o (by show (hide s.heap P).get? b = some o; rw [hide_ne hb]; exact e)) (l'.tb P (.head _)).2.2 l'.gens
end Mine
end
section
open PySem PySem.W PyProof.Rows PySem.Calls
set_option maxRecDepth 20000
set_option linter.unusedVariables false
namespace Mine
structure RowOk (R : List Th) : Prop where
  ok : ∀ x ∈ R, x.ok
  len : R.length ≤ 7
  has : R ≠ [] → Th.int (-31) ∈ R
noncomputable def RowSt (aDue aSigns aTold aWords aRow aScript : Addr) (oDue oSigns oTold oWords oScript : Obj) (_ : Loc) (n : Led') : Prop :=
  ∃ r0 rv e R oR, [(r0, lst rv e), (aDue, oDue), (aSigns, oSigns), (aTold, oTold), (aWords, oWords), (aRow, oR), (aScript, oScript)].Sublist n ∧ oR.data = .cell (some (.ref r0)) ∧ Things rv R ∧ RowOk R
theorem swaps_cell {c : FC} {x : Str} {a : Addr} {value : Expr} {pos : Pos} {line : Nat} (C : CellN c x a) : swapsWith value (some (.Name x pos)) line c.env = Pure.pure false := by
  have hk : (c.env.kindOf x == some NameKind.local) = false := by rw [C.cell]; rfl
  cases value <;> first
    | rfl
    | (unfold swapsWith; simp only [hk, Bool.and_false, Bool.false_and])
theorem uniq_len (l : List W) : (uniq l).length ≤ l.length := nodup_len (uniq_nodup l) fun x hx => uniq_mem.mp hx
theorem first_idx {l : List W} {w : W} (h : w ∈ l) : ∃ j : Nat, l[j]? = some w ∧ ∀ k, k < j → l[k]? ≠ some w := by
  induction l with
  | nil => cases h
  | cons a r ih =>
    by_cases ha : a = w
    · exact ⟨0, by rw [ha]; rfl, fun k hk => absurd hk (Nat.not_lt_zero _)⟩
    · rcases List.mem_cons.mp h with e | h
      · exact absurd e.symm ha
      · obtain ⟨j, h1, h2⟩ := ih h
        refine ⟨j + 1, by simpa using h1, fun k hk => ?_⟩
        cases k with
        | zero => simpa using ha
        | succ k => simpa using h2 k (by (first | lia | omega))
theorem dok_rev {D : List W} (h : DOk D) : DOk D.reverse :=
  ⟨by rw [List.length_reverse]; exact h.len, fun w hw => h.word w (List.mem_reverse.mp hw), fun hne => List.mem_reverse.mpr (h.has fun e => hne (by rw [e]; rfl))⟩
theorem dok_uniq {D : List W} (h : DOk D) : DOk (weed false D) := by
  rw [weed_uniq]
  exact ⟨Nat.le_trans (uniq_len D) h.len, fun w hw => h.word w (uniq_mem.mp hw), fun hne => uniq_mem.mpr (h.has fun e => hne (by rw [e]; rfl))⟩
theorem dok_weed {D : List W} (h : DOk D) (hl : (weed true D).length ≤ 7) (hs : ∀ w ∈ weed true D, w ∈ D) : DOk (weed true D) := by
  refine ⟨hl, fun w hw => h.word w (hs w hw), fun hne => ?_⟩
  refine weed_true_mem (h.has fun e => hne (by rw [e]; rfl)) (fun y hy e => ?_) (by decide)
  unfold mark at e
  split at e
  · exact absurd e (by decide)
  · split at e
    · exact absurd e (by decide)
    · exact e
/-- what stands before the loop -/
noncomputable def LoopIn (aDue aSigns aTold aWords : Addr) (m : Loc) (n : Led') : Prop :=
  ∃ (B C : Led') (sg pi rl dl wl tl : Addr) (rowsV duesV wv tv : List Value) (er ed ew et : Nat) (Rs : Nat → List Th) (Ds : Nat → List W) (oD oS oW oT : Obj),
    n = (sg, lst []) :: (pi, lst []) :: (B ++ (aDue, oD) :: C) ∧ oD.data = .cell none ∧ m "rows" = some (.ref rl) ∧ m "dues" = some (.ref dl) ∧ m "piles" = some (.ref pi) ∧
    (rl, lst rowsV er) ∈ B ∧ (dl, lst duesV ed) ∈ B ∧ (∀ k, k < 4 → ∃ r rv e, rowsV[k]? = some (.ref r) ∧ (r, lst rv e) ∈ B ∧ Things rv (Rs k)) ∧ (∀ k, k < 4 → ∃ d dv e, duesV[k]? = some (.ref d) ∧ (d, lst dv e) ∈ B ∧ Strs dv (Ds k)) ∧
    (∀ k, k < 4 → (Rs k).map Th.wr = Ds k) ∧ (∀ k, k < 4 → ∀ x ∈ Rs k, x.ok) ∧ (∀ k, k < 4 → DOk (Ds k)) ∧ (aSigns, oS) ∈ C ∧ oS.data = .cell (some (.ref sg)) ∧
    (aWords, oW) ∈ C ∧ oW.data = .cell (some (.ref wl)) ∧ (aTold, oT) ∈ C ∧ oT.data = .cell (some (.ref tl)) ∧ (wl, lst wv ew) ∈ B ∧ Strs wv (Ds 0) ∧ (tl, lst tv et) ∈ B ∧ Strs tv (Ds 0)
structure LawFns where
  (th wr wd du fr pl tl tr jn es dd K uu ca sr T sl pt D cc : Addr)
/-- what the law finds at the top -/
structure LawAt (G : Gl) (h : Heap) (P : Addr) (f : LawFns) : Prop where
  th : G.mg "_law_thing" = some (.ref f.th) ∧ FnIs G h 19 f.th
  wr : G.mg "_law_write" = some (.ref f.wr) ∧ FnIs G h 20 f.wr
  wd : G.mg "_law_weed" = some (.ref f.wd) ∧ FnIs G h 21 f.wd
  du : G.mg "_law_due" = some (.ref f.du) ∧ FnIs G h 22 f.du
  fr : G.mg "_law_frame" = some (.ref f.fr) ∧ FnIs G h 23 f.fr
  pl : G.mg "_law_pile" = some (.ref f.pl) ∧ FnIs G h 24 f.pl
  tl : G.mg "translate" = some (.ref f.tl) ∧ FnIs G h 3 f.tl
  tr : G.mg "_translate" = some (.ref f.tr) ∧ FnIs G h 8 f.tr
  jn : G.mg "_join_translated_parts" = some (.ref f.jn) ∧ FnIs G h 9 f.jn
  es : G.mg "escape" = some (.ref f.es) ∧ FnIs G h 6 f.es
  dd : G.mg "_deduplicate" = some (.ref f.dd) ∧ DedAt h f.dd f.K
  uu : G.mg "_deduplicate_unhashable" = some (.ref f.uu) ∧ FnIs G h 12 f.uu
  ca : G.mg "_compare_args_orderless" = some (.ref f.ca) ∧ FnIs G h 13 f.ca
  sr : G.mg "safe_repr" = some (.ref f.sr) ∧ SafeAt h f.sr f.T
  sl : G.mg "sorted_list_difference" = some (.ref f.sl) ∧ FnIs G h 17 f.sl
  pt : G.mg "_twin_re_1" = some (.ref f.pt) ∧ PatAt h f.pt
  dc : G.mg "_special_chars_map" = some (.ref f.D) ∧ EscAt h f.D
  bm : BM G h
  code : (∃ o pm doc, h.get? f.tr = some o ∧ o.data = .func (docDef (nameOf 8) (paramsOf 8) (bodyOf 8) (scopeOf 8) pm (.ref f.cc) doc)) ∧ CodeOk h f.cc P
theorem PatAt.keeps {h h' : Heap} {p : Addr} (x : PatAt h p) (hk : ∀ b o, h.get? b = some o → h'.get? b = some o) : PatAt h' p := by
  obtain ⟨fs, cd, its, n, h1, h2, h3, h4⟩ := x
  exact ⟨fs, cd, its, n, hk _ _ h1, h2, h3, hk _ _ h4.1, h4.2⟩
theorem BM.keeps {G : Gl} {h h' : Heap} (x : BM G h) (hk : ∀ b o, h.get? b = some o → h'.get? b = some o) : BM G h' := by
  obtain ⟨bm, ob, h1, h2, h3, h4⟩ := x
  exact ⟨bm, ob, h1, h2, hk _ _ h3, h4⟩
theorem CodeOk.keeps {h h' : Heap} {cc P : Addr} (x : CodeOk h cc P) (hk : ∀ b o, h.get? b = some o → h'.get? b = some o) : CodeOk h' cc P := by
  obtain ⟨o, vs, file, tf, flags, tg, inF, text, tt, h1, r⟩ := x
  exact ⟨o, vs, file, tf, flags, tg, inF, text, tt, hk _ _ h1, r⟩
theorem SafeAt.keeps {h h' : Heap} {a T : Addr} (x : SafeAt h a T) (hk : ∀ b o, h.get? b = some o → h'.get? b = some o) : SafeAt h' a T :=
  ⟨x.1.keeps hk, let ⟨o, n, h1, h2⟩ := x.2; ⟨o, n, hk _ _ h1, h2⟩⟩
theorem DedAt.keeps {h h' : Heap} {a K : Addr} (x : DedAt h a K) (hk : ∀ b o, h.get? b = some o → h'.get? b = some o) : DedAt h' a K :=
  ⟨x.1.keeps hk, let ⟨mk, h1, h2⟩ := x.2; ⟨mk, h1.keeps hk, h2⟩⟩
theorem LawAt.keeps {G : Gl} {h h' : Heap} {P : Addr} {f : LawFns} (x : LawAt G h P f) (hk : ∀ b o, h.get? b = some o → h'.get? b = some o) : LawAt G h' P f :=
  ⟨⟨x.th.1, x.th.2.keeps hk⟩, ⟨x.wr.1, x.wr.2.keeps hk⟩, ⟨x.wd.1, x.wd.2.keeps hk⟩, ⟨x.du.1, x.du.2.keeps hk⟩, ⟨x.fr.1, x.fr.2.keeps hk⟩, ⟨x.pl.1, x.pl.2.keeps hk⟩, ⟨x.tl.1, x.tl.2.keeps hk⟩, ⟨x.tr.1, x.tr.2.keeps hk⟩, ⟨x.jn.1, x.jn.2.keeps hk⟩, ⟨x.es.1, x.es.2.keeps hk⟩,
    ⟨x.dd.1, x.dd.2.keeps hk⟩, ⟨x.uu.1, x.uu.2.keeps hk⟩, ⟨x.ca.1, x.ca.2.keeps hk⟩, ⟨x.sr.1, x.sr.2.keeps hk⟩, ⟨x.sl.1, x.sl.2.keeps hk⟩, ⟨x.pt.1, x.pt.2.keeps hk⟩, ⟨x.dc.1, let ⟨o, h1, h2⟩ := x.dc.2; ⟨o, hk _ _ h1, h2⟩⟩, x.bm.keeps hk,
    ⟨let ⟨o, pm, doc, h1, h2⟩ := x.code.1; ⟨o, pm, doc, hk _ _ h1, h2⟩, x.code.2.keeps hk⟩⟩
noncomputable def clos (cells : List (Str × Addr)) : List (Str × NameKind) → List (Str × Addr) → Option (List (Str × Addr))
  | [], acc => some acc
  | (n, k) :: r, acc => if k == .free then (match cells.lookup n with | some a => clos cells r ((n, a) :: acc) | none => none) else clos cells r acc
theorem closureFor_free {scope : Scope} {env : Env} {cells cl : List (Str × Addr)} (h : env.cells = cells) (hc : clos cells scope.names [] = some cl) : closureFor scope env = Pure.pure cl := by
  subst h
  have key : ∀ (l : List (Str × NameKind)) (acc : List (Str × Addr)), clos env.cells l acc = some cl →
      (forIn l acc fun (x : Str × NameKind) (cs : List (Str × Addr)) => (if x.2 == .free then (do let a ← cellOf env x.1; Pure.pure (ForInStep.yield ((x.1, a) :: cs))) else Pure.pure (ForInStep.yield cs) : Sem _)) = (Pure.pure cl : Sem _) := fun l => by
    induction l with
    | nil => intro acc h; cases h; rfl
    | cons x r ih =>
      intro acc h
      obtain ⟨n, k⟩ := x
      rw [List.forIn_cons]
      unfold clos at h
      cases hk : (k == NameKind.free) with
      | true =>
        simp only [hk, if_true] at h ⊢
        cases hl : env.cells.lookup n with
        | none => rw [hl] at h; cases h
        | some a =>
          rw [hl] at h
          have e : cellOf env n = Pure.pure a := by unfold cellOf; rw [hl]
          rw [e]
          exact ih _ h
      | false =>
        simp only [hk, Bool.false_eq_true, if_false] at h ⊢
        exact ih _ h
  unfold closureFor
  exact (congrArg (· >>= fun r => (Pure.pure r : Sem _)) (key _ _ hc)).trans rfl
theorem slicePick_mem {vs : List Value} {lo hi st : Option Int} {v : Value} (h : v ∈ (slicePick vs.toArray lo hi st).toList) : v ∈ vs := by
  unfold slicePick at h
  obtain ⟨i, _, hi⟩ := List.mem_filterMap.mp (by simpa using h)
  exact List.mem_of_getElem? (by simpa using hi)
theorem thing_ok (x : Int) : (thing x).ok := by
  unfold thing
  split
  · have h0 := Int.fmod_nonneg_of_pos (x.fdiv 3) (b := 5) (by decide)
    have h1 := Int.fmod_lt_of_pos (x.fdiv 3) (b := 5) (by decide)
    generalize (x.fdiv 3).fmod 5 = k at h0 h1 ⊢
    have hk : k = 0 ∨ k = 1 ∨ k = 2 ∨ k = 3 ∨ k = 4 := by (first | lia | omega)
    rcases hk with rfl | rfl | rfl | rfl | rfl
    · trivial
    · trivial
    · trivial
    · exact .inl rfl
    · exact .inr rfl
  · have h0 := Int.fmod_nonneg_of_pos (if x < 0 then -x else x) (b := 1000) (by decide)
    have h1 := Int.fmod_lt_of_pos (if x < 0 then -x else x) (b := 1000) (by decide)
    split
    · show -1000 < _ ∧ _ < 1000
      (first | lia | omega)
    · show -1000 < _ ∧ _ < 1000
      (first | lia | omega)


set_option compiler.extract_closed false
local macro_rules | `(tactic| walk_at "lk") => `(tactic| first | assumption | exact upd_hit | (refine upd_miss (by decide) ?_; walk_at "lk") | (with_unfolding_all rfl))
local macro_rules | `(tactic| walk_at "nm") => `(tactic| with_reducible assumption)
local macro_rules | `(tactic| walk_at "st") => `(tactic| with_reducible first
  | (refine' t_ld ?k1 ?k2 ?_; (case k1 => walk_at "nm"); (case k2 => walk_at "lk"))
  | (refine' t_nm ?k1 ?_; (case k1 => walk_at "nm"))
  | (refine' t_ldCell ?k1 ?k2 ?k3 ?_; (case k1 => walk_at "nm"); (case k2 => with_unfolding_all (first | assumption | exact .inr (by walk_at "mb"))); (case k3 => with_unfolding_all (first | assumption | rfl)))
  | refine t_IntC fun _ => ?_
  | refine t_StrS fun _ => ?_
  | refine t_BoolC ?_
  | refine t_NoneC ?_
  | refine t_cons ?_
  | refine t_after ?_
  | refine t_afterR ?_
  | refine t_afterB ?_
  | refine t_If ?_
  | (refine t_isCompare ?_ ?k1; (case k1 => with_unfolding_all rfl))
  | refine t_isAnd2 ?_
  | refine t_isOr2 ?_
  | refine t_isNot ?_
  | (refine t_isPlain ?_ ?k1; (case k1 => with_unfolding_all rfl))
  | refine t_truthy_bool ?_
  | (refine t_ifTrue ?k1 ?_; (case k1 => with_unfolding_all rfl))
  | (refine t_ifFalse ?k1 ?_; (case k1 => with_unfolding_all rfl))
  | (refine t_Assign ?_ ?k1; (case k1 => with_unfolding_all rfl))
  | (refine t_st ?k1 ?_; (case k1 => walk_at "nm"))
  | refine t_AugAssign ?_
  | (refine' t_ldn ?k1 ?k2 ?_; (case k1 => walk_at "nm"); (case k2 => walk_at "lk"))
  | refine t_BinOp ?_
  | (refine t_Compare ?_ ?k1; (case k1 => with_unfolding_all rfl))
  | (refine t_CallE ?_ ?k1; (case k1 => with_unfolding_all rfl))
  | (refine t_callWith0 ?k1 ?_; (case k1 => with_unfolding_all rfl))
  | (refine t_callWith1 ?k1 ?_; (case k1 => with_unfolding_all rfl))
  | (refine t_argS ?_ ?k1; (case k1 => with_unfolding_all rfl))
  | refine t_arg0 ?_
  | refine And.intro (KeepOk.builtin _) ?_
  | refine And.intro (KeepOk.type _) ?_
  | refine Exists.intro _ (And.intro rfl ?_)
  | refine t_Return ?_
  | refine t_IfExp ?_
  | refine t_UnaryOp ?_
  | (refine t_ExprStmt ?_ ?k1 ?k2; (case k1 => walk_at "nm"); (case k2 => with_unfolding_all rfl))
  | refine And.intro rfl ?_
  | refine t_Break ?_
  | refine t_nil ?_
  | refine v_eqInt ?_
  | refine v_neInt ?_
  | refine v_ltInt ?_
  | refine v_gtInt ?_
  | refine v_geInt ?_
  | refine v_eqStr ?_
  | refine v_neStr ?_
  | refine v_ltStr ?_
  | refine v_gtStr ?_
  | refine v_addInt fun _ => ?_
  | refine v_iaddInt fun _ => ?_
  | refine v_subInt fun _ => ?_
  | refine v_negInt fun _ => ?_
  | refine v_isNone ?_
  | (refine v_modPos ?k1 fun _ => ?_; (case k1 => decide))
  | (refine v_divSmall ?k1 fun _ => ?_; (case k1 => decide))
  | refine t_Tuple ?_
  | refine t_List ?_
  | ((fail_if_success (refine t_strSlice ?_ ?_)); (fail_if_success (refine t_listSliceS ?_ ?_)); refine t_Subscript ?_)
  | refine t_part0 ?_
  | refine t_part ?_
  | (refine v_is ?k1 ?_; (case k1 => with_unfolding_all rfl))
  | (refine v_isNot ?k1 ?_; (case k1 => with_unfolding_all rfl))
  | refine v_abs fun _ => ?_
  | refine v_isiIntInt ?_
  | refine v_isiStrInt ?_
  | (refine t_Method ?_ (by with_unfolding_all rfl))
  | (refine t_tests1 ?_)
  | (refine t_tests0 ?_)
  | refine t_Pass ?_
  | refine t_Dict0 fun _ _ _ => ?_
  | refine t_Try0 ?_
  | refine t_Assert ?_
  | refine t_JoinedStr ?_
  | refine t_jpE ?_
  | refine t_jpE0 ?_
  | refine t_jpCons ?_
  | refine t_FmtStr ?_
  | (refine t_AssignSub ?_ ?k1; (case k1 => with_unfolding_all rfl))
  | (refine' t_use ?k1 ?_; (case k1 => assumption))
  | fail)
local macro_rules | `(tactic| walk_at "go") => `(tactic| repeat' (walk_at "st"))
local macro_rules | `(tactic| walk_at "gT") => `(tactic| repeat' ((fail_if_success (with_reducible refine t_Try0 ?_)); walk_at "st"))
local macro_rules | `(tactic| walk_at "g0") => `(tactic| repeat' ((fail_if_success (with_reducible refine t_If ?_)); walk_at "st"))
local macro_rules | `(tactic| walk_at "lka") => `(tactic| ((repeat' (with_reducible refine And.intro ?_ ?_)) <;> first | walk_at "lk" | exact ⟨_, by walk_at "lk"⟩))
local macro_rules | `(tactic| walk_at "mm") => `(tactic| first | exact .head _ | exact .tail _ (.head _) | exact .tail _ (.tail _ (.head _)) | exact .tail _ (.tail _ (.tail _ (.head _))) | exact .tail _ (.tail _ (.tail _ (.tail _ (.head _)))))
local macro_rules | `(tactic| walk_at "mb") => `(tactic| first | exact .head _ | assumption | exact List.mem_append_left _ (by assumption) | (refine .tail _ ?_; walk_at "mb") | (refine List.mem_append_right _ ?_; walk_at "mb"))

set_option maxHeartbeats 4000000 in
theorem law_top {Q : Flow → Loc → Led' → Prop} {prog : Program} {w : World} {G : Gl} {P : Addr} {f : LawFns} {c : FC} {aDue aSigns aTold aWords aRow aScript sc : Addr} {oDue oSigns oTold oWords oRow oScript : Obj} {ns : List Value} {m : Loc} (LF0 : LF G c P (scopeOf 25)) (LA : LawAt G c.g P f)
    (hns : c.g.IsList sc ns.toArray) (hint : ∀ v ∈ ns, ∃ i t, v = .int i t) (hlen : ns.length ≤ 63)
    (hcl : c.env.cells = cellsAt aDue aSigns aTold aWords aRow aScript) (dDue : oDue.data = .cell none) (dSigns : oSigns.data = .cell none) (dTold : oTold.data = .cell none) (dWords : oWords.data = .cell none) (dRow : oRow.data = .cell none) (dScript : oScript.data = .cell (some (.ref sc)))
    (h : ∀ m n, LoopIn aDue aSigns aTold aWords m n → Tr (model prog w) c (execs ((bodyOf 25).drop 9) c.env) m n Q nope) :
    Tr (model prog w) c (execs (bodyOf 25) c.env) m [(aDue, oDue), (aSigns, oSigns), (aTold, oTold), (aWords, oWords), (aRow, oRow), (aScript, oScript)] Q nope := by
  have N := LF0.nf
  have X_int := N.inter
  have C_script : CellN c "script" aScript := N.cell (by decide +kernel) (by rw [hcl]; rfl)
  have C_row : CellN c "row" aRow := N.cell (by decide +kernel) (by rw [hcl]; rfl)
  have C_words : CellN c "words" aWords := N.cell (by decide +kernel) (by rw [hcl]; rfl)
  have C_told : CellN c "told" aTold := N.cell (by decide +kernel) (by rw [hcl]; rfl)
  have C_signs : CellN c "signs" aSigns := N.cell (by decide +kernel) (by rw [hcl]; rfl)
  have C_due : CellN c "due" aDue := N.cell (by decide +kernel) (by rw [hcl]; rfl)
  have L_k : LocN c "k" := N.loc (by decide +kernel)
  have L_firsts : LocN c "firsts" := N.loc (by decide +kernel)
  have L_rows : LocN c "rows" := N.loc (by decide +kernel)
  have L_dues : LocN c "dues" := N.loc (by decide +kernel)
  have L_piles : LocN c "piles" := N.loc (by decide +kernel)
  have L_text : LocN c "text" := N.loc (by decide +kernel)
  have N_sum : Nm c "sum" (.builtin "sum") := N.bnm (by decide +kernel) (by decide +kernel)
  have N_len : Nm c "len" (.builtin "len") := N.bnm (by decide +kernel) (by decide +kernel)
  have N_min : Nm c "min" (.builtin "min") := N.bnm (by decide +kernel) (by decide +kernel)
  have N_range : Nm c "range" (.type "range") := N.bnm (by decide +kernel) (by decide +kernel)
  have N_list : Nm c "list" (.type "list") := N.bnm (by decide +kernel) (by decide +kernel)
  have N_sorted : Nm c "sorted" (.builtin "sorted") := N.bnm (by decide +kernel) (by decide +kernel)
  have hsz : 1000000 ≤ sizeLine := by decide +kernel
  refine t_cons (t_mid (RowSt aDue aSigns aTold aWords aRow aScript oDue oSigns oTold oWords oScript) ?_ ?_)
  · skip
    walk_at "go"
    refine t_ListComp (n := if 3 < ns.length then 3 else ns.length) (P := fun i v => ∃ t, v = .int ((0 + i : Nat) : Int) t) (fpo := []) (cl := [(Str.ofString "script", aScript)]) (fun i ys => ∃ ts, Things ys ts ∧ (∀ x ∈ ts, x.ok) ∧ ts.length = i) (closureFor_free hcl (by with_unfolding_all rfl)) (by decide +kernel) (by split <;> (first | lia | omega)) ?_ (by decide) (fun _ => rfl)
    walk_at "go"
    refine v_lenList (.old hns) (by (first | lia | omega)) fun _ => ?_
    walk_at "go"
    refine v_min LF0.co.hn fun _ => ?_
    walk_at "go"
    have hmin : (if (3 : Int) < (ns.length : Int) then (3 : Int) else (ns.length : Int)) = ((if 3 < ns.length then 3 else ns.length : Nat) : Int) := by
      by_cases h : 3 < ns.length
      · rw [if_pos h, if_pos (by (first | lia | omega))]; rfl
      · rw [if_neg h, if_neg (by (first | lia | omega))]
    rw [hmin]
    refine v_range1 fun rr t u v => ?_
    walk_at "go"
    refine ⟨itOk_range1 LF0.co.hn (.inr (by rw [Nat.zero_add]; exact .head _)) (by split <;> (first | lia | omega)), ⟨[], .nil, fun _ h => (nomatch h), rfl⟩, ?_, ?_⟩
    · rintro c' I' Lx i v ys m' hi xB1 xB2 hx
      refine t_box fun gbx hbx => ?_
      obtain ⟨tv, eB0⟩ := xB1
      obtain ⟨ts, hts, hok, htl⟩ := xB2
      refine hbx ?_
      clear hbx gbx
      subst eB0
      have N' := N.inner I' (by decide +kernel)
      have N_sum' : Nm c' "sum" (.builtin "sum") := N'.bnm (by decide +kernel) (by decide +kernel)
      have N_th' : Nm c' "_law_thing" (.ref f.th) := N'.gnm (by decide +kernel) LA.th.1
      have C_script' : CellN c' "script" aScript := N'.cell (by decide +kernel) (by obtain ⟨C, e⟩ := I'.env; rw [e]; rfl)
      have hT : There c' [] aScript oScript := I'.there (.inr (by walk_at "mb"))
      refine t_tests0 ?_
      walk_at "go"
      refine t_listSliceS ?_ (by intro _ _; rfl)
      walk_at "go"
      refine ⟨sc, ns, _, _, _, rfl, I'.lst (.old hns), .int _ _, .none, .int _ _, by decide, by (first | lia | omega), fun b => ?_⟩
      walk_at "go"
      refine v_sum (I'.co LF0.co).hn (.new (.head _)) (fun v hv => hint v (slicePick_mem hv)) fun x tx => ?_
      walk_at "go"
      refine t_box fun gbx hbx => ?_
      obtain ⟨oe, pm', cd', doc', ho, hdat, _⟩ := LA.th.2.obj
      refine hbx ?_
      clear hbx gbx
      refine ⟨.fn (.inl (I'.keep _ _ ho)) hdat, ?_⟩
      refine t_spec (I'.co LF0.co) spec_thing (by decide) (fun k s l => LA.th.2.keeps fun b o e => l.old b o (I'.keep b o e)) ?_
      rintro r _ ⟨rfl, hr⟩
      refine ⟨ts ++ [thing x], Paired.snoc hts hr, fun y hy => ?_, by simp [htl]⟩
      rcases List.mem_append.mp hy with hy | hy
      · exact hok y hy
      · rw [List.mem_singleton.mp hy]; exact thing_ok x
    · rintro ys D e xB1
      refine t_box fun gbx hbx => ?_
      obtain ⟨ts, hts, hok, htl⟩ := xB1
      refine hbx ?_
      clear hbx gbx
      walk_at "go"
      refine ⟨show 4 ≤ sizeLine by (first | lia | omega), fun D2 => ?_⟩
      have hyl : ys.length ≤ 3 := by rw [Paired.length hts, htl]; split <;> (first | lia | omega)
      refine v_addList (.new (.tail _ (.head _))) (.new (.head _)) (by simp; (first | lia | omega)) fun r0 => ?_
      walk_at "go"
      refine t_stCell (i := 8) C_row rfl dRow fun oRow' dRow' => ?_
      have hrow : RowOk (ts ++ [.int 1, .int (-31), .bool true, .int 1]) := by
        refine ⟨fun x hx => ?_, by rw [List.length_append, htl]; simp; split <;> (first | lia | omega), fun _ => List.mem_append_right _ (by simp)⟩
        rcases List.mem_append.mp hx with hx | hx
        · exact hok x hx
        · simp only [List.mem_cons, List.not_mem_nil, or_false] at hx
          rcases hx with rfl | rfl | rfl | rfl
          · exact ⟨by decide, by decide⟩
          · exact ⟨by decide, by decide⟩
          · trivial
          · exact ⟨by decide, by decide⟩
      exact ⟨rfl, r0, _, _, ts ++ [.int 1, .int (-31), .bool true, .int 1], oRow', .cons_cons _ (.cons _ (.cons _ (.cons _ (.refl _)))), dRow', Paired.app hts (.cons (.int _ _) (.cons (.int _ _) (.cons (.bool _) (.cons (.int _ _) .nil)))), hrow⟩
  rintro m _ xB1
  refine t_box fun gbx hbx => ?_
  obtain ⟨r0, rv, e0, R, oR, hsub, dR, hR, hRok⟩ := xB1
  refine hbx ?_
  clear hbx gbx
  refine Tr.sub hsub ?_
  refine t_cons (t_mid (RowSt aDue aSigns aTold aWords aRow aScript oDue oSigns oTold oWords oScript) ?_ ?_)
  · walk_at "go"
    refine v_sum LF0.co.hn (.old hns) hint fun x tx => ?_
    walk_at "go"
    refine t_ite (fun _ => ?_) (fun _ => ?_)
    · walk_at "go"
      refine ⟨Nat.zero_le _, fun r1 => ?_⟩
      walk_at "go"
      refine t_stCell (i := 6) C_row rfl dR fun oR' dR' => ?_
      walk_at "go"
      exact ⟨r1, [], 0, [], oR', .cons_cons _ (.cons _ (.refl _)), dR', .nil, ⟨fun _ h => (nomatch h), Nat.zero_le _, fun h => absurd rfl h⟩⟩
    · walk_at "go"
      exact ⟨r0, rv, e0, R, oR, .refl _, dR, hR, hRok⟩
  clear hsub dR hR hRok
  clear r0 rv e0 R oR
  rintro m _ xB1
  refine t_box fun gbx hbx => ?_
  obtain ⟨r0, rv, e0, R, oR, hsub, dR, hR, hRok⟩ := xB1
  refine hbx ?_
  clear hbx gbx
  refine Tr.sub hsub ?_
  have hRl := Paired.length hR
  have hR7 := hRok.len
  -- words
  refine t_cons ?_
  refine t_Assign ?_ (swaps_cell C_words)
  refine t_ListComp (n := rv.length) (P := fun i v => rv[i]? = some v) (fpo := [(r0, lst rv e0)]) (cl := []) (fun i ys => Strs ys ((R.take i).map Th.wr)) (closureFor_none (by decide +kernel)) (by decide +kernel) (by (first | lia | omega)) ?_ (by decide) (fun _ => rfl)
  walk_at "go"
  refine ⟨itOk_list LF0.co.hn (.inr (.head _)) rfl rfl, .nil, ?_, ?_⟩
  · rintro c' I' Lx i v ys m' hi hv hys hx
    have N_sr' : Nm c' "safe_repr" (.ref f.sr) := (N.inner I' (by decide +kernel)).gnm (by decide +kernel) LA.sr.1
    refine t_box fun gbx hbx => ?_
    obtain ⟨x, hx1, hx2⟩ := Paired.get1 hR hv
    refine hbx ?_
    clear hbx gbx
    refine t_tests0 ?_
    walk_at "go"
    refine t_box fun gbx hbx => ?_
    obtain ⟨oe, pm', cd', doc', ho, hdat, _⟩ := LA.sr.2.1
    refine hbx ?_
    clear hbx gbx
    refine ⟨.fn (.inl (I'.keep _ _ ho)) hdat, ?_⟩
    refine t_spec (I'.co LF0.co) (spec_reprTh (T := f.T) hx2 (hRok.ok x (List.mem_of_getElem? hx1))) (by decide) (fun k s l => LA.sr.2.keeps fun b o e => l.old b o (I'.keep b o e)) ?_
    rintro r _ xB1
    refine t_box fun gbx hbx => ?_
    obtain ⟨eB0, t, eB1⟩ := xB1
    refine hbx ?_
    clear hbx gbx
    subst eB0
    subst eB1
    show Strs _ _
    rw [List.take_add_one, hx1, List.map_append]
    exact Paired.snoc hys (.mk _ _)
  intro wv wl ew hwv
  rw [hRl, List.take_length] at hwv
  walk_at "go"
  refine t_stCell (i := 5) C_words rfl dWords fun oW dW => ?_
  walk_at "go"
  -- told
  refine t_Assign ?_ (swaps_cell C_told)
  refine t_ListComp (n := rv.length) (P := fun i v => rv[i]? = some v) (fpo := [(r0, lst rv e0)]) (cl := []) (fun i ys => Strs ys ((R.take i).map Th.wr)) (closureFor_none (by decide +kernel)) (by decide +kernel) (by (first | lia | omega)) ?_ (by decide) (fun _ => rfl)
  walk_at "go"
  refine ⟨itOk_list LF0.co.hn (.inr (.tail _ (.head _))) rfl rfl, .nil, ?_, ?_⟩
  · rintro c' I' Lx i v ys m' hi hv hys hx
    have N_wr' : Nm c' "_law_write" (.ref f.wr) := (N.inner I' (by decide +kernel)).gnm (by decide +kernel) LA.wr.1
    refine t_box fun gbx hbx => ?_
    obtain ⟨x, hx1, hx2⟩ := Paired.get1 hR hv
    refine hbx ?_
    clear hbx gbx
    refine t_tests0 ?_
    walk_at "go"
    refine t_box fun gbx hbx => ?_
    obtain ⟨oe, pm', cd', doc', ho, hdat, _⟩ := LA.wr.2.obj
    refine hbx ?_
    clear hbx gbx
    refine ⟨.fn (.inl (I'.keep _ _ ho)) hdat, ?_⟩
    refine t_spec (I'.co LF0.co) (spec_write hx2 (hRok.ok x (List.mem_of_getElem? hx1))) (by decide) (fun k s l => LA.wr.2.keeps fun b o e => l.old b o (I'.keep b o e)) ?_
    rintro r _ xB1
    refine t_box fun gbx hbx => ?_
    obtain ⟨eB0, t, eB1⟩ := xB1
    refine hbx ?_
    clear hbx gbx
    subst eB0
    subst eB1
    show Strs _ _
    rw [List.take_add_one, hx1, List.map_append]
    exact Paired.snoc hys (.mk _ _)
  intro tv tl et htv
  rw [hRl, List.take_length] at htv
  walk_at "go"
  refine t_stCell (i := 5) C_told rfl dTold fun oT dT => ?_
  have N_dd : Nm c "_deduplicate" (.ref f.dd) := N.gnm (by decide +kernel) LA.dd.1
  have N_uu : Nm c "_deduplicate_unhashable" (.ref f.uu) := N.gnm (by decide +kernel) LA.uu.1
  have N_wd : Nm c "_law_weed" (.ref f.wd) := N.gnm (by decide +kernel) LA.wd.1
  walk_at "go"
  -- firsts
  refine t_box fun gbx hbx => ?_
  obtain ⟨o1, pm1, cd1, doc1, ho1, hdat1, _⟩ := LA.dd.2.1
  refine hbx ?_
  clear hbx gbx
  refine ⟨.fn (.inl ho1) hdat1, ?_⟩
  have hWl : (R.map Th.wr).length = R.length := List.length_map _
  have hul := uniq_len (R.map Th.wr)
  refine t_spec LF0.co (spec_ded (K := f.K) hwv (by (first | lia | omega))) (by decide) (fun k s l => ⟨LA.dd.2.keeps l.old, ew, (l.nw (wl, lst wv ew) (by walk_at "mb")).1⟩) ?_
  rintro _ _ xB1
  refine t_box fun gbx hbx => ?_
  obtain ⟨dd, od, eB0, eB1, hT⟩ := xB1
  refine hbx ?_
  clear hbx gbx
  subst eB0
  subst eB1
  walk_at "go"
  refine v_listDict LF0.co.hn N.ok.nolimit (.head _) hT (by (first | lia | omega)) fun fl flv ef hfl => ?_
  have hfll := Paired.length hfl
  walk_at "go"
  -- rows
  refine t_box fun gbx hbx => ?_
  obtain ⟨o2, pm2, cd2, doc2, ho2, hdat2, _⟩ := LA.uu.2.obj
  refine hbx ?_
  clear hbx gbx
  refine ⟨.fn (.inl ho2) hdat2, ?_⟩
  refine t_spec LF0.co (spec_dedU hR (by (first | lia | omega))) (by decide) (fun k s l => ⟨LA.uu.2.keeps l.old, e0, (l.nw (r0, lst rv e0) (by walk_at "mb")).1⟩) ?_
  rintro _ _ xB1
  refine t_box fun gbx hbx => ?_
  obtain ⟨r1, rv1, er1, eB0, eB1, hrv1, hl1⟩ := xB1
  refine hbx ?_
  clear hbx gbx
  subst eB0
  subst eB1
  walk_at "go"
  refine t_ListComp (n := flv.length) (P := fun i v => flv[i]? = some v) (fpo := [(fl, lst flv ef)]) (cl := [(Str.ofString "words", aWords), (Str.ofString "row", aRow)]) (fun i ys => ∃ ts, Things ys ts ∧ (∀ x ∈ ts, x.ok) ∧ ts.map Th.wr = (uniq (R.map Th.wr)).take i) (closureFor_free hcl (by with_unfolding_all rfl)) (by decide +kernel) (by (first | lia | omega)) ?_ (by decide) (fun _ => rfl)
  walk_at "go"
  refine ⟨itOk_list LF0.co.hn (.inr (by walk_at "mb")) rfl rfl, ⟨[], .nil, fun _ h => (nomatch h), rfl⟩, ?_, ?_⟩
  · rintro c' I' Lx i v ys m' hi hv xB1 hx
    refine t_box fun gbx hbx => ?_
    obtain ⟨ts, hts, hok, hmap⟩ := xB1
    refine hbx ?_
    clear hbx gbx
    have N' := N.inner I' (by decide +kernel)
    have C_row' : CellN c' "row" aRow := N'.cell (by decide +kernel) (by obtain ⟨C, e⟩ := I'.env; rw [e]; rfl)
    have C_words' : CellN c' "words" aWords := N'.cell (by decide +kernel) (by obtain ⟨C, e⟩ := I'.env; rw [e]; rfl)
    have hT1 : There c' [] aRow oR := I'.there (.inr (by walk_at "mb"))
    have hT2 : There c' [] aWords oW := I'.there (.inr (by walk_at "mb"))
    have hT3 : There c' [] wl (lst wv ew) := I'.there (.inr (by walk_at "mb"))
    have hT4 : There c' [] r0 (lst rv e0) := I'.there (.inr (by walk_at "mb"))
    refine t_box fun gbx hbx => ?_
    obtain ⟨w, hw1, hw2⟩ := Paired.get1 hfl hv
    refine hbx ?_
    clear hbx gbx
    cases hw2 with | mk _ tw =>
    have hwm : w ∈ R.map Th.wr := uniq_mem.mp (List.mem_of_getElem? hw1)
    refine t_box fun gbx hbx => ?_
    obtain ⟨j, hj1, hj2⟩ := first_idx hwm
    refine hbx ?_
    clear hbx gbx
    obtain ⟨x, hRj, hxw⟩ : ∃ x, R[j]? = some x ∧ x.wr = w := by
      rw [List.getElem?_map] at hj1
      refine t_box fun gbx hbx => ?_
      obtain ⟨x, h1, h2⟩ := Option.map_eq_some_iff.mp hj1
      refine hbx ?_
      clear hbx gbx
      exact ⟨x, h1, h2⟩
    refine t_box fun gbx hbx => ?_
    obtain ⟨vx, hvx, hIs⟩ := Paired.get2 hR hRj
    refine hbx ?_
    clear hbx gbx
    have hjl : j < R.length := (List.getElem?_eq_some_iff.mp hRj).1
    refine t_tests0 ?_
    walk_at "go"
    refine t_methL ⟨_, hT3⟩ PySem.F.slot_list_index PySem.F.type_list_index ?_
    walk_at "go"
    refine v_index ⟨_, hT3⟩ hwv hj1 hj2 (by rw [Paired.length hwv]; (first | lia | omega)) fun _ => ?_
    walk_at "go"
    refine t_tailList ⟨_, hT4, rfl, _, rfl⟩ (by (first | lia | omega)) (by (first | lia | omega)) (by simpa using hvx) ?_ (by with_unfolding_all rfl)
    refine ⟨ts ++ [x], Paired.snoc hts hIs, fun y hy => ?_, ?_⟩
    · rcases List.mem_append.mp hy with hy | hy
      · exact hok y hy
      · rw [List.mem_singleton.mp hy]; exact hRok.ok x (List.mem_of_getElem? hRj)
    · rw [List.map_append, hmap, List.take_add_one, hw1, ← hxw]; rfl
  rintro rv2 r2 er2 xB1
  refine t_box fun gbx hbx => ?_
  obtain ⟨R2, hrv2, hok2, hmap2⟩ := xB1
  refine hbx ?_
  clear hbx gbx
  rw [hfll, List.take_length] at hmap2
  walk_at "go"
  refine t_ListComp (n := rv.length) (P := fun i v => ∃ t, v = .int ((0 + i : Nat) : Int) t) (fpo := []) (cl := [(Str.ofString "row", aRow)]) (fun i ys => Things ys (R.reverse.take i)) (closureFor_free hcl (by with_unfolding_all rfl)) (by decide +kernel) (by (first | lia | omega)) ?_ (by decide) (fun _ => rfl)
  walk_at "go"
  refine v_lenList (.new (by walk_at "mb")) (by (first | lia | omega)) fun _ => ?_
  walk_at "go"
  refine v_range1 fun rr3 t3 u3 v3 => ?_
  walk_at "go"
  refine ⟨itOk_range1 LF0.co.hn (.inr (by rw [Nat.zero_add]; exact .head _)) (by (first | lia | omega)), .nil, ?_, ?_⟩
  · rintro c' I' Lx i v ys m' hi ⟨tk, rfl⟩ hys hx
    have N' := N.inner I' (by decide +kernel)
    have N_len' : Nm c' "len" (.builtin "len") := N'.bnm (by decide +kernel) (by decide +kernel)
    have C_row' : CellN c' "row" aRow := N'.cell (by decide +kernel) (by obtain ⟨C, e⟩ := I'.env; rw [e]; rfl)
    have hT1 : There c' [] aRow oR := I'.there (.inr (by walk_at "mb"))
    have hT4 : There c' [] r0 (lst rv e0) := I'.there (.inr (by walk_at "mb"))
    have hx1 : R.reverse[i]? = some R[R.length - 1 - i] := by
      rw [List.getElem?_reverse (by (first | lia | omega)), List.getElem?_eq_getElem (by (first | lia | omega))]
    have hx2 : R[R.length - 1 - i]? = some R[R.length - 1 - i] := List.getElem?_eq_getElem (by (first | lia | omega))
    generalize R[R.length - 1 - i] = x at hx1 hx2
    refine t_box fun gbx hbx => ?_
    obtain ⟨vx, hvx, hIs⟩ := Paired.get2 hR hx2
    refine hbx ?_
    clear hbx gbx
    refine t_tests0 ?_
    walk_at "go"
    refine v_lenList ⟨_, hT4, rfl, _, rfl⟩ (by (first | lia | omega)) fun _ => ?_
    walk_at "go"
    refine t_tailList ⟨_, hT4, rfl, _, rfl⟩ (by (first | lia | omega)) (by (first | lia | omega)) (by rw [show ((rv.length : Int) - 1 - ((0 + i : Nat) : Int)).toNat = R.length - 1 - i by (first | lia | omega)]; exact hvx) ?_ (by with_unfolding_all rfl)
    show Things _ _
    rw [List.take_add_one, hx1]
    exact Paired.snoc hys hIs
  rintro rv3 r3 er3 hrv3
  rw [List.take_of_length_le (by rw [List.length_reverse]; (first | lia | omega))] at hrv3
  walk_at "go"
  refine ⟨show 4 ≤ sizeLine by (first | lia | omega), fun rl => ?_⟩
  walk_at "go"
  -- dues
  refine t_box fun gbx hbx => ?_
  obtain ⟨o4, pm4, cd4, doc4, ho4, hdat4, _⟩ := LA.wd.2.obj
  refine hbx ?_
  clear hbx gbx
  refine ⟨.fn (.inl ho4) hdat4, ?_⟩
  have htvl := Paired.length htv
  refine t_spec LF0.co (spec_weed (al := true) htv (by (first | lia | omega))) (by decide) (fun k s l => ⟨LA.wd.2.keeps l.old, et, (l.nw (tl, lst tv et) (by walk_at "mb")).1⟩) ?_
  rintro _ _ xB1
  refine t_box fun gbx hbx => ?_
  obtain ⟨d1, dv1, ed1, eB0, eB1, hdv1, _⟩ := xB1
  refine hbx ?_
  clear hbx gbx
  subst eB0
  subst eB1
  walk_at "go"
  refine ⟨.fn (.inl ho4) hdat4, ?_⟩
  refine t_spec LF0.co (spec_weed (al := false) htv (by (first | lia | omega))) (by decide) (fun k s l => ⟨LA.wd.2.keeps l.old, et, (l.nw (tl, lst tv et) (by walk_at "mb")).1⟩) ?_
  rintro _ _ xB1
  refine t_box fun gbx hbx => ?_
  obtain ⟨d2, dv2, ed2, eB0, eB1, hdv2, _⟩ := xB1
  refine hbx ?_
  clear hbx gbx
  subst eB0
  subst eB1
  walk_at "go"
  refine t_ListComp (n := tv.length) (P := fun i v => ∃ t, v = .int ((0 + i : Nat) : Int) t) (fpo := []) (cl := [(Str.ofString "told", aTold)]) (fun i ys => Strs ys ((R.map Th.wr).reverse.take i)) (closureFor_free hcl (by with_unfolding_all rfl)) (by decide +kernel) (by (first | lia | omega)) ?_ (by decide) (fun _ => rfl)
  walk_at "go"
  refine v_lenList (.new (by walk_at "mb")) (by (first | lia | omega)) fun _ => ?_
  walk_at "go"
  refine v_range1 fun rr4 t4 u4 v4 => ?_
  walk_at "go"
  refine ⟨itOk_range1 LF0.co.hn (.inr (by rw [Nat.zero_add]; exact .head _)) (by (first | lia | omega)), .nil, ?_, ?_⟩
  · rintro c' I' Lx i v ys m' hi ⟨tk, rfl⟩ hys hx
    have N' := N.inner I' (by decide +kernel)
    have N_len' : Nm c' "len" (.builtin "len") := N'.bnm (by decide +kernel) (by decide +kernel)
    have C_told' : CellN c' "told" aTold := N'.cell (by decide +kernel) (by obtain ⟨C, e⟩ := I'.env; rw [e]; rfl)
    have hT1 : There c' [] aTold oT := I'.there (.inr (by walk_at "mb"))
    have hT4 : There c' [] tl (lst tv et) := I'.there (.inr (by walk_at "mb"))
    generalize R.map Th.wr = Wd at *
    have hx1 : Wd.reverse[i]? = some Wd[Wd.length - 1 - i] := by
      rw [List.getElem?_reverse (by (first | lia | omega)), List.getElem?_eq_getElem (by (first | lia | omega))]
    have hx2 : Wd[Wd.length - 1 - i]? = some Wd[Wd.length - 1 - i] := List.getElem?_eq_getElem (by (first | lia | omega))
    generalize Wd[Wd.length - 1 - i] = x at hx1 hx2
    refine t_box fun gbx hbx => ?_
    obtain ⟨vx, hvx, hIs⟩ := Paired.get2 htv hx2
    refine hbx ?_
    clear hbx gbx
    refine t_tests0 ?_
    walk_at "go"
    refine v_lenList ⟨_, hT4, rfl, _, rfl⟩ (by (first | lia | omega)) fun _ => ?_
    walk_at "go"
    refine t_tailList ⟨_, hT4, rfl, _, rfl⟩ (by (first | lia | omega)) (by (first | lia | omega)) (by rw [show ((tv.length : Int) - 1 - ((0 + i : Nat) : Int)).toNat = Wd.length - 1 - i by (first | lia | omega)]; exact hvx) ?_ (by with_unfolding_all rfl)
    show Strs _ _
    rw [List.take_add_one, hx1]
    exact Paired.snoc hys hIs
  rintro dv3 d3 ed3 hdv3
  rw [List.take_of_length_le (by rw [List.length_reverse]; (first | lia | omega))] at hdv3
  walk_at "go"
  refine ⟨show 4 ≤ sizeLine by (first | lia | omega), fun dl => ?_⟩
  walk_at "go"
  -- piles, signs
  refine ⟨Nat.zero_le _, fun pi => ?_⟩
  walk_at "go"
  refine ⟨Nat.zero_le _, fun sg => ?_⟩
  walk_at "go"
  refine t_stCell (i := 18) C_signs rfl dSigns fun oS dS => ?_
  refine t_after ?_
  have hRk := hRok.ok
  obtain ⟨w1, w2⟩ := ded_weed hRk
  have hD0 : DOk (R.map Th.wr) := ⟨by (first | lia | omega), fun w hw => (by obtain ⟨x, hx, rfl⟩ := List.mem_map.mp hw; exact wordX (word_ok (hRk x hx))), fun hne => List.mem_map.mpr ⟨.int (-31), hRok.has (fun e => hne (by rw [e]; rfl)), by decide⟩⟩
  refine Tr.sub (news' := (sg, lst []) :: (pi, lst []) :: ([(dl, lst [.ref tl, .ref d1, .ref d2, .ref d3]), (d3, lst dv3 ed3), (d2, lst dv2 ed2), (d1, lst dv1 ed1), (rl, lst [.ref r0, .ref r1, .ref r2, .ref r3]), (r3, lst rv3 er3), (r2, lst rv2 er2), (r1, lst rv1 er1), (tl, lst tv et), (wl, lst wv ew), (r0, lst rv e0)] ++ (aDue, oDue) :: [(aSigns, oS), (aTold, oT), (aWords, oW), (aRow, oR), (aScript, oScript)])) ?_ ?_
  · exact .cons_cons _ (.cons_cons _ (.cons_cons _ (.cons_cons _ (.cons _ (.cons_cons _ (.cons_cons _ (.cons_cons _ (.cons_cons _ (.cons _ (.cons_cons _ (.cons_cons _ (.cons _ (.cons _ (.cons_cons _ (.cons_cons _ (.cons_cons _ (.refl _)))))))))))))))))
  refine h _ _ ⟨_, _, sg, pi, rl, dl, wl, tl, _, _, wv, tv, _, _, ew, et, (fun k => match k with | 0 => R | 1 => dedTh R | 2 => R2 | _ => R.reverse), (fun k => match k with | 0 => R.map Th.wr | 1 => weed true (R.map Th.wr) | 2 => weed false (R.map Th.wr) | _ => (R.map Th.wr).reverse), oDue, oS, oW, oT, rfl, dDue, by walk_at "lk", by walk_at "lk", by walk_at "lk", by walk_at "mb", .head _, ?_, ?_, ?_, ?_, ?_, .head _, dS, by walk_at "mb", dW, by walk_at "mb", dT, by walk_at "mb", hwv, by walk_at "mb", htv⟩
  · intro k hk
    match k, hk with
    | 0, _ => exact ⟨r0, rv, e0, rfl, by walk_at "mb", hR⟩
    | 1, _ => exact ⟨r1, rv1, er1, rfl, by walk_at "mb", hrv1⟩
    | 2, _ => exact ⟨r2, rv2, er2, rfl, by walk_at "mb", hrv2⟩
    | 3, _ => exact ⟨r3, rv3, er3, rfl, by walk_at "mb", hrv3⟩
  · intro k hk
    match k, hk with
    | 0, _ => exact ⟨tl, tv, et, rfl, by walk_at "mb", htv⟩
    | 1, _ => exact ⟨d1, dv1, ed1, rfl, by walk_at "mb", hdv1⟩
    | 2, _ => exact ⟨d2, dv2, ed2, rfl, by walk_at "mb", hdv2⟩
    | 3, _ => exact ⟨d3, dv3, ed3, rfl, by walk_at "mb", hdv3⟩
  · intro k hk
    match k, hk with
    | 0, _ => rfl
    | 1, _ => exact w1
    | 2, _ => exact hmap2.trans (weed_uniq _).symm
    | 3, _ => exact List.map_reverse
  · intro k hk
    match k, hk with
    | 0, _ => exact hRk
    | 1, _ => exact fun x hx => hRk x (w2 x hx)
    | 2, _ => exact hok2
    | 3, _ => exact fun x hx => hRk x (List.mem_reverse.mp hx)
  · intro k hk
    match k, hk with
    | 0, _ => exact hD0
    | 1, _ => exact dok_weed hD0 (by rw [← w1, List.length_map, ← Paired.length hrv1]; (first | lia | omega)) (fun w hw => by rw [← w1] at hw; obtain ⟨x, hx, rfl⟩ := List.mem_map.mp hw; exact List.mem_map_of_mem (w2 x hx))
    | 2, _ => exact dok_uniq hD0
    | 3, _ => exact dok_rev hD0
end Mine
end
section
open PySem PySem.W PyProof.Rows PySem.Calls
set_option maxRecDepth 20000
set_option linter.unusedVariables false
namespace Mine
theorem Tr.ord {M : Model} {c : FC} {α : Type} {t : Sem α} {m : Loc} {n : Led'} {Q : α → Loc → Led' → Prop} {E : Led' → Value → Shared → Prop} (h : (n.map (·.1)).Pairwise (· > ·) → Tr M c t m n Q E) : Tr M c t m n Q E := fun k s l => h l.ord k s l
theorem ord_ne {x : Addr} {o : Obj} {n : Led'} {p : Addr × Obj} (h : (((x, o) :: n).map (·.1)).Pairwise (· > ·)) (hp : p ∈ n) : x ≠ p.1 := by
  rw [List.map_cons, List.pairwise_cons] at h
  exact Nat.ne_of_gt (h.1 _ (List.mem_map_of_mem hp))
theorem Ld.hid {c : FC} {k : Led'} {m : Loc} {n : Led'} {s : Shared} {p : Addr × Obj} (l : Ld c k m n s) (hp : p ∈ n) : (hide s.heap c.env.locals).get? p.1 = some p.2 := (hide_ne (l.nw p hp).2.2).trans (l.nw p hp).1
theorem Ld.noL {c : FC} {k : Led'} {m : Loc} {n : Led'} {s : Shared} (l : Ld c k m n s) : c.g.get? c.env.locals = Option.none := Heap.get?_none_of_le (Nat.le_trans l.above l.locs)
theorem strs_take {vs : List Value} {xs : List W} (h : Strs vs xs) : ∀ i, Strs (vs.take i) (xs.take i) := by
  induction h with
  | nil => intro i; rw [List.take_nil, List.take_nil]; exact .nil
  | cons hx t ih => intro i; cases i with
    | zero => exact .nil
    | succ i => exact .cons hx (ih i)
theorem t_listSliceT {prog : Program} {w : World} {c : FC} {m : Loc} {news : Led'} {E : Led' → Value → Shared → Prop} {env : Env} {Q : Value → Loc → Led' → Prop} {value : Expr} {lower upper : Option Expr} {p pos : Pos}
    (h : Tr (model prog w) c (eval value env) m news (fun o m₁ n₁ => Tr (model prog w) c (evalPart lower env) m₁ n₁ (fun vl m₂ n₂ => Tr (model prog w) c (evalPart upper env) m₂ n₂ (fun vu m₃ n₃ =>
      ∃ a vs lo hi, o = .ref a ∧ LstAt c n₃ a vs ∧ Pt vl lo ∧ Pt vu hi ∧ vs.length ≤ sizeLine ∧ ∀ b, Q (.ref b) m₃ ((b, lst (slicePick vs.toArray lo hi none).toList) :: n₃)) E) E) E)
    (hs : ∀ o i, subscripted (.Slice lower upper none p) false o i = PySem.operate [i, o] (getItem o i)) : Tr (model prog w) c (eval (.Subscript value (.Slice lower upper none p) pos) env) m news Q E := fun k' s l => by
  refine Subscript_ (wpAny_mono (h k' s l) (fun o s₁ ⟨_, _, l₁, q₁⟩ => wpAny_Slice (wpAny_mono (q₁ k' s₁ l₁) (fun vl s₂ ⟨_, _, l₂, q₂⟩ => wpAny_mono (q₂ k' s₂ l₂) (fun vu s₃ ⟨m₃, n₃, l₃, q₃⟩ => ?_) fun _ _ e => e) fun _ _ e => e)) fun _ _ e => e)
  obtain ⟨a, vs, lo, hi, rfl, hl, pl, pu, hz, q⟩ := q₃
  rw [evalPart_none]
  refine wpAny_pure ?_
  have l₄ := (l₃.push (o := { cls := .type "slice", data := .fields #[vl, vu, .none] }) rfl).sub (List.sublist_cons_self _ _)
  have hl' := hl.isList l₄
  exact tail_any hl'.typeIs slot_list_getitem.lookup (wpAny_getItem_list_slice hl' ⟨_, Heap.get?_push_size _ rfl, rfl, rfl⟩ pl.isPart pu.isPart .none (by intro e; cases e) ⟨m₃, _, l₄.push rfl, q _⟩ (by rw [List.size_toArray]; exact hz)) (hs _ _)
noncomputable def lawLoop : List Stmt := match (bodyOf 25).drop 9 with | .For _ _ b _ _ :: _ => b | _ => []


set_option compiler.extract_closed false
local macro_rules | `(tactic| walk_at "lk") => `(tactic| first | assumption | exact upd_hit | (refine upd_miss (by decide) ?_; walk_at "lk") | (with_unfolding_all rfl))
local macro_rules | `(tactic| walk_at "nm") => `(tactic| with_reducible assumption)
local macro_rules | `(tactic| walk_at "st") => `(tactic| with_reducible first
  | (refine' t_ld ?k1 ?k2 ?_; (case k1 => walk_at "nm"); (case k2 => walk_at "lk"))
  | (refine' t_nm ?k1 ?_; (case k1 => walk_at "nm"))
  | (refine' t_ldCell ?k1 ?k2 ?k3 ?_; (case k1 => walk_at "nm"); (case k2 => with_unfolding_all (first | assumption | exact .inr (by walk_at "mb"))); (case k3 => with_unfolding_all (first | assumption | rfl)))
  | refine t_IntC fun _ => ?_
  | refine t_StrS fun _ => ?_
  | refine t_BoolC ?_
  | refine t_NoneC ?_
  | refine t_cons ?_
  | refine t_after ?_
  | refine t_afterR ?_
  | refine t_afterB ?_
  | refine t_If ?_
  | (refine t_isCompare ?_ ?k1; (case k1 => with_unfolding_all rfl))
  | refine t_isAnd2 ?_
  | refine t_isOr2 ?_
  | refine t_isNot ?_
  | (refine t_isPlain ?_ ?k1; (case k1 => with_unfolding_all rfl))
  | refine t_truthy_bool ?_
  | (refine t_ifTrue ?k1 ?_; (case k1 => with_unfolding_all rfl))
  | (refine t_ifFalse ?k1 ?_; (case k1 => with_unfolding_all rfl))
  | (refine t_Assign ?_ ?k1; (case k1 => with_unfolding_all rfl))
  | (refine t_st ?k1 ?_; (case k1 => walk_at "nm"))
  | refine t_AugAssign ?_
  | (refine' t_ldn ?k1 ?k2 ?_; (case k1 => walk_at "nm"); (case k2 => walk_at "lk"))
  | refine t_BinOp ?_
  | (refine t_Compare ?_ ?k1; (case k1 => with_unfolding_all rfl))
  | (refine t_CallE ?_ ?k1; (case k1 => with_unfolding_all rfl))
  | (refine t_callWith0 ?k1 ?_; (case k1 => with_unfolding_all rfl))
  | (refine t_callWith1 ?k1 ?_; (case k1 => with_unfolding_all rfl))
  | (refine t_argS ?_ ?k1; (case k1 => with_unfolding_all rfl))
  | refine t_arg0 ?_
  | refine And.intro (KeepOk.builtin _) ?_
  | refine And.intro (KeepOk.type _) ?_
  | refine Exists.intro _ (And.intro rfl ?_)
  | refine t_Return ?_
  | refine t_IfExp ?_
  | refine t_UnaryOp ?_
  | (refine t_ExprStmt ?_ ?k1 ?k2; (case k1 => walk_at "nm"); (case k2 => with_unfolding_all rfl))
  | refine And.intro rfl ?_
  | refine t_Break ?_
  | refine t_nil ?_
  | refine v_eqInt ?_
  | refine v_neInt ?_
  | refine v_ltInt ?_
  | refine v_gtInt ?_
  | refine v_geInt ?_
  | refine v_eqStr ?_
  | refine v_neStr ?_
  | refine v_ltStr ?_
  | refine v_gtStr ?_
  | refine v_addInt fun _ => ?_
  | refine v_iaddInt fun _ => ?_
  | refine v_subInt fun _ => ?_
  | refine v_negInt fun _ => ?_
  | refine v_isNone ?_
  | (refine v_modPos ?k1 fun _ => ?_; (case k1 => decide))
  | (refine v_divSmall ?k1 fun _ => ?_; (case k1 => decide))
  | refine t_Tuple ?_
  | refine t_List ?_
  | ((fail_if_success (refine t_strSlice ?_ ?_)); (fail_if_success (refine t_listSliceS ?_ ?_)); refine t_Subscript ?_)
  | refine t_part0 ?_
  | refine t_part ?_
  | (refine v_is ?k1 ?_; (case k1 => with_unfolding_all rfl))
  | (refine v_isNot ?k1 ?_; (case k1 => with_unfolding_all rfl))
  | refine v_abs fun _ => ?_
  | refine v_isiIntInt ?_
  | refine v_isiStrInt ?_
  | (refine t_Method ?_ (by with_unfolding_all rfl))
  | (refine t_tests1 ?_)
  | (refine t_tests0 ?_)
  | refine t_Pass ?_
  | refine t_Dict0 fun _ _ _ => ?_
  | refine t_Try0 ?_
  | refine t_Assert ?_
  | refine t_JoinedStr ?_
  | refine t_jpE ?_
  | refine t_jpE0 ?_
  | refine t_jpCons ?_
  | refine t_FmtStr ?_
  | (refine t_AssignSub ?_ ?k1; (case k1 => with_unfolding_all rfl))
  | (refine' t_use ?k1 ?_; (case k1 => assumption))
  | fail)
local macro_rules | `(tactic| walk_at "go") => `(tactic| repeat' (walk_at "st"))
local macro_rules | `(tactic| walk_at "gT") => `(tactic| repeat' ((fail_if_success (with_reducible refine t_Try0 ?_)); walk_at "st"))
local macro_rules | `(tactic| walk_at "g0") => `(tactic| repeat' ((fail_if_success (with_reducible refine t_If ?_)); walk_at "st"))
local macro_rules | `(tactic| walk_at "lka") => `(tactic| ((repeat' (with_reducible refine And.intro ?_ ?_)) <;> first | walk_at "lk" | exact ⟨_, by walk_at "lk"⟩))
local macro_rules | `(tactic| walk_at "mm") => `(tactic| first | exact .head _ | exact .tail _ (.head _) | exact .tail _ (.tail _ (.head _)) | exact .tail _ (.tail _ (.tail _ (.head _))) | exact .tail _ (.tail _ (.tail _ (.tail _ (.head _)))))
local macro_rules | `(tactic| walk_at "mb") => `(tactic| first | exact .head _ | assumption | exact List.mem_append_left _ (by assumption) | (refine .tail _ ?_; walk_at "mb") | (refine List.mem_append_right _ ?_; walk_at "mb"))

theorem law_turnB {prog : Program} {w : World} {G : Gl} {P : Addr} {f : LawFns} {c : FC} {aDue aSigns aTold aWords aRow aScript : Addr} (LF0 : LF G c P (scopeOf 25)) (LA : LawAt G c.g P f) (hcl : c.env.cells = cellsAt aDue aSigns aTold aWords aRow aScript)
    {k : Nat} {tk : Tok} {m : Loc} {n : Led'} {sg pi s0 sk p0 pk du : Addr} {svs pvs sv0 skv pv0 pkv duv : List Value} {e1 e2 e3 e4 e5 e6 e7 : Nat} {oD oS : Obj} {S0 Du P0 Pk : List W}
    (hk : k < 4) (mk : m "k" = some (.int (k : Int) tk)) (mp : m "piles" = some (.ref pi)) (h1 : (sg, lst svs e1) ∈ n) (h2 : (pi, lst pvs e2) ∈ n) (h3 : svs[k]? = some (.ref sk)) (h4 : (sk, lst skv e3) ∈ n) (h5 : Strs skv Du)
    (h6 : svs[0]? = some (.ref s0)) (h7 : (s0, lst sv0 e4) ∈ n) (h8 : Strs sv0 S0) (h9 : pvs[0]? = some (.ref p0)) (h10 : (p0, lst pv0 e5) ∈ n) (h11 : Strs pv0 P0) (h12 : pvs[k]? = some (.ref pk)) (h13 : (pk, lst pkv e6) ∈ n) (h14 : Strs pkv Pk)
    (h15 : (aDue, oD) ∈ n) (h16 : oD.data = .cell (some (.ref du))) (h17 : (du, lst duv e7) ∈ n) (h18 : Strs duv Du) (h19 : (aSigns, oS) ∈ n) (h20 : oS.data = .cell (some (.ref sg)))
    (a0 : Asc S0) (aD : Asc Du) (q0 : S0.Perm P0) (qk : Du.Perm Pk) (z0 : S0.length ≤ 100) (zD : Du.length ≤ 100) :
    Tr (model prog w) c (execs (lawLoop.drop 6) c.env) m n (fun fl m' n' => fl = .next ∧ m' = m ∧ ∃ out, n' = out ++ n) nope := by
  have N := LF0.nf
  have X_int := N.inter
  have C_signs : CellN c "signs" aSigns := N.cell (by decide +kernel) (by rw [hcl]; rfl)
  have C_due : CellN c "due" aDue := N.cell (by decide +kernel) (by rw [hcl]; rfl)
  have L_k : LocN c "k" := N.loc (by decide +kernel)
  have L_piles : LocN c "piles" := N.loc (by decide +kernel)
  have N_sl : Nm c "sorted_list_difference" (.ref f.sl) := N.gnm (by decide +kernel) LA.sl.1
  have N_ca : Nm c "_compare_args_orderless" (.ref f.ca) := N.gnm (by decide +kernel) LA.ca.1
  have hsz : 1000000 ≤ sizeLine := by decide +kernel
  have hun : c.A.units + 100 < cLine := by have := LF0.co.un; (first | lia | omega)
  have t0 : ∀ {n'}, (∀ p ∈ n, p ∈ n') → There c n' aDue oD := fun h => .inr (h _ h15)
  have hl0 := Paired.length h8
  have hlD := Paired.length h18
  have hlk := Paired.length h5
  have hlp0 := Paired.length h11
  have hlpk := Paired.length h14
  have zp0 : P0.length ≤ 100 := by rw [← q0.length_eq]; exact z0
  have zpk : Pk.length ≤ 100 := by rw [← qk.length_eq]; exact zD
  refine t_cons (t_mid (fun m' n' => m = m' ∧ n = n') ?_ ?_)
  · walk_at "go"
    refine t_tailList (.new (by walk_at "mb")) (by (first | lia | omega)) (by (first | lia | omega)) (by simpa using h3) ?_ (by with_unfolding_all rfl)
    walk_at "go"
    refine v_neStrs (.new (by walk_at "mb")) (.new (by walk_at "mb")) h5 h18 (by (first | lia | omega)) ?_
    refine ⟨_, rfl, ?_⟩
    rw [decide_eq_true rfl]
    walk_at "go"
    rfl
  rintro _ _ ⟨rfl, rfl⟩
  refine t_cons (t_mid (fun m' n' => m = m' ∧ ∃ out, n' = out ++ n) ?_ ?_)
  · walk_at "go"
    refine t_ite (fun _ => ?_) (fun _ => ?_)
    · walk_at "go"
      refine t_tailList (.new (by walk_at "mb")) (by (first | lia | omega)) (by (first | lia | omega)) (by simpa using h6) ?_ (by with_unfolding_all rfl)
      walk_at "go"
      refine t_box fun gbx hbx => ?_
      obtain ⟨o1, pm1, cd1, doc1, ho1, hdat1, _⟩ := LA.sl.2.obj
      refine hbx ?_
      clear hbx gbx
      refine ⟨.fn (.inl ho1) hdat1, ?_⟩
      refine t_specX LF0.co LF0.ax (spec_sld h8 h18 a0 aD (by (first | lia | omega)) (by (first | lia | omega))) (by decide) (fun k s l => ⟨LA.sl.2.keeps fun b o e => sub_hide l.noL l.old e, ⟨_, l.hid (p := (s0, lst sv0 e4)) (by walk_at "mb")⟩, ⟨_, l.hid (p := (du, lst duv e7)) (by walk_at "mb")⟩⟩) ?_
      rintro _ _ xB1
      refine t_box fun gbx hbx => ?_
      obtain ⟨d, am, au, mv, uv, q1, q2, q3, eB0, eB1, hmv, huv⟩ := xB1
      refine hbx ?_
      clear hbx gbx
      subst eB0
      subst eB1
      walk_at "go"
      refine t_ListComp (n := sv0.length) (P := fun i v => sv0[i]? = some v) (fpo := [(s0, lst sv0 e4)]) (cl := [(Str.ofString "due", aDue)]) (fun i ys => Strs ys ((S0.take i).filter fun x => !decide (x ∈ Du))) (closureFor_free hcl (by with_unfolding_all rfl)) (by decide +kernel) (by (first | lia | omega)) ?_ (by decide) (fun _ => rfl)
      walk_at "go"
      refine t_tailList (.new (by walk_at "mb")) (by (first | lia | omega)) (by (first | lia | omega)) (by simpa using h6) ?_ (by with_unfolding_all rfl)
      refine ⟨itOk_list LF0.co.hn (.inr (by walk_at "mb")) rfl rfl, .nil, ?_, ?_⟩
      · rintro c' I' Lx i v ys m' hi hv hys hx
        have N' := N.inner I' (by decide +kernel)
        have C_due' : CellN c' "due" aDue := N'.cell (by decide +kernel) (by obtain ⟨C, e⟩ := I'.env; rw [e]; rfl)
        have hT1 : There c' [] aDue oD := I'.there (.inr (by walk_at "mb"))
        have hT2 : There c' [] du (lst duv e7) := I'.there (.inr (by walk_at "mb"))
        refine t_box fun gbx hbx => ?_
        obtain ⟨x, hx1, hx2⟩ := Paired.get1 h8 hv
        refine hbx ?_
        clear hbx gbx
        cases hx2 with | mk _ tx =>
        refine t_tests1 ?_
        walk_at "go"
        refine v_notInStrs ⟨_, hT2, rfl, _, rfl⟩ h18 ?_
        refine ⟨_, rfl, ?_⟩
        have hstep : (S0.take (i + 1)).filter (fun x => !decide (x ∈ Du)) = (S0.take i).filter (fun x => !decide (x ∈ Du)) ++ (if (!decide (x ∈ Du)) = true then [x] else []) := by
          rw [List.take_add_one, hx1, List.filter_append]
          congr 1
          by_cases hxm : x ∈ Du <;> simp [hxm]
        refine t_ite (fun hb => ?_) (fun hb => ?_)
        · walk_at "go"
          show Strs _ _
          rw [hstep, if_pos hb]
          exact Paired.snoc hys (.mk _ _)
        · show Strs _ _
          rw [hstep, if_neg (by rw [hb]; exact Bool.false_ne_true), List.append_nil]
          exact hys
      rintro c1 a1 w1 hc1
      rw [hl0, List.take_length] at hc1
      walk_at "go"
      refine t_ListComp (n := duv.length) (P := fun i v => duv[i]? = some v) (fpo := [(du, lst duv e7)]) (cl := [(Str.ofString "signs", aSigns)]) (fun i ys => Strs ys ((Du.take i).filter fun x => !decide (x ∈ S0))) (closureFor_free hcl (by with_unfolding_all rfl)) (by decide +kernel) (by (first | lia | omega)) ?_ (by decide) (fun _ => rfl)
      walk_at "go"
      refine ⟨itOk_list LF0.co.hn (.inr (by walk_at "mb")) rfl rfl, .nil, ?_, ?_⟩
      · rintro c' I' Lx i v ys m' hi hv hys hx
        have N' := N.inner I' (by decide +kernel)
        have C_signs' : CellN c' "signs" aSigns := N'.cell (by decide +kernel) (by obtain ⟨C, e⟩ := I'.env; rw [e]; rfl)
        have hT1 : There c' [] aSigns oS := I'.there (.inr (by walk_at "mb"))
        have hT2 : There c' [] s0 (lst sv0 e4) := I'.there (.inr (by walk_at "mb"))
        have hT3 : There c' [] sg (lst svs e1) := I'.there (.inr (by walk_at "mb"))
        refine t_box fun gbx hbx => ?_
        obtain ⟨x, hx1, hx2⟩ := Paired.get1 h18 hv
        refine hbx ?_
        clear hbx gbx
        cases hx2 with | mk _ tx =>
        refine t_tests1 ?_
        walk_at "go"
        refine t_tailList ⟨_, hT3, rfl, _, rfl⟩ (by (first | lia | omega)) (by (first | lia | omega)) (by simpa using h6) ?_ (by with_unfolding_all rfl)
        walk_at "go"
        refine v_notInStrs ⟨_, hT2, rfl, _, rfl⟩ h8 ?_
        refine ⟨_, rfl, ?_⟩
        have hstep : (Du.take (i + 1)).filter (fun x => !decide (x ∈ S0)) = (Du.take i).filter (fun x => !decide (x ∈ S0)) ++ (if (!decide (x ∈ S0)) = true then [x] else []) := by
          rw [List.take_add_one, hx1, List.filter_append]
          congr 1
          by_cases hxm : x ∈ S0 <;> simp [hxm]
        refine t_ite (fun hb => ?_) (fun hb => ?_)
        · walk_at "go"
          show Strs _ _
          rw [hstep, if_pos hb]
          exact Paired.snoc hys (.mk _ _)
        · show Strs _ _
          rw [hstep, if_neg (by rw [hb]; exact Bool.false_ne_true), List.append_nil]
          exact hys
      rintro c2 a2 w2 hc2
      rw [hlD, List.take_length] at hc2
      walk_at "go"
      refine ⟨show 2 ≤ sizeLine by (first | lia | omega), fun tb => ?_⟩
      walk_at "go"
      refine Tr.ord fun hord => ?_
      simp only [List.map_cons, List.cons_append, List.nil_append, List.pairwise_cons] at hord
      refine t_box fun gbx hbx => ?_
      obtain ⟨_, g2, g1, _⟩ := hord
      refine hbx ?_
      clear hbx gbx
      refine v_neTup (n := q3) (n' := 0) (.inr (by walk_at "mb")) (.inr (.head _)) (.new (n := q1) (a := am) (vs := mv) (by walk_at "mb")) (.new (n := q2) (a := au) (vs := uv) (by walk_at "mb")) (.new (n := w1) (a := a1) (vs := c1) (by walk_at "mb")) (.new (n := w2) (a := a2) (vs := c2) (by walk_at "mb")) hmv huv hc1 hc2
        (Nat.ne_of_lt (g1 am (.tail _ (.tail _ (.head _))))) (Nat.ne_of_lt (g2 au (.tail _ (.tail _ (.head _))))) (by (first | lia | omega)) ?_
      refine ⟨_, rfl, ?_⟩
      have e1 : diffL S0 Du = S0.filter fun x => !decide (x ∈ Du) := rfl
      have e2 : diffL Du S0 = Du.filter fun x => !decide (x ∈ S0) := rfl
      rw [e1, e2, decide_eq_true rfl, decide_eq_true rfl]
      walk_at "go"
      exact ⟨(tb, _) :: (a2, _) :: (a1, _) :: [(d, _), (au, _), (am, _)], rfl⟩
    · walk_at "go"
      exact ⟨[], rfl⟩
  rintro _ _ xB1
  refine t_box fun gbx hbx => ?_
  obtain ⟨eB0, out, eB1⟩ := xB1
  refine hbx ?_
  clear hbx gbx
  subst eB0
  subst eB1
  refine Tr.sub (List.sublist_append_right out n) ?_
  walk_at "go"
  refine t_tailList (.new (by walk_at "mb")) (by (first | lia | omega)) (by (first | lia | omega)) (by simpa using h9) ?_ (by with_unfolding_all rfl)
  walk_at "go"
  refine t_tailList (.new (by walk_at "mb")) (by (first | lia | omega)) (by (first | lia | omega)) (by simpa using h12) ?_ (by with_unfolding_all rfl)
  walk_at "go"
  refine t_listSliceT ?_ (by intro _ _; with_unfolding_all rfl)
  walk_at "go"
  refine t_tailList (.new (by walk_at "mb")) (by (first | lia | omega)) (by (first | lia | omega)) (by simpa using h12) ?_ (by with_unfolding_all rfl)
  walk_at "go"
  refine ⟨pk, pkv, _, _, rfl, .new (by walk_at "mb"), .none, .int _ _, by (first | lia | omega), fun b1 => ?_⟩
  rw [show (1 : Int) = ((1 : Nat) : Int) from rfl, slicePick_upto']
  walk_at "go"
  refine v_addList (vs := pkv) (ws := pkv.take 1) (.new (by walk_at "mb")) (.new (by walk_at "mb")) (by rw [List.length_take]; (first | lia | omega)) fun b2 => ?_
  walk_at "go"
  refine t_box fun gbx hbx => ?_
  obtain ⟨o1, pm1, cd1, doc1, ho1, hdat1, _⟩ := LA.ca.2.obj
  refine hbx ?_
  clear hbx gbx
  refine ⟨.fn (.inl ho1) hdat1, ?_⟩
  refine t_specX LF0.co LF0.ax (spec_cao (du := f.uu) h11 (Paired.app h14 (strs_take h14 1)) (by (first | lia | omega)) (by rw [List.length_append, List.length_take]; (first | lia | omega))) (by decide) (fun k s l => ⟨LA.ca.2.keeps fun b o e => sub_hide l.noL l.old e, LA.uu.1, LA.uu.2.keeps fun b o e => sub_hide l.noL l.old e, ⟨_, l.hid (p := (p0, lst pv0 e5)) (by walk_at "mb")⟩, ⟨_, l.hid (p := (b2, lst (pkv ++ pkv.take 1))) (by walk_at "mb")⟩⟩) ?_
  rintro _ _ ⟨rfl, rfl⟩
  walk_at "go"
  refine t_tailList (.new (by walk_at "mb")) (by (first | lia | omega)) (by (first | lia | omega)) (by simpa using h6) ?_ (by with_unfolding_all rfl)
  walk_at "go"
  refine v_eqStrs (.new (by walk_at "mb")) (.new (by walk_at "mb")) h8 h18 (by (first | lia | omega)) ?_
  rw [same_is q0 qk a0 aD]
  walk_at "go"
  refine t_ifFalse (by rw [beq_self_eq_true]; rfl) ?_
  walk_at "go"
  exact ⟨[_, _], rfl⟩
end Mine
end
section
open PySem PySem.W PyProof.Rows PySem.Calls
set_option maxRecDepth 20000
set_option linter.unusedVariables false
namespace Mine
section
variable {prog : Program} {w : World} {c : FC} {m : Loc} {E : Led' → Value → Shared → Prop}
theorem get_mid {α : Type} (X : List α) (y : α) (Y : List α) : (X ++ y :: Y)[X.length]? = some y := by simp
theorem set_mid {α : Type} (X : List α) (y z : α) (Y : List α) : (X ++ y :: Y).set X.length z = X ++ z :: Y := by simp
theorem v_appendX {X Y : Led'} {a : Addr} {vs : List Value} {n : Nat} {v : Value} {Q : Value → Loc → Led' → Prop} (hz : vs.length ≤ sizeLine) (h : ∀ n', Q .none m (X ++ (a, lst (vs ++ [v]) n') :: Y)) :
    Tr (model prog w) c (call (.builtin "list.append") [.ref a, v]) m (X ++ (a, lst vs n) :: Y) Q E :=
  v_append (i := X.length) (get_mid _ _ _) hz fun n' => by rw [set_mid]; exact h n'
theorem v_appendE {X Y n : Led'} {a : Addr} {vs : List Value} {e : Nat} {v : Value} {Q : Value → Loc → Led' → Prop} (hn : n = X ++ (a, lst vs e) :: Y) (hz : vs.length ≤ sizeLine) (h : ∀ e' n', n' = X ++ (a, lst (vs ++ [v]) e') :: Y → Q .none m n') :
    Tr (model prog w) c (call (.builtin "list.append") [.ref a, v]) m n Q E := by
  subst hn
  exact v_appendX hz fun e' => h e' _ rfl
theorem t_stCellE {X Y n : Led'} {x : Str} {a : Addr} {o : Obj} {v₀ : Option Value} {v : Value} {Q : Unit → Loc → Led' → Prop} (C : CellN c x a) (hn : n = X ++ (a, o) :: Y) (hd : o.data = .cell v₀) (h : ∀ o' n', o'.data = .cell (some v) → n' = X ++ (a, o') :: Y → Q () m n') :
    Tr (model prog w) c (storeName c.env x v) m n Q E := by
  subst hn
  exact t_stCell (i := X.length) C (get_mid _ _ _) hd fun o' ho' => by rw [set_mid]; exact h o' _ ho' rfl
theorem t_stCellX {X Y : Led'} {x : Str} {a : Addr} {o : Obj} {v₀ : Option Value} {v : Value} {Q : Unit → Loc → Led' → Prop} (C : CellN c x a) (hd : o.data = .cell v₀) (h : ∀ o', o'.data = .cell (some v) → Q () m (X ++ (a, o') :: Y)) :
    Tr (model prog w) c (storeName c.env x v) m (X ++ (a, o) :: Y) Q E :=
  t_stCell (i := X.length) C (get_mid _ _ _) hd fun o' ho' => by rw [set_mid]; exact h o' ho'
end
theorem law_translate {prog : Program} {w : World} {G : Gl} {P : Addr} {f : LawFns} {c : FC} {sc : Scope} {m : Loc} {n : Led'} {E : Led' → Value → Shared → Prop} {D : List W} {t : Tok} {Q : Value → Loc → Led' → Prop} (LF0 : LF G c P sc) (LA : LawAt G c.g P f) (hD : DOk D)
    (h : ∀ t', Q (.str (S (frameOf D)) t') m n) : Tr (model prog w) c (call (.ref f.tl) [.str (S (listW D)) t]) m n Q E := by
  have hk : ∀ {k s}, Ld c k m n s → ∀ b o, c.g.get? b = some o → (hide s.heap P).get? b = some o := fun l b o e => sub_hide LF0.tf.hid l.old e
  by_cases h0 : D = []
  · subst h0
    refine t_specT LF0.co LF0.tf (spec_trans (tr := f.tr) (jn := f.jn) (ps := [L "\\[", L "\\]"]) (pat := L "[]") (by decide) (by decide) (Nat.le_refl 2) (fun h h' hk hp => ?_) (fun st t t2 => spec_trE (es := f.es) (D := f.D))) (by decide) (fun k s l => ?_) ?_
    · obtain ⟨h1, h2, h3, h4, o, h5, h6⟩ := hp
      exact ⟨h1.keeps hk, h2, h3.keeps hk, h4, o, hk _ _ h5, h6⟩
    · have LA' := LA.keeps (hk l)
      exact ⟨LA'.tl.2, LA'.tr.1, LA'.tr.2, LA'.jn.1, LA'.jn.2, LA'.tr.2, LA'.es.1, LA'.es.2, LA'.dc.1, LA'.dc.2⟩
    · rintro _ _ ⟨rfl, t', rfl⟩
      rw [show L "(?s:" ++ joinL [] [L "\\[", L "\\]"] ++ L ")\\Z" = frameOf [] by decide]
      exact h t'
  · have hset := hD.set h0
    have hl := hset.len
    have hel := esc_len (body := joinL sepW D)
    rw [list_eq D h0]
    refine t_specT LF0.co LF0.tf (spec_trans (tr := f.tr) (jn := f.jn) (ps := [91 :: (esc (joinL sepW D) ++ [93])]) (pat := 91 :: (joinL sepW D ++ [93])) (by simp) (fun p hp => ?_) (show 1 ≤ 2 by decide) (fun h h' hk hp => ?_) (fun st t t2 => spec_trS (pt := f.pt) (cc := f.cc) hset)) (by decide) (fun k s l => ?_) ?_
    · rw [List.mem_singleton.mp hp]; simp; (first | lia | omega)
    · obtain ⟨h1, h2, h3, h4, ⟨o, pm, doc, h5, h6⟩, h7⟩ := hp
      exact ⟨h1.keeps hk, h2, PatAt.keeps h3 hk, BM.keeps h4 hk, ⟨o, pm, doc, hk _ _ h5, h6⟩, CodeOk.keeps h7 hk⟩
    · have LA' := LA.keeps (hk l)
      exact ⟨LA'.tl.2, LA'.tr.1, LA'.tr.2, LA'.jn.1, LA'.jn.2, LA'.tr.2, LA'.pt.1, LA'.pt.2, LA'.bm, LA'.code.1, LA'.code.2⟩
    · rintro _ _ ⟨rfl, t', rfl⟩
      have := frame_parts hD
      unfold partsOf at this
      rw [if_neg h0] at this
      rw [this]
      exact h t'
theorem law_pile {prog : Program} {w : World} {G : Gl} {P : Addr} {f : LawFns} {c : FC} {sc : Scope} {m : Loc} {n : Led'} {E : Led' → Value → Shared → Prop} {D : List W} {t : Tok} {Q : Value → Loc → Led' → Prop} (LF0 : LF G c P sc) (LA : LawAt G c.g P f) (hD : DOk D)
    (h : ∀ d tv e, Strs tv (pileOf D) → Q (.ref d) m ((d, lst tv e) :: n)) : Tr (model prog w) c (call (.ref f.pl) [.str (S (frameOf D)) t]) m n Q E := by
  by_cases h0 : D = []
  · subst h0
    rw [show frameOf [] = L "(?s:\\[\\])\\Z" by decide]
    refine t_spec LF0.co spec_pile0 (by decide) (fun k s l => LA.pl.2.keeps l.old) ?_
    rintro _ _ ⟨d, tv, e, rfl, rfl, hs⟩
    exact h d tv e hs
  · have hset := hD.set h0
    have hl := hset.len
    have hel := esc_len (body := joinL sepW D)
    rw [frame_text hD h0]
    obtain ⟨z1, z2⟩ := pile_len hD
    refine t_spec LF0.co (spec_pile (pile_esc hD h0) (by (first | lia | omega)) (by (first | lia | omega)) z2) (by decide) (fun k s l => LA.pl.2.keeps l.old) ?_
    rintro _ _ ⟨d, tv, e, rfl, rfl, hs⟩
    refine h d tv e ?_
    unfold pileOf
    rw [if_neg h0]; exact hs
theorem pile_short {D : List W} (hD : DOk D) : (pileOf D).length ≤ 1000 := by
  unfold pileOf
  split
  · decide
  · unfold single
    rw [List.length_map]; exact (pile_len hD).1
structure LoopJ (aDue sg pi rl dl : Addr) (B C : Led') (Ds : Nat → List W) (k : Nat) (m : Loc) (n : Led') : Prop where
  rows : m "rows" = some (.ref rl)
  dues : m "dues" = some (.ref dl)
  piles : m "piles" = some (.ref pi)
  rest : ∃ F svs pvs e1 e2 oD x, n = F ++ (sg, lst svs e1) :: (pi, lst pvs e2) :: (B ++ (aDue, oD) :: C) ∧ oD.data = .cell x ∧ svs.length = k ∧ pvs.length = k ∧
    ((k = 0 ∧ F = []) ∨ (0 < k ∧ ∃ s0 p0 sv0 pv0 e3 e4 S0, F = [(s0, lst sv0 e3), (p0, lst pv0 e4)] ∧ svs[0]? = some (.ref s0) ∧ pvs[0]? = some (.ref p0) ∧ Strs sv0 S0 ∧ Strs pv0 (uniq (pileOf (Ds 0))) ∧ S0.Perm (uniq (pileOf (Ds 0))) ∧ Asc S0))


set_option compiler.extract_closed false
local macro_rules | `(tactic| walk_at "lk") => `(tactic| first | assumption | exact upd_hit | (refine upd_miss (by decide) ?_; walk_at "lk") | (with_unfolding_all rfl))
local macro_rules | `(tactic| walk_at "nm") => `(tactic| with_reducible assumption)
local macro_rules | `(tactic| walk_at "st") => `(tactic| with_reducible first
  | (refine' t_ld ?k1 ?k2 ?_; (case k1 => walk_at "nm"); (case k2 => walk_at "lk"))
  | (refine' t_nm ?k1 ?_; (case k1 => walk_at "nm"))
  | (refine' t_ldCell ?k1 ?k2 ?k3 ?_; (case k1 => walk_at "nm"); (case k2 => with_unfolding_all (first | assumption | exact .inr (by walk_at "mb"))); (case k3 => with_unfolding_all (first | assumption | rfl)))
  | refine t_IntC fun _ => ?_
  | refine t_StrS fun _ => ?_
  | refine t_BoolC ?_
  | refine t_NoneC ?_
  | refine t_cons ?_
  | refine t_after ?_
  | refine t_afterR ?_
  | refine t_afterB ?_
  | refine t_If ?_
  | (refine t_isCompare ?_ ?k1; (case k1 => with_unfolding_all rfl))
  | refine t_isAnd2 ?_
  | refine t_isOr2 ?_
  | refine t_isNot ?_
  | (refine t_isPlain ?_ ?k1; (case k1 => with_unfolding_all rfl))
  | refine t_truthy_bool ?_
  | (refine t_ifTrue ?k1 ?_; (case k1 => with_unfolding_all rfl))
  | (refine t_ifFalse ?k1 ?_; (case k1 => with_unfolding_all rfl))
  | (refine t_Assign ?_ ?k1; (case k1 => with_unfolding_all rfl))
  | (refine t_st ?k1 ?_; (case k1 => walk_at "nm"))
  | refine t_AugAssign ?_
  | (refine' t_ldn ?k1 ?k2 ?_; (case k1 => walk_at "nm"); (case k2 => walk_at "lk"))
  | refine t_BinOp ?_
  | (refine t_Compare ?_ ?k1; (case k1 => with_unfolding_all rfl))
  | (refine t_CallE ?_ ?k1; (case k1 => with_unfolding_all rfl))
  | (refine t_callWith0 ?k1 ?_; (case k1 => with_unfolding_all rfl))
  | (refine t_callWith1 ?k1 ?_; (case k1 => with_unfolding_all rfl))
  | (refine t_argS ?_ ?k1; (case k1 => with_unfolding_all rfl))
  | refine t_arg0 ?_
  | refine And.intro (KeepOk.builtin _) ?_
  | refine And.intro (KeepOk.type _) ?_
  | refine Exists.intro _ (And.intro rfl ?_)
  | refine t_Return ?_
  | refine t_IfExp ?_
  | refine t_UnaryOp ?_
  | (refine t_ExprStmt ?_ ?k1 ?k2; (case k1 => walk_at "nm"); (case k2 => with_unfolding_all rfl))
  | refine And.intro rfl ?_
  | refine t_Break ?_
  | refine t_nil ?_
  | refine v_eqInt ?_
  | refine v_neInt ?_
  | refine v_ltInt ?_
  | refine v_gtInt ?_
  | refine v_geInt ?_
  | refine v_eqStr ?_
  | refine v_neStr ?_
  | refine v_ltStr ?_
  | refine v_gtStr ?_
  | refine v_addInt fun _ => ?_
  | refine v_iaddInt fun _ => ?_
  | refine v_subInt fun _ => ?_
  | refine v_negInt fun _ => ?_
  | refine v_isNone ?_
  | (refine v_modPos ?k1 fun _ => ?_; (case k1 => decide))
  | (refine v_divSmall ?k1 fun _ => ?_; (case k1 => decide))
  | refine t_Tuple ?_
  | refine t_List ?_
  | ((fail_if_success (refine t_strSlice ?_ ?_)); (fail_if_success (refine t_listSliceS ?_ ?_)); refine t_Subscript ?_)
  | refine t_part0 ?_
  | refine t_part ?_
  | (refine v_is ?k1 ?_; (case k1 => with_unfolding_all rfl))
  | (refine v_isNot ?k1 ?_; (case k1 => with_unfolding_all rfl))
  | refine v_abs fun _ => ?_
  | refine v_isiIntInt ?_
  | refine v_isiStrInt ?_
  | (refine t_Method ?_ (by with_unfolding_all rfl))
  | (refine t_tests1 ?_)
  | (refine t_tests0 ?_)
  | refine t_Pass ?_
  | refine t_Dict0 fun _ _ _ => ?_
  | refine t_Try0 ?_
  | refine t_Assert ?_
  | refine t_JoinedStr ?_
  | refine t_jpE ?_
  | refine t_jpE0 ?_
  | refine t_jpCons ?_
  | refine t_FmtStr ?_
  | (refine t_AssignSub ?_ ?k1; (case k1 => with_unfolding_all rfl))
  | (refine' t_use ?k1 ?_; (case k1 => assumption))
  | fail)
local macro_rules | `(tactic| walk_at "go") => `(tactic| repeat' (walk_at "st"))
local macro_rules | `(tactic| walk_at "gT") => `(tactic| repeat' ((fail_if_success (with_reducible refine t_Try0 ?_)); walk_at "st"))
local macro_rules | `(tactic| walk_at "g0") => `(tactic| repeat' ((fail_if_success (with_reducible refine t_If ?_)); walk_at "st"))
local macro_rules | `(tactic| walk_at "lka") => `(tactic| ((repeat' (with_reducible refine And.intro ?_ ?_)) <;> first | walk_at "lk" | exact ⟨_, by walk_at "lk"⟩))
local macro_rules | `(tactic| walk_at "mm") => `(tactic| first | exact .head _ | exact .tail _ (.head _) | exact .tail _ (.tail _ (.head _)) | exact .tail _ (.tail _ (.tail _ (.head _))) | exact .tail _ (.tail _ (.tail _ (.tail _ (.head _)))))
local macro_rules | `(tactic| walk_at "mb") => `(tactic| first | exact .head _ | assumption | exact List.mem_append_left _ (by assumption) | (refine .tail _ ?_; walk_at "mb") | (refine List.mem_append_right _ ?_; walk_at "mb"))

theorem law_turn {prog : Program} {w : World} {G : Gl} {P : Addr} {f : LawFns} {c : FC} {aDue aSigns aTold aWords aRow aScript : Addr} (LF0 : LF G c P (scopeOf 25)) (LA : LawAt G c.g P f) (hcl : c.env.cells = cellsAt aDue aSigns aTold aWords aRow aScript)
    {B C : Led'} {sg pi rl dl : Addr} {rowsV duesV : List Value} {er ed : Nat} {Rs : Nat → List Th} {Ds : Nat → List W} {oS : Obj} (hrl : (rl, lst rowsV er) ∈ B) (hdl : (dl, lst duesV ed) ∈ B)
    (hrow : ∀ k, k < 4 → ∃ r rv e, rowsV[k]? = some (.ref r) ∧ (r, lst rv e) ∈ B ∧ Things rv (Rs k)) (hdue : ∀ k, k < 4 → ∃ d dv e, duesV[k]? = some (.ref d) ∧ (d, lst dv e) ∈ B ∧ Strs dv (Ds k))
    (hmap : ∀ k, k < 4 → (Rs k).map Th.wr = Ds k) (hok : ∀ k, k < 4 → ∀ x ∈ Rs k, x.ok) (hD : ∀ k, k < 4 → DOk (Ds k)) (hS : (aSigns, oS) ∈ C) (dS : oS.data = .cell (some (.ref sg)))
    {k : Nat} {tk : Tok} {m : Loc} {n : Led'} {Q : Flow → Loc → Led' → Prop} (hk : k < 4) (J : LoopJ aDue sg pi rl dl B C Ds k m n) :
    Tr (model prog w) c (execs lawLoop c.env) (upd m "k" (.int (k : Int) tk)) n (Turned (LoopJ aDue sg pi rl dl B C Ds (k + 1)) Q) nope := by
  refine t_box fun gbx hbx => ?_
  obtain ⟨mr, md, mp, F, svs, pvs, e1, e2, oD, xD, eB0, dD, zs, zp, hF⟩ := J
  refine hbx ?_
  clear hbx gbx
  subst eB0
  refine t_box fun gbx hbx => ?_
  obtain ⟨r, rv, er', hr1, hr2, hr3⟩ := hrow k hk
  refine hbx ?_
  clear hbx gbx
  refine t_box fun gbx hbx => ?_
  obtain ⟨d, dv, ed', hd1, hd2, hd3⟩ := hdue k hk
  refine hbx ?_
  clear hbx gbx
  have hmapk := hmap k hk
  have hokk := hok k hk
  have hDk := hD k hk
  have hDl := hDk.len
  generalize Rs k = R at *
  generalize hDe : Ds k = D at *
  have N := LF0.nf
  have X_int := N.inter
  have C_signs : CellN c "signs" aSigns := N.cell (by decide +kernel) (by rw [hcl]; rfl)
  have C_due : CellN c "due" aDue := N.cell (by decide +kernel) (by rw [hcl]; rfl)
  have L_k : LocN c "k" := N.loc (by decide +kernel)
  have L_rows : LocN c "rows" := N.loc (by decide +kernel)
  have L_dues : LocN c "dues" := N.loc (by decide +kernel)
  have L_piles : LocN c "piles" := N.loc (by decide +kernel)
  have L_text : LocN c "text" := N.loc (by decide +kernel)
  have N_list : Nm c "list" (.type "list") := N.bnm (by decide +kernel) (by decide +kernel)
  have N_sorted : Nm c "sorted" (.builtin "sorted") := N.bnm (by decide +kernel) (by decide +kernel)
  have N_tl : Nm c "translate" (.ref f.tl) := N.gnm (by decide +kernel) LA.tl.1
  have N_sr : Nm c "safe_repr" (.ref f.sr) := N.gnm (by decide +kernel) LA.sr.1
  have N_fr : Nm c "_law_frame" (.ref f.fr) := N.gnm (by decide +kernel) LA.fr.1
  have N_pl : Nm c "_law_pile" (.ref f.pl) := N.gnm (by decide +kernel) LA.pl.1
  have N_dd : Nm c "_deduplicate" (.ref f.dd) := N.gnm (by decide +kernel) LA.dd.1
  have N_du : Nm c "_law_due" (.ref f.du) := N.gnm (by decide +kernel) LA.du.1
  have hsz : 1000000 ≤ sizeLine := by decide +kernel
  have hun : c.A.units + 100 < cLine := by have := LF0.co.un; (first | lia | omega)
  have hrl2 := Paired.length hr3
  have hdl2 := Paired.length hd3
  have hRl : R.length = D.length := by rw [← hmapk, List.length_map]
  generalize hn0 : F ++ (sg, lst svs e1) :: (pi, lst pvs e2) :: (B ++ (aDue, oD) :: C) = n0
  have b1 : ∀ p ∈ B, p ∈ n0 := fun p hp => by rw [← hn0]; exact List.mem_append_right _ (.tail _ (.tail _ (List.mem_append_left _ hp)))
  have i1 := b1 _ hrl
  have i2 := b1 _ hdl
  have i3 := b1 _ hr2
  have i4 := b1 _ hd2
  generalize hm0 : upd m "k" (.int (k : Int) tk) = m0
  have g1 : m0 "k" = some (.int (k : Int) tk) := by rw [← hm0]; walk_at "lk"
  have g2 : m0 "rows" = some (.ref rl) := by rw [← hm0]; walk_at "lk"
  have g3 : m0 "dues" = some (.ref dl) := by rw [← hm0]; walk_at "lk"
  have g4 : m0 "piles" = some (.ref pi) := by rw [← hm0]; walk_at "lk"
  refine t_cons (t_mid (fun m' n' => m0 = m' ∧ ∃ out, n' = out ++ n0) ?_ ?_)
  · walk_at "go"
    refine t_ListComp (n := rv.length) (P := fun i v => rv[i]? = some v) (fpo := [(r, lst rv er')]) (cl := []) (fun i ys => Strs ys ((R.take i).map Th.wr)) (closureFor_none (by decide +kernel)) (by decide +kernel) (by (first | lia | omega)) ?_ (by decide) (fun _ => rfl)
    walk_at "go"
    refine t_tailList (.new (by walk_at "mb")) (by (first | lia | omega)) (by (first | lia | omega)) (by simpa using hr1) ?_ (by with_unfolding_all rfl)
    refine ⟨itOk_list LF0.co.hn (.inr (by walk_at "mb")) rfl rfl, .nil, ?_, ?_⟩
    · rintro c' I' Lx i v ys m' hi hv hys hx
      have N_wr' : Nm c' "_law_write" (.ref f.wr) := (N.inner I' (by decide +kernel)).gnm (by decide +kernel) LA.wr.1
      refine t_box fun gbx hbx => ?_
      obtain ⟨x, hx1, hx2⟩ := Paired.get1 hr3 hv
      refine hbx ?_
      clear hbx gbx
      refine t_tests0 ?_
      walk_at "go"
      refine t_box fun gbx hbx => ?_
      obtain ⟨oe, pm', cd', doc', ho, hdat, _⟩ := LA.wr.2.obj
      refine hbx ?_
      clear hbx gbx
      refine ⟨.fn (.inl (I'.keep _ _ ho)) hdat, ?_⟩
      refine t_spec (I'.co LF0.co) (spec_write hx2 (hokk x (List.mem_of_getElem? hx1))) (by decide) (fun k s l => LA.wr.2.keeps fun b o e => l.old b o (I'.keep b o e)) ?_
      rintro r _ xB1
      refine t_box fun gbx hbx => ?_
      obtain ⟨eB0, t, eB1⟩ := xB1
      refine hbx ?_
      clear hbx gbx
      subst eB0
      subst eB1
      show Strs _ _
      rw [List.take_add_one, hx1, List.map_append]
      exact Paired.snoc hys (.mk _ _)
    rintro yv ya ye hyv
    rw [hrl2, List.take_length, hmapk] at hyv
    walk_at "go"
    refine t_tailList (.new (by walk_at "mb")) (by (first | lia | omega)) (by (first | lia | omega)) (by simpa using hd1) ?_ (by with_unfolding_all rfl)
    walk_at "go"
    refine v_neStrs (.new (by walk_at "mb")) (.new (n := ed') (a := d) (vs := dv) (by walk_at "mb")) hyv hd3 (by (first | lia | omega)) ?_
    refine ⟨_, rfl, ?_⟩
    rw [decide_eq_true rfl]
    walk_at "go"
    exact ⟨[_], rfl⟩
  rintro _ _ xB1
  refine t_box fun gbx hbx => ?_
  obtain ⟨eB0, out, eB1⟩ := xB1
  refine hbx ?_
  clear hbx gbx
  subst eB0
  subst eB1
  refine Tr.sub (List.sublist_append_right out n0) ?_
  walk_at "go"
  refine t_tailList (.new (by walk_at "mb")) (by (first | lia | omega)) (by (first | lia | omega)) (by simpa using hr1) ?_ (by with_unfolding_all rfl)
  walk_at "go"
  refine t_box fun gbx hbx => ?_
  obtain ⟨o1, pm1, cd1, doc1, ho1, hdat1, _⟩ := LA.sr.2.1
  refine hbx ?_
  clear hbx gbx
  refine t_box fun gbx hbx => ?_
  obtain ⟨o2, pm2, cd2, doc2, ho2, hdat2, _⟩ := LA.tl.2.obj
  refine hbx ?_
  clear hbx gbx
  refine ⟨.fn (.inl ho1) hdat1, ?_⟩
  have hlw : (listW (R.map Th.wr)).length ≤ sizeLine := by
    rw [hmapk]
    have := joinL_len (sep := sepW) (xs := D) (B := 10) fun x hx => (hDk.word x hx).len
    have e2 : sepW.length = 2 := rfl
    rw [e2] at this
    unfold listW
    rw [sep_eq]
    have e1 : (L "[").length = 1 := by decide
    have e3 : (L "]").length = 1 := by decide
    rw [List.length_append, List.length_append, e1, e3]
    (first | lia | omega)
  refine t_spec LF0.co (spec_reprList (T := f.T) hr3 hokk hlw) (by decide) (fun k s l => ⟨LA.sr.2.keeps l.old, er', (l.nw (r, lst rv er') (by walk_at "mb")).1⟩) ?_
  rintro _ _ xB1
  refine t_box fun gbx hbx => ?_
  obtain ⟨eB0, t1, eB1⟩ := xB1
  refine hbx ?_
  clear hbx gbx
  subst eB0
  subst eB1
  rw [hmapk]
  walk_at "go"
  refine ⟨.fn (.inl ho2) hdat2, ?_⟩
  refine law_translate LF0 LA hDk fun t2 => ?_
  walk_at "go"
  refine t_box fun gbx hbx => ?_
  obtain ⟨o3, pm3, cd3, doc3, ho3, hdat3, _⟩ := LA.fr.2.obj
  refine hbx ?_
  clear hbx gbx
  refine t_tailList (.new (by walk_at "mb")) (by (first | lia | omega)) (by (first | lia | omega)) (by simpa using hd1) ?_ (by with_unfolding_all rfl)
  walk_at "go"
  refine ⟨.fn (.inl ho3) hdat3, ?_⟩
  refine t_spec LF0.co (spec_frame hd3 (by (first | lia | omega)) fun x hx => ⟨(hDk.word x hx).ne, Nat.le_trans (hDk.word x hx).len (by (first | lia | omega))⟩) (by decide) (fun k s l => ⟨LA.fr.2.keeps l.old, ed', (l.nw (d, lst dv ed') (by walk_at "mb")).1⟩) ?_
  rintro _ _ xB1
  refine t_box fun gbx hbx => ?_
  obtain ⟨eB0, t3, eB1⟩ := xB1
  refine hbx ?_
  clear hbx gbx
  subst eB0
  subst eB1
  walk_at "go"
  refine t_ifFalse (by rw [decide_eq_true rfl]; rfl) ?_
  have i5 : (pi, lst pvs e2) ∈ n0 := by rw [← hn0]; exact List.mem_append_right _ (.tail _ (.head _))
  have i6 : (aSigns, oS) ∈ n0 := by rw [← hn0]; exact List.mem_append_right _ (.tail _ (.tail _ (List.mem_append_right _ (.tail _ hS))))
  walk_at "go"
  refine t_methL (.new (n := e2) (vs := pvs) (by walk_at "mb")) PySem.F.slot_list_append PySem.F.type_list_append ?_
  walk_at "go"
  refine t_box fun gbx hbx => ?_
  obtain ⟨o4, pm4, cd4, doc4, ho4, hdat4, _⟩ := LA.pl.2.obj
  refine hbx ?_
  clear hbx gbx
  refine ⟨.fn (.inl ho4) hdat4, ?_⟩
  refine law_pile LF0 LA hDk fun pl plv epl hpl => ?_
  walk_at "go"
  refine t_box fun gbx hbx => ?_
  obtain ⟨o5, pm5, cd5, doc5, ho5, hdat5, _⟩ := LA.dd.2.1
  refine hbx ?_
  clear hbx gbx
  refine ⟨.fn (.inl ho5) hdat5, ?_⟩
  have hps := pile_short hDk
  have hpu := pile_small hDk
  refine t_spec LF0.co (spec_ded (K := f.K) hpl hps) (by decide) (fun k s l => ⟨LA.dd.2.keeps l.old, epl, (l.nw (pl, lst plv epl) (.head _)).1⟩) ?_
  rintro _ _ xB1
  refine t_box fun gbx hbx => ?_
  obtain ⟨dd, od, eB0, eB1, hT⟩ := xB1
  refine hbx ?_
  clear hbx gbx
  subst eB0
  subst eB1
  walk_at "go"
  refine v_listDict LF0.co.hn N.ok.nolimit (.head _) hT (by (first | lia | omega)) fun pk pkv epk hpk => ?_
  have hpkl := Paired.length hpk
  walk_at "go"
  refine v_appendE (vs := pvs) (e := e2) (X := [(pk, lst pkv epk), (dd, od), (pl, lst plv epl)] ++ (F ++ [(sg, lst svs e1)])) (Y := B ++ (aDue, oD) :: C) (by rw [← hn0]; simp) (by (first | lia | omega)) fun e2' n1 hn1 => ?_
  have j1 : (aSigns, oS) ∈ n1 := by rw [hn1]; exact List.mem_append_right _ (.tail _ (List.mem_append_right _ (.tail _ hS)))
  have j2 : (sg, lst svs e1) ∈ n1 := by rw [hn1]; exact List.mem_append_left _ (List.mem_append_right _ (List.mem_append_right _ (.head _)))
  have j3 : (pi, lst (pvs ++ [.ref pk]) e2') ∈ n1 := by rw [hn1]; exact List.mem_append_right _ (.head _)
  have j4 : (pk, lst pkv epk) ∈ n1 := by rw [hn1]; exact List.mem_append_left _ (.head _)
  have j5 : ∀ p ∈ B, p ∈ n1 := fun p hp => by rw [hn1]; exact List.mem_append_right _ (.tail _ (List.mem_append_left _ hp))
  have j6 := j5 _ hdl
  have j7 := j5 _ hd2
  walk_at "go"
  refine t_methL (.new (n := e1) (vs := svs) (by walk_at "mb")) PySem.F.slot_list_append PySem.F.type_list_append ?_
  walk_at "go"
  have hpk2 : (pvs ++ [Value.ref pk])[k]? = some (.ref pk) := by rw [← zp]; simp
  refine t_tailList (.new (n := e2') (vs := pvs ++ [.ref pk]) (by walk_at "mb")) (by (first | lia | omega)) (by (first | lia | omega)) (by simpa using hpk2) ?_ (by with_unfolding_all rfl)
  walk_at "go"
  refine v_sortedList (.new (n := epk) (vs := pkv) (by walk_at "mb")) hpk (by (first | lia | omega)) fun sk skv Sk esk hsk psk osk => ?_
  walk_at "go"
  refine v_appendE (vs := svs) (e := e1) (X := (sk, lst skv esk) :: [(pk, lst pkv epk), (dd, od), (pl, lst plv epl)] ++ F) (Y := (pi, lst (pvs ++ [.ref pk]) e2') :: (B ++ (aDue, oD) :: C)) (by rw [hn1]; simp) (by (first | lia | omega)) fun e1' n2 hn2 => ?_
  have k1 : ∀ p ∈ B, p ∈ n2 := fun p hp => by rw [hn2]; exact List.mem_append_right _ (.tail _ (.tail _ (List.mem_append_left _ hp)))
  have k2 := k1 _ hdl
  have k3 := k1 _ hd2
  walk_at "go"
  refine t_box fun gbx hbx => ?_
  obtain ⟨o6, pm6, cd6, doc6, ho6, hdat6, _⟩ := LA.du.2.obj
  refine hbx ?_
  clear hbx gbx
  refine t_tailList (.new (by walk_at "mb")) (by (first | lia | omega)) (by (first | lia | omega)) (by simpa using hd1) ?_ (by with_unfolding_all rfl)
  walk_at "go"
  refine ⟨.fn (.inl ho6) hdat6, ?_⟩
  refine t_spec LF0.co (spec_due hd3 (by (first | lia | omega)) fun x hx => (hDk.word x hx).word) (by decide) (fun k s l => ⟨LA.du.2.keeps l.old, ed', (l.nw (d, lst dv ed') (by walk_at "mb")).1⟩) ?_
  rintro _ _ xB1
  refine t_box fun gbx hbx => ?_
  obtain ⟨du, duv, edu, Du, eB0, eB1, hdu, odu, pdu⟩ := xB1
  refine hbx ?_
  clear hbx gbx
  subst eB0
  subst eB1
  refine t_stCellE (X := (du, lst duv edu) :: (sk, lst skv esk) :: [(pk, lst pkv epk), (dd, od), (pl, lst plv epl)] ++ F ++ [(sg, lst (svs ++ [.ref sk]) e1'), (pi, lst (pvs ++ [.ref pk]) e2')] ++ B) (Y := C) (o := oD) C_due (by rw [hn2]; simp) dD fun oD' n3 dD' hn3 => ?_
  have hn : n3 = (du, lst duv edu) :: (sk, lst skv esk) :: (pk, lst pkv epk) :: (dd, od) :: (pl, lst plv epl) :: (F ++ (sg, lst (svs ++ [.ref sk]) e1') :: (pi, lst (pvs ++ [.ref pk]) e2') :: (B ++ (aDue, oD') :: C)) := by rw [hn3]; simp
  refine t_after ?_
  obtain ⟨eS, aS⟩ := signs_eq hDk psk osk pdu odu
  subst eS
  have zS : Sk.length ≤ 39 := by rw [psk.length_eq]; exact hpu
  have m1 : (sg, lst (svs ++ [.ref sk]) e1') ∈ n3 := by rw [hn]; exact .tail _ (.tail _ (.tail _ (.tail _ (.tail _ (List.mem_append_right _ (.head _))))))
  have m2 : (pi, lst (pvs ++ [.ref pk]) e2') ∈ n3 := by rw [hn]; exact .tail _ (.tail _ (.tail _ (.tail _ (.tail _ (List.mem_append_right _ (.tail _ (.head _)))))))
  have m3 : (sk, lst skv esk) ∈ n3 := by rw [hn]; exact .tail _ (.head _)
  have m4 : (pk, lst pkv epk) ∈ n3 := by rw [hn]; exact .tail _ (.tail _ (.head _))
  have m5 : (aDue, oD') ∈ n3 := by rw [hn]; exact .tail _ (.tail _ (.tail _ (.tail _ (.tail _ (List.mem_append_right _ (.tail _ (.tail _ (List.mem_append_right _ (.head _)))))))))
  have m6 : (du, lst duv edu) ∈ n3 := by rw [hn]; exact .head _
  have m7 : (aSigns, oS) ∈ n3 := by rw [hn]; exact .tail _ (.tail _ (.tail _ (.tail _ (.tail _ (List.mem_append_right _ (.tail _ (.tail _ (List.mem_append_right _ (.tail _ hS)))))))))
  have hsk2 : (svs ++ [Value.ref sk])[k]? = some (.ref sk) := by rw [← zs]; simp
  have gk : upd m0 "text" (.str (S (frameOf D)) t2) "k" = some (.int (k : Int) tk) := by walk_at "lk"
  have gp : upd m0 "text" (.str (S (frameOf D)) t2) "piles" = some (.ref pi) := by walk_at "lk"
  have gr : upd m0 "text" (.str (S (frameOf D)) t2) "rows" = some (.ref rl) := by walk_at "lk"
  have gd : upd m0 "text" (.str (S (frameOf D)) t2) "dues" = some (.ref dl) := by walk_at "lk"
  have hD0 := hD 0 (by decide)
  have hp0 := pile_small hD0
  have zl1 : (svs ++ [Value.ref sk]).length = k + 1 := by simp [zs]
  have zl2 : (pvs ++ [Value.ref pk]).length = k + 1 := by simp [zp]
  rcases hF with ⟨rfl, rfl⟩ | ⟨hk0, s0, p0, sv0, pv0, q3, q4, S0, rfl, hs0, hpp0, hsv0, hpv0, ps0, as0⟩
  · rw [hDe] at hp0
    refine Tr.mono (law_turnB LF0 LA hcl hk gk gp m1 m2 hsk2 m3 hsk hsk2 m3 hsk hpk2 m4 hpk hpk2 m4 hpk m5 dD' m6 hdu m7 dS aS aS psk psk (by (first | lia | omega)) (by (first | lia | omega))) (fun fl m' n' h => ?_) fun _ _ _ e => e
    refine t_box fun gbx hbx => ?_
    obtain ⟨eB0, eB1, out, eB2⟩ := h
    refine hbx ?_
    clear hbx gbx
    subst eB0
    subst eB1
    subst eB2
    refine ⟨[(sk, lst skv esk), (pk, lst pkv epk)] ++ (sg, lst (svs ++ [.ref sk]) e1') :: (pi, lst (pvs ++ [.ref pk]) e2') :: (B ++ (aDue, oD') :: C), List.Sublist.trans ?_ (List.sublist_append_right out n3), ⟨gr, gd, gp, _, _, _, _, _, _, _, rfl, dD', zl1, zl2, .inr ⟨Nat.succ_pos _, sk, pk, skv, pkv, _, _, Sk, rfl, hsk2, hpk2, hsk, by rw [hDe]; exact hpk, by rw [hDe]; exact psk, aS⟩⟩⟩
    rw [hn]
    exact .cons _ (.cons_cons _ (.cons_cons _ (.cons _ (.cons _ (List.Sublist.refl _)))))
  · have m8 : (s0, lst sv0 q3) ∈ n3 := by rw [hn]; exact .tail _ (.tail _ (.tail _ (.tail _ (.tail _ (.head _)))))
    have m9 : (p0, lst pv0 q4) ∈ n3 := by rw [hn]; exact .tail _ (.tail _ (.tail _ (.tail _ (.tail _ (.tail _ (.head _))))))
    have hs0' : (svs ++ [Value.ref sk])[0]? = some (.ref s0) := by rw [List.getElem?_append_left (by (first | lia | omega))]; exact hs0
    have hp0' : (pvs ++ [Value.ref pk])[0]? = some (.ref p0) := by rw [List.getElem?_append_left (by (first | lia | omega))]; exact hpp0
    have zS0 : S0.length ≤ 39 := by rw [ps0.length_eq]; exact hp0
    refine Tr.mono (law_turnB LF0 LA hcl hk gk gp m1 m2 hsk2 m3 hsk hs0' m8 hsv0 hp0' m9 hpv0 hpk2 m4 hpk m5 dD' m6 hdu m7 dS as0 aS ps0 psk (by (first | lia | omega)) (by (first | lia | omega))) (fun fl m' n' h => ?_) fun _ _ _ e => e
    refine t_box fun gbx hbx => ?_
    obtain ⟨eB0, eB1, out, eB2⟩ := h
    refine hbx ?_
    clear hbx gbx
    subst eB0
    subst eB1
    subst eB2
    refine ⟨[(s0, lst sv0 q3), (p0, lst pv0 q4)] ++ (sg, lst (svs ++ [.ref sk]) e1') :: (pi, lst (pvs ++ [.ref pk]) e2') :: (B ++ (aDue, oD') :: C), List.Sublist.trans ?_ (List.sublist_append_right out n3), ⟨gr, gd, gp, _, _, _, _, _, _, _, rfl, dD', zl1, zl2, .inr ⟨Nat.succ_pos _, s0, p0, sv0, pv0, _, _, S0, rfl, hs0', hp0', hsv0, hpv0, ps0, as0⟩⟩⟩
    rw [hn]
    exact .cons _ (.cons _ (.cons _ (.cons _ (.cons _ (List.Sublist.refl _)))))
end Mine
end
section
open PySem PySem.W PyProof.Rows PySem.Calls
set_option maxRecDepth 20000
set_option linter.unusedVariables false
namespace Mine


set_option compiler.extract_closed false
local macro_rules | `(tactic| walk_at "lk") => `(tactic| first | assumption | exact upd_hit | (refine upd_miss (by decide) ?_; walk_at "lk") | (with_unfolding_all rfl))
local macro_rules | `(tactic| walk_at "nm") => `(tactic| with_reducible assumption)
local macro_rules | `(tactic| walk_at "st") => `(tactic| with_reducible first
  | (refine' t_ld ?k1 ?k2 ?_; (case k1 => walk_at "nm"); (case k2 => walk_at "lk"))
  | (refine' t_nm ?k1 ?_; (case k1 => walk_at "nm"))
  | (refine' t_ldCell ?k1 ?k2 ?k3 ?_; (case k1 => walk_at "nm"); (case k2 => with_unfolding_all (first | assumption | exact .inr (by walk_at "mb"))); (case k3 => with_unfolding_all (first | assumption | rfl)))
  | refine t_IntC fun _ => ?_
  | refine t_StrS fun _ => ?_
  | refine t_BoolC ?_
  | refine t_NoneC ?_
  | refine t_cons ?_
  | refine t_after ?_
  | refine t_afterR ?_
  | refine t_afterB ?_
  | refine t_If ?_
  | (refine t_isCompare ?_ ?k1; (case k1 => with_unfolding_all rfl))
  | refine t_isAnd2 ?_
  | refine t_isOr2 ?_
  | refine t_isNot ?_
  | (refine t_isPlain ?_ ?k1; (case k1 => with_unfolding_all rfl))
  | refine t_truthy_bool ?_
  | (refine t_ifTrue ?k1 ?_; (case k1 => with_unfolding_all rfl))
  | (refine t_ifFalse ?k1 ?_; (case k1 => with_unfolding_all rfl))
  | (refine t_Assign ?_ ?k1; (case k1 => with_unfolding_all rfl))
  | (refine t_st ?k1 ?_; (case k1 => walk_at "nm"))
  | refine t_AugAssign ?_
  | (refine' t_ldn ?k1 ?k2 ?_; (case k1 => walk_at "nm"); (case k2 => walk_at "lk"))
  | refine t_BinOp ?_
  | (refine t_Compare ?_ ?k1; (case k1 => with_unfolding_all rfl))
  | (refine t_CallE ?_ ?k1; (case k1 => with_unfolding_all rfl))
  | (refine t_callWith0 ?k1 ?_; (case k1 => with_unfolding_all rfl))
  | (refine t_callWith1 ?k1 ?_; (case k1 => with_unfolding_all rfl))
  | (refine t_argS ?_ ?k1; (case k1 => with_unfolding_all rfl))
  | refine t_arg0 ?_
  | refine And.intro (KeepOk.builtin _) ?_
  | refine And.intro (KeepOk.type _) ?_
  | refine Exists.intro _ (And.intro rfl ?_)
  | refine t_Return ?_
  | refine t_IfExp ?_
  | refine t_UnaryOp ?_
  | (refine t_ExprStmt ?_ ?k1 ?k2; (case k1 => walk_at "nm"); (case k2 => with_unfolding_all rfl))
  | refine And.intro rfl ?_
  | refine t_Break ?_
  | refine t_nil ?_
  | refine v_eqInt ?_
  | refine v_neInt ?_
  | refine v_ltInt ?_
  | refine v_gtInt ?_
  | refine v_geInt ?_
  | refine v_eqStr ?_
  | refine v_neStr ?_
  | refine v_ltStr ?_
  | refine v_gtStr ?_
  | refine v_addInt fun _ => ?_
  | refine v_iaddInt fun _ => ?_
  | refine v_subInt fun _ => ?_
  | refine v_negInt fun _ => ?_
  | refine v_isNone ?_
  | (refine v_modPos ?k1 fun _ => ?_; (case k1 => decide))
  | (refine v_divSmall ?k1 fun _ => ?_; (case k1 => decide))
  | refine t_Tuple ?_
  | refine t_List ?_
  | ((fail_if_success (refine t_strSlice ?_ ?_)); (fail_if_success (refine t_listSliceS ?_ ?_)); refine t_Subscript ?_)
  | refine t_part0 ?_
  | refine t_part ?_
  | (refine v_is ?k1 ?_; (case k1 => with_unfolding_all rfl))
  | (refine v_isNot ?k1 ?_; (case k1 => with_unfolding_all rfl))
  | refine v_abs fun _ => ?_
  | refine v_isiIntInt ?_
  | refine v_isiStrInt ?_
  | (refine t_Method ?_ (by with_unfolding_all rfl))
  | (refine t_tests1 ?_)
  | (refine t_tests0 ?_)
  | refine t_Pass ?_
  | refine t_Dict0 fun _ _ _ => ?_
  | refine t_Try0 ?_
  | refine t_Assert ?_
  | refine t_JoinedStr ?_
  | refine t_jpE ?_
  | refine t_jpE0 ?_
  | refine t_jpCons ?_
  | refine t_FmtStr ?_
  | (refine t_AssignSub ?_ ?k1; (case k1 => with_unfolding_all rfl))
  | (refine' t_use ?k1 ?_; (case k1 => assumption))
  | fail)
local macro_rules | `(tactic| walk_at "go") => `(tactic| repeat' (walk_at "st"))
local macro_rules | `(tactic| walk_at "gT") => `(tactic| repeat' ((fail_if_success (with_reducible refine t_Try0 ?_)); walk_at "st"))
local macro_rules | `(tactic| walk_at "g0") => `(tactic| repeat' ((fail_if_success (with_reducible refine t_If ?_)); walk_at "st"))
local macro_rules | `(tactic| walk_at "lka") => `(tactic| ((repeat' (with_reducible refine And.intro ?_ ?_)) <;> first | walk_at "lk" | exact ⟨_, by walk_at "lk"⟩))
local macro_rules | `(tactic| walk_at "mm") => `(tactic| first | exact .head _ | exact .tail _ (.head _) | exact .tail _ (.tail _ (.head _)) | exact .tail _ (.tail _ (.tail _ (.head _))) | exact .tail _ (.tail _ (.tail _ (.tail _ (.head _)))))
local macro_rules | `(tactic| walk_at "mb") => `(tactic| first | exact .head _ | assumption | exact List.mem_append_left _ (by assumption) | (refine .tail _ ?_; walk_at "mb") | (refine List.mem_append_right _ ?_; walk_at "mb"))

theorem law_end {prog : Program} {w : World} {G : Gl} {P : Addr} {f : LawFns} {c : FC} {aDue aSigns aTold aWords aRow aScript : Addr} {m : Loc} {n : Led'} (LF0 : LF G c P (scopeOf 25)) (LA : LawAt G c.g P f)
    (hcl : c.env.cells = cellsAt aDue aSigns aTold aWords aRow aScript) (h : LoopIn aDue aSigns aTold aWords m n) : Tr (model prog w) c (execs ((bodyOf 25).drop 9) c.env) m n (fun fl _ _ => fl = .ret (.bool true)) nope := by
  refine t_box fun gbx hbx => ?_
  obtain ⟨B, C, sg, pi, rl, dl, wl, tl, rowsV, duesV, wv, tv, er, ed, ew, et, Rs, Ds, oD, oS, oW, oT, eB0, dD, g1, g2, g3, hrl, hdl, hrow, hdue, hmap, hok, hD, hS, dS, hW, dW, hT, dT, hwl, hwv, htl, htv⟩ := h
  refine hbx ?_
  clear hbx gbx
  subst eB0
  have N := LF0.nf
  have X_int := N.inter
  have C_words : CellN c "words" aWords := N.cell (by decide +kernel) (by rw [hcl]; rfl)
  have C_told : CellN c "told" aTold := N.cell (by decide +kernel) (by rw [hcl]; rfl)
  have L_k : LocN c "k" := N.loc (by decide +kernel)
  have N_range : Nm c "range" (.type "range") := N.bnm (by decide +kernel) (by decide +kernel)
  have hun : c.A.units + 100 < cLine := by have := LF0.co.un; (first | lia | omega)
  refine t_cons (t_mid (fun m' n' => ∃ F svs pvs e1 e2 oD, n' = F ++ (sg, lst svs e1) :: (pi, lst pvs e2) :: (B ++ (aDue, oD) :: C)) ?_ ?_)
  · refine t_For L_k (n := 4) (P := fun i v => ∃ t, v = .int ((0 + i : Nat) : Int) t) (fpo := []) (LoopJ aDue sg pi rl dl B C Ds) ?_ (fun _ _ _ _ p hp => (nomatch hp)) ?_ ?_ (fun _ => rfl) passesNope (fun _ _ _ _ h => h)
    · walk_at "go"
      refine v_range1 fun rr t u v => ?_
      refine ⟨itOk_range1 LF0.co.hn (.inr (.head _)) (by decide), _, List.sublist_cons_self _ _, ⟨g1, g2, g3, [], [], [], 0, 0, oD, _, rfl, dD, rfl, rfl, .inl ⟨rfl, rfl⟩⟩⟩
    · rintro i v m n hi ⟨t, rfl⟩ J
      rw [Nat.zero_add]
      exact law_turn LF0 LA hcl hrl hdl hrow hdue hmap hok hD hS dS hi J
    · rintro m n xB1
      refine t_box fun gbx hbx => ?_
      obtain ⟨_, _, _, F, svs, pvs, e1, e2, oD', x, eB0, _⟩ := xB1
      refine hbx ?_
      clear hbx gbx
      subst eB0
      exact ⟨rfl, F, svs, pvs, e1, e2, oD', rfl⟩
  rintro m' _ xB1
  refine t_box fun gbx hbx => ?_
  obtain ⟨F, svs, pvs, e1, e2, oD', eB0⟩ := xB1
  refine hbx ?_
  clear hbx gbx
  subst eB0
  walk_at "go"
  refine v_eqStrs (.new (n := ew) (a := wl) (vs := wv) (by walk_at "mb")) (.new (n := et) (a := tl) (vs := tv) (by walk_at "mb")) hwv htv (by (first | lia | omega)) ?_
  rw [decide_eq_true rfl]
  walk_at "go"
  rfl
theorem law_ok {prog : Program} {w : World} {G : Gl} {a P sc : Addr} {f : LawFns} {ns : List Value} {s : Shared} {Q : Value → Shared → Prop} {E : Value → Shared → Prop}
    (hG : GOk G (hide s.heap P)) (LA : LawAt G (hide s.heap P) P f) (hf : FnIs G s.heap 25 a) (hP : ∃ o, s.heap.get? P = some o ∧ TokOk G.ps P o) (hgs : AllBare s.gens)
    (hns : (hide s.heap P).IsList sc ns.toArray) (hint : ∀ v ∈ ns, ∃ i t, v = .int i t) (hlen : ns.length ≤ 63)
    (hQ : ∀ h' gs dr tk, (∀ b o, b ≠ P → s.heap.get? b = some o → h'.get? b = some o) → (∃ o, h'.get? P = some o ∧ TokOk G.ps P o) → AllBare gs → Q (.bool true) { heap := h', gens := gs, drawn := dr, toks := tk, os := s.os }) :
    wpAny (model prog w) callerA (call (.ref a) [.ref sc]) Q E s := by
  refine law_entry hG hf hP hgs (fun c aDue aSigns aTold aWords aRow aScript oDue oSigns oTold oWords oRow oScript LF0 hg hcl d1 d2 d3 d4 d5 d6 m => ?_) hQ
  rw [← hg] at LA hns
  exact law_top LF0 LA hns hint hlen hcl d1 d2 d3 d4 d5 d6 fun m n h => law_end LF0 LA hcl h
end Mine
end
section
open PySem PySem.W PyProof.Rows PySem.Calls
set_option linter.unusedVariables false
namespace Mine
noncomputable abbrev rw0 := PySem.Challenge.rw_kt0026_01
/-- the pattern at the top -/
noncomputable def patSeen (h : Heap) : Bool := match h.nsMap mainGlobals (Str.ofString "_twin_re_1") with
  | some (.ref p) => (match h.get? p with
    | some o => (match o.data with
      | .fields fs => o.cls == .type "re.Pattern" && o.dict.isNone && o.slots.isEmpty && (Builtin.Re.reRawNat (fs.getD 6 .none) == 0 && (match fs.getD 5 .none with
        | .ref cd => (match h.get? cd with
          | some o2 => (match o2.data with
            | .seq its _ => o2.cls == .type "tuple" && o2.dict.isNone && o2.slots.isEmpty && ((its.map Builtin.Re.reRawOf).map (·.toNat)).toList == reCode.toList
            | _ => false)
          | none => false)
        | _ => false))
      | _ => false)
    | none => false)
  | _ => false
noncomputable def escSeen (h : Heap) : Bool := match h.nsMap mainGlobals (Str.ofString "_special_chars_map") with
  | some (.ref D) => (match h.get? D with | some o => escObj o | none => false)
  | _ => false
noncomputable def fdOf (h : Heap) (x : Str) : Option FuncData := match h.nsMap mainGlobals x with
  | some (.ref a) => (match h.get? a with | some o => (match o.data with | .func fd => some fd | _ => none) | none => none)
  | _ => none
noncomputable def fdBare (fd : FuncData) : FuncData := { fd with doc := .none, pyModule := .none, code := .none, defaults := .none, kwdefaults := .none }
noncomputable def codeB (h : Heap) (cd : Value) (x : Str) : Bool := match cd with
  | .ref c => (match h.get? c with | some o => (match o.data with | .fields vs => (match (vs.getD 1 Value.none : Value) with | .str n _ => n == x | _ => false) | _ => false) | none => false)
  | _ => false
noncomputable def safeB (h : Heap) (fd : FuncData) : Bool := codeB h fd.code (nameOf 16) && (match fd.kwdefaults with | .none => true | _ => false) && (match fd.defaults with
  | .ref T => (match h.get? T with | some o => (match o.data with | .seq vs _ => (match vs.toList with | [.bool false] => true | _ => false) | _ => false) | none => false)
  | _ => false)
noncomputable def dedB (h : Heap) (fd : FuncData) : Bool := codeB h fd.code (nameOf 11) && (match fd.defaults with | .none => true | _ => false) && (match fd.kwdefaults with
  | .ref K => h.isNs K && (match h.nsMap K (Str.ofString "unhashable_fallback") with | some (.bool false) => true | _ => false)
  | _ => false)
noncomputable def topSeen (s : Shared) : Bool × Option FuncData × Option FuncData :=
  (patSeen s.heap && escSeen s.heap && s.heap.isNs mainGlobals && (match fdOf s.heap (nameOf 16) with | some fd => safeB s.heap fd | none => false) && (match fdOf s.heap (nameOf 11) with | some fd => dedB s.heap fd | none => false),
   (fdOf s.heap (nameOf 16)).map fdBare, (fdOf s.heap (nameOf 11)).map fdBare)
noncomputable def topGood : Bool × Option FuncData × Option FuncData := (true, some (docDef (nameOf 16) (paramsOf 16) (bodyOf 16) (scopeOf 16) .none .none .none), some (docDef (nameOf 11) (paramsOf 11) (bodyOf 11) (scopeOf 11) .none .none .none))
noncomputable def q : Program := view pw [0,2,3,5,6,8,9,12,13,15,17,19,20,21,22,23,24,25]
noncomputable def loose : List Str := [Str.ofString "_twin_re_1", Str.ofString "_special_chars_map", Str.ofString "_deduplicate", Str.ofString "safe_repr"]
noncomputable abbrev leftAtW (w : World) : Prop := (openEnds treeTable pw w 3942).map (fun s => (openSeen q loose (importedModules pw.main.body) (fun s => xlAt q [] s && recOk (RowW.records rw0.row.toRowW) s) true s, topSeen s)) = some (openGood q loose, topGood)
set_option maxRecDepth 100000 in
set_option maxHeartbeats 0 in
theorem left_ff (w : World) : leftAtW ((w.withFollow "special-get-raises" false).withFollow "comprehension-iter-twice" false) := by
  show _ = _
  kernel_rfl
set_option maxRecDepth 100000 in
set_option maxHeartbeats 0 in
theorem left_ft (w : World) : leftAtW ((w.withFollow "special-get-raises" false).withFollow "comprehension-iter-twice" true) := by
  show _ = _
  kernel_rfl
set_option maxRecDepth 100000 in
set_option maxHeartbeats 0 in
theorem left_tf (w : World) : leftAtW ((w.withFollow "special-get-raises" true).withFollow "comprehension-iter-twice" false) := by
  show _ = _
  kernel_rfl
set_option maxRecDepth 100000 in
set_option maxHeartbeats 0 in
theorem left_tt (w : World) : leftAtW ((w.withFollow "special-get-raises" true).withFollow "comprehension-iter-twice" true) := by
  show _ = _
  kernel_rfl
theorem left_all : LeftO rw0.row.toRowW.prog q loose (fun s => xlAt q [] s && recOk (RowW.records rw0.row.toRowW) s) topSeen (fun _ => topGood) 3942 := fun w =>
  byRow2 "comprehension-iter-twice" (P := leftAtW) (fun w => byRow2 "special-get-raises" (P := fun w => leftAtW (w.withFollow "comprehension-iter-twice" false)) left_ff left_tf w)
    (fun w => byRow2 "special-get-raises" (P := fun w => leftAtW (w.withFollow "comprehension-iter-twice" true)) left_ft left_tt w) w
end Mine
end
section
open PySem PySem.W PyProof.Rows PySem.Calls
set_option linter.unusedVariables false
namespace Mine
/-- what the run has left beside the defs -/
structure TopSays (h : Heap) : Prop where
  ex : ∃ mg, h.Ns mainGlobals mg ∧ (∃ p, mg (Str.ofString "_twin_re_1") = some (.ref p) ∧ PatAt h p) ∧ (∃ D, mg (Str.ofString "_special_chars_map") = some (.ref D) ∧ EscAt h D) ∧
    (∃ a T, mg (nameOf 16) = some (.ref a) ∧ SafeAt h a T) ∧ ∃ a K, mg (nameOf 11) = some (.ref a) ∧ DedAt h a K
theorem TopSays.keeps {h h' : Heap} (x : TopSays h) (hk : ∀ b o, h.get? b = some o → h'.get? b = some o) : TopSays h' := by
  obtain ⟨mg, h1, ⟨p, h2, h3⟩, ⟨D, h4, o, h5, h6⟩, ⟨a, T, h7, h8⟩, a', K, h9, h10⟩ := x.ex
  exact ⟨mg, h1.keeps hk, ⟨p, h2, PatAt.keeps h3 hk⟩, ⟨D, h4, o, hk _ _ h5, h6⟩, ⟨a, T, h7, h8.keeps hk⟩, a', K, h9, h10.keeps hk⟩
theorem pat_of {h : Heap} (h1 : patSeen h = true) : ∃ p, h.nsMap mainGlobals (Str.ofString "_twin_re_1") = some (.ref p) ∧ PatAt h p := by
  unfold patSeen at h1
  split at h1
  · rename_i p hp
    refine ⟨p, hp, ?_⟩
    split at h1
    · rename_i o ho
      split at h1
      · rename_i fs hfs
        simp only [Bool.and_eq_true, beq_iff_eq, Option.isNone_iff_eq_none, Array.isEmpty_iff] at h1
        obtain ⟨⟨⟨a1, a2⟩, a3⟩, a4, a5⟩ := h1
        split at a5
        · rename_i cd hcd
          split at a5
          · rename_i o2 ho2
            split at a5
            · rename_i its n2 hd2
              simp only [Bool.and_eq_true, beq_iff_eq, Option.isNone_iff_eq_none, Array.isEmpty_iff] at a5
              obtain ⟨⟨⟨b1, b2⟩, b3⟩, b4⟩ := a5
              refine ⟨fs, cd, its, n2, ?_, hcd, a4, ?_, Array.toList_inj.mp b4⟩
              · rw [ho]; obtain ⟨x1, x2, x3, x4⟩ := o; simp_all
              · rw [ho2]; obtain ⟨x1, x2, x3, x4⟩ := o2; simp_all
            · cases a5
          · cases a5
        · cases a5
      · cases h1
    · cases h1
  · cases h1
theorem esc_of {h : Heap} (h2 : escSeen h = true) : ∃ D, h.nsMap mainGlobals (Str.ofString "_special_chars_map") = some (.ref D) ∧ EscAt h D := by
  unfold escSeen at h2
  split at h2
  · rename_i D hD
    refine ⟨D, hD, ?_⟩
    split at h2
    · rename_i o ho
      exact ⟨o, ho, h2⟩
    · cases h2
  · cases h2
theorem code_of {h : Heap} {cd : Value} {x : Str} (e : codeB h cd x = true) : h.CodeRec cd x := by
  unfold codeB at e
  split at e
  · rename_i c
    split at e
    · rename_i o ho
      split at e
      · rename_i vs hd
        split at e
        · rename_i n t hv
          rw [beq_iff_eq] at e
          subst e
          refine ⟨c, o, vs, t, rfl, ho, hd, ?_⟩
          rw [Array.getD_eq_getD_getElem?] at hv
          cases hx : vs[1]? with
          | none => rw [hx] at hv; cases hv
          | some y => rw [hx] at hv; exact congrArg some hv
        · cases e
      · cases e
    · cases e
  · cases e
theorem fd_of {h : Heap} {x : Str} {fd : FuncData} (e : fdOf h x = some fd) : ∃ a o, h.nsMap mainGlobals x = some (.ref a) ∧ h.get? a = some o ∧ o.data = .func fd := by
  unfold fdOf at e
  split at e
  · rename_i a ha
    split at e
    · rename_i o ho
      split at e
      · rename_i fd' hd
        cases e
        exact ⟨a, o, ha, ho, hd⟩
      · cases e
    · cases e
  · cases e
theorem bare_of {fd : FuncData} {name : Str} {params : Arguments} {body : List Stmt} {scope : Scope} (e : fdBare fd = docDef name params body scope .none .none .none) :
    fd = { docDef name params body scope fd.pyModule fd.code fd.doc with defaults := fd.defaults, kwdefaults := fd.kwdefaults } := by
  obtain ⟨a1, a2, a3, a4, a5, a6, a7, a8, a9, a10, a11, a12, a13, a14, a15⟩ := fd
  unfold fdBare docDef at e
  unfold docDef
  simp only [FuncData.mk.injEq] at e ⊢
  obtain ⟨e1, e2, e3, e4, e5, e6, e7, _, _, _, _, e12, _, e14, e15⟩ := e
  exact ⟨e1, e2, e3, e4, e5, e6, e7, trivial, trivial, trivial, trivial, e12, trivial, e14, e15⟩
theorem safe_of {h : Heap} {fd : FuncData} (h1 : fdOf h (nameOf 16) = some fd) (h2 : safeB h fd = true) (h3 : fdBare fd = docDef (nameOf 16) (paramsOf 16) (bodyOf 16) (scopeOf 16) .none .none .none) :
    ∃ a T, h.nsMap mainGlobals (nameOf 16) = some (.ref a) ∧ SafeAt h a T := by
  obtain ⟨a, o, g1, g2, g3⟩ := fd_of h1
  unfold safeB at h2
  simp only [Bool.and_eq_true] at h2
  obtain ⟨⟨c1, c2⟩, c3⟩ := h2
  have hb := bare_of h3
  split at c3
  · rename_i T hT
    refine ⟨a, T, g1, ⟨o, fd.pyModule, fd.code, fd.doc, g2, ?_, code_of c1⟩, ?_⟩
    · have hk : fd.kwdefaults = .none := by
        split at c2
        · assumption
        · cases c2
      rw [g3]
      exact congrArg Data.func (hb.trans (by rw [hT, hk]))
    · split at c3
      · rename_i o2 ho2
        split at c3
        · rename_i vs n hd2
          split at c3
          · rename_i hv
            refine ⟨o2, n, ho2, ?_⟩
            rw [hd2]
            congr 1
            exact Array.toList_inj.mp hv
          · cases c3
        · cases c3
      · cases c3
  · cases c3
theorem ded_of {h : Heap} {fd : FuncData} (h1 : fdOf h (nameOf 11) = some fd) (h2 : dedB h fd = true) (h3 : fdBare fd = docDef (nameOf 11) (paramsOf 11) (bodyOf 11) (scopeOf 11) .none .none .none) :
    ∃ a K, h.nsMap mainGlobals (nameOf 11) = some (.ref a) ∧ DedAt h a K := by
  obtain ⟨a, o, g1, g2, g3⟩ := fd_of h1
  unfold dedB at h2
  simp only [Bool.and_eq_true] at h2
  obtain ⟨⟨c1, c2⟩, c3⟩ := h2
  have hb := bare_of h3
  split at c3
  · rename_i K hK
    simp only [Bool.and_eq_true] at c3
    obtain ⟨c4, c5⟩ := c3
    refine ⟨a, K, g1, ⟨o, fd.pyModule, fd.code, fd.doc, g2, ?_, code_of c1⟩, _, .of_isNs c4, ?_⟩
    · have hk : fd.defaults = .none := by
        split at c2
        · assumption
        · cases c2
      rw [g3]
      exact congrArg Data.func (hb.trans (by rw [hK, hk]))
    · split at c5
      · assumption
      · cases c5
  · cases c3
theorem topSays_of {s : Shared} (h : topSeen s = topGood) : TopSays s.heap := by
  have h1 : _ = true := congrArg (·.1) h
  have h2 : (fdOf s.heap (nameOf 16)).map fdBare = _ := congrArg (·.2.1) h
  have h3 : (fdOf s.heap (nameOf 11)).map fdBare = _ := congrArg (·.2.2) h
  obtain ⟨fd2, e2, e2'⟩ := Option.map_eq_some_iff.mp h2
  obtain ⟨fd3, e3, e3'⟩ := Option.map_eq_some_iff.mp h3
  simp only [topSeen, e2, e3, Bool.and_eq_true] at h1
  obtain ⟨⟨⟨⟨k1, k2⟩, k3⟩, k4⟩, k5⟩ := h1
  exact ⟨_, .of_isNs k3, pat_of k1, esc_of k2, safe_of e2 k4 e2', ded_of e3 k5 e3'⟩
theorem ns_same {h : Heap} {a : Addr} {m m' : Loc} (x : h.Ns a m) (y : h.Ns a m') : m = m' := by
  obtain ⟨o, es, ep, e, d, _, r⟩ := x
  obtain ⟨o', es', ep', e', d', _, r'⟩ := y
  rw [e] at e'; cases e'
  rw [d] at d'; cases d'
  exact funext fun n => (r n).symm.trans (r' n)
noncomputable def defList : List Nat := [3, 6, 8, 9, 12, 13, 17, 19, 20, 21, 22, 23, 24, 25]
theorem recs_q : (recsOf q).map (fun d => (d.name, d.params, d.body, d.scope)) = defList.map defAt := by kernel_rfl
/-- the names around the law, from what the run has left -/
noncomputable def glOf (mg mb : Loc) : Gl := { mg := mg, mb := mb, ps := #[] }
section
variable {l : List Str} {mean : ExcName → Option Value} {mg mb : Loc} {h : Heap}
theorem rec_of {i : Nat} (hi : i ∈ defList) : ∃ d ∈ recsOf q, d.name = nameOf i ∧ d.params = paramsOf i ∧ d.body = bodyOf i ∧ d.scope = scopeOf i := by
  have : defAt i ∈ (recsOf q).map (fun d => (d.name, d.params, d.body, d.scope)) := by rw [recs_q]; exact List.mem_map_of_mem hi
  obtain ⟨d, hd, e⟩ := List.mem_map.mp this
  exact ⟨d, hd, congrArg (·.1) e, congrArg (·.2.1) e, congrArg (·.2.2.1) e, congrArg (·.2.2.2) e⟩
theorem fn_at (T : Top q l mean mg mb h) {i : Nat} (hi : i ∈ defList) : ∃ a, mg (nameOf i) = some (.ref a) ∧ FnIs (glOf mg mb) h i a := by
  obtain ⟨d, hd, e1, e2, e3, e4⟩ := rec_of hi
  obtain ⟨a, o, pm, cd, doc, h1, h2, h3, h4⟩ := T.fn d hd
  rw [e1] at h1 h4
  rw [e1, e2, e3, e4] at h3
  exact ⟨a, h1, h1, o, pm, cd, doc, h2, h3, h4⟩
noncomputable abbrev tabO : Obj := { cls := .none, data := .fields #[] }
variable {P : Addr}
theorem hide_get (hP : h.get? P = some tabO) {b : Addr} {o : Obj} (e : h.get? b = some o) (hne : o ≠ tabO) : (hide h P).get? b = some o := by
  rw [hide_ne (fun q => hne (by subst q; rw [hP] at e; cases e; rfl))]; exact e
theorem hide_ns (hP : h.get? P = some tabO) {a : Addr} {m : Loc} (x : h.Ns a m) : (hide h P).Ns a m := by
  obtain ⟨o, es, ep, e, hd, r⟩ := x
  exact ⟨o, es, ep, hide_get hP e (by rintro rfl; cases hd), hd, r⟩
theorem hide_rec (hP : h.get? P = some tabO) {cd : Value} {n : Str} (x : h.CodeRec cd n) : (hide h P).CodeRec cd n := by
  obtain ⟨c, o, vs, t, e, g, hd, hv⟩ := x
  exact ⟨c, o, vs, t, e, hide_get hP g (by rintro rfl; cases hd; cases hv), hd, hv⟩
theorem hide_fn (hP : h.get? P = some tabO) {G : Gl} {i : Nat} {a : Addr} (x : FnIs G h i a) : FnIs G (hide h P) i a := by
  obtain ⟨h1, o, pm, cd, doc, h2, h3, h4⟩ := x
  exact ⟨h1, o, pm, cd, doc, hide_get hP h2 (by rintro rfl; cases h3), h3, hide_rec hP h4⟩
theorem hide_dflt (hP : h.get? P = some tabO) {i : Nat} {a : Addr} {dV kV : Value} (x : DfltAt h i a dV kV) : DfltAt (hide h P) i a dV kV := by
  obtain ⟨o, pm, cd, doc, h2, h3, h4⟩ := x
  exact ⟨o, pm, cd, doc, hide_get hP h2 (by rintro rfl; cases h3), h3, hide_rec hP h4⟩
theorem code_ok {c : Addr} (x : h.IsCode c P #[]) (y : h.TableAt c P #[]) : CodeOk h c P ∧ TriplesOk (#[] : Array Value).toList := by
  obtain ⟨o, vs, file, tf, flags, tg, inF, text, tt, op, h1, h2, h3, h4, h5, h6, h7, _, _, h8, h9⟩ := x
  obtain ⟨⟨o', vs', g1, g2, g3, g4⟩, _⟩ := y
  rw [h1] at g1; cases g1
  rw [h2] at g3; cases g3
  exact ⟨⟨o, vs, file, tf, flags, tg, inF, text, tt, h1, h2, h3, h4, h5, h6, h7, h9, g2, g4⟩, h8⟩
end
end Mine
end
section
open PySem PySem.W PyProof.Rows PySem.Calls
set_option maxRecDepth 20000
set_option linter.unusedVariables false
namespace Mine
theorem bn_free : ∀ p ∈ bnames, p.1 ∉ startupNames ∧ p.1 ∉ looseW q loose ∧ p.1 ∉ (recsOf q).map (·.name) ∧ p.1 ∉ (litsOf q).map (·.1) ∧ p.1 ∉ (clssOf q (looseW q loose)).map (·.name) ∧ p.1 ≠ Str.ofString "__name__" := by decide +kernel
theorem bn_boot : bnames.map (fun p => bootBuiltins p.1) = bnames.map (fun p => some p.2) := by kernel_rfl
theorem bn_at {p : Str × Value} (hp : p ∈ bnames) : bootBuiltins p.1 = some p.2 := by
  obtain ⟨i, hi⟩ := List.getElem?_of_mem hp
  have h1 : (bnames.map (fun p => bootBuiltins p.1))[i]? = some (bootBuiltins p.1) := by rw [List.getElem?_map, hi]; rfl
  rw [bn_boot, List.getElem?_map, hi] at h1
  exact (Option.some.inj h1).symm
set_option maxHeartbeats 4000000 in
theorem law_fin {w : World} {s₀ s₁ : Shared} {mg mb : Loc} (G : Ground q loose rw0.row.toRowW.records (XL q []) w s₀ mg mb s₁.heap) (Y : TopSays s₁.heap) (hg : s₁.gens = #[]) {fa sc : Addr} {vs : List Value} {ns : List Int} (hmg : mg (nameOf 25) = some (.ref fa))
    (hL : s₁.heap.IsList sc vs.toArray) (hI : IntsAre vs ns) (hlen : ns.length ≤ 63) :
    wpAny (model pw w) callerA (call (.ref fa) [.ref sc]) (fun v s' => v = .bool true ∧ OldK s₁.heap s'.heap ∧ s'.os = s₁.os ∧ AllBare s'.gens) (fun _ _ => False) s₁ := by
  have T := G.T
  clear G
  obtain ⟨mg', n1, ⟨p, hp1, hp2⟩, ⟨D, hD1, hD2⟩, ⟨sr, Tt, hs1, hs2⟩, dd, K, hd1, hd2⟩ := Y.ex
  obtain rfl := ns_same n1 T.g
  obtain ⟨th, th1, th2⟩ := fn_at T (i := 19) (by decide)
  obtain ⟨wr, wr1, wr2⟩ := fn_at T (i := 20) (by decide)
  obtain ⟨wd, wd1, wd2⟩ := fn_at T (i := 21) (by decide)
  obtain ⟨du, du1, du2⟩ := fn_at T (i := 22) (by decide)
  obtain ⟨fr, fr1, fr2⟩ := fn_at T (i := 23) (by decide)
  obtain ⟨pl, pl1, pl2⟩ := fn_at T (i := 24) (by decide)
  obtain ⟨tl, tl1, tl2⟩ := fn_at T (i := 3) (by decide)
  obtain ⟨tr, tr1, tr2⟩ := fn_at T (i := 8) (by decide)
  obtain ⟨jn, jn1, jn2⟩ := fn_at T (i := 9) (by decide)
  obtain ⟨es, es1, es2⟩ := fn_at T (i := 6) (by decide)
  obtain ⟨uu, uu1, uu2⟩ := fn_at T (i := 12) (by decide)
  obtain ⟨ca, ca1, ca2⟩ := fn_at T (i := 13) (by decide)
  obtain ⟨sl, sl1, sl2⟩ := fn_at T (i := 17) (by decide)
  obtain ⟨fa', fa1, fa2⟩ := fn_at T (i := 25) (by decide)
  rw [hmg] at fa1; cases fa1
  obtain ⟨d8, hd8, e1, e2, e3, e4⟩ := rec_of (i := 8) (by decide)
  obtain ⟨a8, o8, fd8, c8, P, t1, t2, t3, t4, t5, t6⟩ := T.tab d8 hd8
  rw [e1, tr1] at t1; cases t1
  have hP : s₁.heap.get? P = some tabO := t6.2
  obtain ⟨k1, k2⟩ := code_ok t5 t6
  obtain ⟨bm, ob, b1, b2, b3, b4, b5, b6⟩ := T.bmain
  obtain ⟨mcl, l1, l2⟩ := T.nolimit
  obtain ⟨mcd, l3, l4⟩ := T.nodigits
  have hGO : GOk (glOf mg' mb) (hide s₁.heap P) := ⟨hide_ns hP T.g, hide_ns hP T.b, ⟨mcl, hide_ns hP l1, l2⟩, ⟨mcd, hide_ns hP l3, l4⟩, fun x hx => by
    obtain ⟨f1, f2, f3, f4, f5, f6⟩ := bn_free x hx
    exact ⟨T.free x.1 f1 f2 f3 f4 f5, (T.builtins x.1 f6).trans (bn_at hx)⟩⟩
  have hLA : LawAt (glOf mg' mb) (hide s₁.heap P) P ⟨th, wr, wd, du, fr, pl, tl, tr, jn, es, dd, K, uu, ca, sr, Tt, sl, p, D, c8⟩ := by
    refine ⟨⟨th1, hide_fn hP th2⟩, ⟨wr1, hide_fn hP wr2⟩, ⟨wd1, hide_fn hP wd2⟩, ⟨du1, hide_fn hP du2⟩, ⟨fr1, hide_fn hP fr2⟩, ⟨pl1, hide_fn hP pl2⟩, ⟨tl1, hide_fn hP tl2⟩, ⟨tr1, hide_fn hP tr2⟩, ⟨jn1, hide_fn hP jn2⟩, ⟨es1, hide_fn hP es2⟩,
      ⟨hd1, hide_dflt hP hd2.1, ?_⟩, ⟨uu1, hide_fn hP uu2⟩, ⟨ca1, hide_fn hP ca2⟩, ⟨hs1, hide_dflt hP hs2.1, ?_⟩, ⟨sl1, hide_fn hP sl2⟩, ⟨hp1, ?_⟩, ⟨hD1, ?_⟩, ?_, ?_, ?_⟩
    · obtain ⟨mk, g1, g2⟩ := hd2.2
      exact ⟨mk, hide_ns hP g1, g2⟩
    · obtain ⟨o, n, g1, g2⟩ := hs2.2
      exact ⟨o, n, hide_get hP g1 (by rintro rfl; cases g2), g2⟩
    · obtain ⟨fs, cd, its, n, g1, g2, g3, g4, g5⟩ := hp2
      exact ⟨fs, cd, its, n, hide_get hP g1 (fun e => by injection e with e; cases e), g2, g3, hide_get hP g4 (fun e => by injection e with e; cases e), g5⟩
    · obtain ⟨o, g1, g2⟩ := hD2
      exact ⟨o, hide_get hP g1 (by rintro rfl; cases g2), g2⟩
    · exact ⟨bm, ob, b1, b2, hide_get hP b3 (by rintro rfl; cases b4), b4, b5, b6⟩
    · obtain ⟨_, o, pm, cd, doc, g1, g2, g3⟩ := tr2
      rw [t2] at g1; cases g1
      rw [t3] at g2
      have e : fd8 = docDef (nameOf 8) (paramsOf 8) (bodyOf 8) (scopeOf 8) pm cd doc := by injection g2
      have hcd : cd = .ref c8 := by rw [e] at t4; exact t4
      rw [hcd] at e
      exact ⟨_, pm, doc, hide_get hP t2 (by rintro rfl; cases t3), t3.trans (by rw [e])⟩
    · obtain ⟨o, ws, file, tf, flags, tg, inF, text, tt, g1, g2, g3, g4, g5, g6, g7, g8, g9, g10⟩ := k1
      exact ⟨o, ws, file, tf, flags, tg, inF, text, tt, hide_get hP g1 (by rintro rfl; cases g9), g2, g3, g4, g5, g6, g7, g8, g9, g10⟩
  have hvl : vs.length = ns.length := by
    clear hL hlen
    induction hI with
    | nil => rfl
    | cons n t h ih => simp [ih]
  have hint : ∀ v ∈ vs, ∃ i t, v = .int i t := by
    clear hL hlen hvl
    induction hI with
    | nil => intro v hv; cases hv
    | cons n t h ih =>
      intro v hv
      rcases List.mem_cons.mp hv with rfl | hv
      · exact ⟨n, t, rfl⟩
      · exact ih v hv
  refine law_ok (G := glOf mg' mb) (P := P) (f := ⟨th, wr, wd, du, fr, pl, tl, tr, jn, es, dd, K, uu, ca, sr, Tt, sl, p, D, c8⟩) (ns := vs) hGO hLA fa2 ⟨_, hP, #[], rfl, k2, #[], rfl⟩ (by rw [hg]; exact AllBare.empty) ?_ hint (by (first | lia | omega)) fun h' gs dr tk hk hPk hgs => ⟨rfl, ?_, rfl, hgs⟩
  · obtain ⟨o, g1, g2, n, g3⟩ := hL
    exact ⟨o, hide_get hP g1 (by rintro rfl; cases g2), g2, n, g3⟩
  · obtain ⟨oP, q1, ps, rfl, q2, more, rfl⟩ := hPk
    refine ⟨fun b o e => ?_, fun b o e => ?_⟩
    · by_cases hb : b = P
      · subst hb
        rw [hP] at e; cases e
        exact .inr (.inl ⟨t6.isCodeTable, rfl, #[], more, rfl, q1⟩)
      · exact .inl (hk b o hb e)
    · by_cases hb : b = P
      · subst hb; exact ⟨_, q1⟩
      · exact ⟨o, hk b o hb e⟩
end Mine
end
open PySem PySem.W PyProof.Rows PySem.Calls
set_option maxRecDepth 100000 in
set_option maxHeartbeats 8000000 in
theorem PySem.Challenge.cw_kt0026_01_holds : PySem.Challenge.rw_kt0026_01.Holds := by
  refine PySem.W.holds_law (by kernel_rfl) fun said => ?_
  refine PySem.W.holds_open (q := Mine.q) (loose := Mine.loose) (Xt := fun s => xlAt Mine.q [] s && recOk (RowW.records PySem.Challenge.rw_kt0026_01.row.toRowW) s) (XP := XL Mine.q []) (Yf := Mine.topSeen) (Ya := fun _ => Mine.topGood) (YP := fun _ h => Mine.TopSays h) (N := 3942) Mine.left_all (fun w s h => Mine.topSays_of h) (fun w h h' x hk => x.keeps hk) (fun s e => xl_of s (Bool.and_eq_true_iff.mp e).1) XL.keeps (by rfl) (by rfl) (by rfl) (fun s e => recFacts_of (Bool.and_eq_true_iff.mp e).2) (by rfl) (by assumption) (by decide +kernel) ⟨rfl, rfl, rfl, rfl, rfl, by decide +kernel⟩ ?hw ?hc
  case hw => exact ⟨[.list [.int 3, .int 1]], by decide +kernel, by decide +kernel⟩
  intro w s₀ s₁ mg mb G Y fa o pm cd doc dV kV ho hd hcd hD hmg hg args vals as hpre hlay hrd hwl hlo
  wrow_args hpre hlay hrd hwl hlo
  refine wpAny_mono (Mine.law_fin G Y hg hmg (by assumption) (by assumption) (by (first | lia | omega))) (fun v s' ⟨hv, hold, hos, hgs⟩ => ?_) (fun _ _ h => h.elim)
  subst hv
  exact ⟨.inl ⟨.bool true, .bool true, [], rfl, fun cls => rfl, .bool true, (by wrow_post), fun _ => ⟨List.nodup_nil, fun a h => nomatch h⟩⟩, hold, hos, hgs⟩
