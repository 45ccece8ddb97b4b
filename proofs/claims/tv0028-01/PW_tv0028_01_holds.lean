import PyProof.Rows.All
import Wide.All
import OpenK.AllK
import Wide.FinOn
import PySem.Challenge.RW_tv0028_01
set_option Elab.async false

section
open PySem PySem.W PyProof.Rows
set_option linter.all false
set_option maxRecDepth 100000
namespace Mine

/-- the parts of the text's def at place i -/
def fb (i : Nat) : List Stmt := match PySem.Challenge.pw_tv0028_01.main.body[i]? with
  | some (.FunctionDef _ _ b _ _ _ _ _ _ _) => b
  | _ => []
def fs (i : Nat) : Scope := match PySem.Challenge.pw_tv0028_01.main.body[i]? with
  | some (.FunctionDef _ _ _ _ _ _ s _ _ _) => s
  | _ => default
def fp (i : Nat) : Arguments := match PySem.Challenge.pw_tv0028_01.main.body[i]? with
  | some (.FunctionDef _ a _ _ _ _ _ _ _ _) => a
  | _ => default
def fn (i : Nat) : Str := match PySem.Challenge.pw_tv0028_01.main.body[i]? with
  | some (.FunctionDef n _ _ _ _ _ _ _ _ _) => n
  | _ => default

abbrev Gr (h h' : Heap) : Prop := ∀ (b : Addr) (o : Obj), h.get? b = some o → h'.get? b = some o

theorem Gr.refl (h : Heap) : Gr h h := fun _ _ e => e
theorem Gr.trans {h h' h'' : Heap} (a : Gr h h') (b : Gr h' h'') : Gr h h'' := fun x o e => b x o (a x o e)

theorem kp_refl (s : Shared) : Keeps s s := ⟨s.heap, s.toks, rfl, fun _ _ e => e⟩
theorem kp_trans {s s' s'' : Shared} (a : Keeps s s') (b : Keeps s' s'') : Keeps s s'' := by
  obtain ⟨h, tk, rfl, k⟩ := a
  obtain ⟨h', tk', rfl, k'⟩ := b
  exact ⟨h', tk', rfl, fun x o e => k' x o (k x o e)⟩
theorem kp_gr {s s' : Shared} (a : Keeps s s') : Gr s.heap s'.heap := by
  obtain ⟨h, tk, rfl, k⟩ := a
  exact k
theorem kp_mk {s : Shared} {h' : Heap} {tk : Nat} (k : Gr s.heap h') : Keeps s { s with heap := h', toks := tk } := ⟨h', tk, rfl, k⟩
theorem kp_tok {s : Shared} {tk : Nat} : Keeps s { s with toks := tk } := ⟨s.heap, tk, rfl, fun _ _ e => e⟩
theorem kp_push {s : Shared} {o : Obj} : Keeps s { s with heap := s.heap.push o } := ⟨s.heap.push o, s.toks, rfl, fun _ _ e => Heap.get?_push_of_some _ e⟩

/-- the lists among as are plain -/
def PlAll (h : Heap) (as : List Addr) : Prop := ∀ a ∈ as, ∃ items n, h.get? a = some (seqObj "list" items n)
theorem PlAll.gr {h h' : Heap} {as : List Addr} (x : PlAll h as) (k : Gr h h') : PlAll h' as := fun a m => let ⟨i, n, e⟩ := x a m; ⟨i, n, k _ _ e⟩
mutual
/-- no dict within -/
def nd : PyData → Bool
  | .list xs => nds xs
  | .tuple xs => nds xs
  | .dict _ => false
  | _ => true
def nds : List PyData → Bool
  | [] => true
  | x :: xs => nd x && nds xs
end
/-- value v reads as the datum d, its lists plain -/
def Rd (h : Heap) (v : Value) (d : PyData) : Prop := ∃ as, Reads h v d as ∧ PlAll h as ∧ nd d = true
def RdA (h : Heap) (vs : List Value) (ds : List PyData) : Prop := ∃ as, ReadsAll h vs ds as ∧ PlAll h as ∧ nds ds = true

theorem Rd.gr {h h' : Heap} {v : Value} {d : PyData} (r : Rd h v d) (k : Gr h h') : Rd h' v d := let ⟨as, x, p, q⟩ := r; ⟨as, Reads.keeps k x, p.gr k, q⟩
theorem RdA.gr {h h' : Heap} {vs : List Value} {ds : List PyData} (r : RdA h vs ds) (k : Gr h h') : RdA h' vs ds := let ⟨as, x, p, q⟩ := r; ⟨as, ReadsAll.keeps k x, p.gr k, q⟩
theorem PlAll.nil {h : Heap} : PlAll h [] := fun _ m => nomatch m
theorem RdA.nil {h : Heap} : RdA h [] [] := ⟨_, .nil, PlAll.nil, rfl⟩
theorem RdA.cons {h : Heap} {v : Value} {vs : List Value} {d : PyData} {ds : List PyData} (a : Rd h v d) (b : RdA h vs ds) : RdA h (v :: vs) (d :: ds) :=
  let ⟨_, x, p, n1⟩ := a; let ⟨_, y, q, n2⟩ := b; ⟨_, .cons x y, fun a m => (List.mem_append.mp m).elim (p a) (q a), by rw [nds, n1, n2]; rfl⟩
theorem RdA.inv {h : Heap} {v : Value} {vs : List Value} {d : PyData} {ds : List PyData} (a : RdA h (v :: vs) (d :: ds)) : Rd h v d ∧ RdA h vs ds := by
  obtain ⟨as, x, p, q⟩ := a
  rw [nds, Bool.and_eq_true] at q
  cases x with
  | cons x y => exact ⟨⟨_, x, fun a m => p a (List.mem_append_left _ m), q.1⟩, ⟨_, y, fun a m => p a (List.mem_append_right _ m), q.2⟩⟩
theorem RdA.no1 {h : Heap} {d : PyData} {ds : List PyData} (x : RdA h [] (d :: ds)) : False := by obtain ⟨_, x, _⟩ := x; cases x
theorem RdA.no2 {h : Heap} {v : Value} {vs : List Value} (x : RdA h (v :: vs) []) : False := by obtain ⟨_, x, _⟩ := x; cases x
theorem RdA.len {h : Heap} : ∀ {vs : List Value} {ds : List PyData}, RdA h vs ds → vs.length = ds.length
  | [], [], _ => rfl
  | [], _ :: _, x => x.no1.elim
  | _ :: _, [], x => x.no2.elim
  | _ :: _, _ :: _, x => by simp [RdA.len x.inv.2]
theorem RdA.get {h : Heap} : ∀ {vs : List Value} {ds : List PyData} {i : Nat} {d : PyData}, RdA h vs ds → ds[i]? = some d → ∃ v, vs[i]? = some v ∧ Rd h v d
  | [], [], _, _, _, e => by simp at e
  | [], _ :: _, _, _, x, _ => x.no1.elim
  | _ :: _, [], _, _, x, _ => x.no2.elim
  | v :: _, e :: _, 0, d, x, q => by simp at q; subst q; exact ⟨v, rfl, x.inv.1⟩
  | _ :: _, _ :: _, i + 1, d, x, q => by simpa using RdA.get x.inv.2 (by simpa using q)
theorem RdA.get' {h : Heap} : ∀ {vs : List Value} {ds : List PyData} {i : Nat} {v : Value}, RdA h vs ds → vs[i]? = some v → ∃ d, ds[i]? = some d ∧ Rd h v d
  | [], [], _, _, _, e => by simp at e
  | [], _ :: _, _, _, x, _ => x.no1.elim
  | _ :: _, [], _, _, x, _ => x.no2.elim
  | v :: _, e :: _, 0, d, x, q => by simp at q; subst q; exact ⟨e, rfl, x.inv.1⟩
  | _ :: _, _ :: _, i + 1, d, x, q => by simpa using RdA.get' x.inv.2 (by simpa using q)
theorem RdA.of {h : Heap} : ∀ {vs : List Value} {ds : List PyData}, vs.length = ds.length → (∀ (i : Nat) v d, vs[i]? = some v → ds[i]? = some d → Rd h v d) → RdA h vs ds
  | [], [], _, _ => .nil
  | [], _ :: _, e, _ => by simp at e
  | _ :: _, [], e, _ => by simp at e
  | _ :: _, _ :: _, e, k => .cons (k 0 _ _ rfl rfl) (RdA.of (by simpa using e) fun i v d a b => k (i + 1) v d (by simpa using a) (by simpa using b))
theorem RdA.append {h : Heap} : ∀ {vs ws : List Value} {ds es : List PyData}, RdA h vs ds → RdA h ws es → RdA h (vs ++ ws) (ds ++ es)
  | [], _, [], _, _, b => b
  | [], _, _ :: _, _, x, _ => x.no1.elim
  | _ :: _, _, [], _, x, _ => x.no2.elim
  | _ :: _, _, _ :: _, _, a, b => .cons a.inv.1 (RdA.append a.inv.2 b)
theorem RdA.drop {h : Heap} : ∀ {vs : List Value} {ds : List PyData} (n : Nat), RdA h vs ds → RdA h (vs.drop n) (ds.drop n)
  | _, _, 0, a => a
  | [], [], _ + 1, a => a
  | [], _ :: _, _, x => x.no1.elim
  | _ :: _, [], _, x => x.no2.elim
  | _ :: _, _ :: _, n + 1, a => RdA.drop n a.inv.2
theorem RdA.take {h : Heap} : ∀ {vs : List Value} {ds : List PyData} (n : Nat), RdA h vs ds → RdA h (vs.take n) (ds.take n)
  | _, _, 0, _ => by simpa using RdA.nil
  | [], [], _ + 1, a => a
  | [], _ :: _, _, x => x.no1.elim
  | _ :: _, [], _, x => x.no2.elim
  | _ :: _, _ :: _, n + 1, a => .cons a.inv.1 (RdA.take n a.inv.2)

theorem Rd.int {h : Heap} {i : Int} {t : Tok} : Rd h (.int i t) (.int i) := ⟨_, .int i t, PlAll.nil, rfl⟩
theorem Rd.str {h : Heap} {x : Str} {t : Tok} : Rd h (.str x t) (.str x) := ⟨_, .str x t, PlAll.nil, rfl⟩
theorem Rd.bool {h : Heap} {b : Bool} : Rd h (.bool b) (.bool b) := ⟨_, .bool b, PlAll.nil, rfl⟩
theorem Rd.none {h : Heap} : Rd h .none .none := ⟨_, .none, PlAll.nil, rfl⟩
abbrev PlL (h : Heap) (a : Addr) (vs : List Value) : Prop := ∃ n, h.get? a = some (seqObj "list" vs.toArray n)
theorem PlL.isList {h : Heap} {a : Addr} {vs : List Value} (x : PlL h a vs) : h.IsList a vs.toArray := let ⟨n, e⟩ := x; ⟨_, e, rfl, n, rfl⟩
theorem PlL.gr {h h' : Heap} {a : Addr} {vs : List Value} (x : PlL h a vs) (k : Gr h h') : PlL h' a vs := let ⟨n, e⟩ := x; ⟨n, k _ _ e⟩
theorem Rd.list {h : Heap} {a : Addr} {vs : List Value} {ds : List PyData} (l : PlL h a vs) (r : RdA h vs ds) : Rd h (.ref a) (.list ds) := by
  obtain ⟨n, ho⟩ := l
  obtain ⟨as, x, p, q⟩ := r
  exact ⟨_, reads_list_at ho rfl rfl x, fun b m => by
    rcases List.mem_cons.mp m with rfl | m
    · exact ⟨_, _, ho⟩
    · exact p b m, by rw [nd, q]⟩
theorem Rd.tuple {h : Heap} {a : Addr} {vs : List Value} {ds : List PyData} (l : IsTup h a vs.toArray) (r : RdA h vs ds) : Rd h (.ref a) (.tuple ds) := by
  obtain ⟨o, ho, hc, n, hd⟩ := l
  obtain ⟨as, x, p, q⟩ := r
  exact ⟨_, reads_tuple_at ho hc hd x, p, by rw [nd, q]⟩
theorem Rd.int_inv {h : Heap} {v : Value} {i : Int} (r : Rd h v (.int i)) : ∃ t, v = .int i t := by obtain ⟨_, x, _⟩ := r; cases x; exact ⟨_, rfl⟩
theorem Rd.str_inv {h : Heap} {v : Value} {i : Str} (r : Rd h v (.str i)) : ∃ t, v = .str i t := by obtain ⟨_, x, _⟩ := r; cases x; exact ⟨_, rfl⟩
theorem Rd.bool_inv {h : Heap} {v : Value} {i : Bool} (r : Rd h v (.bool i)) : v = .bool i := by obtain ⟨_, x, _⟩ := r; cases x; rfl
theorem Rd.none_inv {h : Heap} {v : Value} (r : Rd h v .none) : v = .none := by obtain ⟨_, x, _⟩ := r; cases x; rfl
theorem Rd.list_inv {h : Heap} {v : Value} {ds : List PyData} (r : Rd h v (.list ds)) : ∃ a vs, v = .ref a ∧ PlL h a vs ∧ RdA h vs ds := by
  obtain ⟨_, x, p, q⟩ := r
  rw [nd] at q
  obtain ⟨a, l, bs, e, rfl, hl, hr⟩ := reads_list_items x
  obtain ⟨items, n, g⟩ := p a (.head _)
  obtain ⟨o, ho, hc, k, hd⟩ := hl
  rw [g] at ho
  cases ho
  cases hd
  exact ⟨a, l, e, ⟨_, g⟩, ⟨_, hr, fun b m => p b (.tail _ m), q⟩⟩
theorem Rd.tuple_inv {h : Heap} {v : Value} {ds : List PyData} (r : Rd h v (.tuple ds)) : ∃ a vs, v = .ref a ∧ IsTup h a vs.toArray ∧ RdA h vs ds := by
  obtain ⟨_, x, p, q⟩ := r
  rw [nd] at q
  obtain ⟨a, l, e, hl, hr⟩ := reads_tuple_items x
  exact ⟨a, l, e, hl, ⟨_, hr, p, q⟩⟩
/-- the lists as, and every tuple, stand as they stood -/
theorem reads_but {h h' : Heap} {v : Value} {d : PyData} {as : List Addr} (x : Reads h v d as) (k : ∀ b o, (∃ xs n, o.data = .seq xs n) → (b ∈ as ∨ o.cls = .type "tuple") → h.get? b = some o → h'.get? b = some o) : nd d = true → Reads h' v d as := by
  intro c
  induction x using Reads.rec (motive_2 := fun vs ds as _ => (∀ b o, (∃ xs n, o.data = .seq xs n) → (b ∈ as ∨ o.cls = .type "tuple") → h.get? b = some o → h'.get? b = some o) → nds ds = true → ReadsAll h' vs ds as) with
  | none => exact .none
  | bool b => exact .bool b
  | int i t => exact .int i t
  | str y t => exact .str y t
  | list h1 h2 h3 _ ih => exact .list (k _ _ ⟨_, _, h3⟩ (.inl (.head _)) h1) h2 h3 (ih (fun b o p q => k b o p (q.imp (.tail _) id)) (by rwa [nd] at c))
  | tuple h1 h2 h3 _ ih => exact .tuple (k _ _ ⟨_, _, h3⟩ (.inr h2) h1) h2 h3 (ih k (by rwa [nd] at c))
  | dict => simp [nd] at c
  | nil => exact .nil
  | cons _ _ ih1 ih2 =>
    rename_i k2 c
    simp only [nds, Bool.and_eq_true] at c
    exact .cons (ih1 (fun b o p q => k2 b o p (q.imp (List.mem_append_left _) id)) c.1) (ih2 (fun b o p q => k2 b o p (q.imp (List.mem_append_right _) id)) c.2)
/-- what does not lie in a changed object reads as before -/
theorem Rd.but {h h' : Heap} {v : Value} {d : PyData} (r : Rd h v d) (k : ∀ b o, (∃ xs n, o.data = .seq xs n) → h.get? b = some o → h'.get? b = some o) : Rd h' v d := by
  obtain ⟨as, x, p, q⟩ := r
  exact ⟨as, reads_but x (fun b o a _ e => k b o a e) q, fun a m => let ⟨i, n, e⟩ := p a m; ⟨i, n, k _ _ ⟨_, _, rfl⟩ e⟩, q⟩
theorem RdA.but {h h' : Heap} : ∀ {vs : List Value} {ds : List PyData}, RdA h vs ds → (∀ b o, (∃ xs n, o.data = .seq xs n) → h.get? b = some o → h'.get? b = some o) → RdA h' vs ds
  | [], [], _, _ => .nil
  | [], _ :: _, x, _ => x.no1.elim
  | _ :: _, [], x, _ => x.no2.elim
  | _ :: _, _ :: _, x, k => .cons (x.inv.1.but k) (RdA.but x.inv.2 k)

/-- as Rd, all its lists made behind h₀ -/
def RdF (h₀ h : Heap) (v : Value) (d : PyData) : Prop := ∃ as, Reads h v d as ∧ PlAll h as ∧ nd d = true ∧ ∀ a ∈ as, h₀.get? a = none
def RdAF (h₀ h : Heap) (vs : List Value) (ds : List PyData) : Prop := ∃ as, ReadsAll h vs ds as ∧ PlAll h as ∧ nds ds = true ∧ ∀ a ∈ as, h₀.get? a = none
theorem RdF.rd {h₀ h : Heap} {v : Value} {d : PyData} (x : RdF h₀ h v d) : Rd h v d := let ⟨as, a, b, c, _⟩ := x; ⟨as, a, b, c⟩
theorem RdAF.rd {h₀ h : Heap} {vs : List Value} {ds : List PyData} (x : RdAF h₀ h vs ds) : RdA h vs ds := let ⟨as, a, b, c, _⟩ := x; ⟨as, a, b, c⟩
theorem RdAF.nil {h₀ h : Heap} : RdAF h₀ h [] [] := ⟨_, .nil, PlAll.nil, rfl, fun _ m => nomatch m⟩
theorem readsAll_snoc {h : Heap} {v : Value} {d : PyData} {bs : List Addr} (y : Reads h v d bs) : ∀ {vs : List Value} {ds : List PyData} {as : List Addr}, ReadsAll h vs ds as → ReadsAll h (vs ++ [v]) (ds ++ [d]) (as ++ bs)
  | _, _, _, .nil => by simpa using ReadsAll.cons y .nil
  | _, _, _, .cons x r => by
    have := ReadsAll.cons x (readsAll_snoc y r)
    simpa [List.append_assoc] using this
theorem nds_append : ∀ (a b : List PyData), nds (a ++ b) = (nds a && nds b)
  | [], b => by simp [nds]
  | x :: a, b => by simp [nds, nds_append a b, Bool.and_assoc]
theorem RdAF.snoc {h₀ h : Heap} {vs : List Value} {ds : List PyData} {v : Value} {d : PyData} (x : RdAF h₀ h vs ds) (y : RdF h₀ h v d) : RdAF h₀ h (vs ++ [v]) (ds ++ [d]) := by
  obtain ⟨as, a1, a2, a3, a4⟩ := x
  obtain ⟨bs, b1, b2, b3, b4⟩ := y
  refine ⟨as ++ bs, readsAll_snoc b1 a1, fun a m => (List.mem_append.mp m).elim (a2 a) (b2 a), ?_, fun a m => (List.mem_append.mp m).elim (a4 a) (b4 a)⟩
  rw [nds_append, a3]; simp [nds, b3]
theorem readsAll_but {h h' : Heap} : ∀ {vs : List Value} {ds : List PyData} {as : List Addr}, ReadsAll h vs ds as → (∀ b o, (∃ xs n, o.data = .seq xs n) → (b ∈ as ∨ o.cls = .type "tuple") → h.get? b = some o → h'.get? b = some o) → nds ds = true → ReadsAll h' vs ds as
  | _, _, _, .nil, _, _ => .nil
  | _, _, _, .cons r t, k, q => by
    simp only [nds, Bool.and_eq_true] at q
    exact .cons (reads_but r (fun b o c d e => k b o c (d.imp (List.mem_append_left _) id) e) q.1) (readsAll_but t (fun b o c d e => k b o c (d.imp (List.mem_append_right _) id) e) q.2)
/-- a change of objects that stood in h₀, none of them a tuple, leaves it -/
theorem RdAF.but {h₀ h h' : Heap} {vs : List Value} {ds : List PyData} (x : RdAF h₀ h vs ds) (k : ∀ b o, (h₀.get? b = none ∨ o.cls = .type "tuple") → h.get? b = some o → h'.get? b = some o) : RdAF h₀ h' vs ds := by
  obtain ⟨as, a1, a2, a3, a4⟩ := x
  exact ⟨as, readsAll_but a1 (fun b o _ q e => k b o (q.imp (a4 b) id) e) a3, fun a m => let ⟨i, n, e⟩ := a2 a m; ⟨i, n, k _ _ (.inl (a4 a m)) e⟩, a3, a4⟩
/-- scalars -/
def scal : PyData → Bool
  | .none | .bool _ | .int _ | .str _ => true
  | _ => false
theorem Rd.fresh {h₀ h : Heap} {v : Value} {d : PyData} (r : Rd h v d) (s : scal d = true) : RdF h₀ h v d := by
  obtain ⟨as, x, p, q⟩ := r
  cases d with
  | none => cases x; exact ⟨_, .none, p, q, fun _ m => nomatch m⟩
  | bool b => cases x; exact ⟨_, .bool b, p, q, fun _ m => nomatch m⟩
  | int i => cases x; exact ⟨_, .int i _, p, q, fun _ m => nomatch m⟩
  | str y => cases x; exact ⟨_, .str y _, p, q, fun _ m => nomatch m⟩
  | _ => simp [scal] at s

/-- how much room is left -/
structure Ok (n : Nat) (A : Around) : Prop where
  handled : A.handled = none
  units : A.units + 100 * n < cLine
  depth : A.depth + n < recursionLimit
theorem Ok.less {n m : Nat} {A : Around} (x : Ok n A) (h : m ≤ n) : Ok m A := ⟨x.handled, by have := x.units; omega, by have := x.depth; omega⟩
theorem Ok.in1 {n : Nat} {A : Around} (x : Ok (n + 1) A) : Ok n A.in1 := ⟨x.handled, by have := x.units; simp only [Around.in1_units]; omega, by have := x.depth; simp only [Around.in1_depth]; omega⟩
theorem Ok.deeper {n : Nat} {A : Around} (env : Env) (x : Ok (n + 1) A) : Ok n (A.deeper env) :=
  ⟨x.handled, by have := x.units; simp only [Around.deeper_units]; omega, by have := x.depth; show A.depth + 1 + n < _; omega⟩
theorem Ok.u {n : Nat} {A : Around} (x : Ok n A) : A.units < cLine := by have := x.units; omega
theorem Ok.d {n : Nat} {A : Around} (x : Ok n A) : A.depth < recursionLimit := by have := x.depth; omega

/-- a name of a frame that bears a value -/
def NameIs (env : Env) (h : Heap) (n : Str) (v : Value) : Prop :=
  (env.kindOf n = some .local ∧ ∃ m, h.Ns env.locals m ∧ m n = some v) ∨ (env.kindOf n = some .cell ∧ ∃ c, env.cells.lookup n = some c ∧ h.IsCell c (some v))
theorem NameIs.gr {env : Env} {h h' : Heap} {n : Str} {v : Value} (x : NameIs env h n v) (k : Gr h h') : NameIs env h' n v := by
  rcases x with ⟨a, m, b, c⟩ | ⟨a, c, b, d⟩
  · exact .inl ⟨a, m, b.keeps k, c⟩
  · exact .inr ⟨a, c, b, d.keeps k⟩

abbrev Gam := List (Str × PyData)
def Has (env : Env) (G : Gam) (h : Heap) : Prop := ∀ n d, G.lookup n = some d → ∃ v, NameIs env h n v ∧ Rd h v d
theorem Has.gr {env : Env} {G : Gam} {h h' : Heap} (x : Has env G h) (k : Gr h h') : Has env G h' := fun n d e => let ⟨v, a, b⟩ := x n d e; ⟨v, a.gr k, b.gr k⟩

def IsFn (h : Heap) (a : Addr) (i : Nat) : Prop := ∃ o pm code doc, h.get? a = some o ∧ o.data = .func (Calls.docDef (fn i) (fp i) (fb i) (fs i) pm code doc) ∧ h.CodeRec code (fn i)
theorem IsFn.gr {h h' : Heap} {a : Addr} {i : Nat} (x : IsFn h a i) (k : Gr h h') : IsFn h' a i := let ⟨o, pm, c, d, e1, e2, e3⟩ := x; ⟨o, pm, c, d, k _ _ e1, e2, e3.keeps k⟩

def bl : List (Str × Value) := [("len", .builtin "len"), ("range", .type "range"), ("sum", .builtin "sum"), ("enumerate", .type "enumerate"), ("min", .builtin "min"), ("max", .builtin "max"),
  ("isinstance", .builtin "isinstance"), ("bool", .type "bool"), ("sorted", .builtin "sorted"), ("IndexError", .type "IndexError")]
def patCode : Array Nat := #[14, 8, 1, 2, 4294967295, 1, 1, 46, 0, 16, 46, 24, 9, 1, 4294967295, 13, 4, 8, 0, 0, 1, 6, 5, 1]
/-- what stands at the pattern's address -/
def IsPat (h : Heap) (a : Addr) : Prop := ∃ fs sl T o n, h.get? a = some ⟨.type "re.Pattern", none, .fields fs, sl⟩ ∧ Builtin.Re.reRawNat (fs.getD 2 .none) = 0 ∧ Builtin.Re.reRawNat (fs.getD 6 .none) = 0 ∧
  fs.getD 5 .none = .ref T ∧ h.get? T = some o ∧ ∃ ws, o.data = .seq ws n ∧ (ws.map Builtin.Re.reRawOf).map (·.toNat) = patCode
theorem IsPat.gr {h h' : Heap} {a : Addr} (x : IsPat h a) (k : Gr h h') : IsPat h' a :=
  let ⟨fs, sl, T, o, n, a1, a2, a3, a4, a5, a6⟩ := x; ⟨fs, sl, T, o, n, k _ _ a1, a2, a3, a4, k _ _ a5, a6⟩

/-- what stands at the text's top, as far as the call asks -/
structure Base (h : Heap) : Prop where
  nolim : h.NoLimit
  ns : ∃ mg mb, h.Ns mainGlobals mg ∧ h.Ns builtinsNs mb ∧ (∀ n v, bl.lookup n = some v → mg n = none ∧ mb n = some v) ∧
    (∀ i ∈ [3, 4, 5, 6, 8, 9, 11, 12], ∃ a, mg (fn i) = some (.ref a) ∧ IsFn h a i) ∧ ∃ a, mg "IPV4_RE" = some (.ref a) ∧ IsPat h a
theorem Base.gr {h h' : Heap} (x : Base h) (k : Gr h h') : Base h' := by
  obtain ⟨l, mg, mb, a, b, c, d, ap, e, f⟩ := x
  exact ⟨l.keeps k, mg, mb, a.keeps k, b.keeps k, c, fun i hi => let ⟨q, r, t⟩ := d i hi; ⟨q, r, t.gr k⟩, ap, e, f.gr k⟩

structure Cx (env : Env) (G : Gam) (h : Heap) : Prop where
  base : Base h
  has : Has env G h
theorem Cx.gr {env : Env} {G : Gam} {h h' : Heap} (x : Cx env G h) (k : Gr h h') : Cx env G h' := ⟨x.base.gr k, x.has.gr k⟩

/-- env is a function's own -/
structure FEnv (env : Env) : Prop where
  kind : env.scope.kind = .function
  globals : env.globals = mainGlobals
  builtins : env.builtins = builtinsNs

section
variable {prog : Program} {w : World} {A : Around} {env : Env} {G : Gam}

/-- tree t, from wherever I holds, hands on a value that R speaks of, and only grows the heap -/
def Tr {α : Type} (prog : Program) (w : World) (A : Around) (I : Heap → Prop) (t : Sem α) (R : Heap → α → Prop) : Prop :=
  ∀ (s : Shared) (E : Value → Shared → Prop), I s.heap → wpAny (model prog w) A t (fun a s' => R s'.heap a ∧ Keeps s s') E s

abbrev Ev (prog : Program) (w : World) (A : Around) (env : Env) (G : Gam) (e : Expr) (d : PyData) : Prop :=
  Tr prog w A (Cx env G) (eval e env) (fun h v => Rd h v d)
abbrev Tst (prog : Program) (w : World) (A : Around) (env : Env) (G : Gam) (e : Expr) (b : Bool) : Prop :=
  Tr prog w A (Cx env G) (isTrue e env (eval e env)) (fun _ c => c = b)
abbrev EvV (prog : Program) (w : World) (A : Around) (env : Env) (G : Gam) (e : Expr) (R : Heap → Value → Prop) : Prop :=
  Tr prog w A (Cx env G) (eval e env) R

theorem Tr.use {α : Type} {I : Heap → Prop} {t : Sem α} {R : Heap → α → Prop} {s : Shared} {Q : α → Shared → Prop} {E : Value → Shared → Prop} (x : Tr prog w A I t R) (i : I s.heap)
    (k : ∀ a s', R s'.heap a → Keeps s s' → Q a s') : wpAny (model prog w) A t Q E s := wpAny_mono (x s E i) (fun a s' h => k a s' h.1 h.2) fun _ _ e => e

theorem ev_name {n : Str} {pos : Pos} {d : PyData} (e : FEnv env) (hn : G.lookup n = some d) (hd : (n == ("__debug__" : Str)) = false := by decide) : Ev prog w A env G (.Name n pos) d := by
  intro s E c
  obtain ⟨v, hv, hr⟩ := c.has n d hn
  rcases hv with ⟨a, m, b, q⟩ | ⟨a, m, b, q⟩
  · exact wpAny_Name (wpAny_loadName_local e.kind a b q ⟨hr, kp_refl s⟩) hd
  · exact wpAny_Name (wpAny_loadName_cell e.kind a b q ⟨hr, kp_refl s⟩) hd

theorem ev_builtin {n : Str} {pos : Pos} {v : Value} (e : FEnv env) (hk : env.kindOf n = some .globalImplicit) (hn : bl.lookup n = some v) (hd : (n == ("__debug__" : Str)) = false := by decide) :
    EvV prog w A env G (.Name n pos) (fun _ u => u = v) := by
  intro s E c
  obtain ⟨mg, mb, g, b, q, _⟩ := c.base.ns
  obtain ⟨q1, q2⟩ := q n v hn
  exact Calls.Name_function_global e.kind hk (Calls.loadGlobal_builtin (e.globals ▸ g) q1 (e.builtins ▸ b) q2 ⟨rfl, kp_refl s⟩) hd

theorem ev_fn {n : Str} {pos : Pos} (i : Nat) (e : FEnv env) (hk : env.kindOf n = some .globalImplicit) (hi : i ∈ [3, 4, 5, 6, 8, 9, 11, 12]) (hn : n = fn i) (hd : (n == ("__debug__" : Str)) = false := by decide) :
    EvV prog w A env G (.Name n pos) (fun h u => ∃ a, u = .ref a ∧ IsFn h a i) := by
  intro s E c
  obtain ⟨mg, mb, g, b, _, q, _⟩ := c.base.ns
  obtain ⟨a, q1, q2⟩ := q i hi
  subst hn
  exact Calls.Name_function_global e.kind hk (Calls.loadGlobal_global (e.globals ▸ g) q1 ⟨⟨a, rfl, q2⟩, kp_refl s⟩) hd

theorem ev_pat {n : Str} {pos : Pos} (e : FEnv env) (hk : env.kindOf n = some .globalImplicit) (hn : n = "IPV4_RE") (hd : (n == ("__debug__" : Str)) = false := by decide) :
    EvV prog w A env G (.Name n pos) (fun h u => ∃ a, u = .ref a ∧ IsPat h a) := by
  intro s E c
  obtain ⟨mg, mb, g, b, _, _, a, q1, q2⟩ := c.base.ns
  subst hn
  exact Calls.Name_function_global e.kind hk (Calls.loadGlobal_global (e.globals ▸ g) q1 ⟨⟨a, rfl, q2⟩, kp_refl s⟩) hd

theorem ev_int {i : Int} {k pos} : Ev prog w A env G (.Constant (.int i) k pos) (.int i) := fun _ _ _ => wpAny_Constant_int ⟨.int, kp_tok⟩
end
end Mine
end

section
open PySem PySem.W PyProof.Rows
set_option linter.all false
set_option maxRecDepth 100000
namespace Mine
section
variable {prog : Program} {w : World} {A : Around} {env : Env} {G : Gam}

theorem ev_str {x : Str} {k pos} : Ev prog w A env G (.Constant (.str x) k pos) (.str x) := fun _ _ _ => wpAny_Constant_str ⟨.str, kp_tok⟩
theorem ev_bool {b : Bool} {k pos} : Ev prog w A env G (.Constant (.bool b) k pos) (.bool b) := fun s _ _ => wpAny_Constant_bool ⟨.bool, kp_refl s⟩
theorem ev_none {k pos} : Ev prog w A env G (.Constant .none k pos) .none := fun s _ _ => wpAny_Constant_none ⟨.none, kp_refl s⟩

abbrev Op1 (prog : Program) (w : World) (A : Around) (f : Value → Sem Value) (d1 d : PyData) : Prop :=
  ∀ (v1 : Value) (s : Shared) (E : Value → Shared → Prop), Rd s.heap v1 d1 → wpAny (model prog w) A (f v1) (fun v s' => Rd s'.heap v d ∧ Keeps s s') E s
abbrev Op2 (prog : Program) (w : World) (A : Around) (f : Value → Value → Sem Value) (d1 d2 d : PyData) : Prop :=
  ∀ (v1 v2 : Value) (s : Shared) (E : Value → Shared → Prop), Rd s.heap v1 d1 → Rd s.heap v2 d2 → wpAny (model prog w) A (f v1 v2) (fun v s' => Rd s'.heap v d ∧ Keeps s s') E s
abbrev TrOf (prog : Program) (w : World) (A : Around) (v1 : PyData) (b : Bool) : Prop :=
  ∀ (v : Value) (s : Shared) (E : Value → Shared → Prop), Rd s.heap v v1 → wpAny (model prog w) A (truthy v) (fun c s' => c = b ∧ Keeps s s') E s

/-- two values one behind the other -/
theorem two {e1 e2 : Expr} {R1 R2 : Heap → Value → Prop} {t : Value → Value → Sem α} {Q : α → Shared → Prop} {s : Shared} {E : Value → Shared → Prop}
    (a : EvV prog w A env G e1 R1) (b : EvV prog w A env G e2 R2) (m1 : ∀ h h' v, R1 h v → Gr h h' → R1 h' v) (c : Cx env G s.heap)
    (k : ∀ v1 v2 s', R1 s'.heap v1 → R2 s'.heap v2 → Keeps s s' → wpAny (model prog w) A (t v1 v2) Q E s') :
    wpAny (model prog w) A (eval e1 env) (fun v1 s1 => wpAny (model prog w) A (eval e2 env) (fun v2 s2 => wpAny (model prog w) A (t v1 v2) Q E s2) E s1) E s :=
  a.use c fun v1 s1 h1 k1 => b.use (c.gr (kp_gr k1)) fun v2 s2 h2 k2 => k v1 v2 s2 (m1 _ _ _ h1 (kp_gr k2)) h2 (kp_trans k1 k2)

theorem back {α : Type} {t : Sem α} {R : Heap → α → Prop} {s₀ s : Shared} {E : Value → Shared → Prop} (k : Keeps s₀ s) (h : wpAny (model prog w) A t (fun v s' => R s'.heap v ∧ Keeps s s') E s) :
    wpAny (model prog w) A t (fun v s' => R s'.heap v ∧ Keeps s₀ s') E s := wpAny_mono h (fun _ _ x => ⟨x.1, kp_trans k x.2⟩) fun _ _ e => e

theorem ev_bin {l r : Expr} {op : Operator} {pos : Pos} {d1 d2 d : PyData} (a : Ev prog w A env G l d1) (b : Ev prog w A env G r d2) (f : Op2 prog w A (binaryOp op) d1 d2 d) :
    Ev prog w A env G (.BinOp l op r pos) d := fun s E c =>
  wpAny_BinOp (two a b (fun _ _ _ h k => h.gr k) c fun v1 v2 s' h1 h2 k => back (R := fun h v => Rd h v d) k (f v1 v2 s' E h1 h2))
theorem ev_cmp {l r : Expr} {op : CmpOp} {pos : Pos} {d1 d2 d : PyData} (a : Ev prog w A env G l d1) (b : Ev prog w A env G r d2) (f : Op2 prog w A (compareOp op) d1 d2 d)
    (hm : behindInMarks op r = false := by rfl) : Ev prog w A env G (.Compare l [op] [r] pos) d := fun s E c =>
  wpAny_Compare1 (two a b (fun _ _ _ h k => h.gr k) c fun v1 v2 s' h1 h2 k => back (R := fun h v => Rd h v d) k (f v1 v2 s' E h1 h2)) hm
theorem ev_un {x : Expr} {op : UnaryOp} {pos : Pos} {d1 d : PyData} (a : Ev prog w A env G x d1) (f : Op1 prog w A (unaryOp op) d1 d) : Ev prog w A env G (.UnaryOp op x pos) d := fun s E c =>
  wpAny_UnaryOp (a.use c fun v s1 h k => back (R := fun h v => Rd h v d) k (f v s1 E h))

theorem tr_bool {b : Bool} : TrOf prog w A (.bool b) b := fun v s E h => by rw [h.bool_inv]; exact wpAny_truthy_bool ⟨rfl, kp_refl s⟩
theorem tr_int {i : Int} : TrOf prog w A (.int i) (i != 0) := fun v s E h => by obtain ⟨t, rfl⟩ := h.int_inv; exact PySem.P.truthy_int ⟨rfl, kp_refl s⟩
theorem tr_none : TrOf prog w A .none false := fun v s E h => by rw [h.none_inv]; exact truthy_none ⟨rfl, kp_refl s⟩

theorem tst_cmp {l r : Expr} {op : CmpOp} {pos : Pos} {d1 d2 : PyData} {b : Bool} (a : Ev prog w A env G l d1) (a2 : Ev prog w A env G r d2) (f : Op2 prog w A (compareOp op) d1 d2 (.bool b))
    (hm : behindInMarks op r = false := by rfl) : Tst prog w A env G (.Compare l [op] [r] pos) b := fun s E c =>
  wpAny_isTrue_Compare1 (two (t := fun v1 v2 => compareOp op v1 v2) a a2 (fun _ _ _ h k => h.gr k) c fun v1 v2 s' h1 h2 k => wpAny_mono (f v1 v2 s' E h1 h2) (fun v s2 h => back (R := fun _ c => c = b) (kp_trans k h.2) (tr_bool v s2 E h.1)) fun _ _ e => e) hm
theorem tst_plain {e : Expr} {d : PyData} {b : Bool} (a : Ev prog w A env G e d) (t : TrOf prog w A d b) (he : isTrue e env (eval e env) = (do let v ← eval e env; standAt e.pos; holding [v] (truthy v)) := by rfl) :
    Tst prog w A env G e b := fun s E c => isTrue_plain (a.use c fun v s1 h k => back (R := fun _ c => c = b) k (t v s1 E h)) he
theorem tst_not {e : Expr} {pos : Pos} {b c : Bool} (a : Tst prog w A env G e b) (hc : c = !b := by rfl) : Tst prog w A env G (.UnaryOp .Not e pos) c := fun s E x =>
  isTrue_not (a.use x fun v s1 h k => ⟨by rw [h, hc], k⟩)
abbrev TstL (prog : Program) (w : World) (A : Around) (env : Env) (G : Gam) (op : BoolOp) (es : List Expr) (b : Bool) : Prop :=
  ∀ pos whole, Tr prog w A (Cx env G) (isTrue (.BoolOp op es pos) env whole) (fun _ c => c = b)
theorem tst_boolop {op : BoolOp} {es : List Expr} {pos : Pos} {b : Bool} (x : TstL prog w A env G op es b) : Tst prog w A env G (.BoolOp op es pos) b := x pos _
theorem tst_and0 : TstL prog w A env G .And [] true := fun _ _ s E x => isTrue_and_nil ⟨rfl, kp_refl s⟩
theorem tst_or0 : TstL prog w A env G .Or [] false := fun _ _ s E x => isTrue_or_nil ⟨rfl, kp_refl s⟩
theorem tst_and {e : Expr} {rest : List Expr} {b c d : Bool} (a : Tst prog w A env G e b) (r : b = true → TstL prog w A env G .And rest c) (hd : d = (b && c) := by rfl) :
    TstL prog w A env G .And (e :: rest) d := fun pos whole s E x => isTrue_and (a.use x fun v s1 h k => by
  subst hd h
  cases v with
  | true => exact back (R := fun _ u => u = (true && c)) k (by simpa using r rfl pos whole s1 E (x.gr (kp_gr k)))
  | false => exact ⟨rfl, k⟩)
theorem tst_or {e : Expr} {rest : List Expr} {b c d : Bool} (a : Tst prog w A env G e b) (r : b = false → TstL prog w A env G .Or rest c) (hd : d = (b || c) := by rfl) :
    TstL prog w A env G .Or (e :: rest) d := fun pos whole s E x => isTrue_or (a.use x fun v s1 h k => by
  subst hd h
  cases v with
  | true => exact ⟨rfl, k⟩
  | false => exact back (R := fun _ u => u = (false || c)) k (by simpa using r rfl pos whole s1 E (x.gr (kp_gr k))))

/-- ints -/
theorem o_add {a b : Int} : Op2 prog w A (binaryOp .Add) (.int a) (.int b) (.int (a + b)) := fun v1 v2 s E h1 h2 => by
  obtain ⟨t, rfl⟩ := h1.int_inv; obtain ⟨u, rfl⟩ := h2.int_inv; exact PyProof.Rows.add_int ⟨.int, kp_tok⟩
theorem o_sub {a b : Int} : Op2 prog w A (binaryOp .Sub) (.int a) (.int b) (.int (a - b)) := fun v1 v2 s E h1 h2 => by
  obtain ⟨t, rfl⟩ := h1.int_inv; obtain ⟨u, rfl⟩ := h2.int_inv; exact PyProof.Rows.sub_int ⟨.int, kp_tok⟩
theorem o_fdiv {a b : Int} (hb : b ≠ 0) (hp : b.natAbs < 1073741824) : Op2 prog w A (binaryOp .FloorDiv) (.int a) (.int b) (.int (a.fdiv b)) := fun v1 v2 s E h1 h2 => by
  obtain ⟨t, rfl⟩ := h1.int_inv; obtain ⟨u, rfl⟩ := h2.int_inv; exact floordiv_int hb ⟨.int, kp_tok⟩ (hp := .inl (PyProof.noPylong_small hp))
theorem o_mod {a b : Int} (hb : b ≠ 0) : Op2 prog w A (binaryOp .Mod) (.int a) (.int b) (.int (a.fmod b)) := fun v1 v2 s E h1 h2 => by
  obtain ⟨t, rfl⟩ := h1.int_inv; obtain ⟨u, rfl⟩ := h2.int_inv; exact PyProof.Rows.mod_int' hb ⟨.int, kp_tok⟩
theorem o_neg {a : Int} : Op1 prog w A (unaryOp .USub) (.int a) (.int (-a)) := fun v1 s E h1 => by
  obtain ⟨t, rfl⟩ := h1.int_inv; exact PyProof.Rows.neg_int ⟨.int, kp_tok⟩
theorem o_not {d : PyData} {b : Bool} (t : TrOf prog w A d b) : Op1 prog w A (unaryOp .Not) d (.bool (!b)) := fun v1 s E h1 =>
  not_of (wpAny_mono (t v1 s E h1) (fun c s' h => ⟨by rw [h.1]; exact .bool, h.2⟩) fun _ _ e => e)
theorem o_lt {a b : Int} : Op2 prog w A (compareOp .Lt) (.int a) (.int b) (.bool (decide (a < b))) := fun v1 v2 s E h1 h2 => by
  obtain ⟨t, rfl⟩ := h1.int_inv; obtain ⟨u, rfl⟩ := h2.int_inv; exact PyProof.Rows.lt_int ⟨.bool, kp_refl s⟩
theorem o_gt {a b : Int} : Op2 prog w A (compareOp .Gt) (.int a) (.int b) (.bool (decide (b < a))) := fun v1 v2 s E h1 h2 => by
  obtain ⟨t, rfl⟩ := h1.int_inv; obtain ⟨u, rfl⟩ := h2.int_inv; exact PyProof.Rows.gt_int ⟨.bool, kp_refl s⟩
theorem o_ge {a b : Int} : Op2 prog w A (compareOp .GtE) (.int a) (.int b) (.bool (decide (b ≤ a))) := fun v1 v2 s E h1 h2 => by
  obtain ⟨t, rfl⟩ := h1.int_inv; obtain ⟨u, rfl⟩ := h2.int_inv; exact PyProof.Rows.ge_int ⟨.bool, kp_refl s⟩
/-- texts -/
theorem o_adds {x y : Str} (hz : (x ++ y).length ≤ sizeLine) : Op2 prog w A (binaryOp .Add) (.str x) (.str y) (.str (x ++ y)) := fun v1 v2 s E h1 h2 => by
  obtain ⟨t, rfl⟩ := h1.str_inv; obtain ⟨u, rfl⟩ := h2.str_inv
  refine PySem.P.add_str ?_
  split
  · rename_i h
    have : x ++ y = y := by
      have : x.cps = #[] := Array.eq_empty_of_size_eq_zero (beq_iff_eq.mp h)
      exact Str.ext' (by simp [Str.cps_append, this])
    rw [this]; exact ⟨.str, kp_refl s⟩
  · split
    · rename_i h
      have : x ++ y = x := by
        have : y.cps = #[] := Array.eq_empty_of_size_eq_zero (beq_iff_eq.mp h)
        exact Str.ext' (by simp [Str.cps_append, this])
      rw [this]; exact ⟨.str, kp_refl s⟩
    · exact ⟨hz, .str, kp_tok⟩
theorem o_lts {x y : Str} : Op2 prog w A (compareOp .Lt) (.str x) (.str y) (.bool (decide (x.cps.toList < y.cps.toList))) := fun v1 v2 s E h1 h2 => by
  obtain ⟨t, rfl⟩ := h1.str_inv; obtain ⟨u, rfl⟩ := h2.str_inv; exact PyProof.Rows.lt_str ⟨.bool, kp_refl s⟩
theorem o_gts {x y : Str} : Op2 prog w A (compareOp .Gt) (.str x) (.str y) (.bool (decide (y.cps.toList < x.cps.toList))) := fun v1 v2 s E h1 h2 => by
  obtain ⟨t, rfl⟩ := h1.str_inv; obtain ⟨u, rfl⟩ := h2.str_inv; exact PySem.P.gt_str ⟨.bool, kp_refl s⟩
/-- equality of data -/
theorem o_eq {n : Nat} {d e : PyData} (o : Ok (n + 1) A) (hd : d.canLay0 = true) (he : e.canLay0 = true) (hz : min d.depth e.depth ≤ 50) : Op2 prog w A (compareOp .Eq) d e (.bool (PyData.eqv d e)) := fun v1 v2 s E h1 h2 => by
  obtain ⟨as, h1, _⟩ := h1; obtain ⟨bs, h2, _⟩ := h2
  exact PySem.SeqAt.compareEq_reads h1 h2 hd he (by have := o.units; omega) ⟨.bool, kp_refl s⟩
theorem o_ne {n : Nat} {d e : PyData} (o : Ok (n + 1) A) (hd : d.canLay0 = true) (he : e.canLay0 = true) (hz : min d.depth e.depth ≤ 50) : Op2 prog w A (compareOp .NotEq) d e (.bool (!PyData.eqv d e)) := fun v1 v2 s E h1 h2 => by
  obtain ⟨as, h1, _⟩ := h1; obtain ⟨bs, h2, _⟩ := h2
  exact PySem.SeqAt.compareNe_reads h1 h2 hd he (by have := o.units; omega) ⟨.bool, kp_refl s⟩
theorem o_notin {n : Nat} {d : PyData} {es : List PyData} (o : Ok (n + 1) A) (hd : d.canLay0 = true) (he : PyData.canLayAll0 es = true) (hz : min (PyData.depthAll es) d.depth ≤ 50) :
    Op2 prog w A (compareOp .NotIn) d (.list es) (.bool (!es.any fun y => PyData.eqv y d)) := fun v1 v2 s E h1 h2 => by
  obtain ⟨as, h1, _⟩ := h1; obtain ⟨bs, h2, _⟩ := h2
  exact PySem.SeqAt.notIn_list_reads h2 h1 he hd (by have := o.units; omega) ⟨.bool, kp_refl s⟩
/-- lists -/
theorem o_addl {ds es : List PyData} (hz : ds.length + es.length ≤ sizeLine) : Op2 prog w A (binaryOp .Add) (.list ds) (.list es) (.list (ds ++ es)) := fun v1 v2 s E h1 h2 => by
  obtain ⟨a, vs, rfl, ⟨n, ha⟩, ra⟩ := h1.list_inv; obtain ⟨b, ws, rfl, ⟨k, hb⟩, rb⟩ := h2.list_inv
  have e : vs.toArray ++ ws.toArray = (vs ++ ws).toArray := by simp
  refine PySem.concat_meets ⟨_, ha, rfl⟩ ⟨_, hb, rfl⟩ noFill_list_add seq_list_add PySem.F.slot_list_add PySem.F.entry_list_add (PySem.F.args_list_add_2 _ _) (list_addW a b vs.toArray ws.toArray n k none none #[] #[] (by simpa [ra.len, rb.len] using hz)) ⟨ha, hb, ?_⟩
  rw [e]
  exact ⟨.list ⟨0, Heap.get?_push_size _ rfl⟩ ((ra.append rb).gr (kp_gr kp_push)), kp_push⟩
theorem rep_list (vs : List Value) (n : Nat) : List.foldl (fun x1 x2 => x1 ++ x2) #[] (List.replicate n vs.toArray) = ((List.replicate n vs).flatten).toArray := by
  have : ∀ (n : Nat) (acc : List Value), List.foldl (fun x1 x2 => x1 ++ x2) acc.toArray (List.replicate n vs.toArray) = (acc ++ (List.replicate n vs).flatten).toArray := by
    intro n
    induction n with
    | zero => intro acc; simp
    | succ n ih => intro acc; rw [List.replicate_succ, List.foldl_cons, List.append_toArray, ih]; simp [List.replicate_succ]
  simpa using this n []
theorem RdA.rep {h : Heap} {vs : List Value} {ds : List PyData} (r : RdA h vs ds) : ∀ n : Nat, RdA h (List.replicate n vs).flatten (List.replicate n ds).flatten
  | 0 => .nil
  | n + 1 => by simpa [List.replicate_succ] using r.append (RdA.rep r n)
theorem o_mull {ds : List PyData} {x : Int} (h0 : 0 ≤ x) (h1 : x ≤ 100) (hz : ds.length ≤ 1000) : Op2 prog w A (binaryOp .Mult) (.list ds) (.int x) (.list (List.replicate x.toNat ds).flatten) := fun v1 v2 s E h1' h2' => by
  obtain ⟨a, vs, rfl, ⟨n, ha⟩, ra⟩ := h1'.list_inv; obtain ⟨t, rfl⟩ := h2'.int_inv
  have hl := ra.len
  have hxn : x.toNat ≤ 100 := by omega
  have hm : vs.toArray.size * x.toNat ≤ 100000 := by
    have e : vs.toArray.size ≤ 1000 := by simp; omega
    exact Nat.mul_le_mul e hxn
  have key : Rd (s.heap.push { cls := .type "list", data := .seq (List.foldl (fun x1 x2 => x1 ++ x2) #[] (List.replicate (if vs.toArray.isEmpty = true then 0 else x.toNat) vs.toArray)) }) (.ref s.heap.objs.size) (.list (List.replicate x.toNat ds).flatten) := by
    by_cases he : vs = []
    · subst he
      have : ds = [] := by cases ds with | nil => rfl | cons _ _ => simp at hl
      subst this
      simp only [List.isEmpty_toArray, List.isEmpty_nil, if_true, List.replicate_zero, List.foldl_nil]
      refine .list (vs := []) ⟨0, Heap.get?_push_size _ rfl⟩ ?_
      have : (List.replicate x.toNat ([] : List PyData)).flatten = [] := by simp
      rw [this]; exact .nil
    · have hne : vs.toArray.isEmpty = false := by simpa using he
      rw [hne]
      simp only [Bool.false_eq_true, if_false]
      rw [rep_list]
      exact .list ⟨0, Heap.get?_push_size _ rfl⟩ ((ra.rep x.toNat).gr (kp_gr (s := s) kp_push))
  exact wpAny_binaryOp_repeat_ref (T := "list") (U := "int") (by decide) ⟨_, ha, rfl⟩ (fun s' => typeIs_int s' x t) noFill_list_mul PySem.F.fills_int_mul PySem.F.slot_int_rmul repeat_list PySem.F.slot_int_index.lookup
    (call_meets PySem.F.slot_int_rmul (typeIs_int s x t) PySem.F.entry_int_rmul (PySem.F.args_int_rmul_2 _ _) (int___rmul___int_list x t a vs.toArray n)
      ⟨ha, rfl, ⟨_, ha, rfl⟩, call_meets PySem.F.slot_list_mul ⟨_, ha, rfl⟩ PySem.F.entry_list_mul (PySem.F.args_list_mul_2 _ _)
        (AutoListH.list___mul___list_int_3 a vs.toArray n x t (by simp [Builtin.List.listFitsIndex]; omega) (by omega) (by intro h; have h' := of_decide_eq_true h; have := sizeLine_eq; omega))
        ⟨ha, key, kp_push⟩⟩)
end
end Mine
end

section
open PySem PySem.W PyProof.Rows
set_option linter.all false
set_option maxRecDepth 100000
namespace Mine
section
variable {prog : Program} {w : World} {A : Around} {env : Env} {G : Gam}

/-- displays -/
abbrev EvL (prog : Program) (w : World) (A : Around) (env : Env) (G : Gam) (ts : List (Bool × Sem Value)) (ds : List PyData) : Prop :=
  Tr prog w A (Cx env G) (spliced ts) (fun h vs => RdA h vs ds)
theorem evl_nil : EvL prog w A env G [] [] := fun s E c => Calls.spliced_nil ⟨.nil, kp_refl s⟩
theorem evl_cons {e : Expr} {ts : List (Bool × Sem Value)} {d : PyData} {ds : List PyData} (a : Ev prog w A env G e d) (b : EvL prog w A env G ts ds) :
    EvL prog w A env G ((false, eval e env) :: ts) (d :: ds) := fun s E c =>
  Calls.spliced_cons (a.use c fun v s1 h k => b.use (c.gr (kp_gr k)) fun vs s2 h2 k2 => ⟨.cons (h.gr (kp_gr k2)) h2, kp_trans k k2⟩)
theorem ev_list {elts : List Expr} {pos : Pos} {ts : List (Bool × Sem Value)} {ds : List PyData} (a : EvL prog w A env G ts ds) (ht : backTo pos (starEach elts env) = ts := by rfl) (hz : ds.length ≤ 1000 := by decide) :
    Ev prog w A env G (.List elts pos) (.list ds) := fun s E c => by
  subst ht
  refine List_ (a.use c fun vs s1 h k => ?_)
  have := h.len
  exact wpAny_newList ⟨.list ⟨0, Heap.get?_push_size _ rfl⟩ (h.gr (kp_gr kp_push)), kp_trans k kp_push⟩ (by rw [sizeLine_eq]; omega)
theorem ev_tuple {elts : List Expr} {n : Nat} {pos : Pos} {ts : List (Bool × Sem Value)} {ds : List PyData} (a : EvL prog w A env G ts ds) (ht : backTo pos (starEach elts env) = ts := by rfl) (hz : ds.length ≤ 1000 := by decide) :
    Ev prog w A env G (.Tuple elts n pos) (.tuple ds) := fun s E c => by
  subst ht
  refine Tuple_ (a.use c fun vs s1 h k => ?_)
  have := h.len
  exact wpAny_newTuple ⟨.tuple ⟨_, Heap.get?_push_size _ rfl, rfl, 0, rfl⟩ (h.gr (kp_gr kp_push)), kp_trans k kp_push⟩ (by rw [sizeLine_eq]; omega)

/-- items -/
theorem ev_item_list {value slice : Expr} {pos : Pos} {ds : List PyData} {i : Nat} {d : PyData} (a : Ev prog w A env G value (.list ds)) (b : Ev prog w A env G slice (.int i)) (hd : ds[i]? = some d) (hz : i < 2 ^ 62)
    (hs : ∀ o k, subscripted slice false o k = operate [o, k] (getItem o k) := by intro _ _; rfl) (ht : ∀ o r, letTemporaryGo value o r = pure () := by intro _ _; rfl) :
    Ev prog w A env G (.Subscript value slice pos) d := fun s E c =>
  Subscript_ (two (t := fun o i => subscriptTail value slice o i) a b (fun _ _ _ h k => h.gr k) c fun v1 v2 s' h1 h2 k => by
    obtain ⟨l, vs, rfl, p, ra⟩ := h1.list_inv; obtain ⟨u, rfl⟩ := h2.int_inv
    obtain ⟨v, e, r⟩ := ra.get hd
    exact subscriptTail_ops p.isList.typeIs list_getitem_lookup (wpAny_getItem_list p.isList (by omega) (by omega) (by simpa using e) ⟨r, k⟩) (hs _ _) (ht _))
theorem ev_item_tuple {value slice : Expr} {pos : Pos} {ds : List PyData} {i : Int} {j : Nat} {d : PyData} (a : Ev prog w A env G value (.tuple ds)) (b : Ev prog w A env G slice (.int i)) (hj : seqIndex? i ds.length = some j) (hd : ds[j]? = some d)
    (hz : -(2 ^ 63 : Int) ≤ i := by decide) (hz2 : i < 2 ^ 63 := by decide)
    (hs : ∀ o k, subscripted slice false o k = operate [o, k] (getItem o k) := by intro _ _; rfl) :
    Ev prog w A env G (.Subscript value slice pos) d := fun s E c =>
  Subscript_ (two (t := fun o i => subscriptTail value slice o i) a b (fun _ _ _ h k => h.gr k) c fun v1 v2 s' h1 h2 k => by
    obtain ⟨l, vs, rfl, p, ra⟩ := h1.tuple_inv; obtain ⟨u, rfl⟩ := h2.int_inv
    obtain ⟨v, e, r⟩ := ra.get hd
    exact item_tupleT p hz hz2 (by rw [ra.len]; exact hj) e ⟨r, k⟩ (hs _ _))
theorem ev_item_str {value slice : Expr} {pos : Pos} {x : Str} {i : Int} (a : Ev prog w A env G value (.str x)) (b : Ev prog w A env G slice (.int i)) (h0 : -(x.length : Int) ≤ i) (h1 : i < x.length) (hz : fitsSsize i = true := by decide)
    (hs : ∀ o k, subscripted slice false o k = operate [o, k] (getItem o k) := by intro _ _; rfl) (ht : ∀ o r, letTemporaryGo value o r = pure () := by intro _ _; rfl) :
    Ev prog w A env G (.Subscript value slice pos) (.str (Txt.item x i)) := fun s E c =>
  Subscript_ (two (t := fun o i => subscriptTail value slice o i) a b (fun _ _ _ h k => h.gr k) c fun v1 v2 s' h1' h2' k => by
    obtain ⟨t, rfl⟩ := h1'.str_inv; obtain ⟨u, rfl⟩ := h2'.int_inv
    exact item_str hz h0 h1 (fun _ => ⟨.str, kp_trans k kp_tok⟩) (hs _ _) (ht _))

/-- what a slice's part may be -/
inductive Part (prog : Program) (w : World) (A : Around) (env : Env) (G : Gam) : Option Expr → Option Int → Prop
  | no : Part prog w A env G none none
  | yes {e : Expr} {i : Int} : Ev prog w A env G e (.int i) → Part prog w A env G (some e) (some i)
def PartV (o : Option Int) (v : Value) : Prop := match o with
  | none => v = .none
  | some i => ∃ t, v = .int i t
theorem Part.go {e : Option Expr} {i : Option Int} (p : Part prog w A env G e i) : Tr prog w A (Cx env G) (evalPart e env) (fun _ v => PartV i v) := by
  cases p with
  | no => exact fun s E c => wpAny_pure ⟨rfl, kp_refl s⟩
  | yes h => exact fun s E c => (h.use c fun v s1 h k => ⟨h.int_inv, k⟩)
theorem PartV.is {o : Option Int} {v : Value} (h : PartV o v) : IsPart v o := by
  cases o with
  | none => have : v = .none := h; subst this; exact .none
  | some i => obtain ⟨t, rfl⟩ : ∃ t, v = .int i t := h; exact .int ..
/-- a list, plain or not -/
def Ls (h : Heap) (v : Value) (ds : List PyData) : Prop := ∃ a vs, v = .ref a ∧ h.IsList a vs.toArray ∧ RdA h vs ds
theorem Ls.of {h : Heap} {v : Value} {ds : List PyData} (r : Rd h v (.list ds)) : Ls h v ds := let ⟨a, vs, e, p, ra⟩ := r.list_inv; ⟨a, vs, e, p.isList, ra⟩
theorem isList_gr {h h' : Heap} {a : Addr} {vs : Array Value} (x : h.IsList a vs) (k : Gr h h') : h'.IsList a vs := let ⟨o, ho, r⟩ := x; ⟨o, k _ _ ho, r⟩
theorem Ls.gr {h h' : Heap} {v : Value} {ds : List PyData} (r : Ls h v ds) (k : Gr h h') : Ls h' v ds := let ⟨a, vs, e, p, ra⟩ := r; ⟨a, vs, e, isList_gr p k, ra.gr k⟩
theorem ev_ls {e : Expr} {ds : List PyData} (a : Ev prog w A env G e (.list ds)) : EvV prog w A env G e (fun h v => Ls h v ds) := fun s E c => a.use c fun v s1 h k => ⟨.of h, k⟩

def clip (n : Nat) (o : Option Int) (d : Nat) : Nat := o.elim d (clipAt n)
def pyslice (ds : List PyData) (lo hi : Option Int) : List PyData := (ds.drop (clip ds.length lo 0)).take (clip ds.length hi ds.length - clip ds.length lo 0)
theorem ev_slice_list {value : Expr} {lo hi : Option Expr} {p pos : Pos} {ds : List PyData} {l u : Option Int} (a : EvV prog w A env G value (fun h v => Ls h v ds)) (pl : Part prog w A env G lo l) (pu : Part prog w A env G hi u)
    (hz : ds.length ≤ 1000) (ht : ∀ o r, letTemporaryGo value o r = pure () := by intro _ _; rfl) : Ev prog w A env G (.Subscript value (.Slice lo hi none p) pos) (.list (pyslice ds l u)) := fun s E c => by
  refine wpAny_Subscript_list_slice (a.use c fun v s1 h k => pl.go.use (c.gr (kp_gr k)) fun vl s2 hl k2 => pu.go.use ((c.gr (kp_gr k)).gr (kp_gr k2)) fun vu s3 hu k3 => ?_) ht
  obtain ⟨b, vs, rfl, il, ra⟩ := (h.gr (kp_gr k2)).gr (kp_gr k3)
  have hl' := ra.len
  refine ⟨b, vs.toArray, l, u, rfl, il, by rw [sizeLine_eq]; simp; omega, hl.is, hu.is, ?_, kp_trans k (kp_trans k2 (kp_trans k3 ?_))⟩
  · rw [slicePick_plain]
    refine .list (vs := (vs.drop (clip vs.length l 0)).take (clip vs.length u vs.length - clip vs.length l 0)) ⟨0, ?_⟩ ?_
    · have := Heap.get?_push_size (s3.heap.push { cls := .type "slice", data := .fields #[vl, vu, .none] }) (o := { cls := .type "list", data := .seq ((vs.drop (clip vs.length l 0)).take (clip vs.length u vs.length - clip vs.length l 0)).toArray }) rfl
      rw [size_push'] at this
      simpa [clip] using this
    · have : RdA s3.heap ((vs.drop (clip vs.length l 0)).take (clip vs.length u vs.length - clip vs.length l 0)) (pyslice ds l u) := by
        unfold pyslice; rw [← hl']; exact (ra.drop _).take _
      exact this.gr fun b o e => Heap.get?_push_of_some _ (Heap.get?_push_of_some _ e)
  · exact kp_trans kp_push kp_push

theorem ev_slice_str {value : Expr} {lo hi : Option Expr} {p pos : Pos} {x : Str} {l u : Option Int} (a : Ev prog w A env G value (.str x)) (pl : Part prog w A env G lo l) (pu : Part prog w A env G hi u)
    (hz : x.length ≤ 1000) (ht : ∀ o r, letTemporaryGo value o r = pure () := by intro _ _; rfl) : Ev prog w A env G (.Subscript value (.Slice lo hi none p) pos) (.str (Txt.slice x l u)) := fun s E c => by
  refine wpAny_Subscript_str_slice (a.use c fun v s1 h k => pl.go.use (c.gr (kp_gr k)) fun vl s2 hl k2 => pu.go.use ((c.gr (kp_gr k)).gr (kp_gr k2)) fun vu s3 hu k3 => ?_) ht
  obtain ⟨t, rfl⟩ := h.str_inv
  have key : ∀ lp up : Option (Int × Tok), lp.map (·.1) = l → up.map (·.1) = u → ∀ h' : Heap, Gr s3.heap h' → (sliceMade x t lp up none).post (fun v s' => Rd s'.heap v (.str (Txt.slice x l u)) ∧ Keeps s s') { s3 with heap := h' } := by
    intro lp up e1 e2 h' g
    have kk := kp_trans (kp_trans k (kp_trans k2 k3)) (kp_mk (s := s3) (h' := h') (tk := s3.toks) g)
    refine post_val_or_str ⟨Nat.le_trans (Txt.slice_le x _ _) (by rw [sizeLine_eq]; omega), fun t' k' => ?_⟩
    rw [← e1, ← e2]
    exact ⟨.str, kp_trans kk kp_tok⟩
  have part : ∀ (o : Option Int) (v : Value), PartV o v → ∃ q : Option (Int × Tok), v = partValue q ∧ q.map (·.1) = o := by
    intro o v h
    cases o with
    | none => exact ⟨none, h, rfl⟩
    | some i => obtain ⟨t, rfl⟩ : ∃ t, v = .int i t := h; exact ⟨some (i, t), rfl, rfl⟩
  obtain ⟨lp, rfl, e1⟩ := part _ _ hl
  obtain ⟨up, rfl, e2⟩ := part _ _ hu
  exact ⟨x, t, lp, up, rfl, rfl, rfl, key lp up e1 e2 _ (fun b o e => Heap.get?_push_of_some _ e)⟩

/-- methods of texts -/
theorem ev_meth0 {o : Expr} {name : Str} {apos pos : Pos} {id : String} {d1 d : PyData} (pl : Sem Bool) (a : Ev prog w A env G o d1)
    (gm : ∀ (v : Value) (s : Shared), Rd s.heap v d1 → ∀ (Q : Value × List Value → Shared → Prop) (E : Value → Shared → Prop), Q (.builtin id, [v]) s → wpAny (model prog w) A (getMethod v name pl) Q E s)
    (f : Op1 prog w A (fun v => call (.builtin id) [v]) d1 d)
    (he : eval (.Call (.Attribute o name apos) [] [] pos) env = (do
      let ov ← eval o env
      standAt apos.atName
      let (f, first) ← holding [ov] (getMethod ov name pl)
      callWith pos f first (backTo pos (starEach [] env)) []) := by rfl) : Ev prog w A env G (.Call (.Attribute o name apos) [] [] pos) d := fun s E c =>
  MethodCall_ (a.use c fun v s1 h k => gm v s1 h _ _ (callWith_method0 (back (R := fun h v => Rd h v d) k (f v s1 E h)))) he
theorem ev_meth1 {o e : Expr} {name : Str} {apos pos : Pos} {id : String} {d1 d : PyData} {R2 : Heap → Value → Prop} (pl : Sem Bool) (a : Ev prog w A env G o d1) (b : EvV prog w A env G e R2)
    (gm : ∀ (v : Value) (s : Shared), Rd s.heap v d1 → ∀ (Q : Value × List Value → Shared → Prop) (E : Value → Shared → Prop), Q (.builtin id, [v]) s → wpAny (model prog w) A (getMethod v name pl) Q E s)
    (f : ∀ (v1 v2 : Value) (s : Shared) (E : Value → Shared → Prop), Rd s.heap v1 d1 → R2 s.heap v2 → wpAny (model prog w) A (call (.builtin id) [v1, v2]) (fun v s' => Rd s'.heap v d ∧ Keeps s s') E s)
    (hs : backTo pos (starEach [e] env) = [(false, eval e env)] := by rfl)
    (he : eval (.Call (.Attribute o name apos) [e] [] pos) env = (do
      let ov ← eval o env
      standAt apos.atName
      let (f, first) ← holding [ov] (getMethod ov name pl)
      callWith pos f first (backTo pos (starEach [e] env)) []) := by rfl) : Ev prog w A env G (.Call (.Attribute o name apos) [e] [] pos) d := fun s E c =>
  MethodCall_ (a.use c fun v s1 h k => gm v s1 h _ _ (by
    dsimp only
    rw [hs]
    exact Calls.callWith_builtin rfl (Calls.evalArgs_plain (Calls.spliced_cons (b.use (c.gr (kp_gr k)) fun v2 s2 h2 k2 => Calls.spliced_nil (back (R := fun h v => Rd h v d) (kp_trans k k2) (f v v2 s2 E (h.gr (kp_gr k2)) h2)))))) ) he

theorem gm_str {x : Str} {name : Str} {id : String} {pl : Sem Bool} (g : ∀ (t : Tok) (s : Shared) (Q : Value × List Value → Shared → Prop) (E : Value → Shared → Prop), Q (.builtin id, [.str x t]) s → wpAny (model prog w) A (getMethod (.str x t) name pl) Q E s) :
    ∀ (v : Value) (s : Shared), Rd s.heap v (.str x) → ∀ (Q : Value × List Value → Shared → Prop) (E : Value → Shared → Prop), Q (.builtin id, [v]) s → wpAny (model prog w) A (getMethod v name pl) Q E s := fun v s h Q E q => by
  obtain ⟨t, rfl⟩ := h.str_inv
  exact g t s Q E q

theorem m_lower {x : Str} (hf : Builtin.Str.tooLong (Txt.lower x).length = false) : Op1 prog w A (fun v => call (.builtin "str.lower") [v]) (.str x) (.str (Txt.lower x)) := fun v s E h => by
  obtain ⟨t, rfl⟩ := h.str_inv; exact SC.lower hf ⟨.str, kp_tok⟩
theorem m_upper {x : Str} (hf : Builtin.Str.tooLong (Txt.upper x).length = false) : Op1 prog w A (fun v => call (.builtin "str.upper") [v]) (.str x) (.str (Txt.upper x)) := fun v s E h => by
  obtain ⟨t, rfl⟩ := h.str_inv; exact SC.upper hf ⟨.str, kp_tok⟩
theorem m_starts {x y : Str} : ∀ (v1 v2 : Value) (s : Shared) (E : Value → Shared → Prop), Rd s.heap v1 (.str x) → Rd s.heap v2 (.str y) → wpAny (model prog w) A (call (.builtin "str.startswith") [v1, v2]) (fun v s' => Rd s'.heap v (.bool (Txt.startswith x y)) ∧ Keeps s s') E s := fun v1 v2 s E h1 h2 => by
  obtain ⟨t, rfl⟩ := h1.str_inv; obtain ⟨u, rfl⟩ := h2.str_inv; exact SC.startswith ⟨.bool, kp_refl s⟩
theorem m_ends {x y : Str} : ∀ (v1 v2 : Value) (s : Shared) (E : Value → Shared → Prop), Rd s.heap v1 (.str x) → Rd s.heap v2 (.str y) → wpAny (model prog w) A (call (.builtin "str.endswith") [v1, v2]) (fun v s' => Rd s'.heap v (.bool (Txt.endswith x y)) ∧ Keeps s s') E s := fun v1 v2 s E h1 h2 => by
  obtain ⟨t, rfl⟩ := h1.str_inv; obtain ⟨u, rfl⟩ := h2.str_inv; exact SC.endswith ⟨.bool, kp_refl s⟩
theorem m_find {x y : Str} : ∀ (v1 v2 : Value) (s : Shared) (E : Value → Shared → Prop), Rd s.heap v1 (.str x) → Rd s.heap v2 (.str y) → wpAny (model prog w) A (call (.builtin "str.find") [v1, v2]) (fun v s' => Rd s'.heap v (.int (Txt.find x y)) ∧ Keeps s s') E s := fun v1 v2 s E h1 h2 => by
  obtain ⟨t, rfl⟩ := h1.str_inv; obtain ⟨u, rfl⟩ := h2.str_inv; exact SC.find ⟨.int, kp_tok⟩
theorem m_count {x y : Str} : ∀ (v1 v2 : Value) (s : Shared) (E : Value → Shared → Prop), Rd s.heap v1 (.str x) → Rd s.heap v2 (.str y) → wpAny (model prog w) A (call (.builtin "str.count") [v1, v2]) (fun v s' => Rd s'.heap v (.int (Txt.count x y)) ∧ Keeps s s') E s := fun v1 v2 s E h1 h2 => by
  obtain ⟨t, rfl⟩ := h1.str_inv; obtain ⟨u, rfl⟩ := h2.str_inv; exact SC.count ⟨.int, kp_tok⟩
end
end Mine
end

section
open PySem PySem.W PyProof.Rows
set_option linter.all false
set_option maxRecDepth 100000
namespace Mine

theorem ints_of {h : Heap} : ∀ {vs : List Value} {ns : List Int}, RdA h vs (ns.map .int) → IntsAre vs ns
  | [], [], _ => .nil
  | [], _ :: _, x => x.no1.elim
  | _ :: _, [], x => x.no2.elim
  | v :: vs, n :: ns, x => by
    obtain ⟨t, rfl⟩ := x.inv.1.int_inv
    exact .cons n t (ints_of x.inv.2)
theorem strs_of {h : Heap} : ∀ {vs : List Value} {ns : List Str}, RdA h vs (ns.map .str) → StrsAre vs ns
  | [], [], _ => .nil
  | [], _ :: _, x => x.no1.elim
  | _ :: _, [], x => x.no2.elim
  | v :: vs, n :: ns, x => by
    obtain ⟨t, rfl⟩ := x.inv.1.str_inv
    exact .cons n t (strs_of x.inv.2)
theorem of_strs {h : Heap} : ∀ {vs : List Value} {ns : List Str}, StrsAre vs ns → RdA h vs (ns.map .str)
  | _, _, .nil => .nil
  | _, _, .cons _ _ r => .cons .str (of_strs r)
theorem vals_of {h : Heap} : ∀ {vs : List Value} {ns : List Str}, RdA h vs (ns.map .str) → ∃ l, vs = strValues l ∧ l.map (·.1) = ns
  | [], [], _ => ⟨[], rfl, rfl⟩
  | [], _ :: _, x => x.no1.elim
  | _ :: _, [], x => x.no2.elim
  | v :: vs, n :: ns, x => by
    obtain ⟨t, rfl⟩ := x.inv.1.str_inv
    obtain ⟨l, rfl, rfl⟩ := vals_of x.inv.2
    exact ⟨(n, t) :: l, rfl, rfl⟩
theorem of_vals {h : Heap} : ∀ (l : List (Str × Tok)), RdA h (strValues l) ((l.map (·.1)).map .str)
  | [] => .nil
  | _ :: l => .cons .str (of_vals l)

section
variable {prog : Program} {w : World} {A : Around} {env : Env} {G : Gam}

theorem m_join {x : Str} {ts : List Str} (hok : JoinOk x ts = true) : ∀ (v1 v2 : Value) (s : Shared) (E : Value → Shared → Prop), Rd s.heap v1 (.str x) → Ls s.heap v2 (ts.map .str) →
    wpAny (model prog w) A (call (.builtin "str.join") [v1, v2]) (fun v s' => Rd s'.heap v (.str (Txt.join x ts)) ∧ Keeps s s') E s := fun v1 v2 s E h1 h2 => by
  obtain ⟨t, rfl⟩ := h1.str_inv
  obtain ⟨a, vs, rfl, p, ra⟩ := h2
  obtain ⟨l, rfl, e⟩ := vals_of ra
  exact SC.join p e hok fun t' k => ⟨.str, kp_tok⟩
theorem keptKeeps (s₀ : Shared) : KeptByPush (Keeps s₀) := fun s ob k h => kp_trans h (kp_mk (h' := s.heap.push ob) fun _ _ e => Heap.get?_push_of_some _ e)
theorem m_split {x y : Str} (hy : (y.length == 0) = false) (hx : x.length ≤ 1000) (hn : (Builtin.Str.partsBetween x (Builtin.Str.occurrences x y 0 x.length (x.length + 1)) y.length).length ≤ sizeLine) : ∀ (v1 v2 : Value) (s : Shared) (E : Value → Shared → Prop), Rd s.heap v1 (.str x) → Rd s.heap v2 (.str y) →
    wpAny (model prog w) A (call (.builtin "str.split") [v1, v2]) (fun v s' => Ls s'.heap v ((Txt.split x y).map .str) ∧ Keeps s s') E s := fun v1 v2 s E h1 h2 => by
  obtain ⟨t, rfl⟩ := h1.str_inv
  obtain ⟨u, rfl⟩ := h2.str_inv
  refine SCG.split1 (keptKeeps s) (kp_refl s) hy (fun D l s' e k il => ⟨⟨D, _, rfl, il, ?_⟩, k⟩) (by rw [sizeLine_eq]; omega) hn
  rw [← e]; exact of_vals l

/-- a method whose answer is told by R -/
theorem ev_meth1V {o e : Expr} {name : Str} {apos pos : Pos} {id : String} {d1 : PyData} {R2 R : Heap → Value → Prop} (pl : Sem Bool) (a : Ev prog w A env G o d1) (b : EvV prog w A env G e R2)
    (gm : ∀ (v : Value) (s : Shared), Rd s.heap v d1 → ∀ (Q : Value × List Value → Shared → Prop) (E : Value → Shared → Prop), Q (.builtin id, [v]) s → wpAny (model prog w) A (getMethod v name pl) Q E s)
    (f : ∀ (v1 v2 : Value) (s : Shared) (E : Value → Shared → Prop), Rd s.heap v1 d1 → R2 s.heap v2 → wpAny (model prog w) A (call (.builtin id) [v1, v2]) (fun v s' => R s'.heap v ∧ Keeps s s') E s)
    (hs : backTo pos (starEach [e] env) = [(false, eval e env)] := by rfl)
    (he : eval (.Call (.Attribute o name apos) [e] [] pos) env = (do
      let ov ← eval o env
      standAt apos.atName
      let (f, first) ← holding [ov] (getMethod ov name pl)
      callWith pos f first (backTo pos (starEach [e] env)) []) := by rfl) : EvV prog w A env G (.Call (.Attribute o name apos) [e] [] pos) R := fun s E c =>
  MethodCall_ (a.use c fun v s1 h k => gm v s1 h _ _ (by
    dsimp only
    rw [hs]
    exact Calls.callWith_builtin rfl (Calls.evalArgs_plain (Calls.spliced_cons (b.use (c.gr (kp_gr k)) fun v2 s2 h2 k2 => Calls.spliced_nil (back (R := R) (kp_trans k k2) (f v v2 s2 E (h.gr (kp_gr k2)) h2)))))) ) he

/-- calls of built-ins by name -/
theorem ev_call1 {n : Str} {p pos : Pos} {e : Expr} {u : Value} {R1 R : Heap → Value → Prop} (fe : FEnv env) (hu : (∃ id, u = .builtin id) ∨ ∃ T, u = .type T) (hn : bl.lookup n = some u) (a : EvV prog w A env G e R1)
    (f : ∀ (v : Value) (s : Shared) (E : Value → Shared → Prop), R1 s.heap v → wpAny (model prog w) A (call u [v]) (fun v s' => R s'.heap v ∧ Keeps s s') E s)
    (hk : env.kindOf n = some .globalImplicit := by rfl) (hs : starEach [e] env = [(false, eval e env)] := by rfl) (hd : (n == ("__debug__" : Str)) = false := by decide) :
    EvV prog w A env G (.Call (.Name n p) [e] [] pos) R := fun s E c => by
  refine Call_Name1 ((ev_builtin fe hk hn hd).use c fun v s1 h k => ?_) hs
  subst h
  have args : ∀ Q : List Value → Shared → Prop, (∀ v s', R1 s'.heap v → Keeps s s' → Q [v] s') → wpAny (model prog w) A (spliced [(false, eval e env)]) Q E s1 := fun Q q =>
    Calls.spliced_cons (a.use (c.gr (kp_gr k)) fun v2 s2 h2 k2 => Calls.spliced_nil (q v2 s2 h2 (kp_trans k k2)))
  rcases hu with ⟨id, rfl⟩ | ⟨T, rfl⟩
  · exact Calls.callWith_builtin rfl (Calls.evalArgs_plain (args _ fun v2 s2 h2 k2 => back (R := R) k2 (f v2 s2 E h2)))
  · exact PySem.callWith_type rfl (Calls.evalArgs_plain (args _ fun v2 s2 h2 k2 => back (R := R) k2 (f v2 s2 E h2)))
theorem ev_call2 {n : Str} {p pos : Pos} {e1 e2 : Expr} {u : Value} {R1 R2 R : Heap → Value → Prop} (fe : FEnv env) (hu : (∃ id, u = .builtin id) ∨ ∃ T, u = .type T) (hn : bl.lookup n = some u) (a : EvV prog w A env G e1 R1) (b : EvV prog w A env G e2 R2)
    (m1 : ∀ h h' v, R1 h v → Gr h h' → R1 h' v)
    (f : ∀ (v1 v2 : Value) (s : Shared) (E : Value → Shared → Prop), R1 s.heap v1 → R2 s.heap v2 → wpAny (model prog w) A (call u [v1, v2]) (fun v s' => R s'.heap v ∧ Keeps s s') E s)
    (hk : env.kindOf n = some .globalImplicit := by rfl) (hs : starEach [e1, e2] env = [(false, eval e1 env), (false, eval e2 env)] := by rfl) (hd : (n == ("__debug__" : Str)) = false := by decide) :
    EvV prog w A env G (.Call (.Name n p) [e1, e2] [] pos) R := fun s E c => by
  refine Call_Name2 ((ev_builtin fe hk hn hd).use c fun v s1 h k => ?_) hs
  subst h
  have args : ∀ Q : List Value → Shared → Prop, (∀ v1 v2 s', R1 s'.heap v1 → R2 s'.heap v2 → Keeps s s' → Q [v1, v2] s') → wpAny (model prog w) A (spliced [(false, eval e1 env), (false, eval e2 env)]) Q E s1 := fun Q q =>
    Calls.spliced_cons (a.use (c.gr (kp_gr k)) fun v2 s2 h2 k2 => Calls.spliced_cons (b.use ((c.gr (kp_gr k)).gr (kp_gr k2)) fun v3 s3 h3 k3 => Calls.spliced_nil (q v2 v3 s3 (m1 _ _ _ h2 (kp_gr k3)) h3 (kp_trans k (kp_trans k2 k3)))))
  rcases hu with ⟨id, rfl⟩ | ⟨T, rfl⟩
  · exact Calls.callWith_builtin rfl (Calls.evalArgs_plain (args _ fun v1 v2 s2 h1 h2 k2 => back (R := R) k2 (f v1 v2 s2 E h1 h2)))
  · exact PySem.callWith_type rfl (Calls.evalArgs_plain (args _ fun v1 v2 s2 h1 h2 k2 => back (R := R) k2 (f v1 v2 s2 E h1 h2)))

theorem b_len {ds : List PyData} (hz : ds.length ≤ 1000) : Op1 prog w A (fun v => call (.builtin "len") [v]) (.list ds) (.int ds.length) := fun v s E h => by
  obtain ⟨a, vs, rfl, p, ra⟩ := h.list_inv
  have hl := ra.len
  refine len_list p.isList (by simp; omega) ⟨?_, kp_tok⟩
  simp only [List.size_toArray, hl]; exact .int
theorem b_lens {x : Str} (hz : x.length ≤ 1000) : Op1 prog w A (fun v => call (.builtin "len") [v]) (.str x) (.int x.length) := fun v s E h => by
  obtain ⟨t, rfl⟩ := h.str_inv
  exact len_str (by omega) ⟨.int, kp_tok⟩
theorem b_max2 {n : Nat} {a b : Int} (o : Ok n A) : ∀ (v1 v2 : Value) (s : Shared) (E : Value → Shared → Prop), Rd s.heap v1 (.int a) → Rd s.heap v2 (.int b) → wpAny (model prog w) A (call (.builtin "max") [v1, v2]) (fun v s' => Rd s'.heap v (.int (max a b)) ∧ Keeps s s') E s := fun v1 v2 s E h1 h2 => by
  obtain ⟨t, rfl⟩ := h1.int_inv; obtain ⟨u, rfl⟩ := h2.int_inv
  refine max_two_ints o.handled fun h' tk k => ⟨?_, kp_mk k⟩
  split
  · rw [show max a b = b by omega]; exact .int
  · rw [show max a b = a by omega]; exact .int
theorem b_min2 {n : Nat} {a b : Int} (o : Ok n A) : ∀ (v1 v2 : Value) (s : Shared) (E : Value → Shared → Prop), Rd s.heap v1 (.int a) → Rd s.heap v2 (.int b) → wpAny (model prog w) A (call (.builtin "min") [v1, v2]) (fun v s' => Rd s'.heap v (.int (min a b)) ∧ Keeps s s') E s := fun v1 v2 s E h1 h2 => by
  obtain ⟨t, rfl⟩ := h1.int_inv; obtain ⟨u, rfl⟩ := h2.int_inv
  refine min_two_ints o.handled fun h' tk k => ⟨?_, kp_mk k⟩
  split
  · rw [show min a b = b by omega]; exact .int
  · rw [show min a b = a by omega]; exact .int
theorem b_maxl {n : Nat} {ns : List Int} {m : Int} (o : Ok n A) (h1 : m ∈ ns) (h2 : ∀ a ∈ ns, a ≤ m) : Op1 prog w A (fun v => call (.builtin "max") [v]) (.list (ns.map .int)) (.int m) := fun v s E h => by
  obtain ⟨l, vs, rfl, p, ra⟩ := h.list_inv
  have hi := ints_of ra
  obtain ⟨xs, e⟩ := hi.allInts.items
  have hns : ns = xs.toList.map (·.1) := by rw [← hi.numsOf, ← nums_intItems, ← e]
  have hsz : 0 < xs.size := by
    have h3 : 0 < ns.length := List.length_pos_of_mem h1
    rw [hns, List.length_map, Array.length_toList] at h3; exact h3
  have hl := p.isList
  rw [e] at hl
  refine max_intList o.handled hl hsz fun v h' tk hv hk => ?_
  obtain ⟨t, rfl⟩ := intItems_at hv
  obtain ⟨g1, g2⟩ := argBest_gt (numAt xs) (xs.size - 1)
  have e : numAt xs (argBest (fun i j => decide (numAt xs i > numAt xs j)) (xs.size - 1)) = m := by
    refine Int.le_antisymm (h2 _ ?_) ?_
    · rw [hns, numAt_eq]; exact getD_mem (by rw [List.length_map, Array.length_toList]; omega)
    · rw [hns] at h1
      obtain ⟨j, hj, rfl⟩ := mem_getD h1
      rw [List.length_map, Array.length_toList] at hj
      rw [← numAt_eq]; exact g2 j (by omega)
  rw [e]; exact ⟨.int, kp_mk hk⟩
theorem b_minl {n : Nat} {ns : List Int} {m : Int} (o : Ok n A) (h1 : m ∈ ns) (h2 : ∀ a ∈ ns, m ≤ a) : Op1 prog w A (fun v => call (.builtin "min") [v]) (.list (ns.map .int)) (.int m) := fun v s E h => by
  obtain ⟨l, vs, rfl, p, ra⟩ := h.list_inv
  have hi := ints_of ra
  obtain ⟨xs, e⟩ := hi.allInts.items
  have hns : ns = xs.toList.map (·.1) := by rw [← hi.numsOf, ← nums_intItems, ← e]
  have hsz : 0 < xs.size := by
    have h3 : 0 < ns.length := List.length_pos_of_mem h1
    rw [hns, List.length_map, Array.length_toList] at h3; exact h3
  have hl := p.isList
  rw [e] at hl
  refine min_intList o.handled hl hsz fun v h' tk hv hk => ?_
  obtain ⟨t, rfl⟩ := intItems_at hv
  obtain ⟨g1, g2⟩ := argBest_lt (numAt xs) (xs.size - 1)
  have e : numAt xs (argBest (fun i j => decide (numAt xs i < numAt xs j)) (xs.size - 1)) = m := by
    refine Int.le_antisymm ?_ (h2 _ ?_)
    · rw [hns] at h1
      obtain ⟨j, hj, rfl⟩ := mem_getD h1
      rw [List.length_map, Array.length_toList] at hj
      rw [← numAt_eq]; exact g2 j (by omega)
    · rw [hns, numAt_eq]; exact getD_mem (by rw [List.length_map, Array.length_toList]; omega)
  rw [e]; exact ⟨.int, kp_mk hk⟩
theorem b_sum {n : Nat} {ns : List Int} (o : Ok n A) : Op1 prog w A (fun v => call (.builtin "sum") [v]) (.list (ns.map .int)) (.int ns.sum) := fun v s E h => by
  obtain ⟨l, vs, rfl, p, ra⟩ := h.list_inv
  have hi := ints_of ra
  obtain ⟨xs, e⟩ := hi.allInts.items
  have hns : ns = xs.toList.map (·.1) := by rw [← hi.numsOf, ← nums_intItems, ← e]
  have hl := p.isList
  rw [e] at hl
  refine call_sum_walkAnyS (iter_intList hl fun s₂ e2 st hfp hlI => ?_)
  subst e2
  refine ⟨_, _, _, _, _, _, _, numAt xs, rfl, (Walks.list (A := A.in1) o.handled _ l hlI (intItems xs)).toS, st, hfp, fun _ _ h => intItems_at h, fun s' t' mv => ?_⟩
  have hsum : preSum (numAt xs) (intItems xs).size = ns.sum := by
    rw [preSum_eq, hns]
    rw [List.take_of_length_le (by simp [intItems])]
  rw [hsum]
  refine ⟨.int, ?_⟩
  obtain ⟨g1, g2, g3, g4, _⟩ := mv
  obtain ⟨h', g', dr', tk', os'⟩ := s'
  simp only at g1 g2 g3 g4
  subst g2 g3 g4
  exact ⟨h', tk', rfl, old_kept g1⟩
theorem b_isb {b : Bool} : ∀ (v1 v2 : Value) (s : Shared) (E : Value → Shared → Prop), Rd s.heap v1 (.bool b) → v2 = .type "bool" → wpAny (model prog w) A (call (.builtin "isinstance") [v1, v2]) (fun v s' => Rd s'.heap v (.bool true) ∧ Keeps s s') E s := fun v1 v2 s E h1 h2 => by
  subst h2; rw [h1.bool_inv]; exact IsiPair.bool_bool ⟨.bool, kp_refl s⟩
theorem b_isi {i : Int} : ∀ (v1 v2 : Value) (s : Shared) (E : Value → Shared → Prop), Rd s.heap v1 (.int i) → v2 = .type "bool" → wpAny (model prog w) A (call (.builtin "isinstance") [v1, v2]) (fun v s' => Rd s'.heap v (.bool false) ∧ Keeps s s') E s := fun v1 v2 s E h1 h2 => by
  subst h2; obtain ⟨t, rfl⟩ := h1.int_inv; exact IsiPair.int_bool ⟨.bool, kp_tok⟩
theorem b_sorted {ss ss' : List Str} (hz : ss.length < 64) (hu : ∀ l : List Str, l.Perm ss → sortedS l = true → l = ss') : Op1 prog w A (fun v => call (.builtin "sorted") [v]) (.list (ss.map .str)) (.list (ss'.map .str)) := fun v s E h => by
  obtain ⟨l, vs, rfl, p, ra⟩ := h.list_inv
  have hl := ra.len
  refine sorted_strs p.isList (strs_of ra) (by simp at hl; omega) fun out ss2 a1 a2 a3 => ?_
  obtain rfl := hu ss2 a2 a3
  obtain ⟨e, he⟩ := sortedAll_at s.heap vs out
  exact ⟨.list (vs := out.toList) ⟨e, by simpa using he⟩ (of_strs a1), s.heap |> fun _ => ⟨_, s.toks, rfl, fun _ _ => sortedAll_old⟩⟩
end
end Mine
end

section
open PySem PySem.W PyProof.Rows
set_option linter.all false
set_option maxRecDepth 100000
namespace Mine

abbrev isSeq (o : Obj) : Prop := ∃ xs n, o.data = .seq xs n
/-- all lists and tuples stand as they stood -/
abbrev SGr (h h' : Heap) : Prop := ∀ (b : Addr) (o : Obj), isSeq o → h.get? b = some o → h'.get? b = some o

/-- what hands a loop's items on -/
structure Feed (prog : Program) (w : World) (A : Around) (K : Heap → Prop) (target : Expr) (it : Value) (cenv : Env) (fp wr : List Addr) (n : Nat) (ds : Nat → Gam) (St : Nat → Heap → Prop) : Prop where
  sub : ∀ b ∈ wr, b ∈ fp
  frame : ∀ i h h', St i h → (∀ b ∈ fp, ∀ o, h.get? b = some o → h'.get? b = some o) → St i h'
  live : ∀ i h, St i h → ∀ b ∈ wr, ∃ o, h.get? b = some o ∧ ¬ isSeq o
  item : ∀ i (s : Shared) m (Q : Unit → Shared → Prop) (E : Value → Shared → Prop), i < n → St i s.heap → K s.heap → s.heap.Ns cenv.locals m → cenv.locals ∉ fp →
    (∀ h' tk m', St (i + 1) h' → h'.Ns cenv.locals m' → (∀ x d, (ds i).lookup x = some d → ∃ v, m' x = some v ∧ Rd h' v d) → (∀ x, (ds i).lookup x = none → m' x = m x) →
      (∀ b o, b ≠ cenv.locals → b ∉ wr → s.heap.get? b = some o → h'.get? b = some o) → Q () { s with heap := h', toks := tk }) →
    wpAny (model prog w) A (pyNext it) (fun r s₁ => match r with
      | none => False
      | some v => wpAny (model prog w) A (letOwnedTupleGo target it v) (fun _ s₁' => wpAny (model prog w) A (assign target cenv v) Q E s₁') E s₁) E s
  done : ∀ (s : Shared) (Q : Option Value → Shared → Prop) (E : Value → Shared → Prop), St n s.heap →
    (∀ h' tk, (∀ b o, b ∉ wr → s.heap.get? b = some o → h'.get? b = some o) → Q none { s with heap := h', toks := tk }) → wpAny (model prog w) A (pyNext it) Q E s
  self : ∀ i (s : Shared) (Q : Value → Shared → Prop) (E : Value → Shared → Prop), St i s.heap → Q it s → wpAny (model prog w) A (pyIter it) Q E s

theorem ns_notSeq {h : Heap} {a : Addr} {m : Str → Option Value} (x : h.Ns a m) {b : Addr} {o : Obj} (e : h.get? b = some o) (q : isSeq o) : b ≠ a := by
  rintro rfl
  obtain ⟨o', es, ep, ho, hd, _⟩ := x
  rw [e] at ho; cases ho
  obtain ⟨xs, n, hs⟩ := q
  rw [hs] at hd; cases hd

section
variable {prog : Program} {w : World} {A : Around}

theorem feed_name {K : Heap → Prop} {x : Str} {px : Pos} {I : Addr} {cenv : Env} {fp wr : List Addr} {n : Nat} {ds : Nat → PyData} {P : Nat → Value → Prop} {St : Nat → Heap → Prop}
    (W : Walks prog w A I fp wr n P St) (hl : ∀ i h, St i h → ∀ b ∈ wr, ∃ o, h.get? b = some o ∧ ¬ isSeq o) (hP : ∀ i v h, i < n → P i v → K h → Rd h v (ds i))
    (hk : cenv.scope.kind = .function) (hx : cenv.kindOf x = some .local) : Feed prog w A K (.Name x px) (.ref I) cenv fp wr n (fun i => [(x, ds i)]) St where
  sub := W.sub
  frame := W.frame
  live := hl
  done := W.done
  self := W.self
  item := fun i s m Q E hi st k ns hC q => by
    refine W.item i s _ _ hi st fun v h1 tk1 hp st1 k1 => ?_
    dsimp only
    refine wpAny_of_eq (a := ()) (by rfl) ?_
    have hCw : cenv.locals ∉ wr := fun h => hC (W.sub _ h)
    have ns1 : h1.Ns cenv.locals m := ns.at' fun o e => k1 _ o hCw e
    refine wpAny_assign_Name (wpAny_storeName_local hx ns1 (fun h2 hn2 hs2 => ?_) (by rw [hk]; rfl))
    have up : ∀ b o, b ≠ cenv.locals → b ∉ wr → s.heap.get? b = some o → h2.get? b = some o := fun b o hb hw e => hs2.extBut b o hb (k1 b o hw e)
    refine q h2 _ _ (W.frame _ _ _ st1 fun b hb o e => hs2.extBut b o (fun h => hC (h ▸ hb)) e) hn2 ?_ ?_ up
    · intro y d hy
      rw [List.lookup_cons] at hy
      split at hy
      · rename_i hyx
        cases hy
        have hyx' : y = x := beq_iff_eq.mp hyx
        refine ⟨v, by simp [hyx'], (hP i v _ hi hp k).but fun b o sq e => up b o (ns_notSeq ns e sq) (fun hw => ?_) e⟩
        obtain ⟨o', e', nq⟩ := hl i _ st b hw
        rw [e] at e'; cases e'; exact nq sq
      · cases hy
    · intro y hy
      rw [List.lookup_cons] at hy
      split at hy
      · cases hy
      · rename_i hyx
        have hyx' : y ≠ x := by simpa using hyx
        simp [hyx']

theorem feed_enum {K : Heap → Prop} {x y : Str} {px py pp : Pos} {k : Nat} {e it l : Addr} {cenv : Env} {vs : List Value} {ds : List PyData} {n : Nat} (o : Ok n A) (hei : e ≠ it) (hle : l ≠ e) (hli : l ≠ it)
    (hK : ∀ h, K h → RdA h vs ds) (hk : cenv.scope.kind = .function) (hx : cenv.kindOf x = some .local) (hy : cenv.kindOf y = some .local) (hxy : x ≠ y) :
    Feed prog w A K (.Tuple [.Name x px, .Name y py] k pp) (.ref e) cenv [e, it, l] [e, it] vs.length (fun i => [(y, ds.getD i .none), (x, .int i)])
      (fun i h => (∃ old, IsEnum h e it i old) ∧ h.IsListIter it l i ∧ h.IsList l vs.toArray) := by
  have W := WalksT.enumerate (prog := prog) (w := w) (A := A) o.handled e it l hei hle hli vs.toArray
  have hl : ∀ (i : Nat) (h : Heap), ((∃ old, IsEnum h e it i old) ∧ h.IsListIter it l i ∧ h.IsList l vs.toArray) → ∀ b ∈ [e, it], ∃ o, h.get? b = some o ∧ ¬ isSeq o := by
    rintro i h ⟨⟨old, h1⟩, ⟨o2, h2, _, h3⟩, _⟩ b hb
    rcases List.mem_cons.mp hb with rfl | hb
    · exact ⟨_, h1, by rintro ⟨_, _, q⟩; cases q⟩
    · rcases List.mem_cons.mp hb with rfl | hb
      · exact ⟨o2, h2, by rintro ⟨_, _, q⟩; rw [h3] at q; cases q⟩
      · cases hb
  refine ⟨W.sub, W.frame, hl, ?_, by simpa using W.done, W.self⟩
  intro i s m Q E hi st kk ns hC q
  refine W.item i s _ _ (by simpa using hi) st fun T vals h1 tk1 hp hT ht mid k1 => ?_
  obtain ⟨t, v, hv, rfl⟩ := hp
  have hTw := W.apart _ _ _ mid
  dsimp only
  refine W.go _ _ _ i T _ _ _ mid fun h2 st2 k2 => ?_
  have hCw : cenv.locals ∉ [e, it] := fun h => hC (W.sub _ h)
  have ns2 : h2.Ns cenv.locals m := ns.at' fun o e' => k2 _ o hCw (k1 _ o hCw e')
  have ht2 : h2.IsTuple T #[.int i t, v] := by
    obtain ⟨o', a, b⟩ := ht
    exact ⟨o', k2 _ _ hTw a, b⟩
  refine wpAny_assign_Tuple o.handled ht2 (by rfl) (by rfl) fun h3 hx3 => ?_
  have hCl : cenv.locals ≠ h2.objs.size := Nat.ne_of_lt ns2.lt
  have ns3 : h3.Ns cenv.locals m := ns2.extBut hx3 hCl
  show wpAny (model prog w) A (assignInOrder [assign (.Name x px) cenv, assign (.Name y py) cenv] [.int i t, v]) _ _ _
  unfold assignInOrder
  refine wpAny_bind (wpAny_holding (wpAny_assign_Name (wpAny_storeName_local hx ns3 (fun h4 hn4 hs4 => ?_) (by rw [hk]; rfl))))
  unfold assignInOrder
  refine wpAny_bind (wpAny_holding (wpAny_assign_Name (wpAny_storeName_local hy hn4 (fun h5 hn5 hs5 => ?_) (by rw [hk]; rfl))))
  unfold assignInOrder
  refine wpAny_pure ?_
  have lt : ∀ b o, s.heap.get? b = some o → b ∉ [e, it] → b ≠ h2.objs.size := fun b o e' hb => Nat.ne_of_lt (Heap.lt_size (k2 b o hb (k1 b o hb e')))
  have up : ∀ b o, b ≠ cenv.locals → b ∉ [e, it] → s.heap.get? b = some o → h5.get? b = some o := fun b o hb hw e' =>
    hs5.extBut b o hb (hs4.extBut b o hb (hx3 b o (lt b o e' hw) (k2 b o hw (k1 b o hw e'))))
  have fpl : ∀ b ∈ [e, it, l], b ≠ h2.objs.size := by
    obtain ⟨⟨old, a1⟩, ⟨o2, a2, _⟩, ⟨o3, a3, _⟩⟩ := st2
    intro b hb
    rcases List.mem_cons.mp hb with rfl | hb
    · exact Nat.ne_of_lt (Heap.lt_size a1)
    · rcases List.mem_cons.mp hb with rfl | hb
      · exact Nat.ne_of_lt (Heap.lt_size a2)
      · rcases List.mem_cons.mp hb with rfl | hb
        · exact Nat.ne_of_lt (Heap.lt_size a3)
        · cases hb
  refine q h5 _ _ (W.frame _ _ _ st2 fun b hb o e' => hs5.extBut b o (fun h => hC (h ▸ hb)) (hs4.extBut b o (fun h => hC (h ▸ hb)) (hx3 b o (fpl b hb) e'))) hn5 ?_ ?_ up
  · intro z d hz
    have rv : Rd s.heap v (ds.getD i .none) := by
      obtain ⟨d', e1, r⟩ := (hK _ kk).get' (i := i) (v := v) (by simpa using hv)
      rw [List.getD_eq_getElem?_getD, e1]; exact r
    rw [List.lookup_cons] at hz
    split at hz
    · rename_i hzy
      cases hz
      have hzy' : z = y := beq_iff_eq.mp hzy
      refine ⟨v, by simp [hzy'], rv.but fun b o sq e' => up b o (ns_notSeq ns e' sq) (fun hw => ?_) e'⟩
      obtain ⟨o', e2, nq⟩ := hl i _ st b hw
      rw [e'] at e2; cases e2; exact nq sq
    · rename_i hzy
      have hzy' : z ≠ y := by simpa using hzy
      rw [List.lookup_cons] at hz
      split at hz
      · rename_i hzx
        cases hz
        have hzx' : z = x := beq_iff_eq.mp hzx
        exact ⟨.int i t, by simp [hzx', hxy], .int⟩
      · cases hz
  · intro z hz
    rw [List.lookup_cons] at hz
    split at hz
    · cases hz
    · rename_i hzy
      have hzy' : z ≠ y := by simpa using hzy
      rw [List.lookup_cons] at hz
      split at hz
      · cases hz
      · rename_i hzx
        have hzx' : z ≠ x := by simpa using hzx
        simp [hzy', hzx']
end
end Mine
end

section
open PySem PySem.W PyProof.Rows
set_option linter.all false
set_option maxRecDepth 100000
namespace Mine

section
variable {prog : Program} {w : World} {A : Around} {env : Env} {G : Gam}

abbrev testsT (ifs : List Expr) (env : Env) : Sem Bool := forIn ifs true fun c r => if r = true then do let ok ← isTrue c env (eval c env); pure (ForInStep.yield ok) else pure (ForInStep.yield r)
abbrev Tsts (prog : Program) (w : World) (A : Around) (env : Env) (G : Gam) (ifs : List Expr) (b : Bool) : Prop := Tr prog w A (Cx env G) (testsT ifs env) (fun _ c => c = b)
theorem tsts_nil : Tsts prog w A env G [] true := fun s E c => wpAny_tests_nil ⟨rfl, kp_refl s⟩
theorem tsts_one {e : Expr} {b : Bool} (a : Tst prog w A env G e b) : Tsts prog w A env G [e] b := fun s E c => wpAny_tests_one (a s E c)
/-- e's value, its lists new -/
abbrev EvF (prog : Program) (w : World) (A : Around) (env : Env) (G : Gam) (e : Expr) (d : PyData) : Prop :=
  ∀ (s : Shared) (E : Value → Shared → Prop), Cx env G s.heap → wpAny (model prog w) A (eval e env) (fun v s' => RdF s.heap s'.heap v d ∧ Keeps s s') E s
theorem evf_scal {e : Expr} {d : PyData} (a : Ev prog w A env G e d) (s : scal d = true) : EvF prog w A env G e d := fun s1 E c => a.use c fun v s' h k => ⟨h.fresh s, k⟩
theorem EvF.ev {e : Expr} {d : PyData} (a : EvF prog w A env G e d) : Ev prog w A env G e d := fun s1 E c => wpAny_mono (a s1 E c) (fun _ _ h => ⟨h.1.rd, h.2⟩) fun _ _ e => e

theorem codeAny_compLoop_gen {elt target iter : Expr} {ifs : List Expr} {scope : Scope} {pos : Pos} {it acc : Value} {env : Env} {R : Result → Shared → Prop} {s : Shared} (I : Nat → Shared → Prop)
    (turn : ∀ n s, I n s → wpAny (model prog w) A (pyNext it) (fun r s₁ => match r with
      | none => R (.ok .next) s₁
      | some v => wpAny (model prog w) A (letOwnedTupleGo target it v) (fun _ s₁' => wpAny (model prog w) A (assign target env v) (fun _ s₂ =>
          wpAny (model prog w) A (testsT ifs env) (fun ok s₃ =>
            if ok = true then wpAny (model prog w) A (eval elt env) (fun x s₄ =>
              wpAny (model prog w) A (call (.builtin "list.append") [acc, x]) (fun _ s₅ => ∃ m, m < n ∧ I m s₅) (notedBy (model prog w) A env fun e s' => R (.error e) s') s₄) (notedBy (model prog w) A env fun e s' => R (.error e) s') s₃
            else ∃ m, m < n ∧ I m s₃) (notedBy (model prog w) A env fun e s' => R (.error e) s') s₂) (notedBy (model prog w) A env fun e s' => R (.error e) s') s₁') (notedBy (model prog w) A env fun e s' => R (.error e) s') s₁) (notedBy (model prog w) A env fun e s' => R (.error e) s') s)
    (n : Nat) (h : I n s) :
    codeAny (model prog w) A (.compLoop (.ListComp elt [⟨target, iter, ifs, 0⟩] scope pos) 0 it acc env) R s := by
  refine codeAny_loop rfl I (fun n s hI => ?_) n h
  show wpAny _ A ((compTurn (.ListComp elt [⟨target, iter, ifs, 0⟩] scope pos) 0 it acc env).onRaise (fun x => do noteFrame x env; theTreesLotGoes x)) _ _ s
  refine wpAny_noted ?_
  rw [compTurn_list]
  refine wpAny_bind (wpAny_standAt (wpAny_bind (wpAny_mono (turn n s hI) (fun r s₁ h₁ => ?_) fun _ _ h' => h')))
  cases r with
  | none => exact wpAny_pure h₁
  | some v =>
    refine wpAny_bind (wpAny_mono h₁ (fun _ s₁' h₁' => ?_) fun _ _ h' => h')
    refine wpAny_bind (wpAny_mono h₁' (fun _ s₂ h₂ => wpAny_bind (wpAny_mono h₂ (fun ok s₃ h₃ => ?_) fun _ _ h' => h')) fun _ _ h' => h')
    cases ok with
    | false => exact wpAny_pure ⟨rfl, h₃⟩
    | true =>
      exact wpAny_bind (wpAny_bind (wpAny_mono h₃ (fun x s₄ h₄ => wpAny_bind (wpAny_mono h₄ (fun _ s₅ h₅ => wpAny_pure (wpAny_pure ⟨rfl, h₅⟩)) fun _ _ h' => h')) fun _ _ h' => h'))

theorem keeps_shape {s s' : Shared} (k : Keeps s s') : ∃ h tk, s' = { s with heap := h, toks := tk } ∧ Gr s.heap h := k

def outcome (n : Nat) (keep : Nat → Bool) (f : Nat → PyData) : List PyData := ((List.range n).filter keep).map f
theorem outcome_succ (n : Nat) (keep : Nat → Bool) (f : Nat → PyData) : outcome (n + 1) keep f = outcome n keep f ++ (if keep n = true then [f n] else []) := by
  unfold outcome
  rw [List.range_succ, List.filter_append, List.map_append]
  congr 1
  cases h : keep n <;> simp [h]
theorem outcome_len (n : Nat) (keep : Nat → Bool) (f : Nat → PyData) : (outcome n keep f).length ≤ n := by
  unfold outcome
  rw [List.length_map]
  exact Nat.le_trans (List.length_filter_le _ _) (by simp)

theorem comp_loop {elt target iter : Expr} {ifs : List Expr} {scope : Scope} {pos : Pos} {it : Value} {cenv : Env} {Gf : Gam} {K : Heap → Prop} {fp wr : List Addr} {n : Nat} {ds : Nat → Gam} {St : Nat → Heap → Prop}
    {R : Result → Shared → Prop} {s : Shared} {D : Addr} {m : Str → Option Value} {keep : Nat → Bool} {f : Nat → PyData}
    (F : Feed prog w A K target it cenv fp wr n ds St) (hz : n ≤ 1000) (hDC : D ≠ cenv.locals) (hDf : D ∉ fp) (hCf : cenv.locals ∉ fp)
    (st : St 0 s.heap) (acc : s.heap.PlainList D #[]) (ns : s.heap.Ns cenv.locals m)
    (hcx : ∀ h i, i < n → (∀ b o, b ≠ cenv.locals → b ∉ wr → b ≠ D → s.heap.get? b = some o → h.get? b = some o) → (∃ m, h.Ns cenv.locals m ∧ ∀ x d, (ds i).lookup x = some d → ∃ v, m x = some v ∧ Rd h v d) → Cx cenv (ds i ++ Gf) h)
    (hK : ∀ h, (∀ b o, b ≠ cenv.locals → b ∉ wr → b ≠ D → s.heap.get? b = some o → h.get? b = some o) → K h)
    (htests : ∀ i, i < n → Tsts prog w A cenv (ds i ++ Gf) ifs (keep i))
    (helt : ∀ i, i < n → keep i = true → EvF prog w A cenv (ds i ++ Gf) elt (f i))
    (hR : ∀ h' tk m' ys, h'.Ns cenv.locals m' → h'.PlainList D ys → RdAF s.heap h' ys.toList (outcome n keep f) →
      (∀ b o, b ≠ cenv.locals → b ∉ wr → b ≠ D → s.heap.get? b = some o → h'.get? b = some o) → R (.ok .next) { s with heap := h', toks := tk }) :
    codeAny (model prog w) A (.compLoop (.ListComp elt [⟨target, iter, ifs, 0⟩] scope pos) 0 it (.ref D) cenv) R s := by
  have hCw : cenv.locals ∉ wr := fun h => hCf (F.sub _ h)
  have hDw : D ∉ wr := fun h => hDf (F.sub _ h)
  obtain ⟨nD, hD0⟩ := acc
  obtain ⟨oC, esC, epC, hC0, hdC, hrC⟩ := id ns
  -- what may change is no tuple and stood at the start
  have inner : ∀ (h h' : Heap), (∀ b ∈ wr, ∃ o, h.get? b = some o ∧ ¬ isSeq o) → (∃ mm, h.Ns cenv.locals mm) → (∃ ys, h.PlainList D ys) → (∀ b o, b ≠ cenv.locals → b ∉ wr → b ≠ D → h.get? b = some o → h'.get? b = some o) →
      ∀ b o, (s.heap.get? b = none ∨ (o.cls = .type "tuple" ∧ isSeq o)) → h.get? b = some o → h'.get? b = some o := by
    rintro h h' hw ⟨mm, hC⟩ ⟨ys, nn, hD⟩ k b o q e
    have b1 : b ≠ cenv.locals := by
      rintro rfl
      rcases q with q | ⟨_, q⟩
      · rw [hC0] at q; cases q
      · exact ns_notSeq hC e q rfl
    have b2 : b ≠ D := by
      rintro rfl
      rcases q with q | ⟨q, _⟩
      · rw [hD0] at q; cases q
      · rw [hD] at e; cases e; simp at q
    have b3 : b ∉ wr := by
      intro hb
      rcases q with q | ⟨_, q⟩
      · obtain ⟨o', e', _⟩ := F.live _ _ st b hb
        rw [e'] at q; cases q
      · obtain ⟨o', e', nq⟩ := hw b hb
        rw [e] at e'; cases e'; exact nq q
    exact k b o b1 b3 b2 e
  have keepRd : ∀ (h h' : Heap) (vs : List Value) (dd : List PyData), (∀ b ∈ wr, ∃ o, h.get? b = some o ∧ ¬ isSeq o) → (∃ mm, h.Ns cenv.locals mm) → (∃ ys, h.PlainList D ys) →
      (∀ b o, b ≠ cenv.locals → b ∉ wr → b ≠ D → h.get? b = some o → h'.get? b = some o) → RdAF s.heap h vs dd → RdAF s.heap h' vs dd := by
    intro h h' vs dd a1 a2 a3 k r
    obtain ⟨as, r1, r2, r3, r4⟩ := r
    refine ⟨as, readsAll_but r1 (fun b o sq q e => inner h h' a1 a2 a3 k b o (q.imp (r4 b) (fun c => ⟨c, sq⟩)) e) r3, fun a m => ?_, r3, r4⟩
    obtain ⟨i, nn, e⟩ := r2 a m
    exact ⟨i, nn, inner h h' a1 a2 a3 k a _ (.inl (r4 a m)) e⟩
  refine codeAny_compLoop_gen
    (fun k s' => ∃ h' tk m' ys i, s' = { s with heap := h', toks := tk } ∧ St i h' ∧ h'.PlainList D ys ∧ h'.Ns cenv.locals m' ∧ RdAF s.heap h' ys.toList (outcome i keep f) ∧ i ≤ n ∧ k = n + 1 - i ∧
      (∀ b o, b ≠ cenv.locals → b ∉ wr → b ≠ D → s.heap.get? b = some o → h'.get? b = some o)) ?_ (n + 1)
    ⟨s.heap, s.toks, m, #[], 0, rfl, st, ⟨nD, hD0⟩, ns, RdAF.nil, Nat.zero_le _, rfl, fun _ _ _ _ _ e => e⟩
  rintro k s' ⟨H, tk, m', ys, i, rfl, st', acc', ns', hr, hi, rfl, hk⟩
  by_cases hlt : i < n
  · refine wpAny_mono (F.item i _ m' (fun _ s₂ => wpAny (model prog w) A (testsT ifs cenv) (fun ok s₃ =>
            if ok = true then wpAny (model prog w) A (eval elt cenv) (fun x s₄ =>
              wpAny (model prog w) A (call (.builtin "list.append") [.ref D, x]) (fun _ s₅ => ∃ m, m < n + 1 - i ∧ ∃ h' tk m' ys i, s₅ = { s with heap := h', toks := tk } ∧ St i h' ∧ h'.PlainList D ys ∧ h'.Ns cenv.locals m' ∧ RdAF s.heap h' ys.toList (outcome i keep f) ∧ i ≤ n ∧ m = n + 1 - i ∧
      (∀ b o, b ≠ cenv.locals → b ∉ wr → b ≠ D → s.heap.get? b = some o → h'.get? b = some o)) (notedBy (model prog w) A cenv fun e s' => R (.error e) s') s₄) (notedBy (model prog w) A cenv fun e s' => R (.error e) s') s₃
            else ∃ m, m < n + 1 - i ∧ ∃ h' tk m' ys i, s₃ = { s with heap := h', toks := tk } ∧ St i h' ∧ h'.PlainList D ys ∧ h'.Ns cenv.locals m' ∧ RdAF s.heap h' ys.toList (outcome i keep f) ∧ i ≤ n ∧ m = n + 1 - i ∧
      (∀ b o, b ≠ cenv.locals → b ∉ wr → b ≠ D → s.heap.get? b = some o → h'.get? b = some o)) (notedBy (model prog w) A cenv fun e s' => R (.error e) s') s₂) _ hlt st' (hK _ hk) ns' hCf ?_) ?_ fun _ _ e => e
    · intro h1 tk1 m1 st1 ns1 hm1 _ k1
      have up1 : ∀ b o, b ≠ cenv.locals → b ∉ wr → b ≠ D → s.heap.get? b = some o → h1.get? b = some o := fun b o b1 b2 b3 e => k1 b o b1 b2 (hk b o b1 b2 b3 e)
      have acc1 : h1.PlainList D ys := acc'.at fun o e => k1 D o hDC hDw e
      have hr1 : RdAF s.heap h1 ys.toList (outcome i keep f) := keepRd H h1 _ _ (F.live _ _ st') ⟨_, ns'⟩ ⟨_, acc'⟩ (fun b o b1 b2 _ e => k1 b o b1 b2 e) hr
      have cx1 := hcx h1 i hlt up1 ⟨m1, ns1, hm1⟩
      refine wpAny_mono (htests i hlt _ _ cx1) (fun ok s3 h3 => ?_) fun _ _ e => e
      obtain ⟨rfl, h3, tk3, rfl, k3⟩ := h3
      have st3 : St (i + 1) h3 := F.frame _ _ _ st1 fun b _ o e => k3 b o e
      have ns3 := ns1.keeps k3
      have acc3 : h3.PlainList D ys := acc1.at fun o e => k3 _ o e
      have up3 : ∀ b o, b ≠ cenv.locals → b ∉ wr → b ≠ D → s.heap.get? b = some o → h3.get? b = some o := fun b o b1 b2 b3 e => k3 b o (up1 b o b1 b2 b3 e)
      have hr3 : RdAF s.heap h3 ys.toList (outcome i keep f) := hr1.but fun b o _ e => k3 b o e
      cases hkp : keep i with
      | false =>
        simp only [Bool.false_eq_true, if_false]
        refine ⟨n + 1 - (i + 1), by omega, h3, tk3, m1, ys, i + 1, rfl, st3, acc3, ns3, ?_, hlt, rfl, up3⟩
        rw [outcome_succ, hkp]; simpa using hr3
      | true =>
        simp only [if_true]
        refine wpAny_mono (helt i hlt hkp _ _ (cx1.gr k3)) (fun y s4 h4 => ?_) fun _ _ e => e
        obtain ⟨hy, h4, tk4, rfl, k4⟩ := h4
        have acc4 : h4.PlainList D ys := acc3.at fun o e => k4 _ o e
        have hlen : ys.size ≤ 1000 := by
          have e1 := hr.rd.len
          have e2 := outcome_len i keep f
          simp at e1
          omega
        have hr4 : RdAF s.heap h4 ys.toList (outcome i keep f) := hr3.but fun b o _ e => k4 b o e
        have hy4 : RdF s.heap h4 y (f i) := by
          obtain ⟨as, r1, r2, r3, r4⟩ := hy
          refine ⟨as, r1, r2, r3, fun a m => ?_⟩
          have q := r4 a m
          cases e : s.heap.get? a with
          | none => rfl
          | some o =>
            exfalso
            by_cases b1 : a = cenv.locals
            · subst b1
              obtain ⟨o', _, _, e', _⟩ := ns3
              have q' : h3.get? cenv.locals = none := q
              rw [e'] at q'; cases q'
            · by_cases b2 : a ∈ wr
              · obtain ⟨o', e', _⟩ := F.live _ _ st3 a b2
                have q' : h3.get? a = none := q
                rw [e'] at q'; cases q'
              · by_cases b3 : a = D
                · subst b3
                  obtain ⟨nn, e'⟩ := acc3
                  have q' : h3.get? a = none := q
                  rw [e'] at q'; cases q'
                · have q' : h3.get? a = none := q
                  rw [up3 a o b1 b2 b3 e] at q'; cases q'
        refine wpAny_list_append_plain (hsz := by rw [sizeLine_eq]; omega) acc4 fun h5 acc5 hs5 => ?_
        have k5 : ∀ b o, b ≠ D → h4.get? b = some o → h5.get? b = some o := fun b o hb e => hs5.extBut b o hb e
        refine ⟨n + 1 - (i + 1), by omega, h5, tk4, m1, ys.push y, i + 1, rfl, ?_, acc5, (ns3.keeps k4).sameBut hs5 (Ne.symm hDC), ?_, hlt, rfl, fun b o b1 b2 b3 e => k5 b o b3 (k4 b o (up3 b o b1 b2 b3 e))⟩
        · exact F.frame _ _ _ st3 fun b hb o e => k5 b o (fun h => hDf (h ▸ hb)) (k4 b o e)
        · rw [outcome_succ, hkp]
          simp only [if_true, Array.toList_push]
          exact keepRd h4 h5 _ _ (fun b hb => let ⟨o, e, q⟩ := F.live _ _ st3 b hb; ⟨o, k4 _ _ e, q⟩) ⟨_, ns3.keeps k4⟩ ⟨_, acc4⟩ (fun b o _ _ b3 e => k5 b o b3 e) (hr4.snoc hy4)
    · intro r s1 h1
      cases r with
      | none => exact h1.elim
      | some v => exact h1
  · have hin : i = n := by omega
    subst hin
    refine F.done _ _ _ st' fun h1 tk1 k1 => ?_
    exact hR h1 tk1 m' ys (ns'.at' fun o e => k1 _ o hCw e) (acc'.at fun o e => k1 _ o hDw e) (keepRd H h1 _ _ (F.live _ _ st') ⟨_, ns'⟩ ⟨_, acc'⟩ (fun b o _ b2 _ e => k1 b o b2 e) hr) fun b o b1 b2 b3 e => k1 b o b2 (hk b o b1 b2 b3 e)
end
end Mine
end

section
open PySem PySem.W PyProof.Rows
set_option linter.all false
set_option maxRecDepth 100000
namespace Mine

theorem RdAF.but2 {h₀ h h' : Heap} {vs : List Value} {ds : List PyData} (x : RdAF h₀ h vs ds) (k : ∀ b o, (h₀.get? b = none ∨ isSeq o) → h.get? b = some o → h'.get? b = some o) : RdAF h₀ h' vs ds := by
  obtain ⟨as, a1, a2, a3, a4⟩ := x
  exact ⟨as, readsAll_but a1 (fun b o sq q e => k b o (.inr sq) e) a3, fun a m => let ⟨i, n, e⟩ := a2 a m; ⟨i, n, k _ _ (.inl (a4 a m)) e⟩, a3, a4⟩
theorem RdAF.older {h₀ h₁ h : Heap} {vs : List Value} {ds : List PyData} (x : RdAF h₁ h vs ds) (k : Gr h₀ h₁) : RdAF h₀ h vs ds := by
  obtain ⟨as, a1, a2, a3, a4⟩ := x
  refine ⟨as, a1, a2, a3, fun a m => ?_⟩
  cases e : h₀.get? a with
  | none => rfl
  | some o => have := k a o e; rw [a4 a m] at this; cases this
theorem RdF.list {h₀ h : Heap} {a : Addr} {vs : List Value} {ds : List PyData} (l : PlL h a vs) (f : h₀.get? a = none) (r : RdAF h₀ h vs ds) : RdF h₀ h (.ref a) (.list ds) := by
  obtain ⟨n, ho⟩ := l
  obtain ⟨as, x, p, q, g⟩ := r
  exact ⟨_, reads_list_at ho rfl rfl x, fun b m => by
    rcases List.mem_cons.mp m with rfl | m
    · exact ⟨_, _, ho⟩
    · exact p b m, by rw [nd, q], fun b m => by
    rcases List.mem_cons.mp m with rfl | m
    · exact f
    · exact g b m⟩

section
variable {prog : Program} {w : World} {A : Around} {env : Env} {G : Gam}

def Src (prog : Program) (w : World) (A : Around) (env : Env) (G : Gam) (target iter : Expr) (n : Nat) (ds : Nat → Gam) (nm : List Str) : Prop :=
  ∀ (s : Shared) (Q : Value → Shared → Prop) (E : Value → Shared → Prop), Cx env G s.heap →
    (∀ it s₂ fp wr St K, Keeps s s₂ → (∀ cenv : Env, cenv.scope.kind = .function → (∀ x ∈ nm, cenv.kindOf x = some .local) → Feed prog w A K target it cenv fp wr n ds St) → St 0 s₂.heap →
      (∀ b ∈ fp, b < s₂.heap.objs.size) → (∀ b ∈ wr, s.heap.get? b = none) → (∀ h, SGr s₂.heap h → K h) → Q it s₂) →
    wpAny (model prog w) A (eval iter env) (fun xv s₁ => wpAny (model prog w) A (pyIter xv) Q E s₁) E s

theorem comp_block {elt target iter : Expr} {ifs : List Expr} {scope : Scope} {cl : List (Str × Addr)} {pos : Pos} {s₀ s₂ : Shared} {it : Value} {Gf : Gam} {K : Heap → Prop} {fp wr : List Addr} {n : Nat} {ds : Nat → Gam} {St : Nat → Heap → Prop}
    {keep : Nat → Bool} {f : Nat → PyData} {RR : Value → Addr → Result → Shared → Prop} {E : Value → Shared → Prop}
    (hF : ∀ C, Feed prog w A K target it (compEnvC scope cl C env) fp wr n ds St) (hz : n ≤ 1000)
    (hcell : ∀ y ∈ scope.names, y.2 ≠ .cell) (hkind : scope.kind = .function) (st : St 0 s₂.heap) (hfp : ∀ b ∈ fp, b < s₂.heap.objs.size)
    (hk0 : Keeps s₀ s₂) (hwr : ∀ b ∈ wr, s₀.heap.get? b = none) (hK : ∀ h, SGr s₂.heap h → K h)
    (hloc : ∀ C i x d, (ds i).lookup x = some d → (compEnvC scope cl C env).kindOf x = some .local)
    (hGf : ∀ C h, Gr s₀.heap h → Cx (compEnvC scope cl C env) Gf h)
    (htests : ∀ C i, i < n → Tsts prog w A (compEnvC scope cl C env) (ds i ++ Gf) ifs (keep i))
    (helt : ∀ C i, i < n → keep i = true → EvF prog w A (compEnvC scope cl C env) (ds i ++ Gf) elt (f i))
    (hRR : ∀ D C h' tk m' ys (h₁ : Heap), Gr s₀.heap h₁ → (∃ oC, h₁.get? C = some oC) → s₂.heap.get? D = none → s₂.heap.get? C = none → D ≠ C → h'.Ns C m' → h'.PlainList D ys → RdAF h₁ h' ys.toList (outcome n keep f) →
      (∀ b o, b ∉ wr → s₂.heap.get? b = some o → h'.get? b = some o) → RR (.ref D) C (.ok .next) { s₂ with heap := h', toks := tk }) :
    wpAny (model prog w) A (newList []) (fun acc s₃ => wpAny (model prog w) A (newFunctionEnv scope env.globals cl [] env.qual none .none (some env)) (fun cenv s₄ =>
      codeAny (model prog w) A (.compStart (.ListComp elt [⟨target, iter, ifs, 0⟩] scope pos) 0 it acc { cenv with scope := relabel scope env }) (RR acc cenv.locals) s₄) E s₃) E s₂ := by
  refine wpAny_newObj_type (wpAny_newFunctionEnv hcell (by intro y hy; simp at hy) (fun h₁ hns₁ hsb₁ => ?_) hkind)
  dsimp only at hns₁ hsb₁ ⊢
  generalize hH2 : s₂.heap.push { cls := .type "list", dict := none, data := .seq ([] : List Value).toArray } = H2 at hns₁ hsb₁ ⊢
  have hC : H2.objs.size = s₂.heap.objs.size + 1 := by rw [← hH2, Heap.size_push]
  have hDC : s₂.heap.objs.size ≠ H2.objs.size := by rw [hC]; exact Nat.ne_of_lt (Nat.lt_succ_self _)
  have below : ∀ b, b < s₂.heap.objs.size → b ≠ H2.objs.size ∧ b ≠ s₂.heap.objs.size := fun b hb => ⟨by rw [hC]; exact Nat.ne_of_lt (Nat.lt_succ_of_lt hb), Nat.ne_of_lt hb⟩
  have hDf : s₂.heap.objs.size ∉ fp := fun hm => Nat.lt_irrefl _ (hfp _ hm)
  have hCf : H2.objs.size ∉ fp := fun hm => by have := hfp _ hm; rw [hC] at this; exact Nat.lt_irrefl _ (Nat.lt_of_succ_lt this)
  have old : ∀ b o, s₂.heap.get? b = some o → h₁.get? b = some o := fun b o e => hsb₁.extBut b o (below b (Heap.lt_size e)).1 (Heap.get?_push_of_some _ (hH2 ▸ Heap.get?_push_of_some _ e))
  have hacc : h₁.PlainList s₂.heap.objs.size #[] := ⟨_, hsb₁.extBut _ _ hDC (Heap.get?_push_of_some _ (hH2 ▸ Heap.get?_push_size _ rfl))⟩
  have hst₁ : St 0 h₁ := (hF 0).frame _ _ _ st fun b _ o e => old b o e
  have fresh : ∀ a, s₂.heap.objs.size ≤ a → s₂.heap.get? a = none := fun a ha => by
    cases e : s₂.heap.get? a with
    | none => rfl
    | some o' => exact absurd (Heap.lt_size e) (Nat.not_lt.mpr ha)
  have grow : ∀ h, (∀ b o, b ≠ H2.objs.size → b ∉ wr → b ≠ s₂.heap.objs.size → h₁.get? b = some o → h.get? b = some o) → Gr s₀.heap h := fun h k b o e => by
    have e2 := kp_gr hk0 b o e
    exact k b o (below b (Heap.lt_size e2)).1 (fun hb => by rw [hwr b hb] at e; cases e) (below b (Heap.lt_size e2)).2 (old b o e2)
  have loop : ∀ s₃ : Shared, s₃ = { s₂ with heap := h₁, toks := s₂.toks + ([] : List (Str × Value)).length } →
      codeAny (model prog w) A (.compLoop (.ListComp elt [⟨target, iter, ifs, 0⟩] scope pos) 0 it (.ref s₂.heap.objs.size) (compEnvC scope cl H2.objs.size env))
        (RR (.ref s₂.heap.objs.size) H2.objs.size) s₃ := by
    rintro s₃ rfl
    refine comp_loop (cenv := compEnvC scope cl H2.objs.size env) (Gf := Gf) (keep := keep) (f := f) (hF _) hz hDC hDf hCf hst₁ hacc hns₁ ?_ ?_ (htests _) (helt _) fun h' tk m' ys hn ha hr hk => ?_
    · rintro h i hi k ⟨m, hm, hd⟩
      have cx := hGf H2.objs.size h (grow h k)
      refine ⟨cx.base, fun x d hx => ?_⟩
      rw [List.lookup_append] at hx
      cases hq : (ds i).lookup x with
      | some d' =>
        rw [hq] at hx; cases hx
        obtain ⟨v, hv, r⟩ := hd x _ hq
        exact ⟨v, .inl ⟨hloc _ i x _ hq, m, hm, hv⟩, r⟩
      | none =>
        rw [hq] at hx
        exact cx.has x d hx
    · intro h k
      refine hK h fun b o sq e => k b o (below b (Heap.lt_size e)).1 (fun hb => ?_) (below b (Heap.lt_size e)).2 (old b o e)
      obtain ⟨o', e', nq⟩ := (hF 0).live _ _ st b hb
      rw [e] at e'; cases e'; exact nq sq
    · have g1 : Gr s₀.heap h₁ := fun b o e => old b o (kp_gr hk0 b o e)
      refine hRR _ _ h' tk m' ys h₁ g1 ?_ (fresh _ (Nat.le_refl _)) (fresh _ (by rw [hC]; exact Nat.le_succ _)) hDC hn ha hr fun b o hbf e =>
        hk b o (below b (Heap.lt_size e)).1 hbf (below b (Heap.lt_size e)).2 (old b o e)
      obtain ⟨oC, _, _, e, _⟩ := hns₁
      exact ⟨oC, e⟩
  exact codeAny_compStart_list (loop _ rfl) ((hF 0).self 0 _ _ _ hst₁ (loop _ rfl))

/-- what a comprehension's own block may read of the frame around it -/
def Frees (env : Env) (G : Gam) (cl : List (Str × Addr)) (scope : Scope) (Gf : Gam) : Prop :=
  ∀ n d, Gf.lookup n = some d → G.lookup n = some d ∧ env.kindOf n = some .cell ∧ (relabel scope env).names.lookup n = some .cell ∧ ∃ c, cl.lookup n = some c ∧ env.cells.lookup n = some c
theorem frees_nil {cl : List (Str × Addr)} {scope : Scope} : Frees env G cl scope [] := fun n d h => nomatch h
theorem Frees.cons {cl : List (Str × Addr)} {scope : Scope} {Gf : Gam} {n : Str} {d : PyData} (x : Frees env G cl scope Gf) (h1 : G.lookup n = some d) (h2 : env.kindOf n = some .cell) (h3 : (relabel scope env).names.lookup n = some .cell)
    (c : Addr) (h4 : cl.lookup n = some c) (h5 : env.cells.lookup n = some c) : Frees env G cl scope ((n, d) :: Gf) := fun m e h => by
  rw [List.lookup_cons] at h
  split at h
  · rename_i hm
    cases h
    have : m = n := beq_iff_eq.mp hm
    subst this
    exact ⟨h1, h2, h3, c, h4, h5⟩
  · exact x m e h
theorem Frees.cx {cl : List (Str × Addr)} {scope : Scope} {Gf : Gam} {h : Heap} (x : Frees env G cl scope Gf) (c : Cx env G h) (C : Addr) : Cx (compEnvC scope cl C env) Gf h :=
  ⟨c.base, fun n d e => by
    obtain ⟨a1, a2, a3, k, a4, a5⟩ := x n d e
    obtain ⟨v, hv, r⟩ := c.has n d a1
    refine ⟨v, .inr ⟨a3, k, a4, ?_⟩, r⟩
    rcases hv with ⟨b1, _⟩ | ⟨_, k', b2, b3⟩
    · rw [a2] at b1; cases b1
    · rw [a5] at b2; cases b2; exact b3⟩

theorem evf_comp {elt target iter : Expr} {ifs : List Expr} {scope : Scope} {cl : List (Str × Addr)} {pos : Pos} {Gf : Gam} {n : Nat} {ds : Nat → Gam} {nm : List Str} {keep : Nat → Bool} {f : Nat → PyData}
    (src : Src prog w A env G target iter n ds nm) (fr : Frees env G cl scope Gf) (hz : n ≤ 1000)
    (htests : ∀ C i, i < n → Tsts prog w A (compEnvC scope cl C env) (ds i ++ Gf) ifs (keep i))
    (helt : ∀ C i, i < n → keep i = true → EvF prog w A (compEnvC scope cl C env) (ds i ++ Gf) elt (f i))
    (hclos : closureFor scope env = pure cl)
    (hnm : ∀ i x d, (ds i).lookup x = some d → x ∈ nm)
    (hnm2 : ∀ x ∈ nm, scope.names.lookup x = some .local)
    (hcell : ∀ y ∈ scope.names, y.2 ≠ .cell) (hkind : scope.kind = .function)
    (hnames : ∀ y ∈ scope.names, y.2 = .local → scope.names.lookup y.1 = some .local)
    (hs : ∀ x, foldedSetIterable iter env x = pure x := by intro _; rfl) :
    EvF prog w A env G (.ListComp elt [⟨target, iter, ifs, 0⟩] scope pos) (.list (outcome n keep f)) := fun s E c => by
  rw [eval_ListComp]
  have loc : ∀ C x, x ∈ nm → (compEnvC scope cl C env).kindOf x = some .local := fun C x hx => lookup_relabel_local (hnm2 x hx)
  refine wpAny_comprehension_free (use := none) rfl hs hclos hkind hnames (src s _ _ c fun it s₂ fp wr St K k2 hF st hfp hwr hK => ?_)
  refine comp_block (RR := fun acc C => compPost (model prog w) A E none (fun v s' => RdF s.heap s'.heap v (.list (outcome n keep f)) ∧ Keeps s s') acc C) (s₀ := s) (Gf := Gf) (keep := keep) (f := f) (fun C => hF _ (by simp [compEnvC, relabel, hkind]) (loc C)) hz hcell hkind st hfp k2 hwr hK
    (fun C i x d h => loc C x (hnm i x d h)) (fun C h g => fr.cx (c.gr g) C) htests helt ?_
  intro D C h' tk m' ys h₁ g1 hC1 hD hC hDC hn hpl hr hk
  refine ⟨m', hn, fun h'' hs'' => ?_⟩
  have grow : Gr s.heap h' := fun b o e => hk b o (fun hb => by rw [hwr b hb] at e; cases e) (kp_gr k2 b o e)
  have notC : ∀ b o, s.heap.get? b = some o → b ≠ C := fun b o e hb => by
    have := kp_gr k2 b o e
    rw [hb, hC] at this; cases this
  refine ⟨?_, ?_⟩
  · have pl2 : PlL h'' D ys.toList := by
      obtain ⟨nn, e⟩ := hpl
      exact ⟨nn, by simpa using hs''.extBut D _ hDC e⟩
    refine RdF.list pl2 ?_ ?_
    · cases e : s.heap.get? D with
      | none => rfl
      | some o => have := kp_gr k2 D o e; rw [hD] at this; cases this
    · have : RdAF h₁ h'' ys.toList (outcome n keep f) := hr.but2 fun b o q e => by
        refine hs''.extBut b o ?_ e
        rcases q with q | q
        · rintro rfl
          obtain ⟨oC, e'⟩ := hC1
          rw [e'] at q; cases q
        · exact ns_notSeq hn e q
      exact this.older g1
  · obtain ⟨h2, tk2, rfl, g2⟩ := k2
    exact ⟨h'', tk, rfl, fun b o e => hs''.extBut b o (notC b o e) (grow b o e)⟩

/-- sources -/
theorem src_list {x : Str} {px : Pos} {iter : Expr} {ds : List PyData} {k : Nat} (o : Ok k A) (a : EvV prog w A env G iter (fun h v => Ls h v ds)) :
    Src prog w A env G (.Name x px) iter ds.length (fun i => [(x, ds.getD i .none)]) [x] := fun s Q E c q => by
  refine a.use c fun v s1 h k1 => ?_
  obtain ⟨l, vs, rfl, il, ra⟩ := h
  have hlt : l < s1.heap.objs.size := by obtain ⟨_, e, _⟩ := il; exact Heap.lt_size e
  have hlen := ra.len
  refine wpAny_pyIter_list il (q _ _ [s1.heap.objs.size, l] [s1.heap.objs.size] (fun i h => h.IsListIter s1.heap.objs.size l i ∧ h.IsList l vs.toArray) (fun h => RdA h vs ds) (kp_trans k1 kp_push) ?_ ?_ ?_ ?_ ?_)
  · intro cenv hk hn
    have W := Walks.list (prog := prog) (w := w) (A := A) o.handled s1.heap.objs.size l (Nat.ne_of_lt hlt) vs.toArray
    rw [show vs.toArray.size = ds.length by simp [hlen]] at W
    refine feed_name W ?_ ?_ hk (hn x (.head _))
    · rintro i h ⟨⟨o2, h2, _, h3⟩, _⟩ b hb
      rcases List.mem_cons.mp hb with rfl | hb
      · exact ⟨o2, h2, by rintro ⟨_, _, q⟩; rw [h3] at q; cases q⟩
      · cases hb
    · intro i v h hi hp hr
      obtain ⟨d', e1, r⟩ := hr.get' (i := i) (v := v) (by simpa using hp)
      rw [List.getD_eq_getElem?_getD, e1]; exact r
  · exact ⟨⟨_, Heap.get?_push_size _ rfl, rfl, rfl⟩, il.push _⟩
  · intro b hb
    show b < (s1.heap.push _).objs.size
    rw [Heap.size_push]
    rcases List.mem_cons.mp hb with rfl | hb
    · exact Nat.lt_succ_self _
    · rcases List.mem_cons.mp hb with rfl | hb
      · exact Nat.lt_succ_of_lt hlt
      · cases hb
  · intro b hb
    rcases List.mem_cons.mp hb with rfl | hb
    · cases e : s.heap.get? s1.heap.objs.size with
      | none => rfl
      | some o => exact absurd (Heap.lt_size (kp_gr k1 _ _ e)) (Nat.lt_irrefl _)
    · cases hb
  · intro h g
    exact RdA.but ra fun b o sq e => g b o sq (Heap.get?_push_of_some _ e)
theorem src_tuple {x : Str} {px : Pos} {iter : Expr} {ds : List PyData} {k : Nat} (o : Ok k A) (a : Ev prog w A env G iter (.tuple ds)) :
    Src prog w A env G (.Name x px) iter ds.length (fun i => [(x, ds.getD i .none)]) [x] := fun s Q E c q => by
  refine a.use c fun v s1 h k1 => ?_
  obtain ⟨l, vs, rfl, il, ra⟩ := h.tuple_inv
  have hlt : l < s1.heap.objs.size := by obtain ⟨_, e, _⟩ := il; exact Heap.lt_size e
  have hlen := ra.len
  refine wpAny_pyIter_tuple il (q _ _ [s1.heap.objs.size, l] [s1.heap.objs.size] (fun i h => h.IsTupleIter s1.heap.objs.size l i ∧ h.IsTuple l vs.toArray) (fun h => RdA h vs ds) (kp_trans k1 kp_push) ?_ ?_ ?_ ?_ ?_)
  · intro cenv hk hn
    have W := Walks.tuple (prog := prog) (w := w) (A := A) o.handled s1.heap.objs.size l (Nat.ne_of_lt hlt) vs.toArray
    rw [show vs.toArray.size = ds.length by simp [hlen]] at W
    refine feed_name W ?_ ?_ hk (hn x (.head _))
    · rintro i h ⟨⟨o2, h2, _, h3⟩, _⟩ b hb
      rcases List.mem_cons.mp hb with rfl | hb
      · exact ⟨o2, h2, by rintro ⟨_, _, q⟩; rw [h3] at q; cases q⟩
      · cases hb
    · intro i v h hi hp hr
      obtain ⟨d', e1, r⟩ := hr.get' (i := i) (v := v) (by simpa using hp)
      rw [List.getD_eq_getElem?_getD, e1]; exact r
  · refine ⟨⟨_, Heap.get?_push_size _ rfl, rfl, rfl⟩, ?_⟩
    obtain ⟨o, a, b⟩ := il
    exact ⟨o, Heap.get?_push_of_some _ a, b⟩
  · intro b hb
    show b < (s1.heap.push _).objs.size
    rw [Heap.size_push]
    rcases List.mem_cons.mp hb with rfl | hb
    · exact Nat.lt_succ_self _
    · rcases List.mem_cons.mp hb with rfl | hb
      · exact Nat.lt_succ_of_lt hlt
      · cases hb
  · intro b hb
    rcases List.mem_cons.mp hb with rfl | hb
    · cases e : s.heap.get? s1.heap.objs.size with
      | none => rfl
      | some o => exact absurd (Heap.lt_size (kp_gr k1 _ _ e)) (Nat.lt_irrefl _)
    · cases hb
  · intro h g
    exact RdA.but ra fun b o sq e => g b o sq (Heap.get?_push_of_some _ e)

/-- a range object -/
def IsRg (h : Heap) (v : Value) (a b : Int) : Prop := ∃ r t u k, v = .ref r ∧ IsRange h r a b 1 t u k
theorem b_range1 {b : Int} : ∀ (v : Value) (s : Shared) (E : Value → Shared → Prop), Rd s.heap v (.int b) → wpAny (model prog w) A (call (.type "range") [v]) (fun v s' => IsRg s'.heap v 0 b ∧ Keeps s s') E s := fun v s E h => by
  obtain ⟨t, rfl⟩ := h.int_inv
  exact call_range_1 ⟨⟨_, _, _, _, rfl, IsRange.new ..⟩, kp_mk fun _ _ e => Heap.get?_push_of_some _ e⟩
theorem b_range2 {a b : Int} : ∀ (v1 v2 : Value) (s : Shared) (E : Value → Shared → Prop), Rd s.heap v1 (.int a) → Rd s.heap v2 (.int b) → wpAny (model prog w) A (call (.type "range") [v1, v2]) (fun v s' => IsRg s'.heap v a b ∧ Keeps s s') E s := fun v1 v2 s E h1 h2 => by
  obtain ⟨t, rfl⟩ := h1.int_inv; obtain ⟨u, rfl⟩ := h2.int_inv
  exact call_range_2 ⟨⟨_, _, _, _, rfl, IsRange.new ..⟩, kp_mk fun _ _ e => Heap.get?_push_of_some _ e⟩
theorem src_range {x : Str} {px : Pos} {iter : Expr} {lo hi : Int} {k : Nat} (o : Ok k A) (a : EvV prog w A env G iter (fun h v => IsRg h v lo hi)) (h0 : -1000 ≤ lo) (h1 : lo ≤ 1000) (h2 : -1000 ≤ hi) (h3 : hi ≤ 1000) :
    Src prog w A env G (.Name x px) iter (hi - lo).toNat (fun i => [(x, .int (lo + i))]) [x] := fun s Q E c q => by
  refine a.use c fun v s1 h k1 => ?_
  obtain ⟨r, t, u, kk, rfl, ir⟩ := h
  have hsz : Builtin.Range.rangeSize lo hi 1 = ((hi - lo).toNat : Int) := by rw [rangeSize_one]; split <;> omega
  refine wpAny_pyIter_range ir (small_one (by omega) (by omega) (by omega) (by omega)) (q _ _ [s1.heap.objs.size] [s1.heap.objs.size] (fun i h => IsRangeIter h s1.heap.objs.size (lo + (i : Nat) * 1) (((hi - lo).toNat : Int) - (i : Nat)) 1) (fun _ => True) (kp_trans k1 kp_push) ?_ ?_ ?_ ?_ ?_)
  · intro cenv hk hn
    refine feed_name (Walks.range (prog := prog) (w := w) (A := A) o.handled s1.heap.objs.size lo 1 (hi - lo).toNat) ?_ ?_ hk (hn x (.head _))
    · rintro i h hit b hb
      rcases List.mem_cons.mp hb with rfl | hb
      · exact ⟨_, hit, by rintro ⟨_, _, q⟩; cases q⟩
      · cases hb
    · rintro i v h hi ⟨t, rfl⟩ _
      rw [show lo + (i : Int) * 1 = lo + i by omega]
      exact .int
  · have : IsRangeIter (s1.heap.push { cls := .type "range_iterator", data := .fields #[rawInt lo, rawInt (Builtin.Range.rangeSize lo hi 1), rawInt 1] }) s1.heap.objs.size (lo + ((0 : Nat) : Int) * 1) (((hi - lo).toNat : Int) - ((0 : Nat) : Int)) 1 := by
      rw [show lo + ((0 : Nat) : Int) * 1 = lo by simp, show (((hi - lo).toNat : Int) - ((0 : Nat) : Int)) = Builtin.Range.rangeSize lo hi 1 by rw [hsz]; simp]
      exact Heap.get?_push_size _ rfl
    exact this
  · intro b hb
    show b < (s1.heap.push _).objs.size
    rw [Heap.size_push]
    rcases List.mem_cons.mp hb with rfl | hb
    · exact Nat.lt_succ_self _
    · cases hb
  · intro b hb
    rcases List.mem_cons.mp hb with rfl | hb
    · cases e : s.heap.get? s1.heap.objs.size with
      | none => rfl
      | some o => exact absurd (Heap.lt_size (kp_gr k1 _ _ e)) (Nat.lt_irrefl _)
    · cases hb
  · intro _ _; trivial
/-- an enumerate object over a list -/
def IsEn (h : Heap) (v : Value) (ds : List PyData) : Prop := ∃ e it l vs, v = .ref e ∧ e ≠ it ∧ l ≠ e ∧ l ≠ it ∧ IsEnum h e it 0 .none ∧ h.IsListIter it l 0 ∧ h.IsList l vs.toArray ∧ RdA h vs ds
theorem src_enum {x y : Str} {px py pp pn pc : Pos} {kk : Nat} {e : Expr} {ds : List PyData} {k : Nat} (o : Ok k A) (fe : FEnv env) (a : EvF prog w A env G e (.list ds)) (hxy : x ≠ y)
    (hk : env.kindOf "enumerate" = some .globalImplicit := by rfl) (hs : starEach [e] env = [(false, eval e env)] := by rfl) :
    Src prog w A env G (.Tuple [.Name x px, .Name y py] kk pp) (.Call (.Name "enumerate" pn) [e] [] pc) ds.length (fun i => [(y, ds.getD i .none), (x, .int i)]) [x, y] := fun s Q E c q => by
  have hn : List.lookup (Str.ofString "enumerate") bl = some (Value.type "enumerate") := by rfl
  refine Call_Name1 ((ev_builtin fe hk hn).use c fun v s1 h k => ?_) hs
  subst h
  refine PySem.callWith_type rfl (Calls.evalArgs_plain (Calls.spliced_cons (wpAny_mono (a s1 E (c.gr (kp_gr k))) (fun v2 s2 h2 => Calls.spliced_nil ?_) fun _ _ e => e)))
  obtain ⟨h2, k2⟩ := h2
  obtain ⟨l, vs, rfl, il, ra⟩ := h2.rd.list_inv
  have hlt : l < s2.heap.objs.size := by obtain ⟨_, e⟩ := il; exact Heap.lt_size e
  have hlen := ra.len
  refine call_enumerate_list il.isList fun h' he hit hsz hg => ?_
  have g : Gr s.heap s2.heap := (kp_gr k).trans (kp_gr k2)
  have fresh : ∀ b, s2.heap.objs.size ≤ b → s.heap.get? b = none := fun b hb => by
    cases e : s.heap.get? b with
    | none => rfl
    | some o => exact absurd (Heap.lt_size (g _ _ e)) (Nat.not_lt.mpr hb)
  refine wpAny_pyIter_enum he (q _ _ [s2.heap.objs.size + 1, s2.heap.objs.size, l] [s2.heap.objs.size + 1, s2.heap.objs.size] (fun i h => (∃ old, IsEnum h (s2.heap.objs.size + 1) s2.heap.objs.size i old) ∧ h.IsListIter s2.heap.objs.size l i ∧ h.IsList l vs.toArray) (fun h => RdA h vs ds) (kp_trans k (kp_trans k2 (kp_mk (s := s2) (h' := h') (tk := s2.toks) hg))) ?_ ?_ ?_ ?_ ?_)
  · intro cenv hk hn
    have F := feed_enum (prog := prog) (w := w) (A := A) (K := fun h => RdA h vs ds) (x := x) (y := y) (px := px) (py := py) (pp := pp) (k := kk) (e := s2.heap.objs.size + 1) (it := s2.heap.objs.size) (l := l) (cenv := cenv) (vs := vs) (ds := ds) o
      (Nat.ne_of_gt (Nat.lt_succ_self _)) (Nat.ne_of_lt (Nat.lt_succ_of_lt hlt)) (Nat.ne_of_lt hlt) (fun _ h => h) hk (hn x (.head _)) (hn y (.tail _ (.head _))) hxy
    rw [hlen] at F
    exact F
  · exact ⟨⟨_, he⟩, hit, isList_gr il.isList hg⟩
  · intro b hb
    show b < h'.objs.size
    rw [hsz]
    rcases List.mem_cons.mp hb with rfl | hb
    · exact Nat.lt_succ_self _
    · rcases List.mem_cons.mp hb with rfl | hb
      · exact Nat.lt_succ_of_lt (Nat.lt_succ_self _)
      · rcases List.mem_cons.mp hb with rfl | hb
        · exact Nat.lt_succ_of_lt (Nat.lt_succ_of_lt hlt)
        · cases hb
  · intro b hb
    rcases List.mem_cons.mp hb with rfl | hb
    · exact fresh _ (Nat.le_succ _)
    · rcases List.mem_cons.mp hb with rfl | hb
      · exact fresh _ (Nat.le_refl _)
      · cases hb
  · intro h g2
    exact RdA.but ra fun b o sq e => g2 b o sq (hg b o e)
end
end Mine
end

section
open PySem PySem.W PyProof.Rows
set_option linter.all false
set_option maxRecDepth 100000
namespace Mine

/-- as Rd, no list of it among av -/
def RdX (av : List Addr) (h : Heap) (v : Value) (d : PyData) : Prop := ∃ as, Reads h v d as ∧ PlAll h as ∧ nd d = true ∧ ∀ a ∈ as, a ∉ av
def RdAX (av : List Addr) (h : Heap) (vs : List Value) (ds : List PyData) : Prop := ∃ as, ReadsAll h vs ds as ∧ PlAll h as ∧ nds ds = true ∧ ∀ a ∈ as, a ∉ av
theorem RdX.rd {av : List Addr} {h : Heap} {v : Value} {d : PyData} (x : RdX av h v d) : Rd h v d := let ⟨as, a, b, c, _⟩ := x; ⟨as, a, b, c⟩
theorem RdAX.rd {av : List Addr} {h : Heap} {vs : List Value} {ds : List PyData} (x : RdAX av h vs ds) : RdA h vs ds := let ⟨as, a, b, c, _⟩ := x; ⟨as, a, b, c⟩
theorem RdX.gr {av : List Addr} {h h' : Heap} {v : Value} {d : PyData} (x : RdX av h v d) (k : Gr h h') : RdX av h' v d := let ⟨as, a, b, c, e⟩ := x; ⟨as, Reads.keeps k a, b.gr k, c, e⟩
theorem RdAX.gr {av : List Addr} {h h' : Heap} {vs : List Value} {ds : List PyData} (x : RdAX av h vs ds) (k : Gr h h') : RdAX av h' vs ds := let ⟨as, a, b, c, e⟩ := x; ⟨as, ReadsAll.keeps k a, b.gr k, c, e⟩
theorem RdX.but {av : List Addr} {h h' : Heap} {v : Value} {d : PyData} (x : RdX av h v d) (k : ∀ b o, isSeq o → (b ∉ av ∨ o.cls = .type "tuple") → h.get? b = some o → h'.get? b = some o) : RdX av h' v d := by
  obtain ⟨as, a1, a2, a3, a4⟩ := x
  exact ⟨as, reads_but a1 (fun b o sq q e => k b o sq (q.imp (a4 b) id) e) a3, fun a m => let ⟨i, n, e⟩ := a2 a m; ⟨i, n, k _ _ ⟨_, _, rfl⟩ (.inl (a4 a m)) e⟩, a3, a4⟩
theorem RdAX.but {av : List Addr} {h h' : Heap} {vs : List Value} {ds : List PyData} (x : RdAX av h vs ds) (k : ∀ b o, isSeq o → (b ∉ av ∨ o.cls = .type "tuple") → h.get? b = some o → h'.get? b = some o) : RdAX av h' vs ds := by
  obtain ⟨as, a1, a2, a3, a4⟩ := x
  exact ⟨as, readsAll_but a1 (fun b o sq q e => k b o sq (q.imp (a4 b) id) e) a3, fun a m => let ⟨i, n, e⟩ := a2 a m; ⟨i, n, k _ _ ⟨_, _, rfl⟩ (.inl (a4 a m)) e⟩, a3, a4⟩
theorem RdX.less {av av' : List Addr} {h : Heap} {v : Value} {d : PyData} (x : RdX av h v d) (k : ∀ a ∈ av', a ∈ av) : RdX av' h v d := let ⟨as, a, b, c, e⟩ := x; ⟨as, a, b, c, fun y m q => e y m (k y q)⟩
theorem RdX.more {av : List Addr} {h : Heap} {v : Value} {d : PyData} {a : Addr} (x : RdX av h v d) (k : h.get? a = none) : RdX (a :: av) h v d := by
  obtain ⟨as, a1, a2, a3, a4⟩ := x
  refine ⟨as, a1, a2, a3, fun b m q => ?_⟩
  rcases List.mem_cons.mp q with rfl | q
  · obtain ⟨i, n, e⟩ := a2 _ m
    rw [e] at k; cases k
  · exact a4 b m q
theorem RdAX.more {av : List Addr} {h : Heap} {vs : List Value} {ds : List PyData} {a : Addr} (x : RdAX av h vs ds) (k : h.get? a = none) : RdAX (a :: av) h vs ds := by
  obtain ⟨as, a1, a2, a3, a4⟩ := x
  refine ⟨as, a1, a2, a3, fun b m q => ?_⟩
  rcases List.mem_cons.mp q with rfl | q
  · obtain ⟨i, n, e⟩ := a2 _ m
    rw [e] at k; cases k
  · exact a4 b m q
theorem RdAX.nil {av : List Addr} {h : Heap} : RdAX av h [] [] := ⟨_, .nil, PlAll.nil, rfl, fun _ m => nomatch m⟩
theorem RdAX.snoc {av : List Addr} {h : Heap} {vs : List Value} {ds : List PyData} {v : Value} {d : PyData} (x : RdAX av h vs ds) (y : RdX av h v d) : RdAX av h (vs ++ [v]) (ds ++ [d]) := by
  obtain ⟨as, a1, a2, a3, a4⟩ := x
  obtain ⟨bs, b1, b2, b3, b4⟩ := y
  refine ⟨as ++ bs, readsAll_snoc b1 a1, fun a m => (List.mem_append.mp m).elim (a2 a) (b2 a), ?_, fun a m => (List.mem_append.mp m).elim (a4 a) (b4 a)⟩
  rw [nds_append, a3]; simp [nds, b3]
theorem readsAll_app {h : Heap} : ∀ {vs ws : List Value} {ds es : List PyData} {as bs : List Addr}, ReadsAll h vs ds as → ReadsAll h ws es bs → ReadsAll h (vs ++ ws) (ds ++ es) (as ++ bs)
  | _, _, _, _, _, _, .nil, y => y
  | _, _, _, _, _, _, .cons x r, y => by
    have := ReadsAll.cons x (readsAll_app r y)
    simpa [List.append_assoc] using this
theorem RdAX.app {av : List Addr} {h : Heap} {vs ws : List Value} {ds es : List PyData} (x : RdAX av h vs ds) (y : RdAX av h ws es) : RdAX av h (vs ++ ws) (ds ++ es) := by
  obtain ⟨as, a1, a2, a3, a4⟩ := x
  obtain ⟨bs, b1, b2, b3, b4⟩ := y
  refine ⟨as ++ bs, readsAll_app a1 b1, fun a m => (List.mem_append.mp m).elim (a2 a) (b2 a), ?_, fun a m => (List.mem_append.mp m).elim (a4 a) (b4 a)⟩
  rw [nds_append, a3, b3]; rfl

mutual
/-- no list within -/
def nl : PyData → Bool
  | .list _ => false
  | .tuple xs => nls xs
  | .dict _ => false
  | _ => true
def nls : List PyData → Bool
  | [] => true
  | x :: xs => nl x && nls xs
end
theorem nl_none {h : Heap} {v : Value} {d : PyData} {as : List Addr} (x : Reads h v d as) : nl d = true → as = [] := by
  intro c
  induction x using Reads.rec (motive_2 := fun vs ds as _ => nls ds = true → as = []) with
  | list => simp [nl] at c
  | tuple h1 h2 h3 _ ih => exact ih (by rwa [nl] at c)
  | dict => simp [nl] at c
  | cons _ _ ih1 ih2 =>
    rename_i c
    simp only [nls, Bool.and_eq_true] at c
    rw [ih1 c.1, ih2 c.2]; rfl
  | _ => rfl
theorem nls_none {h : Heap} : ∀ {vs : List Value} {ds : List PyData} {as : List Addr}, ReadsAll h vs ds as → nls ds = true → as = []
  | _, _, _, .nil, _ => rfl
  | _, _, _, .cons x r, c => by
    simp only [nls, Bool.and_eq_true] at c
    rw [nl_none x c.1, nls_none r c.2]; rfl
theorem Rd.nx {av : List Addr} {h : Heap} {v : Value} {d : PyData} (r : Rd h v d) (c : nl d = true) : RdX av h v d := by
  obtain ⟨as, x, p, q⟩ := r
  obtain rfl := nl_none x c
  exact ⟨_, x, p, q, fun _ m => nomatch m⟩
theorem RdA.nx {av : List Addr} {h : Heap} {v : List Value} {d : List PyData} (r : RdA h v d) (c : nls d = true) : RdAX av h v d := by
  obtain ⟨as, x, p, q⟩ := r
  obtain rfl := nls_none x c
  exact ⟨_, x, p, q, fun _ m => nomatch m⟩
theorem RdF.x {av : List Addr} {h₀ h : Heap} {v : Value} {d : PyData} (r : RdF h₀ h v d) (k : ∀ a ∈ av, ∃ o, h₀.get? a = some o) : RdX av h v d := by
  obtain ⟨as, x, p, q, f⟩ := r
  refine ⟨as, x, p, q, fun a m c => ?_⟩
  obtain ⟨o, e⟩ := k a c
  rw [f a m] at e; cases e

def Look (env : Env) (m cm : Str → Option Value) (n : Str) (v : Value) : Prop :=
  (env.kindOf n = some .local ∧ m n = some v) ∨ (env.kindOf n = some .cell ∧ (∃ c, env.cells.lookup n = some c) ∧ cm n = some v)

abbrev Owns := List (Str × List PyData)
def avs (al : Str → Addr) (os : Owns) : List Addr := os.map fun o => al o.1
def ownG (os : Owns) : Gam := os.map fun o => (o.1, .list o.2)

/-- further objects that stand fast -/
def KpOk (kp : Addr → Option Obj) (env : Env) (av : List Addr) (h : Heap) : Prop := ∀ a o, kp a = some o → h.get? a = some o ∧ a ≠ env.locals ∧ (∀ n c, env.cells.lookup n = some c → a ≠ c) ∧ a ∉ av
abbrev Kp := Addr → Option Obj

structure Fs (kp : Kp) (s₀ : Shared) (env : Env) (os : Owns) (G : Gam) (s : Shared) : Prop where
  base : Base s₀.heap
  names : (os.map (·.1)).Nodup
  ex : ∃ m cm al, InCallC s₀ env.locals m env.cells cm s ∧ (avs al os).Nodup ∧ KpOk kp env (avs al os) s.heap ∧ (∀ n d, G.lookup n = some d → ∃ v, Look env m cm n v ∧ RdX (avs al os) s.heap v d) ∧
    ∀ o ∈ os, Look env m cm o.1 (.ref (al o.1)) ∧ s₀.heap.get? (al o.1) = none ∧ ∃ vs, PlL s.heap (al o.1) vs ∧ RdAX (avs al os) s.heap vs o.2

theorem inCallC_keeps {s₀ s s' : Shared} {L : Addr} {m cm : Str → Option Value} {cs : List (Str × Addr)} (x : InCallC s₀ L m cs cm s) (k : Keeps s s') : InCallC s₀ L m cs cm s' := by
  obtain ⟨h, tk, rfl, g⟩ := k
  obtain ⟨⟨⟨h1, tk1, rfl⟩, b, c, d⟩, e, f, i⟩ := x
  exact ⟨⟨⟨h, tk, rfl⟩, b.keeps g, fun x o e => g x o (c x o e), d⟩, fun n c q => (e n c q).keeps g, f, i⟩
theorem KpOk.gr {kp : Kp} {env : Env} {av : List Addr} {h h' : Heap} (x : KpOk kp env av h) (k : Gr h h') : KpOk kp env av h' := fun a o e => let ⟨p, q⟩ := x a o e; ⟨k _ _ p, q⟩
theorem Fs.keep {kp : Kp} {s₀ s s' : Shared} {env : Env} {os : Owns} {G : Gam} (x : Fs kp s₀ env os G s) (k : Keeps s s') : Fs kp s₀ env os G s' := by
  obtain ⟨b, nn, m, cm, al, c, nd, kx, e, f⟩ := x
  have g := kp_gr k
  exact ⟨b, nn, m, cm, al, inCallC_keeps c k, nd, kx.gr g, fun n d h => let ⟨v, l, r⟩ := e n d h; ⟨v, l, r.gr g⟩, fun o h => let ⟨l, f0, vs, p, r⟩ := f o h; ⟨l, f0, vs, p.gr g, r.gr g⟩⟩
theorem Fs.done {kp : Kp} {s₀ s : Shared} {env : Env} {os : Owns} {G : Gam} (x : Fs kp s₀ env os G s) : Keeps s₀ s := by
  obtain ⟨b, nn, m, cm, al, c, _⟩ := x
  obtain ⟨h, tk, rfl, k⟩ := c.done
  exact ⟨h, tk, rfl, k⟩
theorem look_is {s₀ s : Shared} {env : Env} {m cm : Str → Option Value} {n : Str} {v : Value} (c : InCallC s₀ env.locals m env.cells cm s) (l : Look env m cm n v) : NameIs env s.heap n v := by
  rcases l with ⟨a, b⟩ | ⟨a, ⟨k, e⟩, b⟩
  · exact .inl ⟨a, m, c.toInCall.ns, b⟩
  · exact .inr ⟨a, k, e, b ▸ c.cell n k e⟩
theorem lookup_ownG : ∀ {os : Owns} {n : Str} {d : PyData}, (ownG os).lookup n = some d → ∃ ds, (n, ds) ∈ os ∧ d = .list ds
  | [], _, _, h => nomatch h
  | (k, ds) :: os, n, d, h => by
    rw [ownG, List.map_cons, List.lookup_cons] at h
    split at h
    · rename_i q
      cases h
      have : n = k := beq_iff_eq.mp q
      subst this
      exact ⟨ds, .head _, rfl⟩
    · obtain ⟨es, a, b⟩ := lookup_ownG h
      exact ⟨es, .tail _ a, b⟩
theorem Fs.cx {kp : Kp} {s₀ s : Shared} {env : Env} {os : Owns} {G : Gam} (x : Fs kp s₀ env os G s) : Cx env (ownG os ++ G) s.heap := by
  obtain ⟨b, nn, m, cm, al, c, nd, kx, e, f⟩ := x
  refine ⟨b.gr c.toInCall.keep, fun n d h => ?_⟩
  rw [List.lookup_append] at h
  cases hq : (ownG os).lookup n with
  | some d' =>
    rw [hq] at h; cases h
    obtain ⟨ds, hm, rfl⟩ := lookup_ownG hq
    obtain ⟨l, _, vs, p, r⟩ := f _ hm
    exact ⟨_, look_is c l, .list p r.rd⟩
  | none =>
    rw [hq] at h
    obtain ⟨v, l, r⟩ := e n d h
    exact ⟨v, look_is c l, r.rd⟩

/-- a change of one object that is no list, and of no cell or frame -/
theorem cell_notSeq {h : Heap} {c : Addr} {v : Option Value} (x : h.IsCell c v) {b : Addr} {o : Obj} (e : h.get? b = some o) (q : isSeq o) : b ≠ c := by
  rintro rfl
  obtain ⟨o', ho, hd⟩ := x
  rw [e] at ho; cases ho
  obtain ⟨xs, n, hs⟩ := q
  rw [hs] at hd; cases hd

section
variable {prog : Program} {w : World} {A : Around} {env : Env}

/-- a store into the frame, told apart -/
theorem store_both {s₀ s : Shared} {m cm : Str → Option Value} {n : Str} {v : Value} {Q : Unit → Shared → Prop} {E : Value → Shared → Prop} (fe : FEnv env) (x : InCallC s₀ env.locals m env.cells cm s)
    (hn : env.kindOf n = some .local ∨ (env.kindOf n = some .cell ∧ ∃ c, env.cells.lookup n = some c))
    (h : ∀ s' m' cm', InCallC s₀ env.locals m' env.cells cm' s' → SGr s.heap s'.heap → (∀ b o, b ≠ env.locals → (∀ n c, env.cells.lookup n = some c → b ≠ c) → s.heap.get? b = some o → s'.heap.get? b = some o) → Look env m' cm' n v → (∀ k u, k ≠ n → Look env m cm k u → Look env m' cm' k u) → Q () s') :
    wpAny (model prog w) A (storeName env n v) Q E s := by
  obtain ⟨h1, tk1, hs⟩ := x.toInCall.same
  rcases hn with hl | ⟨hl, c, hc⟩
  · refine wpAny_storeName_local hl x.toInCall.ns (fun h' hn' hs' => ?_) (by rw [fe.kind]; rfl)
    refine h _ (fun y => if y = n then some v else m y) cm ⟨⟨?_, hn', fun b o e => ?_, x.toInCall.fresh⟩, fun k c hc => ?_, x.apart, x.above⟩ (fun b o sq e => hs'.extBut b o (ns_notSeq x.toInCall.ns e sq) e)
      (fun b o e0 _ e => hs'.extBut b o e0 e) (.inl ⟨hl, by simp⟩) fun k u hk l => ?_
    · subst hs; exact ⟨h', _, rfl⟩
    · exact hs'.extBut b o (Nat.ne_of_lt (Nat.lt_of_lt_of_le (Heap.lt_size e) x.toInCall.fresh)) (x.toInCall.keep b o e)
    · exact (x.cell k c hc).sameBut hs' (Nat.ne_of_gt (x.above k c (mem_of_lookup hc)))
    · rcases l with ⟨a, b⟩ | ⟨a, b, d⟩
      · exact .inl ⟨a, by simp [hk, b]⟩
      · exact .inr ⟨a, b, d⟩
  · have hLc := x.above n c (mem_of_lookup hc)
    refine wpAny_storeName_cell fe.kind hl hc (x.cell n c hc) fun h' hc' hs' => ?_
    refine h _ m (fun y => if y = n then some v else cm y) ⟨⟨?_, x.toInCall.ns.sameBut hs' (Nat.ne_of_lt hLc), fun b o e => ?_, x.toInCall.fresh⟩, fun k c' hk' => ?_, x.apart, x.above⟩
      (fun b o sq e => hs'.extBut b o (cell_notSeq (x.cell n c hc) e sq) e) (fun b o _ e1 e => hs'.extBut b o (e1 n c hc) e) (.inr ⟨hl, ⟨c, hc⟩, by simp⟩) fun k u hk l => ?_
    · subst hs; exact ⟨h', _, rfl⟩
    · exact hs'.extBut b o (Nat.ne_of_lt (Nat.lt_trans (Nat.lt_of_lt_of_le (Heap.lt_size e) x.toInCall.fresh) hLc)) (x.toInCall.keep b o e)
    · by_cases hkn : k = n
      · subst hkn
        rw [hc] at hk'; cases hk'
        simpa using hc'
      · rw [if_neg hkn]
        exact (x.cell k c' hk').sameBut hs' fun e => hkn (name_of_addr x.apart (mem_of_lookup hk') (e ▸ mem_of_lookup hc))
    · rcases l with ⟨a, b⟩ | ⟨a, b, d⟩
      · exact .inl ⟨a, b⟩
      · exact .inr ⟨a, b, by simp [hk, d]⟩

abbrev CanSt (env : Env) (n : Str) : Prop := env.kindOf n = some .local ∨ (env.kindOf n = some .cell ∧ ∃ c, env.cells.lookup n = some c)

/-- v reads as d, apart from whatever stood in h₀ and may change -/
def Apart (z : Bool) (h₀ h : Heap) (v : Value) (d : PyData) : Prop := ∀ av : List Addr, (z = true → av = []) → (∀ a ∈ av, ∃ ob, h₀.get? a = some ob) → RdX av h v d
theorem Apart.rd {z : Bool} {h₀ h : Heap} {v : Value} {d : PyData} (x : Apart z h₀ h v d) : Rd h v d := (x [] (fun _ => rfl) fun _ m => nomatch m).rd
theorem fs_store {kp : Kp} {s₀ sb s : Shared} {os : Owns} {G : Gam} {n : Str} {v : Value} {d : PyData} {Q : Unit → Shared → Prop} {E : Value → Shared → Prop} (fe : FEnv env) (x : Fs kp s₀ env os G sb) (kk : Keeps sb s) (hn : CanSt env n) (hno : ∀ o ∈ os, o.1 ≠ n)
    (r : Apart os.isEmpty sb.heap s.heap v d) (k : ∀ s', Fs kp s₀ env os ((n, d) :: G) s' → Q () s') :
    wpAny (model prog w) A (storeName env n v) Q E s := by
  obtain ⟨b, nn, m, cm, al, c, nd, kx, e, f⟩ := x
  have g := kp_gr kk
  refine store_both fe (inCallC_keeps c kk) hn fun s' m' cm' c' sg sb l1 l2 => k s' ⟨b, nn, m', cm', al, c', nd, fun a o e => let ⟨p, q1, q2, q3⟩ := kx a o e; ⟨sb a o q1 q2 (g _ _ p), q1, q2, q3⟩, ?_, ?_⟩
  · intro y d' hy
    rw [List.lookup_cons] at hy
    split at hy
    · rename_i q
      cases hy
      have : y = n := beq_iff_eq.mp q
      subst this
      refine ⟨v, l1, (r (avs al os) (fun z => ?_) fun a ha => ?_).but fun b o sq _ e => sg b o sq e⟩
      · cases os with
        | nil => rfl
        | cons _ _ => cases z
      · obtain ⟨o, ho, rfl⟩ := List.mem_map.mp ha
        obtain ⟨_, _, vs, ⟨nn, p⟩, _⟩ := f o ho
        exact ⟨_, p⟩
    · rename_i q
      have : y ≠ n := by simpa using q
      obtain ⟨u, lu, ru⟩ := e y d' hy
      exact ⟨u, l2 y u this lu, (ru.gr g).but fun b o sq _ e => sg b o sq e⟩
  · intro o ho
    obtain ⟨lo, f0, vs, ⟨nn, p⟩, ra⟩ := f o ho
    exact ⟨l2 _ _ (hno o ho) lo, f0, vs, ⟨nn, sg _ _ ⟨_, _, rfl⟩ (g _ _ p)⟩, (ra.gr g).but fun b o sq _ e => sg b o sq e⟩

/-- a new list becomes the frame's own -/
theorem fs_own {kp : Kp} {s₀ sb s : Shared} {os : Owns} {G : Gam} {n : Str} {v : Value} {ds : List PyData} {Q : Unit → Shared → Prop} {E : Value → Shared → Prop} (fe : FEnv env) (x : Fs kp s₀ env os G sb) (kk : Keeps sb s) (hn : CanSt env n) (hno : ∀ o ∈ os, o.1 ≠ n) (hG : G.lookup n = none)
    (r : RdF sb.heap s.heap v (.list ds)) (hl : nls ds = true) (k : ∀ s', Fs kp s₀ env ((n, ds) :: os) G s' → Q () s') :
    wpAny (model prog w) A (storeName env n v) Q E s := by
  obtain ⟨b, nn, m, cm, al, c, nd, kx, e, f⟩ := x
  have g := kp_gr kk
  obtain ⟨as, r1, r2, r3, r4⟩ := r
  obtain ⟨a, l, bs, rfl, rfl, hl', hr⟩ := reads_list_items r1
  have ha : sb.heap.get? a = none := r4 a (.head _)
  obtain ⟨items, en, ga⟩ := r2 a (.head _)
  have hpl : PlL s.heap a l := by
    obtain ⟨o, ho, hc, k, hd⟩ := hl'
    rw [ga] at ho; cases ho; cases hd
    exact ⟨_, ga⟩
  have hra : RdA s.heap l ds := ⟨bs, hr, fun b m => r2 b (.tail _ m), by rwa [Mine.nd] at r3⟩
  have sel : ∀ o ∈ os, (if o.1 = n then a else al o.1) = al o.1 := fun o ho => by rw [if_neg (hno o ho)]
  have eav : avs (fun y => if y = n then a else al y) ((n, ds) :: os) = a :: avs al os := by
    unfold avs
    rw [List.map_cons]
    simp only [if_true]
    congr 1
    exact List.map_congr_left sel
  have hna : a ∉ avs al os := fun h => by
    obtain ⟨o, ho, rfl⟩ := List.mem_map.mp h
    obtain ⟨_, _, vs, ⟨_, p⟩, _⟩ := f o ho
    rw [p] at ha; cases ha
  refine store_both fe (inCallC_keeps c kk) hn fun s' m' cm' c' sg sb' l1 l2 => k s' ⟨b, ?_, m', cm', fun y => if y = n then a else al y, c', ?_, ?_, ?_, ?_⟩
  · rw [List.map_cons, List.nodup_cons]
    refine ⟨fun h => ?_, nn⟩
    obtain ⟨o, ho, e⟩ := List.mem_map.mp h
    exact hno o ho e
  · rw [eav, List.nodup_cons]; exact ⟨hna, nd⟩
  · rw [eav]
    intro z o e
    obtain ⟨p, q1, q2, q3⟩ := kx z o e
    refine ⟨sb' z o q1 q2 (g _ _ p), q1, q2, fun h => ?_⟩
    rcases List.mem_cons.mp h with rfl | h
    · rw [p] at ha; cases ha
    · exact q3 h
  · intro y d' hy
    rw [eav]
    have : y ≠ n := by rintro rfl; rw [hG] at hy; cases hy
    obtain ⟨u, lu, ru⟩ := e y d' hy
    exact ⟨u, l2 y u this lu, ((ru.more ha).gr g).but fun b o sq _ e => sg b o sq e⟩
  · intro o ho
    rw [eav]
    rcases List.mem_cons.mp ho with rfl | ho
    · simp only [if_true]
      refine ⟨l1, ?_, l, ?_, (hra.nx hl).but fun b o sq _ e => sg b o sq e⟩
      · cases e0 : s₀.heap.get? a with
        | none => rfl
        | some o => have := c.toInCall.keep a o e0; rw [ha] at this; cases this
      · obtain ⟨q, p⟩ := hpl
        exact ⟨q, sg _ _ ⟨_, _, rfl⟩ p⟩
    · simp only [sel o ho]
      obtain ⟨lo, f0, vs, ⟨q, p⟩, ra⟩ := f o ho
      exact ⟨l2 _ _ (hno o ho) lo, f0, vs, ⟨q, sg _ _ ⟨_, _, rfl⟩ (g _ _ p)⟩, ((ra.more ha).gr g).but fun b o sq _ e => sg b o sq e⟩

/-- it is handed back to the names -/
theorem Fs.unown {kp : Kp} {s₀ s : Shared} {os : Owns} {G : Gam} {n : Str} {ds : List PyData} (x : Fs kp s₀ env ((n, ds) :: os) G s) : Fs kp s₀ env os ((n, .list ds) :: G) s := by
  obtain ⟨b, nn, m, cm, al, c, nd, kx, e, f⟩ := x
  rw [List.map_cons, List.nodup_cons] at nn
  have nd' : al n ∉ avs al os ∧ (avs al os).Nodup := by simpa [avs] using nd
  refine ⟨b, nn.2, m, cm, al, c, nd'.2, fun z o e => let ⟨p, q1, q2, q3⟩ := kx z o e; ⟨p, q1, q2, fun h => q3 (List.mem_cons_of_mem _ h)⟩, ?_, fun o ho => ?_⟩
  · intro y d' hy
    rw [List.lookup_cons] at hy
    split at hy
    · rename_i q
      cases hy
      have : y = n := beq_iff_eq.mp q
      subst this
      obtain ⟨lo, f0, vs, ⟨k, p⟩, as, a1, a2, a3, a4⟩ := f _ (.head _)
      refine ⟨_, lo, al y :: as, reads_list_at p rfl rfl a1, ?_, by rw [Mine.nd, a3], ?_⟩
      · intro z hz
        rcases List.mem_cons.mp hz with rfl | hz
        · exact ⟨_, _, p⟩
        · exact a2 z hz
      · intro z hz q
        rcases List.mem_cons.mp hz with rfl | hz
        · exact nd'.1 q
        · exact a4 z hz (List.mem_cons_of_mem _ q)
    · obtain ⟨u, lu, ru⟩ := e y d' hy
      exact ⟨u, lu, ru.less fun a h => List.mem_cons_of_mem _ h⟩
  · obtain ⟨lo, f0, vs, p, ra⟩ := f o (.tail _ ho)
    obtain ⟨as, a1, a2, a3, a4⟩ := ra
    exact ⟨lo, f0, vs, p, as, a1, a2, a3, fun z hz q => a4 z hz (List.mem_cons_of_mem _ q)⟩

/-- the first own list is changed -/
theorem Fs.change {kp : Kp} {s₀ s : Shared} {os : Owns} {G : Gam} {n : Str} {ds es : List PyData} (x : Fs kp s₀ env ((n, ds) :: os) G s) : ∃ a vs, NameIs env s.heap n (.ref a) ∧ PlL s.heap a vs ∧ RdA s.heap vs ds ∧
    ∀ h' tk ws, Heap.SameBut a s.heap h' → PlL h' a ws → (∀ av, RdAX av s.heap vs ds → RdAX av s.heap ws es) → Fs kp s₀ env ((n, es) :: os) G { s with heap := h', toks := tk } := by
  obtain ⟨b, nn, m, cm, al, c, nd, kx, e, f⟩ := x
  obtain ⟨lo, f0, vs, ⟨q, p⟩, ra⟩ := f _ (.head _)
  refine ⟨al n, vs, look_is c lo, ⟨q, p⟩, ra.rd, fun h' tk ws sb pl he => ?_⟩
  have hL : al n ≠ env.locals := ns_notSeq c.toInCall.ns p ⟨_, _, rfl⟩
  have eav : avs al ((n, es) :: os) = avs al ((n, ds) :: os) := rfl
  have ok : ∀ b o, isSeq o → (b ∉ avs al ((n, ds) :: os) ∨ o.cls = .type "tuple") → s.heap.get? b = some o → h'.get? b = some o := fun b o sq hb e => by
    refine sb.extBut b o ?_ e
    rintro rfl
    rcases hb with hb | hb
    · exact hb (by simp [avs])
    · rw [p] at e; cases e; simp at hb
  refine ⟨b, nn, m, cm, al, ?_, nd, fun z o e => let ⟨p, q1, q2, q3⟩ := kx z o e; ⟨sb.extBut z o (fun h => q3 (h ▸ List.mem_cons_self ..)) p, q1, q2, q3⟩, ?_, ?_⟩
  · obtain ⟨⟨⟨h1, tk1, hs⟩, b1, c1, d1⟩, e1, f1, i1⟩ := c
    refine ⟨⟨⟨h', tk, by rw [hs]⟩, b1.sameBut sb (Ne.symm hL), fun x o e => ?_, d1⟩, fun n' c' q' => ?_, f1, i1⟩
    · exact sb.extBut x o (by rintro rfl; rw [f0] at e; cases e) (c1 x o e)
    · exact (e1 n' c' q').sameBut sb (Ne.symm (cell_notSeq (e1 n' c' q') p ⟨_, _, rfl⟩))
  · intro y d' hy
    obtain ⟨u, lu, ru⟩ := e y d' hy
    exact ⟨u, lu, ru.but ok⟩
  · intro o ho
    rw [eav]
    rcases List.mem_cons.mp ho with rfl | ho
    · exact ⟨lo, f0, ws, pl, (he _ ra).but ok⟩
    · obtain ⟨lo', f0', vs', ⟨q', p'⟩, ra'⟩ := f o (.tail _ ho)
      refine ⟨lo', f0', vs', ⟨q', sb.extBut _ _ ?_ p'⟩, ra'.but ok⟩
      intro he
      have hin : al n ∉ avs al os := by
        have : (al n :: avs al os).Nodup := nd
        exact (List.nodup_cons.mp this).1
      exact hin (he ▸ List.mem_map.mpr ⟨o, ho, rfl⟩)
theorem Fs.swap {kp : Kp} {s₀ s : Shared} {os : Owns} {G : Gam} {o1 o2 : Str × List PyData} (x : Fs kp s₀ env (o1 :: o2 :: os) G s) : Fs kp s₀ env (o2 :: o1 :: os) G s := by
  obtain ⟨b, nn, m, cm, al, c, nd, kx, e, f⟩ := x
  have hp : ((o1 :: o2 :: os)).Perm (o2 :: o1 :: os) := List.Perm.swap ..
  have hm : ∀ a, a ∈ avs al (o2 :: o1 :: os) → a ∈ avs al (o1 :: o2 :: os) := fun a h => ((hp.map _).mem_iff).mpr h
  refine ⟨b, (hp.map _).nodup_iff.mp nn, m, cm, al, c, (hp.map _).nodup_iff.mp nd, fun z o e => let ⟨p, q1, q2, q3⟩ := kx z o e; ⟨p, q1, q2, fun h => q3 (hm z h)⟩, fun n d h => let ⟨v, l, r⟩ := e n d h; ⟨v, l, r.less hm⟩, fun o ho => ?_⟩
  obtain ⟨l, f0, vs, p, as, a1, a2, a3, a4⟩ := f o (hp.mem_iff.mpr ho)
  exact ⟨l, f0, vs, p, as, a1, a2, a3, fun z hz q => a4 z hz (hm z q)⟩
theorem Fs.weaken {kp : Kp} {s₀ s : Shared} {os : Owns} {G G' : Gam} (x : Fs kp s₀ env os G s) (k : ∀ n d, G'.lookup n = some d → G.lookup n = some d) : Fs kp s₀ env os G' s :=
  ⟨x.base, x.names, let ⟨m, cm, al, c, nd, kx, e, f⟩ := x.ex; ⟨m, cm, al, c, nd, kx, fun n d h => e n d (k n d h), f⟩⟩
end
end Mine
end

section
open PySem PySem.W PyProof.Rows
set_option linter.all false
set_option maxRecDepth 100000
namespace Mine

inductive Res
  | go (os : Owns) (G : Gam)
  | brk (os : Owns) (G : Gam)
  | ret (d : PyData)

def Post (kp : Kp) (s₀ : Shared) (env : Env) : Res → (Flow → Shared → Prop) → Prop
  | .go os G, Q => ∀ s', Fs kp s₀ env os G s' → Q .next s'
  | .brk os G, Q => ∀ s', Fs kp s₀ env os G s' → Q .brk s'
  | .ret d, Q => ∀ v s', Rd s'.heap v d → Keeps s₀ s' → Q (.ret v) s'

section
variable {prog : Program} {w : World} {A : Around} {env : Env} {os : Owns} {G : Gam}

def Ex (prog : Program) (w : World) (A : Around) (env : Env) (st : Stmt) (os : Owns) (G : Gam) (r : Res) : Prop :=
  ∀ (kp : Kp) (s₀ s : Shared) (Q : Flow → Shared → Prop) (E : Value → Shared → Prop), Fs kp s₀ env os G s → Post kp s₀ env r Q → wpAny (model prog w) A (exec st env) Q E s
def Exs (prog : Program) (w : World) (A : Around) (env : Env) (ss : List Stmt) (os : Owns) (G : Gam) (r : Res) : Prop :=
  ∀ (kp : Kp) (s₀ s : Shared) (Q : Flow → Shared → Prop) (E : Value → Shared → Prop), Fs kp s₀ env os G s → Post kp s₀ env r Q → wpAny (model prog w) A (execs ss env) Q E s

theorem exs_nil : Exs prog w A env [] os G (.go os G) := fun kp s₀ s Q E x q => wpAny_execs_nil (q s x)
theorem exs_go {st : Stmt} {rest : List Stmt} {os' : Owns} {G' : Gam} {r : Res} (a : Ex prog w A env st os G (.go os' G')) (b : Exs prog w A env rest os' G' r) : Exs prog w A env (st :: rest) os G r := fun kp s₀ s Q E x q =>
  wpAny_execs_cons (a kp s₀ s _ E x fun s' x' => b kp s₀ s' Q E x' q)
theorem exs_ret {st : Stmt} {rest : List Stmt} {d : PyData} (a : Ex prog w A env st os G (.ret d)) : Exs prog w A env (st :: rest) os G (.ret d) := fun kp s₀ s Q E x q =>
  wpAny_execs_cons (a kp s₀ s _ E x fun v s' r k => q v s' r k)
theorem exs_brk {st : Stmt} {rest : List Stmt} {os' : Owns} {G' : Gam} (a : Ex prog w A env st os G (.brk os' G')) : Exs prog w A env (st :: rest) os G (.brk os' G') := fun kp s₀ s Q E x q =>
  wpAny_execs_cons (a kp s₀ s _ E x fun s' x' => q s' x')
theorem Exs.weaken {ss : List Stmt} {os' : Owns} {G' G'' : Gam} (a : Exs prog w A env ss os G (.go os' G')) (k : ∀ n d, G''.lookup n = some d → G'.lookup n = some d) : Exs prog w A env ss os G (.go os' G'') := fun kp s₀ s Q E x q =>
  a kp s₀ s Q E x fun s' x' => q s' (x'.weaken k)
theorem Ex.weaken {ss : Stmt} {os' : Owns} {G' G'' : Gam} (a : Ex prog w A env ss os G (.go os' G')) (k : ∀ n d, G''.lookup n = some d → G'.lookup n = some d) : Ex prog w A env ss os G (.go os' G'') := fun kp s₀ s Q E x q =>
  a kp s₀ s Q E x fun s' x' => q s' (x'.weaken k)
theorem Exs.less {ss : List Stmt} {r : Res} {G' : Gam} (a : Exs prog w A env ss os G' r) (k : ∀ n d, G'.lookup n = some d → G.lookup n = some d) : Exs prog w A env ss os G r := fun kp s₀ s Q E x q =>
  a kp s₀ s Q E (x.weaken k) q
theorem exs_unown {ss : List Stmt} {r : Res} {n : Str} {ds : List PyData} (a : Exs prog w A env ss os ((n, .list ds) :: G) r) : Exs prog w A env ss ((n, ds) :: os) G r := fun kp s₀ s Q E x q =>
  a kp s₀ s Q E x.unown q
theorem exs_swap {ss : List Stmt} {r : Res} {o1 o2 : Str × List PyData} (a : Exs prog w A env ss (o2 :: o1 :: os) G r) : Exs prog w A env ss (o1 :: o2 :: os) G r := fun kp s₀ s Q E x q =>
  a kp s₀ s Q E x.swap q

/-- e's value, apart from what may change -/
abbrev EvX (prog : Program) (w : World) (A : Around) (env : Env) (G : Gam) (e : Expr) (d : PyData) (z : Bool) : Prop :=
  ∀ (s : Shared) (E : Value → Shared → Prop), Cx env G s.heap → wpAny (model prog w) A (eval e env) (fun v s' => Apart z s.heap s'.heap v d ∧ Keeps s s') E s
theorem evx_nl {e : Expr} {d : PyData} {z : Bool} (a : Ev prog w A env G e d) (h : nl d = true := by rfl) : EvX prog w A env G e d z := fun s E c => a.use c fun v s' r k => ⟨fun _ _ _ => r.nx h, k⟩
theorem evx_new {e : Expr} {d : PyData} {z : Bool} (a : EvF prog w A env G e d) : EvX prog w A env G e d z := fun s E c => wpAny_mono (a s E c) (fun v s' h => ⟨fun _ _ k => h.1.x k, h.2⟩) fun _ _ e => e
theorem evx_any {e : Expr} {d : PyData} (a : Ev prog w A env G e d) : EvX prog w A env G e d true := fun s E c => a.use c fun v s' r k => ⟨fun av h _ => by
  obtain rfl := h rfl
  obtain ⟨as, x, p, q⟩ := r
  exact ⟨as, x, p, q, fun _ _ m => nomatch m⟩, k⟩

theorem ex_assign {n : Str} {p pos : Pos} {e : Expr} {d : PyData} (fe : FEnv env) (a : EvX prog w A env (ownG os ++ G) e d os.isEmpty) (hn : CanSt env n) (hno : ∀ o ∈ os, o.1 ≠ n)
    (hs : swapsWith e (some (.Name n p)) pos.line env = pure false := by rfl) : Ex prog w A env (.Assign [.Name n p] e pos) os G (.go os ((n, d) :: G)) := fun kp s₀ s Q E x q =>
  wpAny_Assign_Name (wpAny_mono (a s E x.cx) (fun v s' h => fs_store fe x h.2 hn hno h.1 fun s2 x2 => q s2 x2) fun _ _ e => e) hs
theorem ex_assign_own {n : Str} {p pos : Pos} {e : Expr} {ds : List PyData} (fe : FEnv env) (a : EvF prog w A env (ownG os ++ G) e (.list ds)) (hl : nls ds = true) (hn : CanSt env n) (hno : ∀ o ∈ os, o.1 ≠ n) (hG : G.lookup n = none)
    (hs : swapsWith e (some (.Name n p)) pos.line env = pure false := by rfl) : Ex prog w A env (.Assign [.Name n p] e pos) os G (.go ((n, ds) :: os) G) := fun kp s₀ s Q E x q =>
  wpAny_Assign_Name (wpAny_mono (a s E x.cx) (fun v s' h => fs_own fe x h.2 hn hno hG h.1 hl fun s2 x2 => q s2 x2) fun _ _ e => e) hs
theorem ex_return {e : Expr} {pos : Pos} {d : PyData} (a : Ev prog w A env (ownG os ++ G) e d) : Ex prog w A env (.Return (some e) pos) os G (.ret d) := fun kp s₀ s Q E x q =>
  wpAny_Return_some (a.use x.cx fun v s' r k => q v s' r (kp_trans x.done k))
theorem ex_if_t {test : Expr} {body orelse : List Stmt} {pos : Pos} {r : Res} (t : Tst prog w A env (ownG os ++ G) test true) (a : Exs prog w A env body os G r) : Ex prog w A env (.If test body orelse pos) os G r := fun kp s₀ s Q E x q =>
  wpAny_If (t.use x.cx fun b s' h k => by subst h; exact a kp s₀ s' Q E (x.keep k) q)
theorem ex_if_f {test : Expr} {body orelse : List Stmt} {pos : Pos} {r : Res} (t : Tst prog w A env (ownG os ++ G) test false) (a : Exs prog w A env orelse os G r) : Ex prog w A env (.If test body orelse pos) os G r := fun kp s₀ s Q E x q =>
  wpAny_If (t.use x.cx fun b s' h k => by subst h; exact a kp s₀ s' Q E (x.keep k) q)
theorem ex_if {test : Expr} {body orelse : List Stmt} {pos : Pos} {r : Res} {b : Bool} (t : Tst prog w A env (ownG os ++ G) test b) (a : b = true → Exs prog w A env body os G r) (c : b = false → Exs prog w A env orelse os G r) :
    Ex prog w A env (.If test body orelse pos) os G r := by
  cases b with
  | true => exact ex_if_t t (a rfl)
  | false => exact ex_if_f t (c rfl)
theorem ex_break {pos : Pos} : Ex prog w A env (.Break pos) os G (.brk os G) := fun kp s₀ s Q E x q => wpAny_Break (q s x)
theorem ex_aug {n : Str} {p pos : Pos} {op : Operator} {e : Expr} {d1 d2 d : PyData} (fe : FEnv env) (h1 : G.lookup n = some d1) (hnl : nl d1 = true) (a : Ev prog w A env (ownG os ++ G) e d2) (f : Op2 prog w A (inplaceOp op) d1 d2 d) (hd : nl d = true) (hn : CanSt env n) (hno : ∀ o ∈ os, o.1 ≠ n) :
    Ex prog w A env (.AugAssign (.Name n p) op e pos) os G (.go os ((n, d) :: G)) := fun kp s₀ s Q E x q => by
  have hown : (ownG os).lookup n = none := by
    cases h : (ownG os).lookup n with
    | none => rfl
    | some d => obtain ⟨ds, hm, _⟩ := lookup_ownG h; exact absurd rfl (hno _ hm)
  obtain ⟨v, hv, r⟩ := x.cx.has n d1 (by rw [List.lookup_append, hown, h1]; rfl)
  have key : wpAny (model prog w) A (loadName env n) (fun u s1 => u = v ∧ s1 = s) E s := by
    rcases hv with ⟨b, m, c, e⟩ | ⟨b, k, c, e⟩
    · exact wpAny_loadName_local fe.kind b c e ⟨rfl, rfl⟩
    · exact wpAny_loadName_cell fe.kind b c e ⟨rfl, rfl⟩
  refine wpAny_AugAssign_Name (wpAny_mono key (fun u s1 h => ?_) fun _ _ e => e)
  obtain ⟨rfl, rfl⟩ := h
  refine a.use x.cx fun v2 s2 r2 k2 => wpAny_mono (f u v2 s2 E (r.gr (kp_gr k2)) r2) (fun v3 s3 h3 => ?_) fun _ _ e => e
  exact fs_store fe x (kp_trans k2 h3.2) hn hno (fun _ _ _ => h3.1.nx hd) fun s4 x4 => q s4 x4

theorem nameIs_unique {h : Heap} {n : Str} {v u : Value} (a : NameIs env h n v) (b : NameIs env h n u) : v = u := by
  rcases a with ⟨a1, m, a2, a3⟩ | ⟨a1, c, a2, a3⟩ <;> rcases b with ⟨b1, m', b2, b3⟩ | ⟨b1, c', b2, b3⟩
  · have := a2.agree b2 n
    rw [a3, b3] at this
    exact Option.some.inj this
  · rw [a1] at b1; cases b1
  · rw [a1] at b1; cases b1
  · rw [a2] at b2; cases b2
    obtain ⟨o, ho, hd⟩ := a3
    obtain ⟨o', ho', hd'⟩ := b3
    rw [ho] at ho'; cases ho'
    rw [hd] at hd'; cases hd'; rfl

theorem methOf (id : String) (h : typeOf (.builtin id) = pure (.type "method_descriptor")) : typeOf (.builtin id) = pure (.type "method_descriptor") := h
theorem ty_append : typeOf (.builtin "list.append") = pure (.type "method_descriptor") := by kernel_rfl
theorem ty_extend : typeOf (.builtin "list.extend") = pure (.type "method_descriptor") := by kernel_rfl

theorem own_name {kp : Kp} {s₀ s : Shared} {n : Str} {ds : List PyData} (fe : FEnv env) {pos : Pos} {Q : Value → Shared → Prop} {E : Value → Shared → Prop} (x : Fs kp s₀ env ((n, ds) :: os) G s) (hd : (n == ("__debug__" : Str)) = false)
    (k : ∀ a vs, NameIs env s.heap n (.ref a) → PlL s.heap a vs → Q (.ref a) s) : wpAny (model prog w) A (eval (.Name n pos) env) Q E s := by
  obtain ⟨a, vs, hv, p, _⟩ := x.change (es := [])
  rcases hv with ⟨b, m, c, e⟩ | ⟨b, kk, c, e⟩
  · exact wpAny_Name (wpAny_loadName_local fe.kind b c e (k a vs (.inl ⟨b, m, c, e⟩) p)) hd
  · exact wpAny_Name (wpAny_loadName_cell fe.kind b c e (k a vs (.inr ⟨b, kk, c, e⟩) p)) hd

theorem ex_append {n : Str} {np apos cpos pos : Pos} {e : Expr} {ds : List PyData} {d : PyData} (fe : FEnv env) (a : Ev prog w A env (ownG ((n, ds) :: os) ++ G) e d) (hd : nl d = true) (hz : ds.length ≤ 1000) (hdb : (n == ("__debug__" : Str)) = false := by decide)
    (pl : Sem Bool)
    (hb : backTo cpos (starEach [e] env) = [(false, eval e env)] := by rfl) (hi : interactive env = false := by rfl) (hs : swapsWith (.Call (.Attribute (.Name n np) "append" apos) [e] [] cpos) none pos.line env = pure false := by rfl)
    (he : eval (.Call (.Attribute (.Name n np) "append" apos) [e] [] cpos) env = (do
      let ov ← eval (.Name n np) env
      standAt apos.atName
      let (f, first) ← holding [ov] (getMethod ov "append" pl)
      callWith cpos f first (backTo cpos (starEach [e] env)) []) := by rfl) :
    Ex prog w A env (.Expr (.Call (.Attribute (.Name n np) "append" apos) [e] [] cpos) pos) ((n, ds) :: os) G (.go ((n, ds ++ [d]) :: os) G) := fun kp s₀ s Q E x q => by
  refine wpAny_Expr (MethodCall_ (own_name fe x hdb fun b vs hv ⟨nn, p⟩ => ?_) he) hi hs
  refine getMethod_builtin (T := "list") ⟨_, p, rfl⟩ PySem.F.plainAttrs_list PySem.F.slot_list_append ty_append (fun c hc => by cases hc; exact ⟨_, p, rfl⟩) ?_
  dsimp only
  rw [hb]
  refine Calls.callWith_builtin rfl (Calls.evalArgs_plain (Calls.spliced_cons (a.use x.cx fun v s2 r k => Calls.spliced_nil ?_)))
  obtain ⟨b', ws, hv', ⟨n2, p2⟩, ra, ch⟩ := (x.keep k).change
  have := nameIs_unique (hv.gr (kp_gr k)) hv'
  cases this
  have hl := ra.len
  refine wpAny_list_append_plain (items := ws.toArray) ⟨n2, p2⟩ (fun h' ⟨n3, p3⟩ sb => ?_) (by rw [sizeLine_eq]; simp; omega)
  exact q _ (ch h' s2.toks (ws ++ [v]) sb ⟨n3, by simpa using p3⟩ fun av r' => r'.snoc (r.nx hd))

theorem ex_extend {n : Str} {np apos cpos pos : Pos} {e : Expr} {ds es : List PyData} (fe : FEnv env) (a : Ev prog w A env (ownG ((n, ds) :: os) ++ G) e (.list es)) (hd : nls es = true) (hz : ds.length + es.length ≤ 1000) (hdb : (n == ("__debug__" : Str)) = false := by decide)
    (pl : Sem Bool)
    (hb : backTo cpos (starEach [e] env) = [(false, eval e env)] := by rfl) (hi : interactive env = false := by rfl) (hs : swapsWith (.Call (.Attribute (.Name n np) "extend" apos) [e] [] cpos) none pos.line env = pure false := by rfl)
    (he : eval (.Call (.Attribute (.Name n np) "extend" apos) [e] [] cpos) env = (do
      let ov ← eval (.Name n np) env
      standAt apos.atName
      let (f, first) ← holding [ov] (getMethod ov "extend" pl)
      callWith cpos f first (backTo cpos (starEach [e] env)) []) := by rfl) :
    Ex prog w A env (.Expr (.Call (.Attribute (.Name n np) "extend" apos) [e] [] cpos) pos) ((n, ds) :: os) G (.go ((n, ds ++ es) :: os) G) := fun kp s₀ s Q E x q => by
  refine wpAny_Expr (MethodCall_ (own_name fe x hdb fun b vs hv ⟨nn, p⟩ => ?_) he) hi hs
  refine getMethod_builtin (T := "list") ⟨_, p, rfl⟩ PySem.F.plainAttrs_list PySem.F.slot_list_extend ty_extend (fun c hc => by cases hc; exact ⟨_, p, rfl⟩) ?_
  dsimp only
  rw [hb]
  refine PySem.P.extend_list (l := b) (a.use x.cx fun v s2 r k => ?_)
  obtain ⟨b', ws, hv', ⟨n2, p2⟩, ra, ch⟩ := (x.keep k).change
  have := nameIs_unique (hv.gr (kp_gr k)) hv'
  cases this
  obtain ⟨c, us, rfl, ⟨n4, p4⟩, rb⟩ := r.list_inv
  have hl := ra.len
  have hl2 := rb.len
  have hsz : ws.toArray.size + us.toArray.size ≤ sizeLine := by rw [sizeLine_eq]; simp; omega
  refine ⟨c, ws.toArray, us.toArray, n2, n4, by omega, by omega, extend_door hsz, rfl, p2, p4, ?_⟩
  refine q _ (ch _ s2.toks (ws ++ us) (Heap.SameBut.update ..) ?_ fun av r' => r'.app (rb.nx hd))
  exact ⟨_, by simpa using get?_update_seq p2 (· ++ us.toArray)⟩

/-- a for over a range -/
def SrcT (prog : Program) (w : World) (A : Around) (env : Env) (G : Gam) (target iter : Expr) (n : Nat) (ds : Nat → Gam) (nm : List Str) : Prop :=
  ∀ (s : Shared) (Q : Value → Shared → Prop) (E : Value → Shared → Prop), Cx env G s.heap →
    (∀ it s₂ fp wr St, Keeps s s₂ → (∀ cenv : Env, cenv.scope.kind = .function → (∀ x ∈ nm, cenv.kindOf x = some .local) → Feed prog w A (fun _ => True) target it cenv fp wr n ds St) → St 0 s₂.heap →
      (∀ b ∈ fp, b < s₂.heap.objs.size) → (∀ b ∈ fp, s.heap.get? b = none) → (∀ b ∈ wr, s.heap.get? b = none) → (∀ b ∈ fp, b ∈ wr) → Q it s₂) →
    wpAny (model prog w) A (eval iter env) (fun xv s₁ => wpAny (model prog w) A (pyIter xv) Q E s₁) E s
theorem srcT_range {x : Str} {px : Pos} {iter : Expr} {lo hi : Int} {k : Nat} (o : Ok k A) (a : EvV prog w A env G iter (fun h v => IsRg h v lo hi)) (h0 : -1000 ≤ lo) (h1 : lo ≤ 1000) (h2 : -1000 ≤ hi) (h3 : hi ≤ 1000) :
    SrcT prog w A env G (.Name x px) iter (hi - lo).toNat (fun i => [(x, .int (lo + i))]) [x] := fun s Q E c q => by
  refine a.use c fun v s1 h k1 => ?_
  obtain ⟨r, t, u, kk, rfl, ir⟩ := h
  have hsz : Builtin.Range.rangeSize lo hi 1 = ((hi - lo).toNat : Int) := by rw [rangeSize_one]; split <;> omega
  have fresh : ∀ b ∈ [s1.heap.objs.size], s.heap.get? b = none := by
    intro b hb
    rcases List.mem_cons.mp hb with rfl | hb
    · cases e : s.heap.get? s1.heap.objs.size with
      | none => rfl
      | some o => exact absurd (Heap.lt_size (kp_gr k1 _ _ e)) (Nat.lt_irrefl _)
    · cases hb
  refine wpAny_pyIter_range ir (small_one (by omega) (by omega) (by omega) (by omega)) (q _ _ [s1.heap.objs.size] [s1.heap.objs.size] (fun i h => IsRangeIter h s1.heap.objs.size (lo + (i : Nat) * 1) (((hi - lo).toNat : Int) - (i : Nat)) 1) (kp_trans k1 kp_push) ?_ ?_ ?_ fresh fresh fun _ h => h)
  · intro cenv hk hn
    refine feed_name (Walks.range (prog := prog) (w := w) (A := A) o.handled s1.heap.objs.size lo 1 (hi - lo).toNat) ?_ ?_ hk (hn x (.head _))
    · rintro i h hit b hb
      rcases List.mem_cons.mp hb with rfl | hb
      · exact ⟨_, hit, by rintro ⟨_, _, q⟩; cases q⟩
      · cases hb
    · rintro i v h hi ⟨t, rfl⟩ _
      rw [show lo + (i : Int) * 1 = lo + i by omega]
      exact .int
  · have : IsRangeIter (s1.heap.push { cls := .type "range_iterator", data := .fields #[rawInt lo, rawInt (Builtin.Range.rangeSize lo hi 1), rawInt 1] }) s1.heap.objs.size (lo + ((0 : Nat) : Int) * 1) (((hi - lo).toNat : Int) - ((0 : Nat) : Int)) 1 := by
      rw [show lo + ((0 : Nat) : Int) * 1 = lo by simp, show (((hi - lo).toNat : Int) - ((0 : Nat) : Int)) = Builtin.Range.rangeSize lo hi 1 by rw [hsz]; simp]
      exact Heap.get?_push_size _ rfl
    exact this
  · intro b hb
    show b < (s1.heap.push _).objs.size
    rw [Heap.size_push]
    rcases List.mem_cons.mp hb with rfl | hb
    · exact Nat.lt_succ_self _
    · cases hb

/-- one item of a for is bound: the frame goes on -/
theorem fs_item {kp : Kp} {s₀ s : Shared} {K : Heap → Prop} {target : Expr} {it : Value} {fp wr : List Addr} {n : Nat} {ds : Nat → Gam} {St : Nat → Heap → Prop} {Q : Unit → Shared → Prop} {E : Value → Shared → Prop} {i : Nat}
    (F : Feed prog w A K target it env fp wr n ds St) (hi : i < n) (st : St i s.heap) (hk : K s.heap) (x : Fs kp s₀ env os G s) (hw : ∀ b ∈ wr, s₀.heap.get? b = none) (hwk : ∀ b ∈ wr, kp b = none) (hLf : env.locals ∉ fp) (hcf : ∀ n c, env.cells.lookup n = some c → c ∉ wr)
    (hloc : ∀ y d, (ds i).lookup y = some d → env.kindOf y = some .local) (hno : ∀ o ∈ os, (ds i).lookup o.1 = none) (hnl : ∀ y d, (ds i).lookup y = some d → nl d = true)
    (k : ∀ s', Fs kp s₀ env os (ds i ++ G) s' → St (i + 1) s'.heap → Q () s') :
    wpAny (model prog w) A (pyNext it) (fun r s₁ => match r with
      | none => False
      | some v => wpAny (model prog w) A (letOwnedTupleGo target it v) (fun _ s₁' => wpAny (model prog w) A (assign target env v) Q E s₁') E s₁) E s := by
  obtain ⟨b, nn, m, cm, al, c, nd, kx, e, f⟩ := x
  refine F.item i s m Q E hi st hk c.toInCall.ns hLf fun h' tk m' st' ns' hm hm' kq => ?_
  have sg : SGr s.heap h' := fun b o sq eb => kq b o (ns_notSeq c.toInCall.ns eb sq) (fun hb => by
    obtain ⟨o', e', nq⟩ := F.live _ _ st b hb
    rw [eb] at e'; cases e'; exact nq sq) eb
  have look : ∀ y u, (ds i).lookup y = none → Look env m cm y u → Look env m' cm y u := fun y u hy l => by
    rcases l with ⟨a, b⟩ | ⟨a, b, d⟩
    · exact .inl ⟨a, by rw [hm' y hy, b]⟩
    · exact .inr ⟨a, b, d⟩
  refine k _ ⟨b, nn, m', cm, al, ?_, nd, fun z o e => let ⟨p, q1, q2, q3⟩ := kx z o e; ⟨kq z o q1 (fun h => by rw [hwk z h] at e; cases e) p, q1, q2, q3⟩, ?_, ?_⟩ st'
  · obtain ⟨⟨⟨h1, tk1, hs⟩, b1, c1, d1⟩, e1, f1, i1⟩ := c
    refine ⟨⟨⟨h', tk, by rw [hs]⟩, ns', fun y o ey => ?_, d1⟩, fun n' c' q' => ?_, f1, i1⟩
    · exact kq y o (Nat.ne_of_lt (Nat.lt_of_lt_of_le (Heap.lt_size ey) d1)) (fun hb => by rw [hw y hb] at ey; cases ey) (c1 y o ey)
    · obtain ⟨o, ho, hd⟩ := e1 n' c' q'
      exact ⟨o, kq c' o (Nat.ne_of_gt (i1 n' c' (mem_of_lookup q'))) (hcf n' c' q') ho, hd⟩
  · intro y d hy
    rw [List.lookup_append] at hy
    cases hq : (ds i).lookup y with
    | some d' =>
      rw [hq] at hy; cases hy
      obtain ⟨v, hv, r⟩ := hm y _ hq
      exact ⟨v, .inl ⟨hloc y _ hq, hv⟩, r.nx (hnl y _ hq)⟩
    | none =>
      rw [hq] at hy
      obtain ⟨u, lu, ru⟩ := e y d hy
      exact ⟨u, look y u hq lu, ru.but fun b o sq _ eb => sg b o sq eb⟩
  · intro o ho
    obtain ⟨lo, f0, vs, ⟨q, p⟩, ra⟩ := f o ho
    exact ⟨look _ _ (hno o ho) lo, f0, vs, ⟨q, sg _ _ ⟨_, _, rfl⟩ p⟩, ra.but fun b o sq _ eb => sg b o sq eb⟩
end
end Mine
end

section
open PySem PySem.W PyProof.Rows
set_option linter.all false
set_option maxRecDepth 100000
namespace Mine

theorem Fs.kpless {kp kp2 : Kp} {s₀ s : Shared} {env : Env} {os : Owns} {G : Gam} (x : Fs kp2 s₀ env os G s) (h : ∀ a o, kp a = some o → kp2 a = some o) : Fs kp s₀ env os G s :=
  ⟨x.base, x.names, let ⟨m, cm, al, c, nd, kx, e, f⟩ := x.ex; ⟨m, cm, al, c, nd, fun a o q => kx a o (h a o q), e, f⟩⟩
/-- objects that are no list change -/
theorem Fs.but {kp : Kp} {s₀ s : Shared} {env : Env} {os : Owns} {G : Gam} {wr : List Addr} {h' : Heap} {tk : Nat} (x : Fs kp s₀ env os G s) (hw : ∀ b ∈ wr, s₀.heap.get? b = none) (hwk : ∀ b ∈ wr, kp b = none) (hl : ∀ b ∈ wr, ∃ o, s.heap.get? b = some o ∧ ¬ isSeq o)
    (hL : env.locals ∉ wr) (hcf : ∀ n c, env.cells.lookup n = some c → c ∉ wr) (k : ∀ b o, b ∉ wr → s.heap.get? b = some o → h'.get? b = some o) : Fs kp s₀ env os G { s with heap := h', toks := tk } := by
  obtain ⟨b, nn, m, cm, al, c, nd, kx, e, f⟩ := x
  have sg : SGr s.heap h' := fun b o sq eb => k b o (fun hb => by
    obtain ⟨o', e', nq⟩ := hl b hb
    rw [eb] at e'; cases e'; exact nq sq) eb
  refine ⟨b, nn, m, cm, al, ?_, nd, fun z o e => let ⟨p, q1, q2, q3⟩ := kx z o e; ⟨k z o (fun h => by rw [hwk z h] at e; cases e) p, q1, q2, q3⟩, ?_, ?_⟩
  · obtain ⟨⟨⟨h1, tk1, hs⟩, b1, c1, d1⟩, e1, f1, i1⟩ := c
    refine ⟨⟨⟨h', tk, by rw [hs]⟩, b1.at' fun o eo => k _ o hL eo, fun y o ey => ?_, d1⟩, fun n' c' q' => ?_, f1, i1⟩
    · exact k y o (fun hb => by rw [hw y hb] at ey; cases ey) (c1 y o ey)
    · obtain ⟨o, ho, hd⟩ := e1 n' c' q'
      exact ⟨o, k c' o (hcf n' c' q') ho, hd⟩
  · intro y d hy
    obtain ⟨u, lu, ru⟩ := e y d hy
    exact ⟨u, lu, ru.but fun b o sq _ eb => sg b o sq eb⟩
  · intro o ho
    obtain ⟨lo, f0, vs, ⟨q, p⟩, ra⟩ := f o ho
    exact ⟨lo, f0, vs, ⟨q, sg _ _ ⟨_, _, rfl⟩ p⟩, ra.but fun b o sq _ eb => sg b o sq eb⟩

section
variable {prog : Program} {w : World} {A : Around} {env : Env} {os : Owns} {G : Gam}

theorem ex_for {x : Str} {px pos : Pos} {iter : Expr} {body : List Stmt} {lo hi : Int} {k n m : Nat} {osx : Nat → Owns} {Gx : Nat → Gam} {r : Res} (o : Ok k A) (fe : FEnv env) (hx : env.kindOf x = some .local)
    (a : EvV prog w A env (ownG (osx 0) ++ Gx 0) iter (fun h v => IsRg h v lo hi)) (h0 : -1000 ≤ lo) (h1 : lo ≤ 1000) (h2 : -1000 ≤ hi) (h3 : hi ≤ 1000) (hn : n = (hi - lo).toNat) (hm : m ≤ n)
    (hno : ∀ i, ∀ q ∈ osx i, q.1 ≠ x)
    (step : ∀ i, i < m → Exs prog w A env body (osx i) ((x, .int (lo + i)) :: Gx i) (.go (osx (i + 1)) (Gx (i + 1))))
    (fin : (m = n ∧ r = .go (osx n) (Gx n)) ∨ (m < n ∧ ∃ d, r = .ret d ∧ Exs prog w A env body (osx m) ((x, .int (lo + m)) :: Gx m) (.ret d)))
    (hs : ∀ v, foldedSetIterable iter env v = pure v := by intro _; rfl) :
    Ex prog w A env (.For (.Name x px) iter body [] pos) (osx 0) (Gx 0) r := fun kp s₀ s Q E X q => by
  subst hn
  refine wpAny_For (srcT_range (px := px) (x := x) o a h0 h1 h2 h3 s _ E X.cx ?_) hs
  intro it s₂ fp wr St ks feed st hlt hfr hwf hsub
  have F := feed env fe.kind (fun y hy => by rcases List.mem_cons.mp hy with rfl | hy; exact hx; cases hy)
  have hL : ∃ ob, s.heap.get? env.locals = some ob := by
    obtain ⟨_, _, m, cm, al, c, _⟩ := X
    obtain ⟨ob, _, _, e, _⟩ := c.toInCall.ns
    exact ⟨ob, e⟩
  have hLf : env.locals ∉ fp := fun hb => by obtain ⟨ob, e⟩ := hL; rw [hfr _ hb] at e; cases e
  have hC : ∀ n c, env.cells.lookup n = some c → ∃ ob, s.heap.get? c = some ob := by
    obtain ⟨_, _, m, cm, al, c, _⟩ := X
    intro n' c' q'
    obtain ⟨ob, e, _⟩ := c.cell n' c' q'
    exact ⟨ob, e⟩
  have hCf : ∀ n c, env.cells.lookup n = some c → c ∉ fp := fun n' c' q' hb => by obtain ⟨ob, e⟩ := hC n' c' q'; rw [hfr _ hb] at e; cases e
  have hw0 : ∀ b ∈ wr, s₀.heap.get? b = none := fun b hb => by
    cases e : s₀.heap.get? b with
    | none => rfl
    | some ob => have := kp_gr X.done _ _ e; rw [hwf b hb] at this; cases this
  have hwk : ∀ b ∈ wr, kp b = none := fun b hb => by
    cases e : kp b with
    | none => rfl
    | some ob =>
      obtain ⟨_, _, m, cm, al, c, nd, kx, _⟩ := X
      have := (kx b ob e).1
      rw [hwf b hb] at this; cases this
  have hfk : ∀ b ∈ fp, kp b = none := fun b hb => by
    cases e : kp b with
    | none => rfl
    | some ob =>
      obtain ⟨_, _, m, cm, al, c, nd, kx, _⟩ := X
      have := (kx b ob e).1
      rw [hfr b hb] at this; cases this
  have run : ∀ i s', i < (hi - lo).toNat → Fs kp s₀ env (osx i) (Gx i) s' → St i s'.heap → ∀ (rr : Res) (Q' : Flow → Shared → Prop) (E' : Value → Shared → Prop), Exs prog w A env body (osx i) ((x, .int (lo + i)) :: Gx i) rr →
      (∀ kp2, (∀ a ob, kp a = some ob → kp2 a = some ob) → (∀ s2 os2 G2, Fs kp2 s₀ env os2 G2 s2 → St (i + 1) s2.heap) → Post kp2 s₀ env rr Q') →
      wpAny (model prog w) A (pyNext it) (fun r s₁ => match r with
        | none => False
        | some v => wpAny (model prog w) A (letOwnedTupleGo (.Name x px) it v) (fun _ s₁' => wpAny (model prog w) A (assign (.Name x px) env v) (fun _ s₂ => wpAny (model prog w) A (execs body env) Q' E' s₂) E' s₁') E' s₁) E' s' := by
    intro i s' hi' X' st' rr Q' E' hb hq
    refine fs_item F hi' st' trivial X' hw0 hwk hLf (fun n' c' q' hb => hCf n' c' q' (F.sub _ hb)) ?_ ?_ ?_ ?_
    · intro y d hy
      rw [List.lookup_cons] at hy
      split at hy
      · rename_i e
        have : y = x := beq_iff_eq.mp e
        subst this; exact hx
      · cases hy
    · intro p hp
      rw [List.lookup_cons]
      split
      · rename_i e
        exact absurd (beq_iff_eq.mp e) (hno i p hp)
      · rfl
    · intro y d hy
      rw [List.lookup_cons] at hy
      split at hy
      · cases hy; rfl
      · cases hy
    · intro s1 X1 st1
      refine hb (fun b => if b ∈ fp then s1.heap.get? b else kp b) s₀ s1 Q' E' ?_ (hq _ ?_ ?_)
      · obtain ⟨b, nn, m, cm, al, c, nd, kx, e, f⟩ := X1
        refine ⟨b, nn, m, cm, al, c, nd, ?_, e, f⟩
        intro z ob ez
        by_cases hz : z ∈ fp
        · simp only [hz, if_true] at ez
          refine ⟨ez, fun h => hLf (h ▸ hz), fun n' c' q' h => hCf n' c' q' (h ▸ hz), fun hv => ?_⟩
          obtain ⟨p, hp, rfl⟩ := List.mem_map.mp hv
          obtain ⟨_, f0, vs, ⟨qn, pl⟩, _⟩ := f p hp
          obtain ⟨o', e', nq⟩ := F.live _ _ st1 (al p.1) (hsub _ hz)
          rw [pl] at e'; cases e'
          exact nq ⟨_, _, rfl⟩
        · simp only [hz, if_false] at ez
          exact kx z ob ez
      · intro a ob ea
        have : a ∉ fp := fun h => by rw [hfk a h] at ea; cases ea
        simp only [this, if_false]; exact ea
      · intro s2 os2 G2 X2
        obtain ⟨b, nn, m, cm, al, c, nd, kx, e, f⟩ := X2
        refine F.frame _ _ _ st1 fun b hb ob eb => ?_
        exact (kx b ob (by simp only [hb, if_true]; exact eb)).1
  refine codeAny_forLoop_any (fun k' s' => ∃ i, i ≤ m ∧ k' = (hi - lo).toNat + 1 - i ∧ Fs kp s₀ env (osx i) (Gx i) s' ∧ St i s'.heap) ?_ _ ⟨0, Nat.zero_le _, rfl, X.keep ks, st⟩
  rintro k' s' ⟨i, him, rfl, X', st'⟩
  by_cases hlt : i < m
  · have := run i s' (by omega) X' st' _ (fun f s₃ => match f with
            | .next | .cont => ∃ m', m' < (hi - lo).toNat + 1 - i ∧ ∃ i, i ≤ m ∧ m' = (hi - lo).toNat + 1 - i ∧ Fs kp s₀ env (osx i) (Gx i) s₃ ∧ St i s₃.heap
            | .brk => Q .next s₃
            | .ret v => Q (.ret v) s₃) (notedBy (model prog w) A env fun e s' => cameBackBy (model prog w) A env E e s') (step i hlt) ?_
    · refine wpAny_mono this ?_ fun _ _ e => e
      intro r s1 h1
      cases r with
      | none => exact h1.elim
      | some v => exact h1
    · intro kp2 hk2 hst s2 X2
      exact ⟨(hi - lo).toNat + 1 - (i + 1), by omega, i + 1, hlt, rfl, X2.kpless hk2, hst _ _ _ X2⟩
  · have him' : i = m := by omega
    subst him'
    rcases fin with ⟨rfl, rfl⟩ | ⟨hmn, d, rfl, hb⟩
    · refine F.done _ _ _ st' fun h1 tk1 k1 => ?_
      refine wpAny_execs_nil (q _ (X'.but hw0 hwk (F.live _ _ st') (fun h => hLf (F.sub _ h)) (fun n' c' q' hb => hCf n' c' q' (F.sub _ hb)) k1))
    · have := run i s' hmn X' st' _ (fun f s₃ => match f with
            | .next | .cont => ∃ m', m' < (hi - lo).toNat + 1 - i ∧ ∃ j, j ≤ i ∧ m' = (hi - lo).toNat + 1 - j ∧ Fs kp s₀ env (osx j) (Gx j) s₃ ∧ St j s₃.heap
            | .brk => Q .next s₃
            | .ret v => Q (.ret v) s₃) (notedBy (model prog w) A env fun e s' => cameBackBy (model prog w) A env E e s') hb ?_
      · refine wpAny_mono this ?_ fun _ _ e => e
        intro r s1 h1
        cases r with
        | none => exact h1.elim
        | some v => exact h1
      · intro kp2 hk2 hst v s2 rd kk
        exact q v s2 rd kk
end
end Mine
end

section
open PySem PySem.W PyProof.Rows
set_option linter.all false
set_option maxRecDepth 100000
namespace Mine

/-- function i, called on args, hands back d -/
def FnC (prog : Program) (w : World) (i n : Nat) (args : List PyData) (d : PyData) : Prop :=
  ∀ (A : Around) (a : Addr) (vs : List Value) (s : Shared) (E : Value → Shared → Prop), Ok n A → Base s.heap → IsFn s.heap a i → RdA s.heap vs args →
    wpAny (model prog w) A (call (.ref a) vs) (fun v s' => Rd s'.heap v d ∧ Keeps s s') E s

abbrev fe (i : Nat) (L a : Addr) (cd : Value) : Env := envOf (fn i) (fs i) L a cd
theorem RdA.lookup {h : Heap} : ∀ {vs : List Value} {ds : List PyData} {ns : List Str} {n : Str} {d : PyData}, RdA h vs ds → ns.length = ds.length → (ns.zip ds).lookup n = some d → ∃ v, (ns.zip vs).lookup n = some v ∧ Rd h v d
  | [], ds, ns, n, d, r, hl, e => by
    have := r.len
    cases ds with
    | nil => simp at e
    | cons _ _ => simp at this
  | v :: vs, [], ns, n, d, r, hl, e => by simp at e
  | v :: vs, d :: ds, [], n, d', r, hl, e => by simp at e
  | v :: vs, d :: ds, k :: ns, n, d', r, hl, e => by
    obtain ⟨as, r1, r2, r3⟩ := r
    cases r1 with
    | cons x y =>
      rename_i a1 a2
      simp only [nds, Bool.and_eq_true] at r3
      rw [List.zip_cons_cons, List.lookup_cons] at e ⊢
      split at e
      · rename_i q
        cases e
        exact ⟨v, rfl, _, x, fun a m => r2 a (List.mem_append_left _ m), r3.1⟩
      · rename_i q
        exact RdA.lookup ⟨_, y, fun a m => r2 a (List.mem_append_right _ m), r3.2⟩ (by simpa using hl) e

section
variable {prog : Program} {w : World}

theorem fnc {i n : Nat} {ns : List Str} {args : List PyData} {d : PyData} (hl : ns.length = args.length) (hn : ns.Nodup)
    (hb : ∀ (vs : List Value) (pm code doc : Value), vs.length = ns.length → bindArgs (Calls.docDef (fn i) (fp i) (fb i) (fs i) pm code doc) ⟨vs, []⟩ = pure (ns.zip vs))
    (hc : ∀ x ∈ (fs i).names, x.2 ≠ .cell) (hloc : ∀ x ∈ ns, (fs i).names.lookup x = some .local) (hco : (fs i).isCoroutine = false) (hg : (fs i).isGenerator = false) (hk : (fs i).kind = .function)
    (hbody : ∀ (A : Around) (L a : Addr) (cd : Value), Ok n A → FEnv (fe i L a cd) → Exs prog w A (fe i L a cd) (fb i) [] (ns.zip args) (.ret d)) : FnC prog w i (n + 1) args d := by
  intro A a vs s E o b f r
  obtain ⟨ob, pm, code, doc, e1, e2, e3⟩ := f
  have hvl : vs.length = ns.length := by rw [hl]; exact r.len
  refine wpAny_call (codeAny_call_straight o.d e1 e2 b.nolim e3 rfl (hb vs pm code doc hvl) hc (fun x hx => hloc x.1 (List.of_mem_zip hx).1) (fun s₁ h₁ => ?_) hco hg hk)
  refine hbody (A.deeper _) s.heap.objs.size a code (o.deeper _) ⟨hk, rfl, rfl⟩ (fun _ => none) s s₁ _ _ ?_ ?_
  · refine ⟨b, List.nodup_nil, (fun x => (ns.zip vs).reverse.lookup x), fun _ => none, fun _ => 0, ⟨h₁, (fun n c h => nomatch h), List.Pairwise.nil, (fun n c h => nomatch h)⟩, List.nodup_nil, (fun _ _ e => nomatch e), ?_, (fun _ h => nomatch h)⟩
    intro y d' hy
    obtain ⟨v, hv, rv⟩ := r.lookup hl hy
    obtain ⟨as, q1, q2, q3⟩ := rv
    have hin : y ∈ ns := by
      have := mem_of_lookup hv
      exact (List.of_mem_zip this).1
    have e : (ns.zip vs).reverse.lookup y = some v := by
      have hnd : ((ns.zip vs).map (·.1)).Nodup := by rw [List.map_fst_zip (by omega)]; exact hn
      rw [PySem.lookup_reverse_of_nodup _ hnd]; exact hv
    have hkd : (fe i s.heap.objs.size a code).kindOf y = some .local := hloc y hin
    exact ⟨v, .inl ⟨hkd, e⟩, ⟨as, Reads.keeps h₁.keep q1, q2.gr h₁.keep, q3, fun _ _ h => nomatch h⟩⟩
  · intro v s' rv k
    exact ⟨rv, k⟩

theorem FnC.more {i n m : Nat} {args : List PyData} {d : PyData} (f : FnC prog w i n args d) (h : n ≤ m) : FnC prog w i m args d := fun A a vs s E o b g r => f A a vs s E (o.less h) b g r

variable {A : Around} {env : Env} {G : Gam}
theorem ev_f1 {x : Str} {p pos : Pos} {e : Expr} {d1 d : PyData} {i n : Nat} (fe : FEnv env) (o : Ok n A) (hn : x = fn i) (hi : i ∈ [3, 4, 5, 6, 8, 9, 11, 12]) (a : Ev prog w A env G e d1) (f : FnC prog w i n [d1] d)
    (hk : env.kindOf x = some .globalImplicit := by rfl) (hs : starEach [e] env = [(false, eval e env)] := by rfl) (hd : (x == ("__debug__" : Str)) = false := by decide) :
    Ev prog w A env G (.Call (.Name x p) [e] [] pos) d := fun s E c => by
  refine Call_Name1 ((ev_fn i fe hk hi hn hd).use c fun v s1 h k => ?_) hs
  obtain ⟨af, rfl, hf⟩ := h
  refine Calls.callWith_function (o := hf.choose) (fd := Calls.docDef (fn i) (fp i) (fb i) (fs i) hf.choose_spec.choose hf.choose_spec.choose_spec.choose hf.choose_spec.choose_spec.choose_spec.choose) (Calls.evalArgs_plain (Calls.spliced_cons (a.use (c.gr (kp_gr k)) fun v2 s2 h2 k2 => Calls.spliced_nil ?_)))
  have spec := hf.choose_spec.choose_spec.choose_spec.choose_spec
  refine ⟨⟨kp_gr k2 _ _ spec.1, spec.2.1⟩, back (R := fun h v => Rd h v d) (kp_trans k k2) (f A af [v2] s2 E o (c.base.gr (kp_gr (kp_trans k k2))) (hf.gr (kp_gr k2)) ?_)⟩
  exact .cons h2 .nil
theorem ev_f2 {x : Str} {p pos : Pos} {e1 e2 : Expr} {d1 d2 d : PyData} {i n : Nat} (fe : FEnv env) (o : Ok n A) (hn : x = fn i) (hi : i ∈ [3, 4, 5, 6, 8, 9, 11, 12]) (a : Ev prog w A env G e1 d1) (b : Ev prog w A env G e2 d2) (f : FnC prog w i n [d1, d2] d)
    (hk : env.kindOf x = some .globalImplicit := by rfl) (hs : starEach [e1, e2] env = [(false, eval e1 env), (false, eval e2 env)] := by rfl) (hd : (x == ("__debug__" : Str)) = false := by decide) :
    Ev prog w A env G (.Call (.Name x p) [e1, e2] [] pos) d := fun s E c => by
  refine Call_Name2 ((ev_fn i fe hk hi hn hd).use c fun v s1 h k => ?_) hs
  obtain ⟨af, rfl, hf⟩ := h
  refine Calls.callWith_function (o := hf.choose) (fd := Calls.docDef (fn i) (fp i) (fb i) (fs i) hf.choose_spec.choose hf.choose_spec.choose_spec.choose hf.choose_spec.choose_spec.choose_spec.choose) (Calls.evalArgs_plain (Calls.spliced_cons (a.use (c.gr (kp_gr k)) fun v2 s2 h2 k2 => Calls.spliced_cons (b.use ((c.gr (kp_gr k)).gr (kp_gr k2)) fun v3 s3 h3 k3 => Calls.spliced_nil ?_))))
  have spec := hf.choose_spec.choose_spec.choose_spec.choose_spec
  refine ⟨⟨kp_gr k3 _ _ (kp_gr k2 _ _ spec.1), spec.2.1⟩, back (R := fun h v => Rd h v d) (kp_trans k (kp_trans k2 k3)) (f A af [v2, v3] s3 E o (c.base.gr (kp_gr (kp_trans k (kp_trans k2 k3)))) (hf.gr (kp_gr (kp_trans k2 k3))) ?_)⟩
  exact .cons (h2.gr (kp_gr k3)) (.cons h3 .nil)
end
end Mine
end

section
open PySem PySem.W PyProof.Rows
set_option linter.all false
set_option maxRecDepth 100000
namespace Mine
open AutoSeq1 (wpAny_loadPart')
open MeetsSeq MeetsSeq2 MeetsSeq3 SeqRoads2

/-- an ordering of two values answers b -/
def RcB (op : CmpOp) (A : Around) (s : Shared) (y x : Value) (b : Bool) : Prop :=
  ∀ (prog : Program) (w : World) (E : Value → Shared → Prop) (Q : Value → Shared → Prop), Q (.bool b) s → wpAny (model prog w) A (richCompare op y x) Q E s
theorem rcb_lt {A : Around} {s : Shared} {a b : Int} {t u : Tok} : RcB .Lt A s (.int a t) (.int b u) (decide (a < b)) := fun prog w E Q h => PyProof.Rows.lt_int h
theorem rcb_gt {A : Around} {s : Shared} {a b : Int} {t u : Tok} : RcB .Gt A s (.int a t) (.int b u) (decide (b < a)) := fun prog w E Q h => PyProof.Rows.gt_int h

theorem llt_loop (l b : Addr) (items items2 : Array Value) (n n2 : Nat) (dd dd2 : Option Addr) (sl sl2 : Array (Option Value)) (e g : Nat → Bool) (hg1 : ∀ j, j < items.size → j < items2.size → e j = true → g j = g (j + 1))
    (hg3 : g (min items.size items2.size) = decide (items.size < items2.size)) (k : Nat) :
    ∀ i : Nat, i ≤ min items.size items2.size → min items.size items2.size - i = k → Meets (Builtin.«list.__eq__.loop» ⟨[.ref l, .ref b, rawInt i, rawInt 0], []⟩)
      (fun A R s => s.heap.get? l = some { cls := .type "list", dict := dd, data := .seq items n, slots := sl } ∧ s.heap.get? b = some { cls := .type "list", dict := dd2, data := .seq items2 n2, slots := sl2 } ∧
        (∀ j (h1 : j < items.size) (h2 : j < items2.size), SeqAt.EqAt A.in1 s items[j] items2[j] (e j)) ∧
        (∀ j (h1 : j < items.size) (h2 : j < items2.size), e j = false → RcB .Lt A.in1 s items[j] items2[j] (g j)) ∧
        R (.ok (.ret (.bool (g i)))) s) := by
  induction k with
  | zero =>
    intro i hle hk prog w A R s h
    obtain ⟨hp, gl, d, tk, os⟩ := s; obtain ⟨hl, hb, he, hr, h⟩ := h
    wp_walk using wpAny_loadPart' hl, wpAny_loadPart' hb
    have hi : i = min items.size items2.size := by omega
    subst hi
    rw [hg3] at h
    have hn : items[((min items.size items2.size : Nat) : Int).toNat]? = none ∨ items2[((min items.size items2.size : Nat) : Int).toNat]? = none := by
      rcases Nat.le_total items.size items2.size with q | q
      · left; simp [Nat.min_eq_left q]
      · right; simp [Nat.min_eq_right q]
    split
    · rename_i x y e1 e2
      rcases hn with hn | hn
      · rw [Prod.mk.injEq] at *; simp_all
      · rw [Prod.mk.injEq] at *; simp_all
    · wp_walk using wpAny_loadPart' hl, wpAny_loadPart' hb
      exact h
  | succ k ih =>
    intro i hle hk prog w A R s h
    obtain ⟨hp, gl, d, tk, os⟩ := s; obtain ⟨hl, hb, he, hr, h⟩ := h
    wp_walk using wpAny_loadPart' hl, wpAny_loadPart' hb
    have hlt : i < items.size := by omega
    have hlt2 : i < items2.size := by omega
    have hi1 : items[((i : Nat) : Int).toNat]? = some items[i] := by simp [hlt]
    have hi2 : items2[((i : Nat) : Int).toNat]? = some items2[i] := by simp [hlt2]
    have hc : ((i : Int) + 1) = ((i + 1 : Nat) : Int) := by push_cast; rfl
    rw [hi1, hi2]
    refine wpAny_bind (he i hlt hlt2 prog w _ _ ?_)
    cases hb' : e i with
    | true =>
      rw [hg1 i hlt hlt2 hb'] at h
      wp_walk
      rw [hc]
      exact ⟨plainId_quiet plain_eq_loop _, codeAny_builtin entry_eq_loop (by
        rw [Around.under_plainId plain_eq_loop _]
        exact ih (i + 1) (by omega) (by omega) prog w A R _ ⟨hl, hb, he, hr, h⟩)⟩
    | false =>
      wp_walk using wpAny_loadPart' hl, wpAny_loadPart' hb
      rw [hi1, hi2]
      refine wpAny_bind (hr i hlt hlt2 hb' prog w _ _ ?_)
      wp_walk
      exact h

theorem llt_at (l b : Addr) (items items2 : Array Value) (n n2 : Nat) (dd dd2 : Option Addr) (sl sl2 : Array (Option Value)) (e g : Nat → Bool) (hg1 : ∀ j, j < items.size → j < items2.size → e j = true → g j = g (j + 1))
    (hg3 : g (min items.size items2.size) = decide (items.size < items2.size)) :
    Meets (Builtin.«list.__lt__» ⟨[.ref l, .ref b], []⟩)
      (fun A R s => s.heap.get? l = some { cls := .type "list", dict := dd, data := .seq items n, slots := sl } ∧ s.heap.get? b = some { cls := .type "list", dict := dd2, data := .seq items2 n2, slots := sl2 } ∧
        (∀ j (h1 : j < items.size) (h2 : j < items2.size), SeqAt.EqAt A.in1 s items[j] items2[j] (e j)) ∧
        (∀ j (h1 : j < items.size) (h2 : j < items2.size), e j = false → RcB .Lt A.in1 s items[j] items2[j] (g j)) ∧
        R (.ok (.ret (.bool (g 0)))) s) := by
  intro prog w A R s h
  obtain ⟨hp, gl, d, tk, os⟩ := s; obtain ⟨hl, hb, h⟩ := h
  have f3 := AutoSeq1.sub_list_list
  wp_walk using wpAny_loadPart' hl, wpAny_loadPart' hb
  exact ⟨plainId_quiet plain_eq_loop _, codeAny_builtin entry_eq_loop (by
    rw [Around.under_plainId plain_eq_loop _]
    exact llt_loop l b items items2 n n2 dd dd2 sl sl2 e g hg1 hg3 _ 0 (Nat.zero_le _) rfl prog w A R _ ⟨hl, hb, h⟩)⟩

theorem llt_lists {prog : Program} {w : World} {A : Around} {E : Value → Shared → Prop} {s : Shared} {l b : Addr} {items items2 : Array Value} {e g : Nat → Bool} {Q : Value → Shared → Prop} (hl : s.heap.IsList l items) (hb : s.heap.IsList b items2)
    (hg1 : ∀ j, j < items.size → j < items2.size → e j = true → g j = g (j + 1)) (hg3 : g (min items.size items2.size) = decide (items.size < items2.size)) (hu : A.units < cLine)
    (he : ∀ j (h1 : j < items.size) (h2 : j < items2.size), SeqAt.EqAt A.in1 s items[j] items2[j] (e j))
    (hr : ∀ j (h1 : j < items.size) (h2 : j < items2.size), e j = false → RcB .Lt A.in1 s items[j] items2[j] (g j)) (h : Q (.bool (g 0)) s) : wpAny (model prog w) A (compareOp .Lt (.ref l) (.ref b)) Q E s := by
  obtain ⟨⟨cls, dd, data, sl⟩, ho, hc, n, hd⟩ := id hl
  obtain ⟨⟨cls2, dd2, data2, sl2⟩, ho2, hc2, n2, hd2⟩ := id hb
  simp only at hc hd hc2 hd2
  subst hc hd hc2 hd2
  show wpAny _ _ (richCompare .Lt (.ref l) (.ref b)) Q E s
  exact richCompare_meets_room (op := .Lt) ⟨_, ho, rfl⟩ ⟨_, ho2, rfl⟩ F.slot_list_lt F.entry_list_lt (F.args_list_lt_2 _ _) (llt_at l b items items2 n n2 dd dd2 sl sl2 e g hg1 hg3)
    ⟨ho, ho2, he, hr, show Value.bool (g 0) ≠ Value.notImplemented ∧ Q (.bool (g 0)) s from ⟨(fun x => nomatch x), h⟩⟩ hu

theorem lgt_loop (l b : Addr) (items items2 : Array Value) (n n2 : Nat) (dd dd2 : Option Addr) (sl sl2 : Array (Option Value)) (e g : Nat → Bool) (hg1 : ∀ j, j < items.size → j < items2.size → e j = true → g j = g (j + 1))
    (hg3 : g (min items.size items2.size) = decide (items2.size < items.size)) (k : Nat) :
    ∀ i : Nat, i ≤ min items.size items2.size → min items.size items2.size - i = k → Meets (Builtin.«list.__eq__.loop» ⟨[.ref l, .ref b, rawInt i, rawInt 4], []⟩)
      (fun A R s => s.heap.get? l = some { cls := .type "list", dict := dd, data := .seq items n, slots := sl } ∧ s.heap.get? b = some { cls := .type "list", dict := dd2, data := .seq items2 n2, slots := sl2 } ∧
        (∀ j (h1 : j < items.size) (h2 : j < items2.size), SeqAt.EqAt A.in1 s items[j] items2[j] (e j)) ∧
        (∀ j (h1 : j < items.size) (h2 : j < items2.size), e j = false → RcB .Gt A.in1 s items[j] items2[j] (g j)) ∧
        R (.ok (.ret (.bool (g i)))) s) := by
  induction k with
  | zero =>
    intro i hle hk prog w A R s h
    obtain ⟨hp, gl, d, tk, os⟩ := s; obtain ⟨hl, hb, he, hr, h⟩ := h
    wp_walk using wpAny_loadPart' hl, wpAny_loadPart' hb
    have hi : i = min items.size items2.size := by omega
    subst hi
    rw [hg3] at h
    have hn : items[((min items.size items2.size : Nat) : Int).toNat]? = none ∨ items2[((min items.size items2.size : Nat) : Int).toNat]? = none := by
      rcases Nat.le_total items.size items2.size with q | q
      · left; simp [Nat.min_eq_left q]
      · right; simp [Nat.min_eq_right q]
    split
    · rename_i x y e1 e2
      rcases hn with hn | hn
      · rw [Prod.mk.injEq] at *; simp_all
      · rw [Prod.mk.injEq] at *; simp_all
    · wp_walk using wpAny_loadPart' hl, wpAny_loadPart' hb
      exact h
  | succ k ih =>
    intro i hle hk prog w A R s h
    obtain ⟨hp, gl, d, tk, os⟩ := s; obtain ⟨hl, hb, he, hr, h⟩ := h
    wp_walk using wpAny_loadPart' hl, wpAny_loadPart' hb
    have hlt : i < items.size := by omega
    have hlt2 : i < items2.size := by omega
    have hi1 : items[((i : Nat) : Int).toNat]? = some items[i] := by simp [hlt]
    have hi2 : items2[((i : Nat) : Int).toNat]? = some items2[i] := by simp [hlt2]
    have hc : ((i : Int) + 1) = ((i + 1 : Nat) : Int) := by push_cast; rfl
    rw [hi1, hi2]
    refine wpAny_bind (he i hlt hlt2 prog w _ _ ?_)
    cases hb' : e i with
    | true =>
      rw [hg1 i hlt hlt2 hb'] at h
      wp_walk
      rw [hc]
      exact ⟨plainId_quiet plain_eq_loop _, codeAny_builtin entry_eq_loop (by
        rw [Around.under_plainId plain_eq_loop _]
        exact ih (i + 1) (by omega) (by omega) prog w A R _ ⟨hl, hb, he, hr, h⟩)⟩
    | false =>
      wp_walk using wpAny_loadPart' hl, wpAny_loadPart' hb
      rw [hi1, hi2]
      refine wpAny_bind (hr i hlt hlt2 hb' prog w _ _ ?_)
      wp_walk
      exact h

theorem lgt_at (l b : Addr) (items items2 : Array Value) (n n2 : Nat) (dd dd2 : Option Addr) (sl sl2 : Array (Option Value)) (e g : Nat → Bool) (hg1 : ∀ j, j < items.size → j < items2.size → e j = true → g j = g (j + 1))
    (hg3 : g (min items.size items2.size) = decide (items2.size < items.size)) :
    Meets (Builtin.«list.__gt__» ⟨[.ref l, .ref b], []⟩)
      (fun A R s => s.heap.get? l = some { cls := .type "list", dict := dd, data := .seq items n, slots := sl } ∧ s.heap.get? b = some { cls := .type "list", dict := dd2, data := .seq items2 n2, slots := sl2 } ∧
        (∀ j (h1 : j < items.size) (h2 : j < items2.size), SeqAt.EqAt A.in1 s items[j] items2[j] (e j)) ∧
        (∀ j (h1 : j < items.size) (h2 : j < items2.size), e j = false → RcB .Gt A.in1 s items[j] items2[j] (g j)) ∧
        R (.ok (.ret (.bool (g 0)))) s) := by
  intro prog w A R s h
  obtain ⟨hp, gl, d, tk, os⟩ := s; obtain ⟨hl, hb, h⟩ := h
  have f3 := AutoSeq1.sub_list_list
  wp_walk using wpAny_loadPart' hl, wpAny_loadPart' hb
  exact ⟨plainId_quiet plain_eq_loop _, codeAny_builtin entry_eq_loop (by
    rw [Around.under_plainId plain_eq_loop _]
    exact lgt_loop l b items items2 n n2 dd dd2 sl sl2 e g hg1 hg3 _ 0 (Nat.zero_le _) rfl prog w A R _ ⟨hl, hb, h⟩)⟩

theorem lgt_lists {prog : Program} {w : World} {A : Around} {E : Value → Shared → Prop} {s : Shared} {l b : Addr} {items items2 : Array Value} {e g : Nat → Bool} {Q : Value → Shared → Prop} (hl : s.heap.IsList l items) (hb : s.heap.IsList b items2)
    (hg1 : ∀ j, j < items.size → j < items2.size → e j = true → g j = g (j + 1)) (hg3 : g (min items.size items2.size) = decide (items2.size < items.size)) (hu : A.units < cLine)
    (he : ∀ j (h1 : j < items.size) (h2 : j < items2.size), SeqAt.EqAt A.in1 s items[j] items2[j] (e j))
    (hr : ∀ j (h1 : j < items.size) (h2 : j < items2.size), e j = false → RcB .Gt A.in1 s items[j] items2[j] (g j)) (h : Q (.bool (g 0)) s) : wpAny (model prog w) A (compareOp .Gt (.ref l) (.ref b)) Q E s := by
  obtain ⟨⟨cls, dd, data, sl⟩, ho, hc, n, hd⟩ := id hl
  obtain ⟨⟨cls2, dd2, data2, sl2⟩, ho2, hc2, n2, hd2⟩ := id hb
  simp only at hc hd hc2 hd2
  subst hc hd hc2 hd2
  show wpAny _ _ (richCompare .Gt (.ref l) (.ref b)) Q E s
  exact richCompare_meets_room (op := .Gt) ⟨_, ho, rfl⟩ ⟨_, ho2, rfl⟩ F.slot_list_gt F.entry_list_gt (F.args_list_gt_2 _ _) (lgt_at l b items items2 n n2 dd dd2 sl sl2 e g hg1 hg3)
    ⟨ho, ho2, he, hr, show Value.bool (g 0) ≠ Value.notImplemented ∧ Q (.bool (g 0)) s from ⟨(fun x => nomatch x), h⟩⟩ hu

/-- rows of ints in order -/
def ltI : List Int → List Int → Bool
  | _, [] => false
  | [], _ :: _ => true
  | a :: as, b :: bs => if a = b then ltI as bs else decide (a < b)
theorem ltI_drop {xs ys : List Int} {j : Nat} (h1 : j < xs.length) (h2 : j < ys.length) : ltI (xs.drop j) (ys.drop j) = if xs[j] = ys[j] then ltI (xs.drop (j + 1)) (ys.drop (j + 1)) else decide (xs[j] < ys[j]) := by
  rw [List.drop_eq_getElem_cons h1, List.drop_eq_getElem_cons h2, ltI]
theorem ltI_end {xs ys : List Int} : ltI (xs.drop (min xs.length ys.length)) (ys.drop (min xs.length ys.length)) = decide (xs.length < ys.length) := by
  rcases Nat.lt_or_ge xs.length ys.length with h | h
  · rw [Nat.min_eq_left (Nat.le_of_lt h), List.drop_length, List.drop_eq_getElem_cons h, ltI]; simp [h]
  · rw [Nat.min_eq_right h, List.drop_length]
    have : ¬ xs.length < ys.length := by omega
    simp [this]
    cases xs.drop ys.length <;> rfl

section
variable {prog : Program} {w : World} {A : Around} {env : Env} {G : Gam}
theorem intsAre_at {vs : List Value} {xs : List Int} (h : IntsAre vs xs) {j : Nat} (h1 : j < vs.length) (h2 : j < xs.length) : ∃ t, vs[j] = .int xs[j] t := by
  induction h generalizing j with
  | nil => cases h1
  | cons _ _ _ ih =>
    cases j with
    | zero => exact ⟨_, rfl⟩
    | succ j => simpa using ih (by simpa using h1) (by simpa using h2)
theorem o_ltl {n : Nat} {xs ys : List Int} (o : Ok n A) : Op2 prog w A (compareOp .Lt) (.list (xs.map .int)) (.list (ys.map .int)) (.bool (ltI xs ys)) := fun v1 v2 s E h1 h2 => by
  obtain ⟨l, vs, rfl, p, ra⟩ := h1.list_inv
  obtain ⟨b, ws, rfl, q, rb⟩ := h2.list_inv
  have e1 : vs.length = xs.length := by simpa using ra.len
  have e2 : ws.length = ys.length := by simpa using rb.len
  have i1 := ints_of ra
  have i2 := ints_of rb
  refine llt_lists (e := fun j => decide (xs.getD j 0 = ys.getD j 0)) (g := fun j => ltI (xs.drop j) (ys.drop j)) p.isList q.isList ?_ ?_ o.u ?_ ?_ ?_
  · intro j a1 a2 he
    have a1' : j < xs.length := by simpa [e1] using a1
    have a2' : j < ys.length := by simpa [e2] using a2
    simp only [List.getD_eq_getElem?_getD, List.getElem?_eq_getElem a1', List.getElem?_eq_getElem a2', Option.getD_some, decide_eq_true_eq] at he
    rw [ltI_drop a1' a2', if_pos he]
  · simp only [List.size_toArray, e1, e2]
    exact ltI_end
  · intro j a1 a2
    have a1' : j < xs.length := by simpa [e1] using a1
    have a2' : j < ys.length := by simpa [e2] using a2
    obtain ⟨t, q1⟩ := intsAre_at i1 (by simpa using a1) a1'
    obtain ⟨u, q2⟩ := intsAre_at i2 (by simpa using a2) a2'
    simp only [List.getElem_toArray, q1, q2]
    have := SeqAt.EqAt.int_int (A := A.in1) (s := s) xs[j] t ys[j] u
    have e : (xs[j] == ys[j]) = decide (xs.getD j 0 = ys.getD j 0) := by
      simp [List.getD_eq_getElem?_getD, List.getElem?_eq_getElem a1', List.getElem?_eq_getElem a2']
      rw [Bool.eq_iff_iff]; simp
    rwa [e] at this
  · intro j a1 a2 he
    have a1' : j < xs.length := by simpa [e1] using a1
    have a2' : j < ys.length := by simpa [e2] using a2
    obtain ⟨t, q1⟩ := intsAre_at i1 (by simpa using a1) a1'
    obtain ⟨u, q2⟩ := intsAre_at i2 (by simpa using a2) a2'
    simp only [List.getElem_toArray, q1, q2]
    simp only [List.getD_eq_getElem?_getD, List.getElem?_eq_getElem a1', List.getElem?_eq_getElem a2', Option.getD_some, decide_eq_false_iff_not] at he
    rw [ltI_drop a1' a2', if_neg he]
    exact rcb_lt
  · exact ⟨.bool, kp_refl s⟩
theorem o_gtl {n : Nat} {xs ys : List Int} (o : Ok n A) : Op2 prog w A (compareOp .Gt) (.list (xs.map .int)) (.list (ys.map .int)) (.bool (ltI ys xs)) := fun v1 v2 s E h1 h2 => by
  obtain ⟨l, vs, rfl, p, ra⟩ := h1.list_inv
  obtain ⟨b, ws, rfl, q, rb⟩ := h2.list_inv
  have e1 : vs.length = xs.length := by simpa using ra.len
  have e2 : ws.length = ys.length := by simpa using rb.len
  have i1 := ints_of ra
  have i2 := ints_of rb
  refine lgt_lists (e := fun j => decide (xs.getD j 0 = ys.getD j 0)) (g := fun j => ltI (ys.drop j) (xs.drop j)) p.isList q.isList ?_ ?_ o.u ?_ ?_ ?_
  · intro j a1 a2 he
    have a1' : j < xs.length := by simpa [e1] using a1
    have a2' : j < ys.length := by simpa [e2] using a2
    simp only [List.getD_eq_getElem?_getD, List.getElem?_eq_getElem a1', List.getElem?_eq_getElem a2', Option.getD_some, decide_eq_true_eq] at he
    rw [ltI_drop a2' a1', if_pos he.symm]
  · simp only [List.size_toArray, e1, e2]
    rw [Nat.min_comm]
    exact ltI_end
  · intro j a1 a2
    have a1' : j < xs.length := by simpa [e1] using a1
    have a2' : j < ys.length := by simpa [e2] using a2
    obtain ⟨t, q1⟩ := intsAre_at i1 (by simpa using a1) a1'
    obtain ⟨u, q2⟩ := intsAre_at i2 (by simpa using a2) a2'
    simp only [List.getElem_toArray, q1, q2]
    have := SeqAt.EqAt.int_int (A := A.in1) (s := s) xs[j] t ys[j] u
    have e : (xs[j] == ys[j]) = decide (xs.getD j 0 = ys.getD j 0) := by
      simp [List.getD_eq_getElem?_getD, List.getElem?_eq_getElem a1', List.getElem?_eq_getElem a2']
      rw [Bool.eq_iff_iff]; simp
    rwa [e] at this
  · intro j a1 a2 he
    have a1' : j < xs.length := by simpa [e1] using a1
    have a2' : j < ys.length := by simpa [e2] using a2
    obtain ⟨t, q1⟩ := intsAre_at i1 (by simpa using a1) a1'
    obtain ⟨u, q2⟩ := intsAre_at i2 (by simpa using a2) a2'
    simp only [List.getElem_toArray, q1, q2]
    simp only [List.getD_eq_getElem?_getD, List.getElem?_eq_getElem a1', List.getElem?_eq_getElem a2', Option.getD_some, decide_eq_false_iff_not] at he
    rw [ltI_drop a2' a1', if_neg (fun q => he q.symm)]
    exact rcb_gt
  · exact ⟨.bool, kp_refl s⟩
end
end Mine
end

section
open PySem PySem.W PyProof.Rows
set_option linter.all false
set_option maxRecDepth 100000
namespace Mine

theorem int_sub_bb (a b : Bool) : Gives (Builtin.«int.__sub__» ⟨[.bool a, .bool b], []⟩) (.int ((if a = true then (1 : Int) else 0) - (if b = true then (1 : Int) else 0))) :=
  .of_wp fun M A E s Q h => by obtain ⟨hp, g, d, tk, os⟩ := s; wp_walk; exact ⟨_, rfl, h⟩

def b2i (b : Bool) : Int := if b = true then 1 else 0

section
variable {prog : Program} {w : World}
theorem o_subb {A : Around} {a b : Bool} : Op2 prog w A (binaryOp .Sub) (.bool a) (.bool b) (.int (b2i a - b2i b)) := fun v1 v2 s E h1 h2 => by
  rw [h1.bool_inv, h2.bool_inv]
  exact binaryOp_gives (op := .Sub) (T := "bool") (id := "int.__sub__") rfl rfl F.fills_bool_sub F.slot_bool_sub F.entry_int_sub (F.args_int_sub_2 _ _) (int_sub_bb a b) trivial ⟨.int, kp_tok⟩

theorem twc {n : Nat} {d1 d2 : PyData} {p q : Bool} (f : ∀ A : Around, Ok n A → Op2 prog w A (compareOp .Gt) d1 d2 (.bool p)) (g : ∀ A : Around, Ok n A → Op2 prog w A (compareOp .Lt) d1 d2 (.bool q)) :
    FnC prog w 9 (n + 1) [d1, d2] (.int (b2i p - b2i q)) := by
  refine fnc (ns := ["x", "y"]) rfl (by decide) ?_ ?_ ?_ rfl rfl rfl ?_
  · intro vs pm code doc h
    match vs, h with
    | [a, b], _ => rfl
  · decide
  · decide
  · intro A L a cd o e
    exact exs_ret (ex_return (ev_bin (ev_cmp (ev_name e rfl) (ev_name e rfl) (f A o)) (ev_cmp (ev_name e rfl) (ev_name e rfl) (g A o)) o_subb))
end
end Mine
end

section
open PySem PySem.W PyProof.Rows
set_option linter.all false
set_option maxRecDepth 100000
namespace Mine

theorem wk_refl {G : Gam} : ∀ n d, G.lookup n = some d → G.lookup n = some d := fun _ _ h => h
theorem wk_cons {G G' : Gam} {x : Str} {v : PyData} (hx : G'.lookup x = none) (k : ∀ n d, G'.lookup n = some d → G.lookup n = some d) : ∀ n d, G'.lookup n = some d → ((x, v) :: G).lookup n = some d := fun n d h => by
  rw [List.lookup_cons]
  split
  · rename_i e
    have : n = x := beq_iff_eq.mp e
    subst this; rw [hx] at h; cases h
  · exact k n d h

section
variable {prog : Program} {w : World} {A : Around} {env : Env} {G : Gam}
theorem Ev.as {e : Expr} {d d' : PyData} (a : Ev prog w A env G e d) (h : d = d') : Ev prog w A env G e d' := h ▸ a
theorem Tst.as {e : Expr} {d d' : Bool} (a : Tst prog w A env G e d) (h : d = d') : Tst prog w A env G e d' := h ▸ a
theorem o_eqi {n : Nat} {a b : Int} (o : Ok (n + 1) A) : Op2 prog w A (compareOp .Eq) (.int a) (.int b) (.bool (a == b)) := by
  have := o_eq (prog := prog) (w := w) (d := .int a) (e := .int b) o rfl rfl (by simp [PyData.depth])
  rwa [PyData.eqv] at this
theorem o_eqs {n : Nat} {a b : Str} (o : Ok (n + 1) A) (ha : (PyData.str a).canLay0 = true) (hb : (PyData.str b).canLay0 = true) : Op2 prog w A (compareOp .Eq) (.str a) (.str b) (.bool (a == b)) := by
  have := o_eq (prog := prog) (w := w) (d := .str a) (e := .str b) o ha hb (by simp [PyData.depth])
  rwa [PyData.eqv] at this

section
variable {prog : Program} {w : World} {A : Around} {env : Env} {os : Owns} {G : Gam}
theorem exs_ifr {test : Expr} {body rest : List Stmt} {pos : Pos} {r : Res} {c : Bool} (t : Tst prog w A env (ownG os ++ G) test c) (a : c = true → ∃ d, r = .ret d ∧ Exs prog w A env body os G (.ret d)) (b : c = false → Exs prog w A env rest os G r) :
    Exs prog w A env (.If test body [] pos :: rest) os G r := by
  cases c with
  | true => obtain ⟨d, rfl, h⟩ := a rfl; exact exs_ret (ex_if_t t h)
  | false => exact exs_go (ex_if_f t exs_nil) (b rfl)
end
section
variable {prog : Program} {w : World} {A : Around} {env : Env} {G : Gam}

/-- as ev_item_list and ev_slice_list, of any base -/
theorem ev_item_listT {value slice : Expr} {pos : Pos} {ds : List PyData} {i : Nat} {d : PyData} (a : Ev prog w A env G value (.list ds)) (b : Ev prog w A env G slice (.int i)) (hd : ds[i]? = some d) (hz : i < 2 ^ 62)
    (hs : ∀ o k, subscripted slice false o k = operate [o, k] (getItem o k) := by intro _ _; rfl) :
    Ev prog w A env G (.Subscript value slice pos) d := fun s E c =>
  Subscript_ (two (t := fun o i => subscriptTail value slice o i) a b (fun _ _ _ h k => h.gr k) c fun v1 v2 s' h1 h2 k => by
    obtain ⟨l, vs, rfl, p, ra⟩ := h1.list_inv; obtain ⟨u, rfl⟩ := h2.int_inv
    obtain ⟨v, e, r⟩ := ra.get hd
    exact kba_turn (value' := .Name "a" pos) (fun _ => rfl) (subscriptTail_ops p.isList.typeIs list_getitem_lookup (wpAny_getItem_list p.isList (by omega) (by omega) (by simpa using e) ⟨r, k⟩) (hs _ _) (fun _ => rfl)))
theorem ev_slice_listT {value : Expr} {lo hi : Option Expr} {p pos : Pos} {ds : List PyData} {l u : Option Int} (a : EvV prog w A env G value (fun h v => Ls h v ds)) (pl : Part prog w A env G lo l) (pu : Part prog w A env G hi u)
    (hz : ds.length ≤ 1000) (hs : ∀ o k, subscripted (.Slice lo hi none p) false o k = operate [k, o] (getItem o k) := by intro _ _; rfl) : Ev prog w A env G (.Subscript value (.Slice lo hi none p) pos) (.list (pyslice ds l u)) := fun s E c => by
  refine Subscript_ (a.use c fun v s1 h k => wpAny_Slice (pl.go.use (c.gr (kp_gr k)) fun vl s2 hl k2 => pu.go.use ((c.gr (kp_gr k)).gr (kp_gr k2)) fun vu s3 hu k3 => ?_))
  obtain ⟨b, vs, rfl, il, ra⟩ := (h.gr (kp_gr k2)).gr (kp_gr k3)
  have hl' := ra.len
  rw [evalPart_none]
  refine wpAny_pure (kba_turn (value' := .Name "a" pos) (fun _ => rfl) (subscriptTail_ops (il.push _).typeIs list_getitem_lookup (wpAny_getItem_list_slice (il.push _) (Heap.IsSliceOf.new ..) hl.is hu.is .none (by simp) ?_ (by rw [sizeLine_eq]; simp; omega)) (hs _ _) (fun _ => rfl)))
  rw [Heap.size_push]
  refine ⟨?_, kp_trans k (kp_trans k2 (kp_trans k3 ?_))⟩
  · rw [slicePick_plain]
    refine .list (vs := (vs.drop (clip vs.length l 0)).take (clip vs.length u vs.length - clip vs.length l 0)) ⟨0, ?_⟩ ?_
    · have := Heap.get?_push_size (s3.heap.push { cls := .type "slice", data := .fields #[vl, vu, .none] }) (o := { cls := .type "list", data := .seq ((vs.drop (clip vs.length l 0)).take (clip vs.length u vs.length - clip vs.length l 0)).toArray }) rfl
      rw [size_push'] at this
      simpa [clip] using this
    · have : RdA s3.heap ((vs.drop (clip vs.length l 0)).take (clip vs.length u vs.length - clip vs.length l 0)) (pyslice ds l u) := by
        unfold pyslice; rw [← hl']; exact (ra.drop _).take _
      exact this.gr fun b o e => Heap.get?_push_of_some _ (Heap.get?_push_of_some _ e)
  · exact kp_trans kp_push kp_push
end
def forBody (i k : Nat) : List Stmt := match (fb i)[k]? with
  | some (.For _ _ b _ _) => b
  | _ => []
def li (xs : List Int) : PyData := .list (xs.map .int)
theorem slice_li {xs : List Int} {k : Nat} : pyslice (xs.map .int) none (some (k : Int)) = (xs.take k).map .int := by
  unfold pyslice clip
  simp only [Option.elim, List.drop_zero, Nat.sub_zero, List.map_take]
  have : clipAt (xs.map PyData.int).length (k : Int) = min k (xs.map PyData.int).length := by
    unfold clipAt; simp; try omega
  rw [this]
  rw [List.take_eq_take_iff]; omega

/-- the rows of a word: its ends, one shorter each time -/
def rowsOf (w : List Int) : PyData := .list ((List.range 11).map fun k => li (w.drop k))
theorem rowsOf_get {w : List Int} {k : Nat} (h : k < 11) : ((List.range 11).map fun k => li (w.drop k))[k]? = some (li (w.drop k)) := by
  rw [List.getElem?_map, List.getElem?_range h]; rfl
def low (p s : Nat) : Nat := p - s
def wid (p s : Nat) : Nat := min p (10 - s) - (p - s)
def turnOk (w : List Int) (p s : Nat) : Bool :=
  b2i (ltI ((w.drop (low p s + s)).take (wid p s)) ((w.drop (low p s)).take (wid p s))) - b2i (ltI ((w.drop (low p s)).take (wid p s)) ((w.drop (low p s + s)).take (wid p s))) == 0
def turnOf (w : List Int) (p : Nat) : Nat := 1 + (List.range 9).findIdx (fun i => turnOk w p (1 + i))

theorem turn_fn {w' : List Int} (hw : w'.length = 10) {p : Nat} (hp : p ≤ 9) : FnC prog w 11 3 [rowsOf w', .int p] (.int (turnOf w' p)) := by
  refine fnc (ns := ["rows", "place"]) rfl (by decide) ?_ ?_ ?_ rfl rfl rfl ?_
  · intro vs pm code doc h
    match vs, h with
    | [a, b], _ => rfl
  · decide
  · decide
  · intro A L a cd o e
    have loc : ∀ x ∈ (["rows", "place", "size", "step", "low", "width"] : List Str), (fe 11 L a cd).kindOf x = some .local := by
      intro x hx
      simp only [List.mem_cons, List.not_mem_nil, or_false] at hx
      rcases hx with rfl | rfl | rfl | rfl | rfl | rfl <;> rfl
    refine exs_go (ex_assign (d := .int 10) e (evx_nl (Ev.as (ev_bin (ev_call1 e (.inl ⟨_, rfl⟩) rfl (ev_name e rfl) (b_len (by simp))) ev_int o_sub) (by simp))) (.inl (loc _ (by simp))) (fun _ h => nomatch h)) ?_
    have hfi : (List.range 9).findIdx (fun i => turnOk w' p (1 + i)) ≤ 9 := by simpa using List.findIdx_le_length (xs := List.range 9) (p := fun i => turnOk w' p (1 + i))
    have hfalse : ∀ i, i < (List.range 9).findIdx (fun i => turnOk w' p (1 + i)) → turnOk w' p (1 + i) = false := by
      intro i hi
      have := List.not_of_lt_findIdx hi
      simpa using this
    have htrue : (List.range 9).findIdx (fun i => turnOk w' p (1 + i)) < 9 → turnOk w' p (1 + (List.range 9).findIdx (fun i => turnOk w' p (1 + i))) = true := by
      intro h
      have := List.findIdx_getElem (xs := List.range 9) (p := fun i => turnOk w' p (1 + i)) (w := by simpa using h)
      simpa using this
    -- one turn
    have turn : ∀ i, i < 9 → ∀ r, (turnOk w' p (1 + i) = true → r = .ret (.int (1 + (i : Int)))) → (turnOk w' p (1 + i) = false → r = .go [] [("size", .int 10), ("rows", rowsOf w'), ("place", .int p)]) →
        Exs prog w A (fe 11 L a cd) (forBody 11 1) [] [("step", .int (1 + (i : Int))), ("size", .int 10), ("rows", rowsOf w'), ("place", .int p)] r := by
      intro i hi r hr1 hr2
      refine exs_go (ex_assign (d := .int (low p (1 + i))) e (evx_nl (Ev.as (ev_call2 e (.inl ⟨_, rfl⟩) rfl ev_int (ev_bin (ev_name e rfl) (ev_name e rfl) o_sub) (fun _ _ _ h k => h.gr k) (b_max2 o)) (by unfold low; congr 1; omega))) (.inl (loc _ (by simp))) (fun _ h => nomatch h)) ?_
      refine exs_go (ex_assign (d := .int (wid p (1 + i))) e (evx_nl (Ev.as (ev_bin (ev_call2 e (.inl ⟨_, rfl⟩) rfl (ev_name e rfl) (ev_bin (ev_name e rfl) (ev_name e rfl) o_sub) (fun _ _ _ h k => h.gr k) (b_min2 o)) (ev_name e rfl) o_sub) (by unfold wid low; congr 1; omega))) (.inl (loc _ (by simp))) (fun _ h => nomatch h)) ?_
      refine exs_ifr (c := turnOk w' p (1 + i)) (tst_cmp (ev_f2 e (o.less (by omega)) rfl (by simp)
          (Ev.as (ev_slice_listT (ds := (w'.drop (low p (1 + i))).map .int) (ev_ls (ev_item_listT (i := low p (1 + i)) (ev_name e rfl) (ev_name e rfl) (rowsOf_get (by unfold low; omega)) (by unfold low; omega))) .no (.yes (ev_name e rfl)) (by simp [hw]; omega)) (by rw [slice_li]))
          (Ev.as (ev_slice_listT (ds := (w'.drop (low p (1 + i) + (1 + i))).map .int) (ev_ls (ev_item_listT (i := low p (1 + i) + (1 + i)) (ev_name e rfl) (Ev.as (ev_bin (ev_name e rfl) (ev_name e rfl) o_add) (by congr 1)) (rowsOf_get (by unfold low; omega)) (by unfold low; omega))) .no (.yes (ev_name e rfl)) (by simp [hw]; omega)) (by rw [slice_li]))
          (twc (n := 0) (fun A o => o_gtl o) (fun A o => o_ltl o))) ev_int (o_eqi (n := 0) (o.less (by omega)))) (fun hc => ⟨_, hr1 hc, exs_ret (ex_return (ev_name e rfl))⟩) (fun hc => ?_)
      rw [hr2 hc]
      refine exs_nil.weaken ?_
      exact wk_cons rfl (wk_cons rfl (wk_cons rfl wk_refl))
    by_cases hm : (List.range 9).findIdx (fun i => turnOk w' p (1 + i)) = 9
    · refine exs_go (ex_for (n := 9) (m := 9) (osx := fun _ => []) (Gx := fun _ => [("size", .int 10), ("rows", rowsOf w'), ("place", .int p)]) (lo := 1) (hi := 10) o e (loc _ (by simp)) (ev_call2 e (.inr ⟨_, rfl⟩) rfl ev_int (ev_name e rfl) (fun _ _ _ h k => h.gr k) b_range2) (by decide) (by decide) (by decide) (by decide) rfl (Nat.le_refl _) (fun _ _ h => nomatch h) ?_ (.inl ⟨rfl, rfl⟩)) ?_
      · intro i hi
        exact turn i hi _ (fun h => by rw [hfalse i (by omega)] at h; cases h) (fun _ => rfl)
      · refine exs_ret (ex_return (Ev.as (ev_name e rfl) ?_))
        unfold turnOf; rw [hm]; rfl
    · have hlt : (List.range 9).findIdx (fun i => turnOk w' p (1 + i)) < 9 := by omega
      refine exs_ret (ex_for (n := 9) (m := (List.range 9).findIdx (fun i => turnOk w' p (1 + i))) (osx := fun _ => []) (Gx := fun _ => [("size", .int 10), ("rows", rowsOf w'), ("place", .int p)]) (lo := 1) (hi := 10) o e (loc _ (by simp)) (ev_call2 e (.inr ⟨_, rfl⟩) rfl ev_int (ev_name e rfl) (fun _ _ _ h k => h.gr k) b_range2) (by decide) (by decide) (by decide) (by decide) rfl hfi (fun _ _ h => nomatch h) ?_ (.inr ⟨hlt, _, rfl, ?_⟩))
      · intro i hi
        exact turn i (by omega) _ (fun h => by rw [hfalse i hi] at h; cases h) (fun _ => rfl)
      · exact turn _ hlt _ (fun _ => by unfold turnOf; push_cast; rfl) (fun h => by rw [htrue hlt] at h; cases h)
end
end Mine
end

section
open PySem PySem.W PyProof.Rows
set_option linter.all false
set_option maxRecDepth 100000
namespace Mine

theorem wk_keep {G G' : Gam} {x : Str} {v : PyData} (k : ∀ n d, G'.lookup n = some d → G.lookup n = some d) : ∀ n d, ((x, v) :: G').lookup n = some d → ((x, v) :: G).lookup n = some d := fun n d h => by
  rw [List.lookup_cons] at h ⊢
  split at h
  · exact h
  · exact k n d h

theorem ltI_asymm : ∀ {a b : List Int}, ltI a b = true → ltI b a = false
  | _, [], h => by simp [ltI] at h
  | [], _ :: _, _ => rfl
  | a :: as, b :: bs, h => by
    rw [ltI] at h ⊢
    split at h
    · rename_i e
      rw [if_pos e.symm]; exact ltI_asymm h
    · rename_i e
      rw [if_neg (fun q => e q.symm)]
      simp at h ⊢; omega
theorem ltI_total : ∀ {a b : List Int}, ltI a b = false → ltI b a = false → a = b
  | [], [], _, _ => rfl
  | _ :: _, [], _, h => by simp [ltI] at h
  | [], _ :: _, h, _ => by simp [ltI] at h
  | a :: as, b :: bs, h, h' => by
    rw [ltI] at h h'
    split at h
    · rename_i e
      rw [if_pos e.symm] at h'
      rw [e, ltI_total h h']
    · rename_i e
      rw [if_neg (fun q => e q.symm)] at h'
      simp at h h'; omega

/-- where the greatest row so far begins -/
def best (w : List Int) : Nat → Nat
  | 0 => 0
  | i + 1 => if ltI (w.drop (best w i)) (w.drop (i + 1)) = true then i + 1 else best w i
theorem best_le (w : List Int) : ∀ i, best w i ≤ i
  | 0 => Nat.le_refl _
  | i + 1 => by rw [best]; have := best_le w i; split <;> omega

section
variable {prog : Program} {w : World} {A : Around} {env : Env} {G : Gam}

abbrev EvS (prog : Program) (w : World) (A : Around) (env : Env) (G : Gam) (es : List Expr) (ds : List PyData) : Prop := EvL prog w A env G (es.map fun e => (false, eval e env)) ds
theorem evs_nil : EvS prog w A env G [] [] := evl_nil
theorem evs_cons {e : Expr} {es : List Expr} {d : PyData} {ds : List PyData} (a : Ev prog w A env G e d) (b : EvS prog w A env G es ds) : EvS prog w A env G (e :: es) (d :: ds) := evl_cons a b
theorem ev_tupleS {elts : List Expr} {n : Nat} {pos : Pos} {ds : List PyData} (a : EvS prog w A env G elts ds) (ht : backTo pos (starEach elts env) = elts.map (fun e => (false, eval e env)) := by rfl) (hz : ds.length ≤ 1000 := by simp) :
    Ev prog w A env G (.Tuple elts n pos) (.tuple ds) := ev_tuple a ht hz
theorem ev_listS {elts : List Expr} {pos : Pos} {ds : List PyData} (a : EvS prog w A env G elts ds) (ht : backTo pos (starEach elts env) = elts.map (fun e => (false, eval e env)) := by rfl) (hz : ds.length ≤ 1000 := by simp) :
    Ev prog w A env G (.List elts pos) (.list ds) := ev_list a ht hz
theorem Ev.to {e : Expr} {d d' : PyData} (h : d = d') (a : Ev prog w A env G e d) : Ev prog w A env G e d' := h ▸ a

theorem greatest_fn {w' : List Int} (hw : w'.length = 10) : FnC prog w 12 3 [rowsOf w'] (.int (best w' 9)) := by
  refine fnc (ns := ["rows"]) rfl (by decide) ?_ ?_ ?_ rfl rfl rfl ?_
  · intro vs pm code doc h
    match vs, h with
    | [a], _ => rfl
  · decide
  · decide
  · intro A L a cd o e
    have loc : ∀ x ∈ (["rows", "best", "k", "sides"] : List Str), (fe 12 L a cd).kindOf x = some .local := by
      intro x hx
      simp only [List.mem_cons, List.not_mem_nil, or_false] at hx
      rcases hx with rfl | rfl | rfl | rfl <;> rfl
    refine exs_go (ex_assign (d := .int ((best w' 0 : Nat) : Int)) e (evx_nl (Ev.as ev_int rfl)) (.inl (loc _ (by simp))) (fun _ h => nomatch h)) ?_
    refine exs_go (ex_for (n := 9) (m := 9) (osx := fun _ => []) (Gx := fun i => [("best", .int (best w' i : Nat)), ("rows", rowsOf w')]) (lo := 1) (hi := 10) o e (loc _ (by simp))
      (ev_call2 (R1 := fun h v => Rd h v (.int 1)) (R2 := fun h v => Rd h v (.int 10)) e (.inr ⟨_, rfl⟩) rfl ev_int (Ev.as (ev_bin (ev_call1 e (.inl ⟨_, rfl⟩) rfl (ev_name e rfl) (b_len (by simp))) ev_int o_sub) (by simp)) (fun _ _ _ h k => h.gr k) b_range2)
      (by decide) (by decide) (by decide) (by decide) rfl (Nat.le_refl _) (fun _ _ h => nomatch h) ?_ (.inl ⟨rfl, rfl⟩)) ?_
    · intro i hi
      have hb := best_le w' i
      have hne : w'.drop (best w' i) ≠ w'.drop (i + 1) := fun h => by
        have := congrArg List.length h
        simp [hw] at this; omega
      have e1 : (1 : Int) + (i : Int) = ((i + 1 : Nat) : Int) := by push_cast; omega
      refine exs_go (ex_assign (d := .tuple [.int (b2i (ltI (w'.drop (best w' i)) (w'.drop (i + 1))) - b2i (ltI (w'.drop (i + 1)) (w'.drop (best w' i)))), .int (b2i (ltI (w'.drop (i + 1)) (w'.drop (best w' i))) - b2i (ltI (w'.drop (best w' i)) (w'.drop (i + 1))))]) e
        (evx_nl (ev_tupleS (evs_cons (ev_f2 e (o.less (by omega)) rfl (by simp) (ev_item_list (i := i + 1) (ev_name e rfl) (Ev.as (ev_name e rfl) (by rw [e1])) (rowsOf_get (by omega)) (by omega)) (ev_item_list (i := best w' i) (ev_name e rfl) (ev_name e rfl) (rowsOf_get (by omega)) (by omega)) (twc (n := 0) (fun A o => o_gtl o) (fun A o => o_ltl o)))
          (evs_cons (ev_f2 e (o.less (by omega)) rfl (by simp) (ev_item_list (i := best w' i) (ev_name e rfl) (ev_name e rfl) (rowsOf_get (by omega)) (by omega)) (ev_item_list (i := i + 1) (ev_name e rfl) (Ev.as (ev_name e rfl) (by rw [e1])) (rowsOf_get (by omega)) (by omega)) (twc (n := 0) (fun A o => o_gtl o) (fun A o => o_ltl o)))
          evs_nil)))) (.inl (loc _ (by simp))) (fun _ h => nomatch h)) ?_
      refine exs_go (ex_if (b := ltI (w'.drop (best w' i)) (w'.drop (i + 1))) (Tst.as (tst_cmp (ev_name e rfl) (ev_tupleS (evs_cons ev_int (evs_cons (ev_un ev_int o_neg) evs_nil))) (o_eq (n := 0) (o.less (by omega)) rfl rfl (by simp [PyData.depth, PyData.depthAll]))) ?_) (r := .go [] [("best", .int (best w' (i + 1) : Nat)), ("rows", rowsOf w')]) ?_ ?_) (exs_nil.weaken ?_)
      · cases h1 : ltI (w'.drop (best w' i)) (w'.drop (i + 1)) with
        | true => rw [ltI_asymm h1]; rfl
        | false =>
          cases h2 : ltI (w'.drop (i + 1)) (w'.drop (best w' i)) with
          | true => rfl
          | false => exact absurd (ltI_total h1 h2) hne
      · intro h1
        refine exs_go (ex_assign (d := .int (best w' (i + 1) : Nat)) e (evx_nl (Ev.as (ev_name e rfl) (by rw [e1, best, if_pos h1]))) (.inl (loc _ (by simp))) (fun _ h => nomatch h)) (exs_nil.weaken ?_)
        exact wk_keep (wk_cons rfl (wk_cons rfl (wk_cons rfl wk_refl)))
      · intro h1
        have h2 : ltI (w'.drop (i + 1)) (w'.drop (best w' i)) = true := by
          cases h2 : ltI (w'.drop (i + 1)) (w'.drop (best w' i)) with
          | true => rfl
          | false => exact absurd (ltI_total h1 h2) hne
        refine exs_ifr (c := false) (tst_boolop (tst_or (b := false) (Tst.as (tst_cmp (ev_name e rfl) (ev_tupleS (evs_cons (ev_un ev_int o_neg) (evs_cons ev_int evs_nil))) (o_ne (n := 0) (o.less (by omega)) rfl rfl (by simp [PyData.depth, PyData.depthAll]))) (by rw [h1, h2]; rfl))
          (fun _ => tst_or (b := false) (tst_plain (ev_call2 e (.inl ⟨_, rfl⟩) rfl (ev_item_tuple (j := 1) (ev_name e rfl) ev_int rfl rfl) (ev_builtin e rfl rfl) (fun _ _ _ h k => h.gr k) b_isi) tr_bool) (fun _ => tst_or0) rfl) rfl)) (fun h => nomatch h) (fun _ => exs_nil.weaken ?_)
        rw [best, h1]
        simp only [Bool.false_eq_true, if_false]
        exact wk_cons rfl (wk_cons rfl wk_refl)
      · exact wk_refl
    · exact exs_ret (ex_return (ev_name e rfl))
end
end Mine
end

section
open PySem PySem.W PyProof.Rows
set_option linter.all false
set_option maxRecDepth 100000
namespace Mine

/-- the search's machine -/
def mc (text : Array Nat) (start pc pos handed : Nat) (ob : Bool) (frames : List Sre.Frame) (weight : Nat) (answer : Option Bool) (seen : Sre.Seen) : Sre.M :=
  { code := patCode, text, lim := text.size, start, lastStart := text.size, pc, pos, handed, outermost := ob, marks := #[], frames, weight, answer, seen }
def F0 (s : Nat) (ob : Bool) : Sre.Frame := { wait := .nextStart, pc := 9, pos := s, outermost := ob }
def F1 (p c : Nat) (ob : Bool) : Sre.Frame := { wait := .giveBack, pc := 11, pos := p, outermost := ob, count := c, kept := {} }

section
variable {text : Array Nat} {start pos handed : Nat} {ob : Bool} {fs : List Sre.Frame} {wt : Nat} {seen : Sre.Seen}
theorem st_lit_no (h : text.size ≤ pos ∨ text.getD pos 0 ≠ 46) : (mc text start 9 pos handed ob fs wt none seen).step = mc text start 9 pos handed ob fs wt (some false) (seen.add 16) := by
  unfold Sre.M.step Sre.M.exec
  simp only [mc, Sre.M.word, patCode]
  by_cases h1 : text.size ≤ pos
  · simp [Sre.ops, h1, Sre.M.say]
  · have h2 : ¬ text.getD pos 0 = 46 := by rcases h with h | h; exact absurd h h1; exact h
    have h3 : (text[pos]?.getD 0 == 46) = false := by simpa [Array.getD_eq_getD_getElem?] using h2
    simp [Sre.ops, h1, Sre.M.say, Sre.accepts, h3]
theorem st_lit (h : pos < text.size) (h2 : text.getD pos 0 = 46) : (mc text start 9 pos handed ob fs wt none seen).step = mc text start 11 (pos + 1) handed ob fs wt none (seen.add 16) := by
  unfold Sre.M.step Sre.M.exec
  simp only [mc, Sre.M.word, patCode]
  have h1 : ¬ text.size ≤ pos := by omega
  simp only [Array.getD_eq_getD_getElem?] at h2
  simp [Sre.ops, h1, Sre.M.say, Sre.accepts, h2, Sre.itemWidth]
theorem run_digits : ∀ (n p found : Nat) (seen : Sre.Seen), ∃ k seen', Sre.run patCode text 15 n p found seen = .ok (found + k, seen') ∧ k ≤ n ∧ (∀ j, j < k → Sre.isDigit (text.getD (p + j) 0) = true) ∧ (k < n → Sre.isDigit (text.getD (p + k) 0) = false)
  | 0, p, found, seen => ⟨0, seen, rfl, Nat.le_refl _, fun _ h => absurd h (Nat.not_lt_zero _), fun h => absurd h (Nat.lt_irrefl _)⟩
  | n + 1, p, found, seen => by
    have acc : ∀ c seen, ∃ seen', Sre.accepts patCode 15 c seen = .ok (Sre.isDigit c, seen') := by
      intro c seen
      cases h : Sre.isDigit c with
      | true =>
        refine ⟨(seen.add 8).add 55, ?_⟩
        simp [Sre.accepts, patCode, Sre.ops, Sre.inSet, Sre.category, h, Except.map, bind, Except.bind, pure, Except.pure]
      | false =>
        refine ⟨((seen.add 8).add 55).add 0, ?_⟩
        simp [Sre.accepts, patCode, Sre.ops, Sre.inSet, Sre.category, h, Except.map, bind, Except.bind, pure, Except.pure]
    obtain ⟨s1, e1⟩ := acc (text.getD p 0) seen
    unfold Sre.run
    rw [e1]
    cases hd : Sre.isDigit (text.getD p 0) with
    | false =>
      refine ⟨0, s1, ?_, Nat.zero_le _, fun _ h => absurd h (Nat.not_lt_zero _), fun _ => hd⟩
      simp [bind, Except.bind, pure, Except.pure]
    | true =>
      obtain ⟨k, s2, e2, a1, a2, a3⟩ := run_digits n (p + 1) (found + 1) s1
      refine ⟨k + 1, s2, ?_, by omega, fun j hj => ?_, fun h => ?_⟩
      · simp [bind, Except.bind, e2]; omega
      · cases j with
        | zero => exact hd
        | succ j => have := a2 j (by omega); rwa [show p + 1 + j = p + (j + 1) by omega] at this
      · have := a3 (by omega); rwa [show p + 1 + k = p + (k + 1) by omega] at this
theorem st_rep (hz : text.size ≤ 4000000) (hp : pos ≤ text.size) (hw : wt ≤ 100) : ∃ k, pos + k ≤ text.size ∧ (∀ j, j < k → Sre.isDigit (text.getD (pos + j) 0) = true) ∧ (pos + k < text.size → Sre.isDigit (text.getD (pos + k) 0) = false) ∧
    ∃ seen', (mc text start 11 pos handed ob fs wt none seen).step = if k = 0 then mc text start 11 pos handed ob fs wt (some false) seen' else mc text start 21 (pos + k) (pos + k) ob (F1 (pos + k) k ob :: fs) (wt + 1) none seen' := by
  by_cases h0 : text.size ≤ pos
  · have : pos = text.size := by omega
    refine ⟨0, by omega, fun _ h => absurd h (Nat.not_lt_zero _), fun h => by omega, ?_⟩
    unfold Sre.M.step Sre.M.exec
    simp only [mc, Sre.M.word, patCode]
    have h1 : (text.size : Int) - pos < 1 := by omega
    refine ⟨seen.add 24, ?_⟩
    simp [Sre.ops, h1, Sre.M.say]
  · obtain ⟨k, s2, e2, a1, a2, a3⟩ := run_digits (text := text) (min 4294967295 ((text.size : Int) - pos).toNat) pos 0 ((seen.add 24).add 13)
    have hsz : ((text.size : Int) - pos).toNat = text.size - pos := by omega
    rw [hsz] at e2 a1 a3
    have a3' : pos + k < text.size → Sre.isDigit (text.getD (pos + k) 0) = false := fun h => a3 (by omega)
    refine ⟨k, by omega, a2, a3', s2, ?_⟩
    unfold Sre.M.step Sre.M.exec
    simp only [mc, Sre.M.word]
    have h1 : ¬ (text.size : Int) - pos < 1 := by omega
    have hs : patCode.getD (11 + 1) 0 = 9 ∧ patCode.getD (11 + 2) 0 = 1 ∧ patCode.getD (11 + 3) 0 = 4294967295 ∧ patCode.getD (11 + 4) 0 = 13 ∧ patCode.getD (11 + 0) 0 = 24 ∧ patCode.size = 24 := by refine ⟨rfl, rfl, rfl, rfl, rfl, rfl⟩
    obtain ⟨q1, q2, q3, q4, q5, q6⟩ := hs
    have hw' : ¬ (16777216 < wt + 1 + 0) := by omega
    have o24 : Sre.ops[24]? = some .REPEAT_ONE := by rfl
    simp only [q5, q6, hsz, q2, q3, q4, o24]
    simp only [Option.isSome_none, Bool.false_eq_true, if_false, show (11 : Nat) < 24 by decide, if_true, e2, Nat.zero_add]
    by_cases hk : k = 0
    · subst hk
      simp [Sre.M.say, h1]
    · have hk' : ¬ k < 1 := by omega
      simp [hk, hk', Sre.M.afterRun, Sre.M.attempt, Sre.M.frame, Sre.M.keep, Sre.M.word, q1, F1, hw', h1]
theorem st_at : (mc text start 21 pos handed ob fs wt none seen).step =
    if pos = text.size ∨ (pos + 1 = text.size ∧ text.getD pos 0 = 10) then mc text start 23 pos handed ob fs wt none ((seen.add 6).add 48) else mc text start 21 pos handed ob fs wt (some false) ((seen.add 6).add 48) := by
  unfold Sre.M.step Sre.M.exec
  simp only [mc, Sre.M.word, patCode]
  by_cases h : pos = text.size ∨ (pos + 1 = text.size ∧ text.getD pos 0 = 10)
  · rw [if_pos h]
    have h' : (pos == text.size || (pos + 1 == text.size && text[pos]?.getD 0 == 10)) = true := by simpa [Array.getD_eq_getD_getElem?] using h
    simp [Sre.ops, Sre.M.say, Sre.M.isAt, h']
  · rw [if_neg h]
    have h' : (pos == text.size || (pos + 1 == text.size && text[pos]?.getD 0 == 10)) = false := by
      rw [Bool.eq_false_iff]; intro q; exact h (by simpa [Array.getD_eq_getD_getElem?] using q)
    simp [Sre.ops, Sre.M.say, Sre.M.isAt, h']
theorem st_succ : (mc text start 23 pos handed ob fs wt none seen).step = mc text start 23 pos pos ob fs wt (some true) (seen.add 1) := by
  unfold Sre.M.step Sre.M.exec
  simp only [mc, Sre.M.word, patCode]
  simp [Sre.ops, Sre.M.say]
theorem st_back {pc p c : Nat} {ob' : Bool} (hw : wt ≤ 100) (hc : 1 ≤ c) (hp : 1 ≤ p) : (mc text start pc pos handed ob (F1 p c ob' :: fs) (wt + 1) (some false) seen).step =
    if c = 1 then mc text start 11 p handed ob' fs wt (some false) seen else mc text start 21 (p - 1) (p - 1) ob' (F1 (p - 1) (c - 1) ob' :: fs) (wt + 1) none seen := by
  unfold Sre.M.step
  simp only [mc, F1]
  have hw' : ¬ (16777216 < wt + 1) := by omega
  have q2 : patCode.getD (11 + 2) 0 = 1 := rfl
  have q1 : patCode.getD (11 + 1) 0 = 9 := rfl
  by_cases h : c = 1
  · subst h
    simp [Sre.M.resume, Sre.M.putBack, Sre.M.word, q2, Sre.M.say]
  · have h1 : ¬ ((c : Int) - 1 < 1) := by omega
    have h2 : ((c - 1 : Nat) : Int) = (c : Int) - 1 := by omega
    simp [Sre.M.resume, Sre.M.putBack, Sre.M.word, q1, q2, Sre.M.say, h, h1, h2, Sre.M.afterRun, Sre.M.attempt, Sre.M.frame, hw']
theorem st_backT {pc p c : Nat} {ob' : Bool} : (mc text start pc pos handed ob (F1 p c ob' :: fs) (wt + 1) (some true) seen).step = mc text start 11 p handed ob' fs wt (some true) seen := by
  unfold Sre.M.step
  simp [mc, F1, Sre.M.resume, Sre.M.say]
theorem st_nextT {pc p : Nat} {ob' : Bool} : (mc text start pc pos handed ob (F0 p ob' :: fs) (wt + 1) (some true) seen).step = mc text start 9 p handed ob' fs wt (some true) seen := by
  unfold Sre.M.step
  simp [mc, F0, Sre.M.resume, Sre.M.say]
theorem first_no (m : Sre.M) (h : m.code = patCode) : m.hasFirstSet = false := by unfold Sre.M.hasFirstSet; rw [h]; rfl
theorem st_next {pc p : Nat} {ob' : Bool} (hw : wt ≤ 100) : (mc text start pc pos handed ob (F0 p ob' :: fs) (wt + 1) (some false) seen).step =
    if p < text.size then mc text (p + 1) 9 (p + 1) (p + 1) false (F0 (p + 1) false :: fs) (wt + 1) none seen else mc text start 9 p handed ob' fs wt (some false) seen := by
  unfold Sre.M.step
  simp only [mc, F0]
  have hw' : ¬ (16777216 < wt + 1) := by omega
  by_cases h : p < text.size
  · simp only [h, if_true]
    simp [Sre.M.resume, Sre.M.attemptFrom, first_no, h, Sre.M.attemptAt, Sre.M.attempt, hw']
  · simp [Sre.M.resume, h, Sre.M.say]
theorem st_end {pc : Nat} {b : Bool} : (mc text start pc pos handed ob [] wt (some b) seen).step = { mc text start pc pos handed ob [] wt (some b) seen with outcome := some (if b then .matched else .failed) } := by
  unfold Sre.M.step
  simp [mc]
end
end Mine
end

section
open PySem PySem.W PyProof.Rows
set_option linter.all false
set_option maxRecDepth 100000
namespace Mine

/-- k steps, none of them from an end -/
inductive Ts : Nat → Sre.M → Sre.M → Prop
  | nil {m : Sre.M} : Ts 0 m m
  | cons {k : Nat} {m m' m'' : Sre.M} : m.outcome = none → m.step = m' → Ts k m' m'' → Ts (k + 1) m m''
theorem Ts.app {j k : Nat} {a b c : Sre.M} (x : Ts j a b) (y : Ts k b c) : Ts (j + k) a c := by
  induction x with
  | nil => simpa using y
  | cons h e _ ih =>
    have := Ts.cons h e (ih y)
    rwa [Nat.add_right_comm] at this
theorem runFor_done {m : Sre.M} (h : m.outcome.isSome = true) : ∀ n, Sre.M.runFor n m = m
  | 0 => rfl
  | n + 1 => by rw [Sre.M.runFor, if_pos h]
theorem Ts.runs {k : Nat} {m m' : Sre.M} (x : Ts k m m') (h : m'.outcome.isSome = true) : ∀ n, k ≤ n → Sre.M.runFor n m = m' := by
  induction x with
  | nil => exact fun n _ => runFor_done h n
  | cons h0 e _ ih =>
    intro n hn
    cases n with
    | zero => omega
    | succ n => rw [Sre.M.runFor, if_neg (by rw [h0]; simp), e]; exact ih h n (by omega)

section
variable {text : Array Nat} {start pos handed : Nat} {ob : Bool} {fs : List Sre.Frame} {wt : Nat} {seen : Sre.Seen}
def AtEnd (text : Array Nat) (q : Nat) : Prop := q = text.size ∨ (q + 1 = text.size ∧ text.getD q 0 = 10)

theorem go_match {p c : Nat} {ob1 ob2 : Bool} {s : Nat} (h : AtEnd text p) : ∃ m', Ts 5 (mc text start 21 p handed ob [F1 p c ob1, F0 s ob2] 2 none seen) m' ∧ m'.outcome = some .matched ∧ m'.marks = #[] ∧ m'.lastmark = -1 := by
  refine ⟨_, .cons rfl ((st_at).trans (if_pos h)) (.cons rfl st_succ (.cons rfl st_backT (.cons rfl st_nextT (.cons rfl st_end .nil)))), rfl, rfl, rfl⟩

theorem give_back {s : Nat} {ob2 : Bool} : ∀ (c : Nat) (p handed : Nat) (ob ob1 : Bool) (seen : Sre.Seen), 1 ≤ c → p = s + 1 + c → ∃ j, j ≤ 2 * c + 5 ∧
    ((∃ c', 1 ≤ c' ∧ c' ≤ c ∧ AtEnd text (s + 1 + c')) ∧ (∃ m', Ts j (mc text start 21 p handed ob [F1 p c ob1, F0 s ob2] 2 none seen) m' ∧ m'.outcome = some .matched ∧ m'.marks = #[] ∧ m'.lastmark = -1) ∨
     (∀ c', 1 ≤ c' → c' ≤ c → ¬ AtEnd text (s + 1 + c')) ∧ ∃ p' h' ob' seen', Ts j (mc text start 21 p handed ob [F1 p c ob1, F0 s ob2] 2 none seen) (mc text start 11 p' h' ob' [F0 s ob2] 1 (some false) seen'))
  | 0, _, _, _, _, _, h, _ => absurd h (by omega)
  | c + 1, p, handed, ob, ob1, seen, _, hp => by
    by_cases h : AtEnd text p
    · obtain ⟨m', t, q⟩ := go_match (start := start) (handed := handed) (ob := ob) (c := c + 1) (ob1 := ob1) (ob2 := ob2) (s := s) (seen := seen) h
      exact ⟨5, by omega, .inl ⟨⟨c + 1, by omega, Nat.le_refl _, hp ▸ h⟩, m', t, q⟩⟩
    · have s1 : (mc text start 21 p handed ob [F1 p (c + 1) ob1, F0 s ob2] 2 none seen).step = _ := (st_at).trans (if_neg h)
      have s2 := st_back (text := text) (start := start) (pos := p) (handed := handed) (ob := ob) (fs := [F0 s ob2]) (wt := 1) (seen := (seen.add 6).add 48) (pc := 21) (p := p) (c := c + 1) (ob' := ob1) (by omega) (by omega) (by omega)
      cases c with
      | zero =>
        rw [if_pos rfl] at s2
        refine ⟨2, by omega, .inr ⟨fun c' h1 h2 => ?_, _, _, _, _, .cons rfl s1 (.cons rfl s2 .nil)⟩⟩
        have : c' = 1 := by omega
        subst this; rwa [hp] at h
      | succ c =>
        rw [if_neg (by omega)] at s2
        obtain ⟨j, hj, r⟩ := give_back (s := s) (ob2 := ob2) (c + 1) (p - 1) (p - 1) ob1 ob1 ((seen.add 6).add 48) (by omega) (by omega)
        refine ⟨j + 2, by omega, ?_⟩
        rcases r with ⟨⟨c', a1, a2, a3⟩, m', t, q⟩ | ⟨hn, p', h', ob', seen', t⟩
        · exact .inl ⟨⟨c', a1, by omega, a3⟩, m', .cons rfl s1 (.cons rfl s2 t), q⟩
        · refine .inr ⟨fun c' h1 h2 => ?_, p', h', ob', seen', .cons rfl s1 (.cons rfl s2 t)⟩
          by_cases e : c' = c + 1 + 1
          · subst e; rwa [hp] at h
          · exact hn c' h1 (by omega)

/-- one place tried -/
theorem try_at (hz : text.size ≤ 4000000) {s : Nat} {ob0 : Bool} (hs : s ≤ text.size) : ∃ j, j ≤ 2 * text.size + 20 ∧
    ((∃ q, 1 ≤ q ∧ q ≤ text.size ∧ Sre.isDigit (text.getD (q - 1) 0) = true ∧ AtEnd text q) ∧ (∃ m', Ts j (mc text start 9 s handed ob [F0 s ob0] 1 none seen) m' ∧ m'.outcome = some .matched ∧ m'.marks = #[] ∧ m'.lastmark = -1) ∨
     ¬ (s + 3 = text.size ∧ text.getD s 0 = 46 ∧ Sre.isDigit (text.getD (s + 1) 0) = true ∧ Sre.isDigit (text.getD (s + 2) 0) = true) ∧
       ∃ pc' p' h' ob' seen', Ts j (mc text start 9 s handed ob [F0 s ob0] 1 none seen) (mc text start pc' p' h' ob' [F0 s ob0] 1 (some false) seen')) := by
  by_cases h : text.size ≤ s ∨ text.getD s 0 ≠ 46
  · refine ⟨1, by omega, .inr ⟨fun ⟨a, b, _⟩ => ?_, _, _, _, _, _, .cons rfl (st_lit_no h) .nil⟩⟩
    rcases h with h | h
    · omega
    · exact h b
  · have h1 : s < text.size := by omega
    have h2 : text.getD s 0 = 46 := by
      by_cases e : text.getD s 0 = 46
      · exact e
      · exact absurd (.inr e) h
    obtain ⟨k, b1, b2, b3, seen1, e⟩ := st_rep (text := text) (start := start) (pos := s + 1) (handed := handed) (ob := ob) (fs := [F0 s ob0]) (wt := 1) (seen := seen.add 16) hz (by omega) (by omega)
    by_cases hk : k = 0
    · subst hk
      rw [if_pos rfl] at e
      refine ⟨2, by omega, .inr ⟨fun ⟨a, b, c, d⟩ => ?_, _, _, _, _, _, .cons rfl (st_lit h1 h2) (.cons rfl e .nil)⟩⟩
      have := b3 (by omega)
      rw [show s + 1 + 0 = s + 1 by omega, c] at this; cases this
    · rw [if_neg hk] at e
      obtain ⟨j, hj, r⟩ := give_back (text := text) (start := start) (s := s) (ob2 := ob0) k (s + 1 + k) (s + 1 + k) ob ob seen1 (by omega) rfl
      refine ⟨j + 2, by omega, ?_⟩
      rcases r with ⟨⟨c', a1, a2, a3⟩, m', t, q⟩ | ⟨hn, p', h', ob', seen', t⟩
      · refine .inl ⟨⟨s + 1 + c', by omega, by omega, ?_, a3⟩, m', .cons rfl (st_lit h1 h2) (.cons rfl e t), q⟩
        have := b2 (c' - 1) (by omega)
        rwa [show s + 1 + (c' - 1) = s + 1 + c' - 1 by omega] at this
      · refine .inr ⟨fun ⟨a, b, c, d⟩ => ?_, _, _, _, _, _, .cons rfl (st_lit h1 h2) (.cons rfl e t)⟩
        have hk2 : k = 2 := by
          have q1 : k ≤ 2 := by omega
          by_cases e1 : k = 1
          · subst e1
            have := b3 (by omega)
            rw [show s + 1 + 1 = s + 2 by omega, d] at this; cases this
          · omega
        subst hk2
        exact hn 2 (by omega) (Nat.le_refl _) (.inl (by omega))

/-- no place matches -/
theorem search_no (hz : text.size ≤ 1000) (hno : ∀ q, 1 ≤ q → q ≤ text.size → Sre.isDigit (text.getD (q - 1) 0) = true → ¬ AtEnd text q) : ∀ (d s start handed : Nat) (ob ob0 : Bool) (seen : Sre.Seen), s ≤ text.size → text.size - s = d →
    ∃ j m', j ≤ (d + 1) * 3000 ∧ Ts j (mc text start 9 s handed ob [F0 s ob0] 1 none seen) m' ∧ m'.outcome = some .failed := by
  intro d
  induction d with
  | zero =>
    intro s start handed ob ob0 seen hs hd
    obtain ⟨j, hj, r⟩ := try_at (start := start) (handed := handed) (ob := ob) (seen := seen) (ob0 := ob0) (by omega : text.size ≤ 4000000) hs
    rcases r with ⟨⟨q, a, b, c, e⟩, _⟩ | ⟨_, pc', p', h', ob', seen', t⟩
    · exact absurd e (hno q a b c)
    · have e := st_next (text := text) (start := start) (pos := p') (handed := h') (ob := ob') (fs := []) (wt := 0) (seen := seen') (pc := pc') (p := s) (ob' := ob0) (by omega)
      rw [if_neg (by omega)] at e
      exact ⟨j + 2, _, by omega, t.app (.cons rfl e (.cons rfl st_end .nil)), rfl⟩
  | succ d ih =>
    intro s start handed ob ob0 seen hs hd
    obtain ⟨j, hj, r⟩ := try_at (start := start) (handed := handed) (ob := ob) (seen := seen) (ob0 := ob0) (by omega : text.size ≤ 4000000) hs
    rcases r with ⟨⟨q, a, b, c, e⟩, _⟩ | ⟨_, pc', p', h', ob', seen', t⟩
    · exact absurd e (hno q a b c)
    · have e := st_next (text := text) (start := start) (pos := p') (handed := h') (ob := ob') (fs := []) (wt := 0) (seen := seen') (pc := pc') (p := s) (ob' := ob0) (by omega)
      rw [if_pos (by omega)] at e
      obtain ⟨j2, m', hj2, t2, hm⟩ := ih (s + 1) (s + 1) (s + 1) false false seen' (by omega) (by omega)
      exact ⟨j + (j2 + 1), m', by omega, t.app (.cons rfl e t2), hm⟩
/-- the text ends in a dot and two digits -/
theorem search_yes (hz : text.size ≤ 1000) {e : Nat} (he : e + 3 = text.size) (h1 : text.getD e 0 = 46) (h2 : Sre.isDigit (text.getD (e + 1) 0) = true) (h3 : Sre.isDigit (text.getD (e + 2) 0) = true) : ∀ (d s start handed : Nat) (ob ob0 : Bool) (seen : Sre.Seen), s ≤ e → e - s = d →
    ∃ j m', j ≤ (d + 1) * 3000 ∧ Ts j (mc text start 9 s handed ob [F0 s ob0] 1 none seen) m' ∧ m'.outcome = some .matched ∧ m'.marks = #[] ∧ m'.lastmark = -1 := by
  intro d
  induction d with
  | zero =>
    intro s start handed ob ob0 seen hs hd
    obtain ⟨j, hj, r⟩ := try_at (start := start) (handed := handed) (ob := ob) (seen := seen) (ob0 := ob0) (by omega : text.size ≤ 4000000) (by omega : s ≤ text.size)
    have : s = e := by omega
    subst this
    rcases r with ⟨_, m', t, q⟩ | ⟨hn, _⟩
    · exact ⟨j, m', by omega, t, q⟩
    · exact absurd ⟨he, h1, h2, h3⟩ hn
  | succ d ih =>
    intro s start handed ob ob0 seen hs hd
    obtain ⟨j, hj, r⟩ := try_at (start := start) (handed := handed) (ob := ob) (seen := seen) (ob0 := ob0) (by omega : text.size ≤ 4000000) (by omega : s ≤ text.size)
    rcases r with ⟨_, m', t, q⟩ | ⟨hn, pc', p', h', ob', seen', t⟩
    · exact ⟨j, m', by omega, t, q⟩
    · have e := st_next (text := text) (start := start) (pos := p') (handed := h') (ob := ob') (fs := []) (wt := 0) (seen := seen') (pc := pc') (p := s) (ob' := ob0) (by omega)
      rw [if_pos (by omega)] at e
      obtain ⟨j2, m', hj2, t2, hm⟩ := ih (s + 1) (s + 1) (s + 1) false false seen' (by omega) (by omega)
      exact ⟨j + (j2 + 1), m', by omega, t.app (.cons rfl e t2), hm⟩

theorem forSearch_is : Sre.forSearch patCode text 0 0 text.size false = if text.size < 2 then { mc text 0 9 0 0 true [] 0 (some false) (({} : Sre.Seen).add 14) with lastStart := 0 } else mc text 0 9 0 0 true [F0 0 true] 1 none (({} : Sre.Seen).add 14) := by
  have h0 : (Sre.header patCode).1 = 2 := rfl
  by_cases h : text.size < 2
  · rw [if_pos h]
    have : Sre.forSearch patCode text 0 0 text.size false = if (decide (0 > text.size) || decide (text.size - 0 < 2)) = true then { mc text 0 9 0 0 true [] 0 (some false) (({} : Sre.Seen).add 14) with lastStart := 0 } else _ := rfl
    rw [this, if_pos (by simp; omega)]
  · rw [if_neg h]
    have : Sre.forSearch patCode text 0 0 text.size false = if (decide (0 > text.size) || decide (text.size - 0 < 2)) = true then _ else Sre.M.attemptFrom (mc text 0 9 0 0 true [] 0 none (({} : Sre.Seen).add 14)) 0 true := rfl
    rw [this, if_neg (by simp; omega)]
    unfold Sre.M.attemptFrom
    rw [first_no _ (rfl : (mc text 0 9 0 0 true [] 0 none (({} : Sre.Seen).add 14)).code = patCode)]
    simp [Sre.M.attemptAt, Sre.M.attempt, mc, F0]
end
end Mine
end

section
open PySem PySem.W PyProof.Rows
set_option linter.all false
set_option maxRecDepth 100000
namespace Mine

theorem plainAttrs_pat : PlainAttrs "re.Pattern" :=
  ⟨⟨"object.__getattribute__", by rw [typeLookup_type, builtinLookup_eq_fast]; kernel_rfl, by decide +kernel⟩, by rw [typeLookup_type, builtinLookup_eq_fast]; kernel_rfl⟩
theorem slot_search : Slot "re.Pattern" "search" "re.Pattern.search" :=
  .of (owner := "re.Pattern") (n := "search") (by rw [typeLookup_type, builtinLookup_eq_fast]; kernel_rfl) (by decide +kernel) (by decide +kernel) (by decide +kernel)
    (by first | exact .inl (by decide +kernel) | exact .inr (by decide +kernel)) (by rw [isSubtype_type]; kernel_rfl)
theorem type_search : typeOf (.builtin "re.Pattern.search") = pure (.type "method_descriptor") := by show builtinType _ = _; rw [builtinType_eq_fast]; kernel_rfl
theorem entry_search : entryFor table "re.Pattern.search" = some Builtin.«re.Pattern.search» := entryFor_of_tree (by kernel_rfl)
theorem owner_pat : Manifest.owners.lookup (String.ofList "re.Pattern".toList.reverse.reverse) = some Manifest.sig_re_Pattern := by kernel_rfl
theorem args_search (a b : Value) : argsOk "re.Pattern.search" ⟨[a, b], []⟩ := by
  unfold argsOk; rw [signature?_of (id := "re.Pattern.search") (n := "search".toList.reverse) (o := "re.Pattern".toList.reverse) (by kernel_rfl) owner_pat]; kernel_rfl
theorem named_search (v : Value) : Builtin.Re.reNamed "re.Pattern.search" "search" ["string", "pos", "endpos"] 1 [v] [] = pure [some v, none, none] := by
  rfl
theorem noBool_match : typeLookup (.type "re.Match") "__bool__" = pure none := by rw [typeLookup_type, builtinLookup_eq_fast]; kernel_rfl
theorem noLen_match : typeLookup (.type "re.Match") "__len__" = pure none := by rw [typeLookup_type, builtinLookup_eq_fast]; kernel_rfl

theorem Ts.split {m m' : Sre.M} : ∀ {j k : Nat}, Ts (j + k) m m' → ∃ mid, Ts j m mid ∧ Ts k mid m'
  | 0, k, x => ⟨m, .nil, by simpa using x⟩
  | j + 1, k, x => by
    rw [Nat.add_right_comm] at x
    cases x with
    | cons h e t =>
      obtain ⟨mid, a, b⟩ := Ts.split t
      exact ⟨mid, .cons h e a, b⟩
theorem Ts.run {k : Nat} {m m' : Sre.M} (x : Ts k m m') : Sre.M.runFor k m = m' := by
  induction x with
  | nil => rfl
  | cons h e _ ih => rw [Sre.M.runFor, if_neg (by rw [h]; simp), e]; exact ih

section
variable {M : Model} {A : Around} {E : Value → Shared → Prop} {s : Shared}
theorem wp_drive {m' : Sre.M} {Q : Sre.M → Shared → Prop} (hm : m'.outcome.isSome = true) (q : Q m' s) : ∀ (turns k : Nat) (m : Sre.M), Ts k m m' → 1 ≤ turns → k ≤ 4 * turns → wpAny M A (Builtin.Re.reDrive turns m) Q E s
  | 0, _, _, _, h, _ => absurd h (by omega)
  | turns + 1, k, m, t, _, hk => by
    unfold Builtin.Re.reDrive Builtin.Re.reTurnSteps
    by_cases h : k ≤ 4
    · have e : Sre.M.runFor 4 m = m' := t.runs hm 4 h
      rw [e]
      simp only [hm, if_true]
      exact wpAny_pure q
    · obtain ⟨k', rfl⟩ : ∃ k', k = 4 + (k' + 1) := ⟨k - 5, by omega⟩
      obtain ⟨mid, a, b⟩ := t.split
      rw [a.run]
      have hn : mid.outcome = none := by cases b with | cons h _ _ => exact h
      simp only [hn, Option.isSome_none, Bool.false_eq_true, if_false]
      exact wpAny_bind (wpAny_rule (wp_drive hm q turns (k' + 1) mid b (by omega) (by omega)))
theorem wp_runToEnd {m m' : Sre.M} {k : Nat} {Q : Option Sre.M → Shared → Prop} (t : Ts k m m') (hk : k ≤ 2 ^ 60) (ho : m'.outcome = some .matched ∧ Q (some m') s ∨ m'.outcome = some .failed ∧ Q none s) : wpAny M A (Builtin.Re.reRunToEnd m) Q E s := by
  have hs : m'.outcome.isSome = true := by rcases ho with ⟨h, _⟩ | ⟨h, _⟩ <;> rw [h] <;> rfl
  unfold Builtin.Re.reRunToEnd
  refine wpAny_bind (wp_drive hs ?_ (2 ^ 64) k m t (by decide) (by omega))
  refine wpAny_bind (wpAny_forIn_list _ (fun _ _ s' => s' = s) _ ?_ ?_ _ _ rfl)
  · rintro x rest b s' rfl
    split
    · exact wpAny_bind (wpAny_rule (wpAny_pure rfl))
    · exact wpAny_pure rfl
  · rintro b s' rfl
    rcases ho with ⟨h, q⟩ | ⟨h, q⟩
    · rw [h]; exact wpAny_pure q
    · rw [h]; exact wpAny_pure q
end
end Mine
end

section
open PySem PySem.W PyProof.Rows
set_option linter.all false
set_option maxRecDepth 100000
namespace Mine

/-- what a search hands back: nothing, or a match -/
def Found (h : Heap) (v : Value) (b : Bool) : Prop := if b = true then ∃ c o, v = .ref c ∧ h.get? c = some o ∧ o.cls = .type "re.Match" else v = .none

section
variable {prog : Program} {w : World} {A : Around} {env : Env} {G : Gam}
theorem truthy_found {v : Value} {b : Bool} {s : Shared} {E : Value → Shared → Prop} {Q : Bool → Shared → Prop} (f : Found s.heap v b) (q : Q b s) : wpAny (model prog w) A (truthy v) Q E s := by
  unfold Found at f
  cases b with
  | false => simp only [Bool.false_eq_true, if_false] at f; subst f; exact truthy_none q
  | true =>
    simp only [if_true] at f
    obtain ⟨c, o, rfl, ho, hc⟩ := f
    have hT : s.TypeIs (.ref c) "re.Match" := ⟨o, ho, hc⟩
    unfold truthy
    first
      | refine wpAny_bind (wpAny_callSpecial?_none (name := Str.ofString "__bool__") hT noBool_match ?_)
      | refine wpAny_bind (wpAny_pure (wpAny_bind (wpAny_callSpecial?_none (name := Str.ofString "__bool__") hT noBool_match ?_)))
    first
      | refine wpAny_bind (wpAny_specialOf (name := Str.ofString "__len__") hT noLen_match ?_)
      | refine wpAny_bind (wpAny_pure (wpAny_bind (wpAny_specialOf (name := Str.ofString "__len__") hT noLen_match ?_)))
    first
      | exact wpAny_pure q
      | exact wpAny_bind (wpAny_pure q)

theorem reTarget_is {M : Model} {s : Shared} {E : Value → Shared → Prop} {a : Addr} {x : Str} {t : Tok} {Q : Builtin.Re.ReTarget → Shared → Prop} (hp : IsPat s.heap a)
    (q : Q { pattern := .ref a, string := .str x t, code := patCode, text := x.cps, kind := 0, groups := 0, pos := 0, lim := min (2 ^ 63 - 1) x.cps.size } s) :
    wpAny M A (Builtin.Re.reTarget "re.Pattern.search" "search" ⟨[.ref a, .str x t], []⟩) Q E s := by
  obtain ⟨fs, sl, T, o, n, a1, a2, a3, a4, a5, ws, a6, a7⟩ := hp
  unfold Builtin.Re.reTarget
  dsimp only
  rw [named_search]
  refine wpAny_bind (wpAny_pure ?_)
  dsimp only
  refine wpAny_bind (wpAny_pure ?_)
  refine wpAny_bind (wpAny_pure ?_)
  refine wpAny_bind (wpAny_fieldsOf a1 rfl ?_)
  have e1 : Builtin.Re.reTextOf (Value.str x t) = pure (x.cps, 0) := rfl
  refine wpAny_bind (wpAny_of_eq e1 ?_)
  rw [a3]
  have e2 : Builtin.Re.reNoCollectionInside (Value.str x t) 0 = pure () := rfl
  refine wpAny_bind (wpAny_of_eq e2 ?_)
  rw [a4]
  unfold Builtin.Re.reRawItems
  refine wpAny_bind (wpAny_bind (wpAny_seqItems a5 a6 (wpAny_pure ?_)))
  refine wpAny_pure ?_
  dsimp only
  rw [Option.getD_some, a7, a2]
  have e3 : min (Int.toNat 0) x.cps.size = 0 := by simp
  have e4 : ((2 : Int) ^ 63 - 1).toNat = 2 ^ 63 - 1 := by decide
  rw [e3, e4]
  exact q

theorem newMatch_is {M : Model} {s : Shared} {E : Value → Shared → Prop} {p str : Value} {lim : Nat} {m : Sre.M} {Q : Value → Shared → Prop}
    (q : ∀ o tk, o.cls = .type "re.Match" → ∀ h', Gr s.heap h' → h'.get? (s.heap.objs.size + 1) = some o → Q (.ref (s.heap.objs.size + 1)) { s with heap := h', toks := tk }) :
    wpAny M A (Builtin.Re.reNewMatch p str 0 0 lim m) Q E s := by
  unfold Builtin.Re.reNewMatch
  dsimp only
  have hr : List.range 0 = [] := rfl
  rw [hr]
  simp only [List.any_nil, Bool.false_eq_true, if_false, List.flatMap_nil]
  refine wpAny_bind (wpAny_newTuple ?_ (by rw [sizeLine_eq]; simp))
  unfold newFields
  refine wpAny_newObj_type ?_
  dsimp only
  rw [Heap.size_push]
  have hpush := Heap.get?_push_size (s.heap.push { cls := Value.type "tuple", data := Data.seq #[rawInt m.start, rawInt m.handed] }) (o := { cls := Value.type "re.Match", data := Data.fields #[str, p, rawInt ((0 : Nat) : Int), rawInt lim, rawInt m.lastindex, Value.ref s.heap.objs.size] }) rfl
  rw [Heap.size_push] at hpush
  exact q { cls := Value.type "re.Match", data := Data.fields #[str, p, rawInt ((0 : Nat) : Int), rawInt lim, rawInt m.lastindex, Value.ref s.heap.objs.size] } s.toks rfl _ (fun b o e => Heap.get?_push_of_some _ (Heap.get?_push_of_some _ e)) hpush

theorem search_call {a : Addr} {x : Str} {t : Tok} {s : Shared} {E : Value → Shared → Prop} {b : Bool} (hp : IsPat s.heap a) (hz : x.cps.size ≤ 1000)
    (hb : (b = true ∧ ∃ e, e + 3 = x.cps.size ∧ x.cps.getD e 0 = 46 ∧ Sre.isDigit (x.cps.getD (e + 1) 0) = true ∧ Sre.isDigit (x.cps.getD (e + 2) 0) = true) ∨
      (b = false ∧ ∀ q, 1 ≤ q → q ≤ x.cps.size → Sre.isDigit (x.cps.getD (q - 1) 0) = true → ¬ AtEnd x.cps q)) :
    wpAny (model prog w) A (call (.builtin "re.Pattern.search") [.ref a, .str x t]) (fun v s' => Found s'.heap v b ∧ Keeps s s') E s := by
  have hT : s.TypeIs (.ref a) "re.Pattern" := by
    obtain ⟨fs, sl, T, o, n, a1, _⟩ := hp
    exact ⟨_, a1, rfl⟩
  refine call_meets (S := fun A R s' => s' = s ∧ ∀ v s'', Found s''.heap v b → Keeps s s'' → R (.ok (.ret v)) s'') slot_search hT entry_search (args_search _ _) (.of_wp fun prog w A R s' h => ?_) ⟨rfl, fun v s'' h k => ⟨h, k⟩⟩
  obtain ⟨rfl, h⟩ := h
  unfold Builtin.«re.Pattern.search»
  refine wpAny_bind (reTarget_is hp ?_)
  dsimp only
  have hl : min (2 ^ 63 - 1) x.cps.size = x.cps.size := by omega
  rw [hl, forSearch_is]
  unfold Builtin.Re.reAnswer
  have run : ∃ k m', Ts k (if x.cps.size < 2 then { mc x.cps 0 9 0 0 true [] 0 (some false) (({} : Sre.Seen).add 14) with lastStart := 0 } else mc x.cps 0 9 0 0 true [F0 0 true] 1 none (({} : Sre.Seen).add 14)) m' ∧ k ≤ 2 ^ 60 ∧ m'.outcome = some (if b = true then .matched else .failed) := by
    by_cases h2 : x.cps.size < 2
    · rw [if_pos h2]
      have hbf : b = false := by
        rcases hb with ⟨_, e, he, _⟩ | ⟨hb, _⟩
        · omega
        · exact hb
      subst hbf
      exact ⟨1, _, .cons rfl rfl .nil, by decide, rfl⟩
    · rw [if_neg h2]
      rcases hb with ⟨rfl, e, h1, h2, h3, h4⟩ | ⟨rfl, hn⟩
      · obtain ⟨j, m', hj, t, ho, _⟩ := search_yes (text := x.cps) (by omega) h1 h2 h3 h4 e 0 0 0 true true (({} : Sre.Seen).add 14) (by omega) rfl
        exact ⟨j, m', t, by omega, ho⟩
      · obtain ⟨j, m', hj, t, ho⟩ := search_no (text := x.cps) (by omega) hn x.cps.size 0 0 0 true true (({} : Sre.Seen).add 14) (by omega) rfl
        exact ⟨j, m', t, by omega, ho⟩
  obtain ⟨k, m', t, hk, ho⟩ := run
  cases b with
  | true =>
    refine wpAny_bind (wp_runToEnd t hk (.inl ⟨ho, ?_⟩))
    dsimp only
    refine wpAny_bind (newMatch_is fun o tk hc h' k he => ?_)
    exact wpAny_pure ⟨_, rfl, h _ _ ⟨_, o, rfl, he, hc⟩ (kp_mk k)⟩
  | false =>
    refine wpAny_bind (wp_runToEnd t hk (.inr ⟨ho, ?_⟩))
    exact wpAny_pure ⟨_, rfl, h _ _ rfl (kp_refl _)⟩
end
end Mine
end

section
open PySem PySem.W PyProof.Rows
set_option linter.all false
set_option maxRecDepth 100000
namespace Mine

/-- b tells whether the text ends as an address does -/
def Ip (x : Str) (b : Bool) : Prop := x.cps.size ≤ 1000 ∧ ((b = true ∧ ∃ e, e + 3 = x.cps.size ∧ x.cps.getD e 0 = 46 ∧ Sre.isDigit (x.cps.getD (e + 1) 0) = true ∧ Sre.isDigit (x.cps.getD (e + 2) 0) = true) ∨
      (b = false ∧ ∀ q, 1 ≤ q → q ≤ x.cps.size → Sre.isDigit (x.cps.getD (q - 1) 0) = true → ¬ AtEnd x.cps q))

section
variable {prog : Program} {w : World} {A : Around} {env : Env} {G : Gam}
theorem tst_search {o e : Expr} {apos pos : Pos} {x : Str} {b : Bool} (pl : Sem Bool) (a : EvV prog w A env G o (fun h u => ∃ a, u = .ref a ∧ IsPat h a)) (c : Ev prog w A env G e (.str x)) (hx : Ip x b)
    (hs : backTo pos (starEach [e] env) = [(false, eval e env)] := by rfl)
    (he : eval (.Call (.Attribute o "search" apos) [e] [] pos) env = (do
      let ov ← eval o env
      standAt apos.atName
      let (f, first) ← holding [ov] (getMethod ov "search" pl)
      callWith pos f first (backTo pos (starEach [e] env)) []) := by rfl)
    (he2 : isTrue (.Call (.Attribute o "search" apos) [e] [] pos) env (eval (.Call (.Attribute o "search" apos) [e] [] pos) env) = (do let v ← eval (.Call (.Attribute o "search" apos) [e] [] pos) env; standAt (Expr.pos (.Call (.Attribute o "search" apos) [e] [] pos)); holding [v] (truthy v)) := by rfl) :
    Tst prog w A env G (.Call (.Attribute o "search" apos) [e] [] pos) b := fun s E cx => by
  refine isTrue_plain (MethodCall_ (a.use cx fun v s1 h k => ?_) he) he2
  obtain ⟨p, rfl, hp⟩ := h
  have hp' := hp
  obtain ⟨fs, sl, T, ob, n, a1, _⟩ := hp'
  refine getMethod_builtin (T := "re.Pattern") ⟨_, a1, rfl⟩ plainAttrs_pat slot_search type_search (fun c hc => by cases hc; exact ⟨_, a1, rfl⟩) ?_
  dsimp only
  rw [hs]
  refine Calls.callWith_builtin rfl (Calls.evalArgs_plain (Calls.spliced_cons (c.use (cx.gr (kp_gr k)) fun v2 s2 h2 k2 => Calls.spliced_nil ?_)))
  obtain ⟨t, rfl⟩ := h2.str_inv
  refine wpAny_mono (search_call (hp.gr (kp_gr k2)) hx.1 hx.2) (fun v s3 h3 => truthy_found h3.1 ⟨rfl, kp_trans k (kp_trans k2 h3.2)⟩) fun _ _ e => e

theorem liberal_fn {x : Str} {b : Bool} (hx : Ip x b) : FnC prog w 4 1 [.str x] (.bool (!b)) := by
  refine fnc (ns := ["text"]) rfl (by decide) ?_ ?_ ?_ rfl rfl rfl ?_
  · intro vs pm code doc h
    match vs, h with
    | [a], _ => rfl
  · decide
  · decide
  · intro A L a cd o e
    refine exs_ifr (c := b) (tst_search _ (ev_pat e rfl rfl) (ev_name e rfl) hx) (fun h => ⟨_, by rw [h]; rfl, exs_ret (ex_return ev_bool)⟩) (fun h => ?_)
    rw [h]
    exact exs_ret (ex_return ev_bool)

/-- what is_HDN tells of a text that ends as an address does, or not -/
def hdn (b : Bool) (x : Str) : Bool := !b && !(x == ("" : Str)) && !(Txt.item x 0 == ("." : Str)) && !(Txt.item x (-1) == ("." : Str))
theorem str_ok {x : Str} (h : PyData.strOk x = true) : (PyData.str x).canLay0 = true := by simpa [PyData.canLay0] using h
theorem item_ok {x : Str} {i : Int} (h : PyData.strOk x = true) : PyData.strOk (Txt.item x i) = true := by
  unfold PyData.strOk Txt.item
  have : (Txt.charAt x i).getD 0 < 0x110000 := by
    cases e : Txt.charAt x i with
    | none => simp
    | some c =>
      unfold Txt.charAt at e
      obtain ⟨j, _, hj⟩ := Option.bind_eq_some_iff.mp e
      have := Array.all_eq_true_iff_forall_mem.mp h c (Array.mem_of_getElem? hj)
      simpa using this
  simpa using this
theorem hdn_fn {x : Str} {b : Bool} (hx : Ip x b) (ho : PyData.strOk x = true) : FnC prog w 3 2 [.str x] (.bool (hdn b x)) := by
  refine fnc (ns := ["text"]) rfl (by decide) ?_ ?_ ?_ rfl rfl rfl ?_
  · intro vs pm code doc h
    match vs, h with
    | [a], _ => rfl
  · decide
  · decide
  · intro A L a cd o e
    refine exs_ifr (c := b) (tst_search _ (ev_pat e rfl rfl) (ev_name e rfl) hx) (fun h => ⟨_, by rw [h]; rfl, exs_ret (ex_return ev_bool)⟩) (fun h => ?_)
    subst h
    refine exs_ifr (c := x == ("" : Str)) (tst_cmp (ev_name e rfl) ev_str (o_eqs (n := 0) o (str_ok ho) (str_ok (by decide +kernel)))) (fun h => ⟨_, by unfold hdn; rw [h]; rfl, exs_ret (ex_return ev_bool)⟩) (fun h => ?_)
    have hl : 0 < x.length := by
      rcases Nat.eq_zero_or_pos x.length with q | q
      · have : x = ("" : Str) := Str.ext' (Array.eq_empty_of_size_eq_zero q)
        rw [this] at h; cases h
      · exact q
    refine exs_ifr (c := (Txt.item x 0 == ("." : Str)) || (Txt.item x (-1) == ("." : Str))) (tst_boolop (tst_or (tst_cmp (ev_item_str (ev_name e rfl) ev_int (by omega) (by omega)) ev_str (o_eqs (n := 0) o (str_ok (item_ok ho)) (str_ok (by decide +kernel))))
      (fun _ => tst_or (tst_cmp (ev_item_str (ev_name e rfl) (ev_un ev_int o_neg) (by omega) (by omega)) ev_str (o_eqs (n := 0) o (str_ok (item_ok ho)) (str_ok (by decide +kernel)))) (fun _ => tst_or0) rfl) (by simp))) (fun h2 => ⟨_, ?_, exs_ret (ex_return ev_bool)⟩) (fun h2 => ?_)
    · unfold hdn
      rw [h]
      rw [Bool.or_eq_true] at h2
      rcases h2 with h2 | h2 <;> rw [h2] <;> simp
    · rw [Bool.or_eq_false_iff] at h2
      refine exs_ret (ex_return (Ev.as ev_bool ?_))
      unfold hdn
      rw [h, h2.1, h2.2]; rfl
end
end Mine
end

section
open PySem PySem.W PyProof.Rows
set_option linter.all false
set_option maxRecDepth 100000
namespace Mine

/-- what user_domain_match tells -/
def udm (ba bb : Bool) (A B : Str) : Bool :=
  if (!(!ba && !bb)) = true then Txt.lower A == Txt.lower B
  else if (Txt.startswith (Txt.lower B) ("." : Str) && Txt.endswith (Txt.lower A) (Txt.lower B)) = true then true
  else !(Txt.startswith (Txt.lower B) ("." : Str)) && Txt.lower A == Txt.lower B
/-- what reach hands back -/
def reachF (hb : Bool) (x : Str) : Str :=
  if (decide (0 ≤ Txt.find x ("." : Str)) && (hdn hb x && (decide (0 ≤ Txt.find (Txt.slice x (some (Txt.find x ("." : Str) + 1)) none) ("." : Str)) || Txt.slice x (some (Txt.find x ("." : Str) + 1)) none == ("local" : Str)))) = true
  then ("." : Str) ++ Txt.slice x (some (Txt.find x ("." : Str) + 1)) none else x

section
variable {prog : Program} {w : World} {A : Around} {env : Env} {G : Gam}
theorem udm_fn {x y : Str} {ba bb : Bool} (hx : Ip (Txt.lower x) ba) (hy : Ip (Txt.lower y) bb) (ox : PyData.strOk (Txt.lower x) = true) (oy : PyData.strOk (Txt.lower y) = true)
    (tx : Builtin.Str.tooLong (Txt.lower x).length = false) (ty : Builtin.Str.tooLong (Txt.lower y).length = false) : FnC prog w 5 3 [.str x, .str y] (.bool (udm ba bb x y)) := by
  refine fnc (ns := ["A", "B"]) rfl (by decide) ?_ ?_ ?_ rfl rfl rfl ?_
  · intro vs pm code doc h
    match vs, h with
    | [a, b], _ => rfl
  · decide
  · decide
  · intro A L a cd o e
    have loc : ∀ x ∈ (["A", "B", "initial_dot"] : List Str), (fe 5 L a cd).kindOf x = some .local := by
      intro x hx
      simp only [List.mem_cons, List.not_mem_nil, or_false] at hx
      rcases hx with rfl | rfl | rfl <;> rfl
    have n0 : ∀ n : Str, ∀ q ∈ ([] : Owns), q.1 ≠ n := fun _ _ h => nomatch h
    refine exs_go (ex_assign (d := .str (Txt.lower x)) e (evx_nl (ev_meth0 _ (ev_name e rfl) (gm_str fun t s Q E h => GM.lower h) (m_lower tx))) (.inl (loc _ (by simp))) (n0 _)) ?_
    refine exs_go (ex_assign (d := .str (Txt.lower y)) e (evx_nl (ev_meth0 _ (ev_name e rfl) (gm_str fun t s Q E h => GM.lower h) (m_lower ty))) (.inl (loc _ (by simp))) (n0 _)) ?_
    have eqt := o_eqs (prog := prog) (w := w) (n := 0) (A := A) (o.less (by omega)) (str_ok ox) (str_ok oy)
    refine exs_ifr (c := !(!ba && !bb)) (tst_not (b := (!ba && !bb)) (tst_boolop (tst_and (tst_plain (ev_f1 e (o.less (by omega)) rfl (by simp) (ev_name e rfl) (liberal_fn hx)) tr_bool) (fun _ => tst_and (tst_plain (ev_f1 e (o.less (by omega)) rfl (by simp) (ev_name e rfl) (liberal_fn hy)) tr_bool) (fun _ => tst_and0) rfl) (by simp))))
      (fun h => ⟨_, rfl, ?_⟩) (fun h => ?_)
    · refine exs_ifr (c := Txt.lower x == Txt.lower y) (tst_cmp (ev_name e rfl) (ev_name e rfl) eqt) (fun h2 => ⟨_, rfl, exs_ret (ex_return (Ev.as ev_bool ?_))⟩) (fun h2 => exs_ret (ex_return (Ev.as ev_bool ?_)))
      · unfold udm; rw [if_pos h, h2]
      · unfold udm; rw [if_pos h, h2]
    · have h' : ¬ (!(!ba && !bb)) = true := by rw [h]; simp
      refine exs_go (ex_assign (d := .bool (Txt.startswith (Txt.lower y) ("." : Str))) e (evx_nl (ev_meth1 (R2 := fun h v => Rd h v (.str ("." : Str))) _ (ev_name e rfl) ev_str (gm_str fun t s Q E h => GM.startswith h) m_starts)) (.inl (loc _ (by simp))) (n0 _)) ?_
      refine exs_ifr (c := Txt.startswith (Txt.lower y) ("." : Str) && Txt.endswith (Txt.lower x) (Txt.lower y)) (tst_boolop (tst_and (tst_plain (ev_name e rfl) tr_bool) (fun _ => tst_and (tst_plain (ev_meth1 (R2 := fun h v => Rd h v (.str (Txt.lower y))) _ (ev_name e rfl) (ev_name e rfl) (gm_str fun t s Q E h => GM.endswith h) m_ends) tr_bool) (fun _ => tst_and0) rfl) (by simp)))
        (fun h2 => ⟨_, rfl, exs_ret (ex_return (Ev.as ev_bool ?_))⟩) (fun h2 => ?_)
      · unfold udm; rw [if_neg h', if_pos h2]
      · refine exs_ifr (c := !(Txt.startswith (Txt.lower y) ("." : Str)) && Txt.lower x == Txt.lower y) (tst_boolop (tst_and (tst_not (tst_plain (ev_name e rfl) tr_bool)) (fun _ => tst_and (tst_cmp (ev_name e rfl) (ev_name e rfl) eqt) (fun _ => tst_and0) rfl) (by simp)))
          (fun h3 => ⟨_, rfl, exs_ret (ex_return (Ev.as ev_bool ?_))⟩) (fun h3 => exs_ret (ex_return (Ev.as ev_bool ?_)))
        · unfold udm; rw [if_neg h', h2, if_neg (by simp), h3]
        · unfold udm; rw [if_neg h', h2, if_neg (by simp), h3]

theorem reach_fn {x : Str} {b : Bool} (hx : Ip x b) (ho : PyData.strOk x = true) (hs : PyData.strOk (Txt.slice x (some (Txt.find x ("." : Str) + 1)) none) = true) (hz : x.length ≤ 1000) :
    FnC prog w 6 4 [.str x] (.str (reachF b x)) := by
  refine fnc (ns := ["h"]) rfl (by decide) ?_ ?_ ?_ rfl rfl rfl ?_
  · intro vs pm code doc h
    match vs, h with
    | [a], _ => rfl
  · decide
  · decide
  · intro A L a cd o e
    have loc : ∀ x ∈ (["h", "i", "b"] : List Str), (fe 6 L a cd).kindOf x = some .local := by
      intro x hx
      simp only [List.mem_cons, List.not_mem_nil, or_false] at hx
      rcases hx with rfl | rfl | rfl <;> rfl
    have n0 : ∀ n : Str, ∀ q ∈ ([] : Owns), q.1 ≠ n := fun _ _ h => nomatch h
    refine exs_go (ex_assign (d := .int (Txt.find x ("." : Str))) e (evx_nl (ev_meth1 (R2 := fun h v => Rd h v (.str ("." : Str))) _ (ev_name e rfl) ev_str (gm_str fun t s Q E h => GM.find h) m_find)) (.inl (loc _ (by simp))) (n0 _)) ?_
    have hbl : (Txt.slice x (some (Txt.find x ("." : Str) + 1)) none).length ≤ 1000 := Nat.le_trans (Txt.slice_le x _ _) hz
    cases h1 : decide (0 ≤ Txt.find x ("." : Str)) with
    | false =>
      refine exs_go (ex_if_f (r := .go [] _) (tst_cmp (ev_name e rfl) ev_int (h1 ▸ o_ge)) exs_nil) (exs_ret (ex_return (Ev.as (ev_name e rfl) ?_)))
      unfold reachF; rw [h1]; simp
    | true =>
      cases h2 : hdn b x && (decide (0 ≤ Txt.find (Txt.slice x (some (Txt.find x ("." : Str) + 1)) none) ("." : Str)) || Txt.slice x (some (Txt.find x ("." : Str) + 1)) none == ("local" : Str)) with
      | true =>
        refine exs_ret (ex_if_t (tst_cmp (ev_name e rfl) ev_int (h1 ▸ o_ge)) ?_)
        refine exs_go (ex_assign (d := .str (Txt.slice x (some (Txt.find x ("." : Str) + 1)) none)) e (evx_nl (ev_slice_str (ev_name e rfl) (.yes (ev_bin (ev_name e rfl) ev_int o_add)) .no hz)) (.inl (loc _ (by simp))) (n0 _)) ?_
        refine exs_go (ex_assign (d := .int (Txt.find (Txt.slice x (some (Txt.find x ("." : Str) + 1)) none) ("." : Str))) e (evx_nl (ev_meth1 (R2 := fun h v => Rd h v (.str ("." : Str))) _ (ev_name e rfl) ev_str (gm_str fun t s Q E h => GM.find h) m_find)) (.inl (loc _ (by simp))) (n0 _)) ?_
        refine exs_ret (ex_if_t (tst_boolop (tst_and (tst_plain (ev_f1 e (o.less (by omega)) rfl (by simp) (ev_name e rfl) (hdn_fn hx ho)) tr_bool) (fun _ => tst_and (tst_boolop (tst_or (tst_cmp (ev_name e rfl) ev_int o_ge) (fun _ => tst_or (tst_cmp (ev_name e rfl) ev_str (o_eqs (n := 0) (o.less (by omega)) (str_ok hs) (str_ok (by decide +kernel)))) (fun _ => tst_or0) rfl) rfl)) (fun _ => tst_and0) rfl) ?_)) ?_)
        · simp only [Bool.and_true, Bool.or_false]; exact h2.symm
        · refine exs_ret (ex_return (Ev.as (ev_bin ev_str (ev_name e rfl) (o_adds ?_)) ?_))
          · rw [sizeLine_eq, Str.length_append]
            have : (Str.ofString ".").length = 1 := by decide +kernel
            omega
          · unfold reachF; rw [h1, h2]; rfl
      | false =>
        refine exs_go (ex_if_t (r := .go [] [("i", .int (Txt.find (Txt.slice x (some (Txt.find x ("." : Str) + 1)) none) ("." : Str))), ("b", .str (Txt.slice x (some (Txt.find x ("." : Str) + 1)) none)), ("i", .int (Txt.find x ("." : Str))), ("h", .str x)]) (tst_cmp (ev_name e rfl) ev_int (h1 ▸ o_ge)) ?_) (exs_ret (ex_return (Ev.as (ev_name e rfl) ?_)))
        · refine exs_go (ex_assign (d := .str (Txt.slice x (some (Txt.find x ("." : Str) + 1)) none)) e (evx_nl (ev_slice_str (ev_name e rfl) (.yes (ev_bin (ev_name e rfl) ev_int o_add)) .no hz)) (.inl (loc _ (by simp))) (n0 _)) ?_
          refine exs_go (ex_assign (d := .int (Txt.find (Txt.slice x (some (Txt.find x ("." : Str) + 1)) none) ("." : Str))) e (evx_nl (ev_meth1 (R2 := fun h v => Rd h v (.str ("." : Str))) _ (ev_name e rfl) ev_str (gm_str fun t s Q E h => GM.find h) m_find)) (.inl (loc _ (by simp))) (n0 _)) ?_
          refine exs_go (ex_if_f (tst_boolop (tst_and (tst_plain (ev_f1 e (o.less (by omega)) rfl (by simp) (ev_name e rfl) (hdn_fn hx ho)) tr_bool) (fun _ => tst_and (tst_boolop (tst_or (tst_cmp (ev_name e rfl) ev_int o_ge) (fun _ => tst_or (tst_cmp (ev_name e rfl) ev_str (o_eqs (n := 0) (o.less (by omega)) (str_ok hs) (str_ok (by decide +kernel)))) (fun _ => tst_or0) rfl) rfl)) (fun _ => tst_and0) rfl) ?_)) exs_nil) exs_nil
          simp only [Bool.and_true, Bool.or_false]; exact h2.symm
        · unfold reachF; rw [h1, h2]; rfl
end
end Mine
end

section
open PySem PySem.W PyProof.Rows
set_option linter.all false
set_option maxRecDepth 100000
namespace Mine

/-- the frame runs right above the frame of envl -/
structure Und (A : Around) (env envl : Env) (L Ll : Addr) : Prop where
  frames : A.frames = some [env, envl]
  fr : env.frame = some L
  loc : env.locals = L
  kind : env.scope.kind = .function
  frl : envl.frame = some Ll
  kindl : envl.scope.kind = .function

abbrev Sl (Ll : Addr) (s₀ s₀' : Shared) : Prop := ∃ h, s₀' = { s₀ with heap := h } ∧ Heap.SlotsOnly [Ll] s₀.heap h
/-- what the frame below must be -/
structure Low (Ll : Addr) (s₀ : Shared) : Prop where
  there : ∃ o, s₀.heap.get? Ll = some o ∧ (∀ vs, o.data ≠ .fields vs) ∧ ¬ isSeq o
  base : ∀ s₀', Sl Ll s₀ s₀' → Base s₀'.heap

def Raw (kp : Kp) (s₀ : Shared) (e : Addr) (h : Heap) : Prop := ∃ ob vs, h.get? e = some ob ∧ ob.cls = .type "IndexError" ∧ ob.data = .fields vs ∧ vs[1]? = some .none ∧ s₀.heap.get? e = none ∧ kp e = none
def Held (kp : Kp) (s₀ : Shared) (e : Addr) (fl : Value) (h : Heap) : Prop := ∃ ob vs tb otb tvs, h.get? e = some ob ∧ ob.cls = .type "IndexError" ∧ ob.data = .fields vs ∧ vs[1]? = some (.ref tb) ∧ h.get? tb = some otb ∧ otb.data = .fields tvs ∧ tvs[3]? = some fl ∧
  tb ≠ e ∧ s₀.heap.get? e = none ∧ s₀.heap.get? tb = none ∧ kp e = none ∧ kp tb = none

theorem fields_notSeq {o : Obj} {vs : Array Value} (h : o.data = .fields vs) : ¬ isSeq o := by rintro ⟨_, _, q⟩; rw [h] at q; cases q
/-- records of fields change -/
theorem Fs.fields {kp : Kp} {s₀ s : Shared} {env : Env} {os : Owns} {G : Gam} {wr : List Addr} {h' : Heap} {tk : Nat} (x : Fs kp s₀ env os G s) (hw : ∀ b ∈ wr, s₀.heap.get? b = none) (hwk : ∀ b ∈ wr, kp b = none)
    (hl : ∀ b ∈ wr, ∃ o vs, s.heap.get? b = some o ∧ o.data = .fields vs) (k : ∀ b o, b ∉ wr → s.heap.get? b = some o → h'.get? b = some o) : Fs kp s₀ env os G { s with heap := h', toks := tk } := by
  refine x.but hw hwk (fun b hb => let ⟨o, vs, e, d⟩ := hl b hb; ⟨o, e, fields_notSeq d⟩) ?_ ?_ k
  · obtain ⟨_, _, m, cm, al, c, _⟩ := x
    obtain ⟨o, es, ep, ho, hd, _⟩ := c.toInCall.ns
    intro hb
    obtain ⟨o', vs, e, d⟩ := hl _ hb
    rw [ho] at e; cases e
    rw [hd] at d; cases d
  · obtain ⟨_, _, m, cm, al, c, _⟩ := x
    intro n c' q hb
    obtain ⟨o', vs, e, d⟩ := hl _ hb
    obtain ⟨o, ho, hd⟩ := c.cell n c' q
    rw [ho] at e; cases e
    rw [hd] at d; cases d

/-- the slots of this frame and of the one below change -/
theorem Fs.slots {kp : Kp} {s₀ s : Shared} {env : Env} {os : Owns} {G : Gam} {L Ll : Addr} {h' : Heap} (x : Fs kp s₀ env os G s) (hL : env.locals = L) (low : Low Ll s₀) (hk : kp Ll = none) (hs : Heap.SlotsOnly [L, Ll] s.heap h') :
    ∃ s₀', Sl Ll s₀ s₀' ∧ Fs kp s₀' env os G { s with heap := h' } := by
  obtain ⟨ol, hol, hnf, hns⟩ := low.there
  obtain ⟨b, nn, m, cm, al, c, nd, kx, e, f⟩ := x
  have hsl : s.heap.get? Ll = some ol := c.toInCall.keep _ _ hol
  obtain ⟨sl, esl⟩ := hs.2.2 _ _ hsl
  have hu := Heap.SlotsOnly.update hol (fun _ => sl)
  refine ⟨{ s₀ with heap := s₀.heap.update Ll fun o => { o with slots := sl } }, ⟨_, rfl, hu⟩, low.base _ ⟨_, rfl, hu⟩, nn, m, cm, al, ?_, nd, ?_, ?_, ?_⟩
  · obtain ⟨⟨⟨h1, tk1, hss⟩, b1, c1, d1⟩, e1, f1, i1⟩ := c
    refine ⟨⟨⟨h', tk1, by rw [hss]⟩, ?_, ?_, by show (s₀.heap.update _ _).objs.size ≤ _; rw [hu.1]; exact d1⟩, fun n' c' q' => ?_, f1, i1⟩
    · obtain ⟨o, es, ep, ho, hd, hr⟩ := b1
      obtain ⟨sl2, e2⟩ := hs.2.2 _ _ ho
      exact ⟨_, es, ep, e2, hd, hr⟩
    · intro b' o' eb
      by_cases hb : b' = Ll
      · subst hb
        have e2 : (s₀.heap.update b' fun o => { o with slots := sl }).get? b' = some { ol with slots := sl } := by
          obtain ⟨sl2, e2⟩ := hu.2.2 _ _ hol
          have hfree : ({ ol with slots := sl } : Obj).isFreed = false := by
            have hx := (Heap.get?_some_iff.mp hol).2
            obtain ⟨c, d, dt, s0⟩ := ol
            cases dt <;> first | rfl | (simp [Obj.isFreed] at hx)
          exact Heap.get?_update_self _ hol hfree
        rw [e2] at eb; cases eb
        exact esl
      · have e2 : s₀.heap.get? b' = some o' := by rw [← hu.2.1 b' (by simpa using hb)]; exact eb
        have hbL : b' ≠ L := by
          have := Nat.lt_of_lt_of_le (Heap.lt_size e2) d1
          rw [hL] at this
          exact Nat.ne_of_lt this
        rw [hs.2.1 b' (by simp [hb, hbL])]
        exact c1 b' o' e2
    · obtain ⟨o, ho, hd⟩ := e1 n' c' q'
      obtain ⟨sl2, e2⟩ := hs.2.2 _ _ ho
      exact ⟨_, e2, hd⟩
  · intro z o ez
    obtain ⟨p, q1, q2, q3⟩ := kx z o ez
    refine ⟨?_, q1, q2, q3⟩
    show h'.get? z = some o
    rw [hs.2.1 z ?_]; exact p
    intro hz
    simp only [List.mem_cons, List.not_mem_nil, or_false] at hz
    rcases hz with rfl | rfl
    · exact q1 hL.symm
    · rw [hk] at ez; cases ez
  · intro y d hy
    obtain ⟨u, lu, ru⟩ := e y d hy
    refine ⟨u, lu, ru.but fun b' o sq _ eb => ?_⟩
    show h'.get? b' = some o
    rw [hs.2.1 b' ?_]; exact eb
    intro hz
    simp only [List.mem_cons, List.not_mem_nil, or_false] at hz
    rcases hz with rfl | rfl
    · exact ns_notSeq c.toInCall.ns eb sq hL.symm
    · rw [hsl] at eb; cases eb; exact hns sq
  · intro o ho
    obtain ⟨lo, f0, vs, ⟨q, p⟩, ra⟩ := f o ho
    have keep : ∀ b' o', isSeq o' → s.heap.get? b' = some o' → h'.get? b' = some o' := by
      intro b' o' sq eb
      rw [hs.2.1 b' ?_]; exact eb
      intro hz
      simp only [List.mem_cons, List.not_mem_nil, or_false] at hz
      rcases hz with rfl | rfl
      · exact ns_notSeq c.toInCall.ns eb sq hL.symm
      · rw [hsl] at eb; cases eb; exact hns sq
    refine ⟨lo, ?_, vs, ⟨q, keep _ _ ⟨_, _, rfl⟩ p⟩, ra.but fun b' o sq _ eb => keep b' o sq eb⟩
    show (s₀.heap.update _ _).get? _ = none
    rw [hu.2.1 _ ?_]; exact f0
    intro hz
    simp only [List.mem_cons, List.not_mem_nil, or_false] at hz
    rw [hz, hol] at f0; cases f0

theorem Sl.refl {Ll : Addr} {s : Shared} : Sl Ll s s := ⟨s.heap, rfl, .refl ..⟩
theorem Sl.non {Ll : Addr} {s₀ s₀' : Shared} (x : Sl Ll s₀ s₀') (low : Low Ll s₀) {b : Addr} (h : s₀.heap.get? b = none) : s₀'.heap.get? b = none := by
  obtain ⟨h', rfl, q⟩ := x
  obtain ⟨ol, hol, _⟩ := low.there
  show h'.get? b = none
  rw [q.2.1 b ?_]; exact h
  intro hb
  simp only [List.mem_cons, List.not_mem_nil, or_false] at hb
  rw [hb, hol] at h; cases h

section
variable {prog : Program} {w : World} {A : Around} {env envl : Env} {os : Owns} {G : Gam} {L Ll : Addr} {kp : Kp} {s₀ s : Shared} {e : Addr}

theorem note_raw {Q : Unit → Shared → Prop} {E : Value → Shared → Prop} (u : Und A env envl L Ll) (x : Fs kp s₀ env os G s) (low : Low Ll s₀) (hk : kp Ll = none) (r : Raw kp s₀ e s.heap)
    (q : ∀ s₀' s', Sl Ll s₀ s₀' → Fs kp s₀' env os G s' → Held kp s₀' e (rawInt L) s'.heap → Q () s') : wpAny (model prog w) A (noteFrame (.ref e) env) Q E s := by
  obtain ⟨ob, vs, he, hc, hd, h1, h0, hke⟩ := r
  have hsz : 1 < vs.size := (Array.getElem?_eq_some_iff.mp h1).1
  obtain ⟨ol, hol, hnf, hns⟩ := low.there
  have hL : s.heap.FunFrames { objs := #[] } [env, envl] := by
    obtain ⟨_, _, m, cm, al, c, _⟩ := x
    obtain ⟨o, es, ep, ho, hdd, _⟩ := c.toInCall.ns
    rw [u.loc] at ho
    refine ⟨by rw [u.kind]; decide, ⟨L, o, u.fr, rfl, ho, fun vs q => by rw [hdd] at q; cases q⟩, by rw [u.kindl]; decide, ⟨Ll, ol, u.frl, rfl, c.toInCall.keep _ _ hol, hnf⟩, trivial⟩
  unfold noteFrame
  simp only [u.fr]
  refine wpAny_bind (wpAny_field he hd h1 ?_)
  rw [if_neg (by decide)]
  refine wpAny_bind (wpAny_frameOf_fun u.frames hL u.fr fun h₁ hs₁ => ?_)
  have hfm : ([env, envl].filterMap (·.frame)) = [L, Ll] := by simp [u.fr, u.frl]
  rw [hfm] at hs₁
  obtain ⟨s₀', hsl, x₁⟩ := x.slots u.loc low hk hs₁
  refine wpAny_bind (wpAny_entryPlaceOf fun pl hpl => ?_)
  unfold EntryCells.newEntry newFields
  refine wpAny_bind (wpAny_newObj_type ?_ (hpl.sizeOk5 _ _ _ _ _))
  have heL : e ∉ [L, Ll] := by
    intro hz
    simp only [List.mem_cons, List.not_mem_nil, or_false] at hz
    rcases hz with rfl | rfl
    · obtain ⟨_, _, m, cm, al, c, _⟩ := x
      obtain ⟨o, es, ep, ho, hdd, _⟩ := c.toInCall.ns
      rw [u.loc, he] at ho; cases ho
      rw [hd] at hdd; cases hdd
    · rw [hol] at h0; cases h0
  have he₁ : h₁.get? e = some ob := (hs₁.2.1 e heL).trans he
  have he₂ := Heap.get?_push_of_some (h := h₁) { cls := .type "traceback", dict := none, data := .fields ([Value.none, .ref L, .none, rawInt L, .none] ++ (if pl.isEmpty then List.replicate 6 Value.none else pl)).toArray } he₁
  refine wpAny_setField he₂ hd hsz ?_
  have hTe : h₁.objs.size ≠ e := Nat.ne_of_gt (Heap.lt_size he₁)
  have hd₃ := Obj.data_mapFields hd (·.setIfInBounds 1 (Value.ref h₁.objs.size))
  have h0' : s₀'.heap.get? e = none := hsl.non low h0
  have hT0 : s₀'.heap.get? h₁.objs.size = none := by
    cases hq : s₀'.heap.get? h₁.objs.size with
    | none => rfl
    | some o => exact absurd (Heap.lt_size (kp_gr x₁.done _ _ hq)) (Nat.lt_irrefl _)
  have hTk : kp h₁.objs.size = none := by
    cases hq : kp h₁.objs.size with
    | none => rfl
    | some o =>
      obtain ⟨_, _, m, cm, al, c, nd, kx, _⟩ := x₁
      exact absurd (Heap.lt_size (kx _ _ hq).1) (Nat.lt_irrefl _)
  have hT := (Heap.get?_update_other (h₁.push { cls := .type "traceback", dict := none, data := .fields ([Value.none, .ref L, .none, rawInt L, .none] ++ (if pl.isEmpty then List.replicate 6 Value.none else pl)).toArray }) (Obj.mapFields (·.setIfInBounds 1 (Value.ref h₁.objs.size))) (Ne.symm hTe)).trans (Heap.get?_push_size h₁ rfl)
  refine q s₀' _ hsl (x₁.fields (wr := [e]) (h' := _) (tk := s.toks) (fun b hb => ?_) (fun b hb => ?_) (fun b hb => ?_) (fun b o hb eb => ?_)) ⟨_, _, h₁.objs.size, _, ([Value.none, .ref L, .none, rawInt L, .none] ++ (if pl.isEmpty then List.replicate 6 Value.none else pl)).toArray, Heap.get?_update_self _ he₂ (Obj.isFreed_of_fields hd₃), (Obj.cls_mapFields _ _).trans hc, hd₃, by simp [hsz], hT, rfl, by simp, hTe, h0', hT0, hke, hTk⟩
  · rw [List.mem_singleton.mp hb]; exact h0'
  · rw [List.mem_singleton.mp hb]; exact hke
  · rw [List.mem_singleton.mp hb]; exact ⟨ob, vs, he₁, hd⟩
  · have hbe : b ≠ e := fun q => hb (by simp [q])
    rw [Heap.get?_update_other _ _ (Ne.symm hbe)]
    exact Heap.get?_push_of_some _ eb
theorem note_held {Q : Unit → Shared → Prop} {E : Value → Shared → Prop} (hf : env.frame = some L) (h : Held kp s₀ e (rawInt L) s.heap) (q : Q () s) : wpAny (model prog w) A (noteFrame (.ref e) env) Q E s := by
  obtain ⟨ob, vs, tb, otb, tvs, a1, a2, a3, a4, a5, a6, a7, _⟩ := h
  exact wpAny_noteFrame_inFlight hf a1 a3 a4 a5 a6 a7 q
theorem set_flight {fl : Value} {fo : Option Addr} {Q : Unit → Shared → Prop} {E : Value → Shared → Prop} (x : Fs kp s₀ env os G s) (h : Held kp s₀ e fl s.heap)
    (q : ∀ s', Fs kp s₀ env os G s' → Held kp s₀ e (fo.elim .none fun f => rawInt f) s'.heap → Q () s') : wpAny (model prog w) A (setFlight (.ref e) fo) Q E s := by
  obtain ⟨ob, vs, tb, otb, tvs, a1, a2, a3, a4, a5, a6, a7, a8, a9, a10, a11, a12⟩ := h
  have hsz : 3 < tvs.size := (Array.getElem?_eq_some_iff.mp a7).1
  unfold setFlight
  refine wpAny_bind (wpAny_field a1 a3 a4 ?_)
  rw [if_pos (show (Value.ref tb != Value.none) = true from by simp)]
  refine wpAny_setField a5 a6 hsz ?_
  refine q _ (x.fields (wr := [tb]) (tk := s.toks) (fun b hb => ?_) (fun b hb => ?_) (fun b hb => ?_) (fun b o hb eb => ?_)) ⟨ob, vs, tb, _, _, ?_, a2, a3, a4, Heap.get?_update_self _ a5 (Obj.isFreed_of_fields (Obj.data_mapFields a6 _)), Obj.data_mapFields a6 _, by simp [hsz], a8, a9, a10, a11, a12⟩
  · rw [List.mem_singleton.mp hb]; exact a10
  · rw [List.mem_singleton.mp hb]; exact a12
  · rw [List.mem_singleton.mp hb]; exact ⟨_, _, a5, a6⟩
  · have hbe : b ≠ tb := fun q => hb (by simp [q])
    rw [Heap.get?_update_other _ _ (Ne.symm hbe)]; exact eb
  · rw [Heap.get?_update_other _ _ a8]; exact a1
theorem came_back {E : Value → Shared → Prop} {fl : Value} (hf : env.frame = some L) (x : Fs kp s₀ env os G s) (h : Held kp s₀ e fl s.heap) (q : ∀ s', Fs kp s₀ env os G s' → Held kp s₀ e (rawInt L) s'.heap → E (.ref e) s') :
    cameBackBy (model prog w) A env E (.ref e) s := by
  have h' := h
  obtain ⟨ob, vs, tb, otb, tvs, a1, a2, a3, a4, _⟩ := h
  unfold cameBackBy
  refine wpAny_bind (wpAny_field a1 a3 a4 ?_)
  rw [if_neg (by simp)]
  rw [hf]
  exact set_flight (fo := some L) x h' fun s' x' h'' => q s' x' h''
theorem pass_on {E : Value → Shared → Prop} {fl : Value} {α : Type} {Q : α → Shared → Prop} (hf : env.frame = some L) (x : Fs kp s₀ env os G s) (h : Held kp s₀ e fl s.heap) (q : ∀ s', Fs kp s₀ env os G s' → Held kp s₀ e (rawInt L) s'.heap → E (.ref e) s') :
    wpAny (model prog w) A (PySem.passOn "try.finally" (.ref e) env) Q E s := by
  have h' := h
  obtain ⟨ob, vs, tb, otb, tvs, a1, a2, a3, a4, _⟩ := h
  unfold PySem.passOn
  refine wpAny_bind (wpAny_field a1 a3 a4 ?_)
  rw [if_neg (by simp)]
  rw [hf]
  exact wpAny_bind (set_flight (fo := some L) x h' fun s' x' h'' => wpAny_throw (q s' x' h''))
end
end Mine
end

section
open PySem PySem.W PyProof.Rows
set_option linter.all false
set_option maxRecDepth 100000
namespace Mine

/-- an IndexError under way, of this frame -/
def Xst (kp : Kp) (s₀ : Shared) (env : Env) (os : Owns) (G : Gam) (L Ll : Addr) (e : Addr) (s : Shared) : Prop :=
  (Fs kp s₀ env os G s ∧ Raw kp s₀ e s.heap) ∨ ∃ s₀', Sl Ll s₀ s₀' ∧ Fs kp s₀' env os G s ∧ Held kp s₀' e (rawInt L) s.heap

theorem Sl.tr {Ll : Addr} {a b c : Shared} (x : Sl Ll a b) (y : Sl Ll b c) : Sl Ll a c := by
  obtain ⟨h, rfl, p⟩ := x
  obtain ⟨h', rfl, q⟩ := y
  exact ⟨h', rfl, p.trans q⟩
theorem Low.sl {Ll : Addr} {s₀ s₀' : Shared} (l : Low Ll s₀) (x : Sl Ll s₀ s₀') : Low Ll s₀' := by
  refine ⟨?_, fun s1 y => l.base s1 (x.tr y)⟩
  obtain ⟨o, ho, a, b⟩ := l.there
  obtain ⟨h, rfl, p⟩ := x
  obtain ⟨sl, e⟩ := p.2.2 _ _ ho
  exact ⟨_, e, a, b⟩

section
variable {prog : Program} {w : World} {A : Around} {env envl : Env} {os : Owns} {G : Gam} {L Ll : Addr}

/-- an expression, or a test, that raises IndexError -/
abbrev EvR (prog : Program) (w : World) (A : Around) (env : Env) (G : Gam) (e : Expr) : Prop :=
  ∀ (s : Shared) (Q : Value → Shared → Prop) (E : Value → Shared → Prop), Cx env G s.heap → (∀ s1 h' tk e', Keeps s s1 → Heap.NewExc s1.heap h' e' "IndexError" → E (.ref e') { s1 with heap := h', toks := tk }) → wpAny (model prog w) A (eval e env) Q E s
abbrev TsR (prog : Program) (w : World) (A : Around) (env : Env) (G : Gam) (e : Expr) : Prop :=
  ∀ (s : Shared) (Q : Bool → Shared → Prop) (E : Value → Shared → Prop), Cx env G s.heap → (∀ s1 h' tk e', Keeps s s1 → Heap.NewExc s1.heap h' e' "IndexError" → E (.ref e') { s1 with heap := h', toks := tk }) → wpAny (model prog w) A (isTrue e env (eval e env)) Q E s

def ExX (prog : Program) (w : World) (A : Around) (env : Env) (L Ll : Addr) (st : Stmt) (os : Owns) (G : Gam) (os' : Owns) (G' : Gam) : Prop :=
  ∀ (kp : Kp) (s₀ s : Shared) (Q : Flow → Shared → Prop) (E : Value → Shared → Prop), kp Ll = none → Low Ll s₀ → Fs kp s₀ env os G s → (∀ e s', Xst kp s₀ env os' G' L Ll e s' → E (.ref e) s') → wpAny (model prog w) A (exec st env) Q E s
def ExsX (prog : Program) (w : World) (A : Around) (env : Env) (L Ll : Addr) (ss : List Stmt) (os : Owns) (G : Gam) (os' : Owns) (G' : Gam) : Prop :=
  ∀ (kp : Kp) (s₀ s : Shared) (Q : Flow → Shared → Prop) (E : Value → Shared → Prop), kp Ll = none → Low Ll s₀ → Fs kp s₀ env os G s → (∀ e s', Xst kp s₀ env os' G' L Ll e s' → E (.ref e) s') → wpAny (model prog w) A (execs ss env) Q E s
/-- as Ex; the frame below may have been made ready -/
def ExL (prog : Program) (w : World) (A : Around) (env : Env) (Ll : Addr) (st : Stmt) (os : Owns) (G : Gam) (r : Res) : Prop :=
  ∀ (kp : Kp) (s₀ s : Shared) (Q : Flow → Shared → Prop) (E : Value → Shared → Prop), kp Ll = none → Low Ll s₀ → Fs kp s₀ env os G s → (∀ s₀', Sl Ll s₀ s₀' → Post kp s₀' env r Q) → wpAny (model prog w) A (exec st env) Q E s
def ExsL (prog : Program) (w : World) (A : Around) (env : Env) (Ll : Addr) (ss : List Stmt) (os : Owns) (G : Gam) (r : Res) : Prop :=
  ∀ (kp : Kp) (s₀ s : Shared) (Q : Flow → Shared → Prop) (E : Value → Shared → Prop), kp Ll = none → Low Ll s₀ → Fs kp s₀ env os G s → (∀ s₀', Sl Ll s₀ s₀' → Post kp s₀' env r Q) → wpAny (model prog w) A (execs ss env) Q E s
theorem Ex.l {st : Stmt} {r : Res} (a : Ex prog w A env st os G r) : ExL prog w A env Ll st os G r := fun kp s₀ s Q E _ _ x q => a kp s₀ s Q E x (q s₀ .refl)
theorem Exs.l {ss : List Stmt} {r : Res} (a : Exs prog w A env ss os G r) : ExsL prog w A env Ll ss os G r := fun kp s₀ s Q E _ _ x q => a kp s₀ s Q E x (q s₀ .refl)
theorem exsl_go {st : Stmt} {rest : List Stmt} {os' : Owns} {G' : Gam} {r : Res} (a : ExL prog w A env Ll st os G (.go os' G')) (b : ExsL prog w A env Ll rest os' G' r) : ExsL prog w A env Ll (st :: rest) os G r := fun kp s₀ s Q E hk lo x q =>
  wpAny_execs_cons (a kp s₀ s _ E hk lo x fun s₀' sl s' x' => b kp s₀' s' Q E hk (lo.sl sl) x' fun s1 sl1 => q s1 (sl.tr sl1))
theorem exsl_brk {st : Stmt} {rest : List Stmt} {os' : Owns} {G' : Gam} (a : ExL prog w A env Ll st os G (.brk os' G')) : ExsL prog w A env Ll (st :: rest) os G (.brk os' G') := fun kp s₀ s Q E hk lo x q =>
  wpAny_execs_cons (a kp s₀ s _ E hk lo x fun s₀' sl s' x' => q s₀' sl s' x')
theorem exsx_go {st : Stmt} {rest : List Stmt} {os' os'' : Owns} {G' G'' : Gam} (a : Ex prog w A env st os G (.go os' G')) (b : ExsX prog w A env L Ll rest os' G' os'' G'') : ExsX prog w A env L Ll (st :: rest) os G os'' G'' := fun kp s₀ s Q E hk lo x q =>
  wpAny_execs_cons (a kp s₀ s _ E x fun s' x' => b kp s₀ s' Q E hk lo x' q)
theorem exsx_x {st : Stmt} {rest : List Stmt} {os' : Owns} {G' : Gam} (a : ExX prog w A env L Ll st os G os' G') : ExsX prog w A env L Ll (st :: rest) os G os' G' := fun kp s₀ s Q E hk lo x q =>
  wpAny_execs_cons (a kp s₀ s _ E hk lo x q)

theorem Fs.raised {kp : Kp} {s₀ s s1 : Shared} {e : Addr} {h' : Heap} {tk : Nat} (x : Fs kp s₀ env os G s) (k : Keeps s s1) (n : Heap.NewExc s1.heap h' e "IndexError") : Fs kp s₀ env os G { s1 with heap := h', toks := tk } ∧ Raw kp s₀ e h' := by
  have x1 := x.keep k
  refine ⟨x1.keep (kp_mk n.keeps), ?_⟩
  obtain ⟨ob, t, a, b, c⟩ := n.there
  refine ⟨ob, _, a, b, c, rfl, ?_, ?_⟩
  · cases q : s₀.heap.get? e with
    | none => rfl
    | some o => have := kp_gr x1.done _ _ q; rw [n.new] at this; cases this
  · cases q : kp e with
    | none => rfl
    | some o =>
      obtain ⟨_, _, m, cm, al, c, nd, kx, _⟩ := x1
      have := (kx _ _ q).1
      rw [n.new] at this; cases this

theorem evr_item {value slice : Expr} {pos : Pos} {ds : List PyData} {i : Nat} {n : Nat} (o : Ok n A) (a : Ev prog w A env G value (.list ds)) (b : Ev prog w A env G slice (.int i)) (hd : ds.length ≤ i) (hz : i < 2 ^ 62)
    (hs : ∀ o k, subscripted slice false o k = operate [o, k] (getItem o k) := by intro _ _; rfl) : EvR prog w A env G (.Subscript value slice pos) := fun s Q E c q => by
  refine Subscript_ (a.use c fun v1 s1 h1 k1 => b.use (c.gr (kp_gr k1)) fun v2 s2 h2 k2 => ?_)
  obtain ⟨l, vs, rfl, p, ra⟩ := (h1.gr (kp_gr k2)).list_inv
  obtain ⟨u, rfl⟩ := h2.int_inv
  have hl := ra.len
  exact kba_turn (value' := .Name "a" pos) (fun _ => rfl) (subscriptTail_ops p.isList.typeIs list_getitem_lookup (wpAny_getItem_list_out o.handled p.isList (.inr (by simp; omega)) (by omega) (by omega) fun h' tk e ne => q s2 h' tk e (kp_trans k1 k2) ne) (hs _ _) (fun _ => rfl))
theorem tsr_cmp {l r : Expr} {op : CmpOp} {pos : Pos} (a : EvR prog w A env G l) (hm : behindInMarks op r = false := by rfl) : TsR prog w A env G (.Compare l [op] [r] pos) := fun s Q E c q =>
  wpAny_isTrue_Compare1 (a s _ E c q) hm
theorem exx_assign {n : Str} {p pos : Pos} {e : Expr} (a : EvR prog w A env (ownG os ++ G) e) (hs : swapsWith e (some (.Name n p)) pos.line env = pure false := by rfl) : ExX prog w A env L Ll (.Assign [.Name n p] e pos) os G os G := fun kp s₀ s Q E hk lo x q =>
  wpAny_Assign_Name (a s _ E x.cx fun s1 h' tk e' k ne => q e' _ (.inl (x.raised k ne))) hs
theorem exx_if_t {test : Expr} {body orelse : List Stmt} {pos : Pos} {os' : Owns} {G' : Gam} (t : Tst prog w A env (ownG os ++ G) test true) (a : ExsX prog w A env L Ll body os G os' G') : ExX prog w A env L Ll (.If test body orelse pos) os G os' G' := fun kp s₀ s Q E hk lo x q =>
  wpAny_If (t.use x.cx fun b s' h k => by subst h; exact a kp s₀ s' Q E hk lo (x.keep k) q)
theorem exx_if_f {test : Expr} {body orelse : List Stmt} {pos : Pos} {os' : Owns} {G' : Gam} (t : Tst prog w A env (ownG os ++ G) test false) (a : ExsX prog w A env L Ll orelse os G os' G') : ExX prog w A env L Ll (.If test body orelse pos) os G os' G' := fun kp s₀ s Q E hk lo x q =>
  wpAny_If (t.use x.cx fun b s' h k => by subst h; exact a kp s₀ s' Q E hk lo (x.keep k) q)

/-- loops -/
theorem ex_while {test : Expr} {body : List Stmt} {pos : Pos} {n : Nat} {osx : Nat → Owns} {Gx : Nat → Gam} (t : ∀ i, i < n → Tst prog w A env (ownG (osx i) ++ Gx i) test true) (b : ∀ i, i < n → Exs prog w A env body (osx i) (Gx i) (.go (osx (i + 1)) (Gx (i + 1))))
    (f : Tst prog w A env (ownG (osx n) ++ Gx n) test false) : Ex prog w A env (.While test body [] pos) (osx 0) (Gx 0) (.go (osx n) (Gx n)) := fun kp s₀ s Q E x q => by
  refine wpAny_While (codeAny_whileLoop (fun k s' => ∃ i, i ≤ n ∧ k = n - i ∧ Fs kp s₀ env (osx i) (Gx i) s') ?_ _ ⟨0, Nat.zero_le _, rfl, x⟩)
  rintro k s' ⟨i, hi, rfl, x'⟩
  by_cases h : i < n
  · refine (t i h).use x'.cx fun c s2 hc k2 => ?_
    subst hc
    simp only [if_true]
    refine b i h kp s₀ s2 _ _ (x'.keep k2) fun s3 x3 => ?_
    exact ⟨n - (i + 1), by omega, i + 1, h, rfl, x3⟩
  · have : i = n := by omega
    subst this
    refine f.use x'.cx fun c s2 hc k2 => ?_
    subst hc
    simp only [Bool.false_eq_true, if_false]
    exact wpAny_execs_nil (q s2 (x'.keep k2))
theorem exx_while {test : Expr} {body : List Stmt} {pos : Pos} {n : Nat} {osx : Nat → Owns} {Gx : Nat → Gam} (u : Und A env envl L Ll) (t : ∀ i, i < n → Tst prog w A env (ownG (osx i) ++ Gx i) test true) (b : ∀ i, i < n → Exs prog w A env body (osx i) (Gx i) (.go (osx (i + 1)) (Gx (i + 1))))
    (f : TsR prog w A env (ownG (osx n) ++ Gx n) test) : ExX prog w A env L Ll (.While test body [] pos) (osx 0) (Gx 0) (osx n) (Gx n) := fun kp s₀ s Q E hk lo x q => by
  refine wpAny_While (codeAny_whileLoop (fun k s' => ∃ i, i ≤ n ∧ k = n - i ∧ Fs kp s₀ env (osx i) (Gx i) s') ?_ _ ⟨0, Nat.zero_le _, rfl, x⟩)
  rintro k s' ⟨i, hi, rfl, x'⟩
  by_cases h : i < n
  · refine (t i h).use x'.cx fun c s2 hc k2 => ?_
    subst hc
    simp only [if_true]
    refine b i h kp s₀ s2 _ _ (x'.keep k2) fun s3 x3 => ?_
    exact ⟨n - (i + 1), by omega, i + 1, h, rfl, x3⟩
  · have : i = n := by omega
    subst this
    refine f s' _ _ x'.cx fun s1 h' tk e ke ne => ?_
    obtain ⟨x1, r1⟩ := x'.raised (tk := tk) ke ne
    refine note_raw u x1 lo hk r1 fun s₀' s2 sl x2 h2 => ?_
    exact came_back u.fr x2 h2 fun s3 x3 h3 => q e s3 (.inr ⟨s₀', sl, x3, h3⟩)
/-- while True, left by a break -/
theorem exl_while_brk {test : Expr} {body : List Stmt} {pos : Pos} {n : Nat} {osx : Nat → Owns} {Gx : Nat → Gam} {os' : Owns} {G' : Gam} (t : ∀ i, i ≤ n → Tst prog w A env (ownG (osx i) ++ Gx i) test true)
    (b : ∀ i, i < n → Exs prog w A env body (osx i) (Gx i) (.go (osx (i + 1)) (Gx (i + 1)))) (f : ExsL prog w A env Ll body (osx n) (Gx n) (.brk os' G')) : ExL prog w A env Ll (.While test body [] pos) (osx 0) (Gx 0) (.go os' G') := fun kp s₀ s Q E hk lo x q => by
  refine wpAny_While (codeAny_whileLoop (fun k s' => ∃ i, i ≤ n ∧ k = n - i ∧ Fs kp s₀ env (osx i) (Gx i) s') ?_ _ ⟨0, Nat.zero_le _, rfl, x⟩)
  rintro k s' ⟨i, hi, rfl, x'⟩
  refine (t i hi).use x'.cx fun c s2 hc k2 => ?_
  subst hc
  simp only [if_true]
  by_cases h : i < n
  · refine b i h kp s₀ s2 _ _ (x'.keep k2) fun s3 x3 => ?_
    exact ⟨n - (i + 1), by omega, i + 1, h, rfl, x3⟩
  · have : i = n := by omega
    subst this
    exact f kp s₀ s2 _ _ hk lo (x'.keep k2) fun s₀' sl s3 x3 => q s₀' sl s3 x3

/-- try: no exception -/
theorem ex_try {body : List Stmt} {h₀ : ExceptHandler} {hs : List ExceptHandler} {pos : Pos} {os' : Owns} {G' : Gam} (a : Exs prog w A env body os G (.go os' G')) : Ex prog w A env (.Try body (h₀ :: hs) [] [] pos) os G (.go os' G') := fun kp s₀ s Q E x q =>
  wpAny_Try_except (a kp s₀ s _ _ x fun s' x' => wpAny_execs_nil (q s' x'))
theorem und_mark {h : Option Value} (u : Und A env envl L Ll) : Und (A.mark h) env envl L Ll := ⟨u.frames, u.fr, u.loc, u.kind, u.frl, u.kindl⟩
theorem hexc_ie : isSubtype (.type "IndexError") (.type "BaseException") = pure true := by rw [isSubtype_type]; kernel_rfl
theorem hnt_ie : isSubtype (.type ((Manifest.find? "IndexError").elim "type" fun x => x.metatype)) (.type "tuple") = pure false := by
  have e : ((Manifest.find? "IndexError").elim "type" fun x => x.metatype) = "type" := by decide +kernel
  rw [e, isSubtype_type]; kernel_rfl
theorem hsub_ie : isSubtype (.type "IndexError") (.type "IndexError") = pure true := by rw [isSubtype_type]; kernel_rfl
/-- try: the exception is met -/
theorem exl_try {body : List Stmt} {np : Pos} {b₀ : Stmt} {suite : List Stmt} {hp pos : Pos} {os' : Owns} {G' : Gam} {r : Res} (u : Und A env envl L Ll) (fe : FEnv env) (a : ExsX prog w A env L Ll body os G os' G')
    (b : ∀ e : Addr, Exs prog w (A.mark (some (.ref e))) env (b₀ :: suite) os' G' r) (hk : env.kindOf "IndexError" = some .globalImplicit) :
    ExL prog w A env Ll (.Try body [.ExceptHandler (some (.Name "IndexError" np)) none (b₀ :: suite) hp] [] [] pos) os G r := fun kp s₀ s Q E hkl lo x q => by
  refine wpAny_Try_except (a kp s₀ s _ _ hkl lo x fun e s' xs => ?_)
  have main : ∀ s₀' s2, Sl Ll s₀ s₀' → Fs kp s₀' env os' G' s2 → Held kp s₀' e (rawInt L) s2.heap → wpAny (model prog w) A (setFlight (.ref e) none) (fun _ s₃ => wpAny (model prog w) A (handleBy (.ref e) env [.ExceptHandler (some (.Name "IndexError" np)) none (b₀ :: suite) hp]) Q E s₃) E s2 := by
    intro s₀' s2 sl x2 h2
    refine set_flight x2 h2 fun s3 x3 h3 => ?_
    refine wpAny_handleBy_builtin (X := "IndexError") (T := "IndexError") (b := true) hexc_ie hnt_ie hsub_ie ?_
    refine (ev_builtin (G := ownG os' ++ G') fe hk rfl).use x3.cx fun v s4 hv k4 => ?_
    have h4 : Held kp s₀' e .none s4.heap := by
      obtain ⟨ob, vs, tb, otb, tvs, a1, a2, a3, a4, a5, a6⟩ := h3
      exact ⟨ob, vs, tb, otb, tvs, kp_gr k4 _ _ a1, a2, a3, a4, kp_gr k4 _ _ a5, a6⟩
    refine ⟨hv, ?_, ?_⟩
    · obtain ⟨ob, vs, tb, otb, tvs, a1, a2, _⟩ := h4
      exact ⟨ob, a1, a2⟩
    rw [if_pos rfl]
    refine set_flight (x3.keep k4) h4 fun s5 x5 h5 => ?_
    exact b e kp s₀' s5 Q _ x5 (q s₀' sl)
  rcases xs with ⟨x1, r1⟩ | ⟨s₀', sl, x1, h1⟩
  · exact note_raw u x1 lo hkl r1 fun s₀' s2 sl x2 h2 => main s₀' s2 sl x2 h2
  · exact note_held u.fr h1 (main s₀' s' sl x1 h1)

/-- finally -/
theorem ex_fin {body : List Stmt} {f₀ : Stmt} {fs : List Stmt} {pos : Pos} {os1 os2 : Owns} {G1 G2 : Gam} (a : Exs prog w A env body os G (.go os1 G1)) (b : Exs prog w A env (f₀ :: fs) os1 G1 (.go os2 G2)) :
    Ex prog w A env (.Try body [] [] (f₀ :: fs) pos) os G (.go os2 G2) := fun kp s₀ s Q E x q =>
  wpAny_Try_finally (a kp s₀ s _ _ x fun s' x' => wpAny_execs_nil (b kp s₀ s' _ _ x' fun s2 x2 => q s2 x2))
theorem exx_fin_late {body : List Stmt} {f₀ : Stmt} {fs : List Stmt} {pos : Pos} {os1 os2 : Owns} {G1 G2 : Gam} (u : Und A env envl L Ll) (a : Exs prog w A env body os G (.go os1 G1)) (b : ExsX prog w A env L Ll (f₀ :: fs) os1 G1 os2 G2) :
    ExX prog w A env L Ll (.Try body [] [] (f₀ :: fs) pos) os G os2 G2 := fun kp s₀ s Q E hk lo x q => by
  refine wpAny_Try_finally (a kp s₀ s _ _ x fun s' x' => wpAny_execs_nil (b kp s₀ s' _ _ hk lo x' fun e s2 xs => ?_))
  rcases xs with ⟨x1, r1⟩ | ⟨s₀', sl, x1, h1⟩
  · exact note_raw u x1 lo hk r1 fun s₀' s3 sl x3 h3 => came_back u.fr x3 h3 fun s4 x4 h4 => q e s4 (.inr ⟨s₀', sl, x4, h4⟩)
  · exact note_held u.fr h1 (came_back u.fr x1 h1 fun s4 x4 h4 => q e s4 (.inr ⟨s₀', sl, x4, h4⟩))
theorem exx_fin {body : List Stmt} {f₀ : Stmt} {fs : List Stmt} {pos : Pos} {os1 os2 : Owns} {G1 G2 : Gam} (u : Und A env envl L Ll) (a : ExsX prog w A env L Ll body os G os1 G1) (b : ∀ e : Addr, Exs prog w (A.mark (some (.ref e))) env (f₀ :: fs) os1 G1 (.go os2 G2)) :
    ExX prog w A env L Ll (.Try body [] [] (f₀ :: fs) pos) os G os2 G2 := fun kp s₀ s Q E hk lo x q => by
  refine wpAny_Try_finally (a kp s₀ s _ _ hk lo x fun e s' xs => ?_)
  have main : ∀ s₀' s2, Sl Ll s₀ s₀' → Fs kp s₀' env os1 G1 s2 → Held kp s₀' e (rawInt L) s2.heap → FinallyRaised prog w A E env (f₀ :: fs) Q (.ref e) s2 := by
    intro s₀' s2 sl x2 h2
    refine ⟨ref_ne_byPass _, note_held u.fr h2 (set_flight x2 h2 fun s3 x3 h3 => ?_)⟩
    obtain ⟨ob, vs, tb, otb, tvs, a1, a2, a3, a4, a5, a6, a7, a8, a9, a10, a11, a12⟩ := h3
    have x3' : Fs (fun c => if c = e ∨ c = tb then s3.heap.get? c else kp c) s₀' env os1 G1 s3 := by
      obtain ⟨b0, nn, m, cm, al, c, nd, kx, ee, f⟩ := x3
      refine ⟨b0, nn, m, cm, al, c, nd, ?_, ee, f⟩
      intro z o ez
      by_cases hz : z = e ∨ z = tb
      · simp only [hz, if_true] at ez
        have hf : ∃ vs, o.data = .fields vs := by
          rcases hz with rfl | rfl
          · rw [a1] at ez; cases ez; exact ⟨_, a3⟩
          · rw [a5] at ez; cases ez; exact ⟨_, a6⟩
        obtain ⟨vs', hd⟩ := hf
        refine ⟨ez, ?_, ?_, ?_⟩
        · rintro rfl
          obtain ⟨o', es, ep, ho, hdd, _⟩ := c.toInCall.ns
          rw [ez] at ho; cases ho
          rw [hd] at hdd; cases hdd
        · rintro n c' q rfl
          obtain ⟨o', ho, hdd⟩ := c.cell n _ q
          rw [ez] at ho; cases ho
          rw [hd] at hdd; cases hdd
        · intro hv
          obtain ⟨p, hp, rfl⟩ := List.mem_map.mp hv
          obtain ⟨_, f0, vs2, ⟨qn, pl⟩, _⟩ := f p hp
          rw [ez] at pl; cases pl
          cases hd
      · simp only [hz, if_false] at ez
        exact kx z o ez
    refine b e _ s₀' s3 _ _ x3' fun s4 x4 => ?_
    have get : ∀ z o, (z = e ∨ z = tb) → s3.heap.get? z = some o → s4.heap.get? z = some o := by
      intro z o hz ez
      obtain ⟨b0, nn, m, cm, al, c, nd, kx, ee, f⟩ := x4
      exact (kx z o (by simp only [hz, if_true]; exact ez)).1
    have h4 : Held kp s₀' e .none s4.heap := ⟨ob, vs, tb, otb, tvs, get _ _ (.inl rfl) a1, a2, a3, a4, get _ _ (.inr rfl) a5, a6, a7, a8, a9, a10, a11, a12⟩
    have x4' : Fs kp s₀' env os2 G2 s4 := x4.kpless fun z o ez => by
      have : ¬ (z = e ∨ z = tb) := by rintro (rfl | rfl); rw [a11] at ez; cases ez; rw [a12] at ez; cases ez
      simp only [this, if_false]; exact ez
    exact pass_on u.fr x4' h4 fun s5 x5 h5 => q e s5 (.inr ⟨s₀', sl, x5, h5⟩)
  rcases xs with ⟨x1, r1⟩ | ⟨s₀', sl, x1, h1⟩
  · exact note_raw u x1 lo hk r1 fun s₀' s2 sl x2 h2 => main s₀' s2 sl x2 h2
  · exact note_held u.fr h1 (main s₀' s' sl x1 h1)
end
end Mine
end

section
open PySem PySem.W PyProof.Rows
set_option linter.all false
set_option maxRecDepth 100000
namespace Mine

theorem nls_append {a b : List PyData} : nls (a ++ b) = (nls a && nls b) := by
  induction a with
  | nil => rfl
  | cons x xs ih => rw [List.cons_append, nls, ih, nls, Bool.and_assoc]
theorem nls_strs : ∀ xs : List Str, nls (xs.map .str) = true
  | [] => rfl
  | _ :: xs => by rw [List.map_cons, nls, nls_strs xs]; rfl
theorem nls_ints : ∀ xs : List Int, nls (xs.map .int) = true
  | [] => rfl
  | _ :: xs => by rw [List.map_cons, nls, nls_ints xs]; rfl
theorem nls_bools : ∀ xs : List Bool, nls (xs.map .bool) = true
  | [] => rfl
  | _ :: xs => by rw [List.map_cons, nls, nls_bools xs]; rfl
theorem RdA.scalF {h₀ h : Heap} {vs : List Value} {ds : List PyData} (x : RdA h vs ds) (n : nls ds = true) : RdAF h₀ h vs ds := by
  obtain ⟨as, a, b, c⟩ := x
  have := nls_none a n
  subst this
  exact ⟨_, a, b, c, fun _ m => nomatch m⟩
theorem push_none {h₀ h : Heap} (k : Gr h₀ h) : h₀.get? h.objs.size = none := by
  cases e : h₀.get? h.objs.size with
  | none => rfl
  | some o => exact absurd (Heap.lt_size (k _ _ e)) (Nat.lt_irrefl _)

section
variable {prog : Program} {w : World} {A : Around} {env envl : Env} {os : Owns} {G : Gam} {L Ll : Addr}
theorem evf_listS {elts : List Expr} {pos : Pos} {ds : List PyData} (a : EvS prog w A env G elts ds) (hn : nls ds = true) (ht : backTo pos (starEach elts env) = elts.map (fun e => (false, eval e env)) := by rfl) (hz : ds.length ≤ 1000 := by simp) :
    EvF prog w A env G (.List elts pos) (.list ds) := fun s E c => by
  refine List_ ?_
  rw [ht]
  refine a.use c fun vs s1 h k => ?_
  have := h.len
  exact wpAny_newList ⟨.list ⟨0, Heap.get?_push_size _ rfl⟩ (push_none (kp_gr k)) ((h.gr (kp_gr kp_push)).scalF hn), kp_trans k kp_push⟩ (by rw [sizeLine_eq]; omega)
theorem evf_addl {l r : Expr} {pos : Pos} {ds es : List PyData} (a : Ev prog w A env G l (.list ds)) (b : Ev prog w A env G r (.list es)) (hn : nls (ds ++ es) = true) (hz : ds.length + es.length ≤ sizeLine) :
    EvF prog w A env G (.BinOp l .Add r pos) (.list (ds ++ es)) := fun s E c =>
  wpAny_BinOp (two (t := fun v1 v2 => binaryOp .Add v1 v2) a b (fun _ _ _ h k => h.gr k) c fun v1 v2 s' h1 h2 k => by
    obtain ⟨p, vs, rfl, ⟨n, ha⟩, ra⟩ := h1.list_inv; obtain ⟨q, ws, rfl, ⟨m, hb⟩, rb⟩ := h2.list_inv
    have e : vs.toArray ++ ws.toArray = (vs ++ ws).toArray := by simp
    refine PySem.concat_meets ⟨_, ha, rfl⟩ ⟨_, hb, rfl⟩ noFill_list_add seq_list_add PySem.F.slot_list_add PySem.F.entry_list_add (PySem.F.args_list_add_2 _ _) (list_addW p q vs.toArray ws.toArray n m none none #[] #[] (by simpa [ra.len, rb.len] using hz)) ⟨ha, hb, ?_⟩
    rw [e]
    exact ⟨.list ⟨0, Heap.get?_push_size _ rfl⟩ (push_none (kp_gr k)) (((ra.append rb).gr (kp_gr kp_push)).scalF hn), kp_trans k kp_push⟩)
theorem ex_swapped {st : Stmt} {o1 o2 o1' o2' : Str × List PyData} {G' : Gam} (a : Ex prog w A env st (o2 :: o1 :: os) G (.go (o2' :: o1' :: os) G')) : Ex prog w A env st (o1 :: o2 :: os) G (.go (o1' :: o2' :: os) G') := fun kp s₀ s Q E x q =>
  a kp s₀ s Q E x.swap fun s' x' => q s' x'.swap
theorem ex_assign_two {n1 n2 : Str} {p1 p2 pos : Pos} {e : Expr} {i : Int} (fe : FEnv env) (a : Ev prog w A env (ownG os ++ G) e (.int i)) (hn1 : CanSt env n1) (hn2 : CanSt env n2) (hno1 : ∀ o ∈ os, o.1 ≠ n1) (hno2 : ∀ o ∈ os, o.1 ≠ n2)
    (he : (assignEach [.Name n1 p1, .Name n2 p2] env).map (·.2) = [assign (.Name n1 p1) env, assign (.Name n2 p2) env] := by rfl) :
    Ex prog w A env (.Assign [.Name n1 p1, .Name n2 p2] e pos) os G (.go os ((n2, .int i) :: (n1, .int i) :: G)) := fun kp s₀ s Q E x q => by
  refine wpAny_Assign_two (a.use x.cx fun v s1 h k => ?_) he
  obtain ⟨t, rfl⟩ := h.int_inv
  refine wpAny_assign_Name (fs_store fe x k hn1 hno1 (fun _ _ _ => Rd.nx .int rfl) fun s2 x2 => ?_)
  exact wpAny_assign_Name (fs_store fe x2 (kp_refl _) hn2 hno2 (fun _ _ _ => Rd.nx .int rfl) fun s3 x3 => q s3 x3)

/-- while True: each turn goes on, nearer to the end, or breaks -/
theorem exl_while_inv {σ : Type} {test : Expr} {body : List Stmt} {pos : Pos} (osx : σ → Owns) (Gx : σ → Gam) (Inv : σ → Prop) (rank : σ → Nat) {os' : Owns} {G' : Gam} (t : ∀ x, Inv x → Tst prog w A env (ownG (osx x) ++ Gx x) test true)
    (b : ∀ x, Inv x → (∃ x', rank x' < rank x ∧ Inv x' ∧ Exs prog w A env body (osx x) (Gx x) (.go (osx x') (Gx x'))) ∨ ExsL prog w A env Ll body (osx x) (Gx x) (.brk os' G')) (x₀ : σ) (h₀ : Inv x₀) :
    ExL prog w A env Ll (.While test body [] pos) (osx x₀) (Gx x₀) (.go os' G') := fun kp s₀ s Q E hk lo x q => by
  refine wpAny_While (codeAny_whileLoop (fun k s' => ∃ y, Inv y ∧ k = rank y ∧ Fs kp s₀ env (osx y) (Gx y) s') ?_ _ ⟨x₀, h₀, rfl, x⟩)
  rintro k s' ⟨y, hy, rfl, x'⟩
  refine (t y hy).use x'.cx fun c s2 hc k2 => ?_
  subst hc
  simp only [if_true]
  rcases b y hy with ⟨y', hr, hi, hb⟩ | hb
  · exact hb kp s₀ s2 _ _ (x'.keep k2) fun s3 x3 => ⟨rank y', hr, y', hi, rfl, x3⟩
  · exact hb kp s₀ s2 _ _ hk lo (x'.keep k2) fun s₀' sl s3 x3 => q s₀' sl s3 x3
theorem exsl_ret {st : Stmt} {rest : List Stmt} {d : PyData} (a : ExL prog w A env Ll st os G (.ret d)) : ExsL prog w A env Ll (st :: rest) os G (.ret d) := fun kp s₀ s Q E hk lo x q =>
  wpAny_execs_cons (a kp s₀ s _ E hk lo x fun s₀' sl v s' r k => q s₀' sl v s' r k)
end

/-- what sorted_list_difference makes of two rows of texts, each twice -/
def dbl (xs : List Str) : List Str := xs.flatMap fun x => [x, x]
def mg : List Str → List Str → List Str × List Str
  | [], ys => ([], dbl ys)
  | x :: xs, [] => (dbl (x :: xs), [])
  | x :: xs, y :: ys =>
    if x.cps.toList < y.cps.toList then (x :: (mg xs (y :: ys)).1, (mg xs (y :: ys)).2)
    else if y.cps.toList < x.cps.toList then ((mg (x :: xs) ys).1, y :: (mg (x :: xs) ys).2)
    else mg xs ys
termination_by a b => a.length + b.length
theorem dbl_len (xs : List Str) : (dbl xs).length = 2 * xs.length := by
  induction xs with
  | nil => rfl
  | cons x xs ih => rw [dbl, List.flatMap_cons, List.length_append]; unfold dbl at ih; rw [ih]; simp; omega
theorem dbl_cons (x : Str) (xs : List Str) : dbl (x :: xs) = x :: x :: dbl xs := by simp [dbl]
theorem dbl_drop : ∀ (xs : List Str) (k : Nat), (dbl xs).drop (2 * k) = dbl (xs.drop k)
  | xs, 0 => by simp
  | [], k + 1 => by simp [dbl]
  | x :: xs, k + 1 => by
    rw [dbl_cons, show 2 * (k + 1) = 2 * k + 2 by omega, List.drop_succ_cons, List.drop_succ_cons, dbl_drop xs k, List.drop_succ_cons]
theorem dbl_get0 (xs : List Str) {k : Nat} {x : Str} (h : xs[k]? = some x) : (dbl xs)[2 * k]? = some x := by
  have e := dbl_drop xs k
  have : xs.drop k = x :: xs.drop (k + 1) := by
    obtain ⟨hk, hx⟩ := List.getElem?_eq_some_iff.mp h
    rw [List.drop_eq_getElem_cons hk, hx]
  rw [this, dbl_cons] at e
  have := congrArg (fun l => l[0]?) e
  simpa using this
theorem dbl_get1 (xs : List Str) {k : Nat} {x : Str} (h : xs[k]? = some x) : (dbl xs)[2 * k + 1]? = some x := by
  have e := dbl_drop xs k
  have : xs.drop k = x :: xs.drop (k + 1) := by
    obtain ⟨hk, hx⟩ := List.getElem?_eq_some_iff.mp h
    rw [List.drop_eq_getElem_cons hk, hx]
  rw [this, dbl_cons] at e
  have := congrArg (fun l => l[1]?) e
  simpa using this
end Mine
end

section
open PySem PySem.W PyProof.Rows
set_option linter.all false
set_option maxRecDepth 100000
namespace Mine

abbrev sl (xs : List Str) : List PyData := xs.map .str
theorem sl_append (a b : List Str) : sl a ++ sl b = sl (a ++ b) := by simp [sl]
theorem sl_get {xs : List Str} {i : Nat} {x : Str} (h : xs[i]? = some x) : (sl xs)[i]? = some (.str x) := by rw [sl, List.getElem?_map, h]; rfl
theorem pyslice_from {ds : List PyData} {k : Nat} : pyslice ds (some (k : Int)) none = ds.drop k := by
  unfold pyslice clip
  simp only [Option.elim]
  have : clipAt ds.length (k : Int) = min k ds.length := by unfold clipAt; split <;> omega
  rw [this]
  by_cases h : k ≤ ds.length
  · rw [Nat.min_eq_left h, List.take_of_length_le (by simp)]
  · rw [Nat.min_eq_right (by omega), List.drop_eq_nil_of_le (Nat.le_refl _), List.drop_eq_nil_of_le (by omega)]; simp

section
variable {prog : Program} {w : World} {A : Around} {env envl : Env} {os : Owns} {G : Gam} {L Ll : Addr}
theorem o_iadd {a b : Int} : Op2 prog w A (inplaceOp .Add) (.int a) (.int b) (.int (a + b)) := fun v1 v2 s E h1 h2 => by
  obtain ⟨t, rfl⟩ := h1.int_inv; obtain ⟨u, rfl⟩ := h2.int_inv; exact wpAny_iadd_int ⟨.int, kp_tok⟩
theorem o_equ {a b : Str} (hu : A.units + 100 < cLine) (ha : PyData.strOk a = true) (hb : PyData.strOk b = true) : Op2 prog w A (compareOp .Eq) (.str a) (.str b) (.bool (a == b)) := fun v1 v2 s E h1 h2 => by
  obtain ⟨as, h1, _⟩ := h1; obtain ⟨bs, h2, _⟩ := h2
  have := PySem.SeqAt.compareEq_reads (prog := prog) (w := w) (A := A) (E := E) (s := s) (Q := fun v s' => Rd s'.heap v (.bool (a == b)) ∧ Keeps s s') h1 h2 (str_ok ha) (str_ok hb) (by simp [PyData.depth]; omega)
  refine this ?_
  rw [PyData.eqv]
  exact ⟨.bool, kp_refl s⟩
theorem Exs.brk_weaken {ss : List Stmt} {os' : Owns} {G' G'' : Gam} (a : Exs prog w A env ss os G (.brk os' G')) (k : ∀ n d, G''.lookup n = some d → G'.lookup n = some d) : Exs prog w A env ss os G (.brk os' G'') := fun kp s₀ s Q E x q =>
  a kp s₀ s Q E x fun s' x' => q s' (x'.weaken k)

/-- `while xs[i] == e: i += 1`, from the second of two alike -/
theorem skip_go {np ip vp ep cp kp1 ap1 ap2 wp : Pos} {kk : Nat} {xsN iN eN : Str} {X : List Str} {k : Nat} {x : Str} (fe : FEnv env) (hu : A.units + 100 < cLine) (hX : ∀ x ∈ X, PyData.strOk x = true) (hz : X.length ≤ 100) (hx : X[k]? = some x) (hk : k + 1 < X.length) (hne : X[k + 1]? ≠ some x)
    (h1 : G.lookup xsN = some (.list (sl (dbl X)))) (h2 : G.lookup iN = some (.int ((2 * k + 1 : Nat) : Int))) (h3 : G.lookup eN = some (.str x)) (hxi : xsN ≠ iN) (hei : eN ≠ iN) (hos : ∀ o ∈ os, o.1 ≠ xsN ∧ o.1 ≠ iN ∧ o.1 ≠ eN)
    (hc : CanSt env iN) (hd1 : (xsN == ("__debug__" : Str)) = false) (hd2 : (iN == ("__debug__" : Str)) = false) (hd3 : (eN == ("__debug__" : Str)) = false) :
    Ex prog w A env (.While (.Compare (.Subscript (.Name xsN np) (.Name iN ip) vp) [.Eq] [.Name eN ep] cp) [.AugAssign (.Name iN ap1) .Add (.Constant (.int 1) kk ap2) wp] [] kp1) os G (.go os ((iN, .int ((2 * (k + 1) : Nat) : Int)) :: G)) := by
  have own0 : ∀ n, (∀ o ∈ os, o.1 ≠ n) → (ownG os).lookup n = none := by
    intro n h
    cases e : (ownG os).lookup n with
    | none => rfl
    | some d => obtain ⟨ds, hm, _⟩ := lookup_ownG e; exact absurd rfl (h _ hm)
  have lk : ∀ (G' : Gam) n d, (∀ o ∈ os, o.1 ≠ n) → G'.lookup n = some d → (ownG os ++ G').lookup n = some d := by
    intro G' n d h e
    rw [List.lookup_append, own0 n h, e]; rfl
  have hb : (iN == iN) = true := beq_self_eq_true _
  have hb1 : (xsN == iN) = false := by simpa using hxi
  have hb2 : (eN == iN) = false := by simpa using hei
  have hx1 : ∃ y, X[k + 1]? = some y := ⟨X[k + 1], List.getElem?_eq_getElem hk⟩
  obtain ⟨y, hy⟩ := hx1
  have okx : PyData.strOk x = true := hX x (List.mem_of_getElem? hx)
  have oky : PyData.strOk y = true := hX y (List.mem_of_getElem? hy)
  have := ex_while (prog := prog) (w := w) (A := A) (env := env) (n := 1) (osx := fun _ => os) (Gx := fun t => if t = 0 then G else (iN, .int ((2 * (k + 1) : Nat) : Int)) :: G)
    (test := .Compare (.Subscript (.Name xsN np) (.Name iN ip) vp) [.Eq] [.Name eN ep] cp) (body := [.AugAssign (.Name iN ap1) .Add (.Constant (.int 1) kk ap2) wp]) (pos := kp1) ?_ ?_ ?_
  · simpa using this
  · intro i hi
    have : i = 0 := by omega
    subst this
    simp only [if_true]
    refine Tst.as (tst_cmp (ev_item_list (i := 2 * k + 1) (ev_name fe (lk _ _ _ (fun o h => (hos o h).1) h1) hd1) (ev_name fe (lk _ _ _ (fun o h => (hos o h).2.1) h2) hd2) (sl_get (dbl_get1 X hx)) (by omega)) (ev_name fe (lk _ _ _ (fun o h => (hos o h).2.2) h3) hd3) (o_equ hu okx okx)) (by simp)
  · intro i hi
    have : i = 0 := by omega
    subst this
    simp only [if_true, if_neg (show ¬ (0 + 1 = 0) by omega)]
    refine exs_go (ex_aug fe h2 rfl ev_int (by have := o_iadd (prog := prog) (w := w) (A := A) (a := ((2 * k + 1 : Nat) : Int)) (b := 1); rwa [show ((2 * k + 1 : Nat) : Int) + 1 = ((2 * (k + 1) : Nat) : Int) by push_cast; omega] at this) rfl hc (fun o h => (hos o h).2.1)) exs_nil
  · simp only [if_neg (show ¬ (1 = 0) by omega)]
    have l1 : ((iN, PyData.int ((2 * (k + 1) : Nat) : Int)) :: G).lookup xsN = some (.list (sl (dbl X))) := by rw [List.lookup_cons, hb1]; exact h1
    have l2 : ((iN, PyData.int ((2 * (k + 1) : Nat) : Int)) :: G).lookup iN = some (.int ((2 * (k + 1) : Nat) : Int)) := by rw [List.lookup_cons, hb]
    have l3 : ((iN, PyData.int ((2 * (k + 1) : Nat) : Int)) :: G).lookup eN = some (.str x) := by rw [List.lookup_cons, hb2]; exact h3
    refine Tst.as (tst_cmp (ev_item_list (i := 2 * (k + 1)) (ev_name fe (lk _ _ _ (fun o h => (hos o h).1) l1) hd1) (ev_name fe (lk _ _ _ (fun o h => (hos o h).2.1) l2) hd2) (sl_get (dbl_get0 X hy)) (by omega)) (ev_name fe (lk _ _ _ (fun o h => (hos o h).2.2) l3) hd3) (o_equ hu oky okx)) ?_
    rw [beq_eq_false_iff_ne]
    rintro rfl
    exact hne hy
theorem skip_x {np ip vp ep cp kp1 ap1 ap2 wp : Pos} {kk n : Nat} {xsN iN eN : Str} {X : List Str} {k : Nat} {x : Str} (o : Ok (n + 1) A) (u : Und A env envl L Ll) (fe : FEnv env) (hX : ∀ x ∈ X, PyData.strOk x = true) (hz : X.length ≤ 100) (hx : X[k]? = some x) (hk : k + 1 = X.length)
    (h1 : G.lookup xsN = some (.list (sl (dbl X)))) (h2 : G.lookup iN = some (.int ((2 * k + 1 : Nat) : Int))) (h3 : G.lookup eN = some (.str x)) (hxi : xsN ≠ iN) (hei : eN ≠ iN) (hos : ∀ o ∈ os, o.1 ≠ xsN ∧ o.1 ≠ iN ∧ o.1 ≠ eN)
    (hc : CanSt env iN) (hd1 : (xsN == ("__debug__" : Str)) = false) (hd2 : (iN == ("__debug__" : Str)) = false) (hd3 : (eN == ("__debug__" : Str)) = false) :
    ExX prog w A env L Ll (.While (.Compare (.Subscript (.Name xsN np) (.Name iN ip) vp) [.Eq] [.Name eN ep] cp) [.AugAssign (.Name iN ap1) .Add (.Constant (.int 1) kk ap2) wp] [] kp1) os G os ((iN, .int ((2 * (k + 1) : Nat) : Int)) :: G) := by
  have own0 : ∀ n, (∀ o ∈ os, o.1 ≠ n) → (ownG os).lookup n = none := by
    intro n h
    cases e : (ownG os).lookup n with
    | none => rfl
    | some d => obtain ⟨ds, hm, _⟩ := lookup_ownG e; exact absurd rfl (h _ hm)
  have lk : ∀ (G' : Gam) n d, (∀ o ∈ os, o.1 ≠ n) → G'.lookup n = some d → (ownG os ++ G').lookup n = some d := by
    intro G' n d h e
    rw [List.lookup_append, own0 n h, e]; rfl
  have hb : (iN == iN) = true := beq_self_eq_true _
  have hb1 : (xsN == iN) = false := by simpa using hxi
  have hb2 : (eN == iN) = false := by simpa using hei
  have okx : PyData.strOk x = true := hX x (List.mem_of_getElem? hx)
  have hu : A.units + 100 < cLine := by have := o.units; omega
  have := exx_while (prog := prog) (w := w) (A := A) (env := env) (L := L) (Ll := Ll) (n := 1) (osx := fun _ => os) (Gx := fun t => if t = 0 then G else (iN, .int ((2 * (k + 1) : Nat) : Int)) :: G)
    (test := .Compare (.Subscript (.Name xsN np) (.Name iN ip) vp) [.Eq] [.Name eN ep] cp) (body := [.AugAssign (.Name iN ap1) .Add (.Constant (.int 1) kk ap2) wp]) (pos := kp1) u ?_ ?_ ?_
  · simpa using this
  · intro i hi
    have : i = 0 := by omega
    subst this
    simp only [if_true]
    refine Tst.as (tst_cmp (ev_item_list (i := 2 * k + 1) (ev_name fe (lk _ _ _ (fun o h => (hos o h).1) h1) hd1) (ev_name fe (lk _ _ _ (fun o h => (hos o h).2.1) h2) hd2) (sl_get (dbl_get1 X hx)) (by omega)) (ev_name fe (lk _ _ _ (fun o h => (hos o h).2.2) h3) hd3) (o_equ hu okx okx)) (by simp)
  · intro i hi
    have : i = 0 := by omega
    subst this
    simp only [if_true, if_neg (show ¬ (0 + 1 = 0) by omega)]
    refine exs_go (ex_aug fe h2 rfl ev_int (by have := o_iadd (prog := prog) (w := w) (A := A) (a := ((2 * k + 1 : Nat) : Int)) (b := 1); rwa [show ((2 * k + 1 : Nat) : Int) + 1 = ((2 * (k + 1) : Nat) : Int) by push_cast; omega] at this) rfl hc (fun o h => (hos o h).2.1)) exs_nil
  · simp only [if_neg (show ¬ (1 = 0) by omega)]
    have l1 : ((iN, PyData.int ((2 * (k + 1) : Nat) : Int)) :: G).lookup xsN = some (.list (sl (dbl X))) := by rw [List.lookup_cons, hb1]; exact h1
    have l2 : ((iN, PyData.int ((2 * (k + 1) : Nat) : Int)) :: G).lookup iN = some (.int ((2 * (k + 1) : Nat) : Int)) := by rw [List.lookup_cons, hb]
    exact tsr_cmp (evr_item (i := 2 * (k + 1)) o (ev_name fe (lk _ _ _ (fun o h => (hos o h).1) l1) hd1) (ev_name fe (lk _ _ _ (fun o h => (hos o h).2.1) l2) hd2) (by rw [sl, List.length_map, dbl_len]; omega) (by omega))
end
end Mine
end

section
open PySem PySem.W PyProof.Rows
set_option linter.all false
set_option maxRecDepth 100000
set_option maxHeartbeats 4000000
namespace Mine

theorem wk_nil {G : Gam} : ∀ n d, ([] : Gam).lookup n = some d → G.lookup n = some d := fun _ _ h => nomatch h
theorem wk_add {G G' : Gam} {x : Str} {v : PyData} (h : G.lookup x = some v) (k : ∀ n d, G'.lookup n = some d → G.lookup n = some d) : ∀ n d, ((x, v) :: G').lookup n = some d → G.lookup n = some d := fun n d e => by
  rw [List.lookup_cons] at e
  split at e
  · rename_i q
    cases e
    have : n = x := beq_iff_eq.mp q
    subst this; exact h
  · exact k n d e

def hbOf (i k : Nat) : List Stmt := match (fb i)[k]? with
  | some (.While _ [.Try _ [.ExceptHandler _ _ b _] _ _ _] _ _) => b
  | _ => []
abbrev hb8 : List Stmt := hbOf 8 3
theorem mg_nil_r (xs : List Str) : mg xs [] = (dbl xs, []) := by cases xs <;> simp [mg, dbl]
theorem mg_nil_l (ys : List Str) : mg [] ys = ([], dbl ys) := by simp [mg]
theorem drop_at {xs : List Str} {k : Nat} (h : k < xs.length) : xs.drop k = xs[k] :: xs.drop (k + 1) := List.drop_eq_getElem_cons h

section
variable {prog : Program} {w : World} {A : Around} {envl : Env} {L a Ll : Addr} {cd : Value}

theorem handler8 {A' : Around} {X Y M U : List Str} {k l : Nat} {G : Gam} (e : FEnv (fe 8 L a cd)) (hX : X.length ≤ 100) (hY : Y.length ≤ 100) (hM : M.length ≤ 200) (hU : U.length ≤ 200)
    (h1 : G.lookup ("expected" : Str) = some (.list (sl (dbl X)))) (h2 : G.lookup ("actual" : Str) = some (.list (sl (dbl Y)))) (h3 : G.lookup ("i" : Str) = some (.int ((2 * k : Nat) : Int))) (h4 : G.lookup ("j" : Str) = some (.int ((2 * l : Nat) : Int))) :
    Exs prog w A' (fe 8 L a cd) hb8 [("unexpected", sl U), ("missing", sl M)] G (.brk [("unexpected", sl (U ++ dbl (Y.drop l))), ("missing", sl (M ++ dbl (X.drop k)))] []) := by
  have hz : ∀ Z : List Str, Z.length ≤ 100 → (sl (dbl Z)).length ≤ 1000 := fun Z h => by rw [sl, List.length_map, dbl_len]; omega
  have hd : ∀ (Z : List Str) (q : Nat), Z.length ≤ 100 → (sl (dbl (Z.drop q))).length ≤ 200 := fun Z q h => by rw [sl, List.length_map, dbl_len, List.length_drop]; omega
  have ps : ∀ (Z : List Str) (q : Nat), pyslice (sl (dbl Z)) (some ((2 * q : Nat) : Int)) none = sl (dbl (Z.drop q)) := fun Z q => by rw [pyslice_from, sl, ← List.map_drop, dbl_drop]
  rw [← sl_append U, ← sl_append M]
  refine exs_go (ex_swapped (ex_extend e (Ev.as (ev_slice_list (ev_ls (ev_name e h1)) (.yes (ev_name e h3)) .no (hz X hX)) (by rw [ps])) (nls_strs _) (by have := hd X k hX; simp only [sl, List.length_map] at this ⊢; omega) (by decide) _)) ?_
  refine exs_go (ex_extend e (Ev.as (ev_slice_list (ev_ls (ev_name e h2)) (.yes (ev_name e h4)) .no (hz Y hY)) (by rw [ps])) (nls_strs _) (by have := hd Y l hY; simp only [sl, List.length_map] at this ⊢; omega) (by decide) _) ?_
  exact Exs.brk_weaken (exs_brk ex_break) wk_nil
end

theorem lex_tri {a b : List Nat} (h1 : ¬ a < b) (h2 : ¬ b < a) : a = b := List.le_antisymm (List.not_lt.mp h2) (List.not_lt.mp h1)
theorem cps_eq {x y : Str} (h : x.cps.toList = y.cps.toList) : x = y := Str.ext' (Array.toList_inj.mp h)
section
variable {prog : Program} {w : World} {A : Around} {env envl : Env} {os : Owns} {G : Gam} {L a Ll : Addr} {cd : Value}
theorem iadd_n {k : Nat} : Op2 prog w A (inplaceOp .Add) (.int ((2 * k : Nat) : Int)) (.int 1) (.int ((2 * k + 1 : Nat) : Int)) := by
  have := o_iadd (prog := prog) (w := w) (A := A) (a := ((2 * k : Nat) : Int)) (b := 1)
  rwa [show ((2 * k : Nat) : Int) + 1 = ((2 * k + 1 : Nat) : Int) by push_cast; omega] at this
theorem ex_append_s {n : Str} {np apos cpos pos : Pos} {e : Expr} {M : List Str} {x : Str} (fe : FEnv env) (a : Ev prog w A env (ownG ((n, sl M) :: os) ++ G) e (.str x)) (hz : M.length ≤ 1000) (hdb : (n == ("__debug__" : Str)) = false := by decide)
    (pl : Sem Bool)
    (hb : backTo cpos (starEach [e] env) = [(false, eval e env)] := by rfl) (hi : interactive env = false := by rfl) (hs : swapsWith (.Call (.Attribute (.Name n np) "append" apos) [e] [] cpos) none pos.line env = pure false := by rfl)
    (he : eval (.Call (.Attribute (.Name n np) "append" apos) [e] [] cpos) env = (do
      let ov ← eval (.Name n np) env
      standAt apos.atName
      let (f, first) ← holding [ov] (getMethod ov "append" pl)
      callWith cpos f first (backTo cpos (starEach [e] env)) []) := by rfl) :
    Ex prog w A env (.Expr (.Call (.Attribute (.Name n np) "append" apos) [e] [] cpos) pos) ((n, sl M) :: os) G (.go ((n, sl (M ++ [x])) :: os) G) := by
  rw [← sl_append]
  exact ex_append fe a rfl (by simpa [sl] using hz) hdb pl hb hi hs he
end

section
variable {prog : Program} {w : World} {A : Around} {envl : Env} {L a Ll : Addr} {cd : Value}
abbrev G0q (X Y : List Str) (k l : Nat) : Gam := [("j", .int ((2 * l : Nat) : Int)), ("i", .int ((2 * k : Nat) : Int)), ("expected", .list (sl (dbl X))), ("actual", .list (sl (dbl Y)))]
abbrev O8 (U M : List Str) : Owns := [("unexpected", sl U), ("missing", sl M)]
theorem no8 (x : Str) (U M : List Str) (h1 : x ≠ "unexpected") (h2 : x ≠ "missing") : ∀ q ∈ O8 U M, q.1 ≠ x := by
  intro q hq
  simp only [List.mem_cons, List.not_mem_nil, or_false] at hq
  rcases hq with rfl | rfl
  · exact fun h => h1 h.symm
  · exact fun h => h2 h.symm
theorem pre8 {X Y U M : List Str} {k l : Nat} {x y : Str} {rest : List Stmt} {r : Res} {p1 p2 p3 p4 p5 q1 q2 q3 q4 q5 : Pos} (e : FEnv (fe 8 L a cd)) (hx : X[k]? = some x) (hy : Y[l]? = some y) (hk : k ≤ 1000) (hl : l ≤ 1000)
    (b : Exs prog w A (fe 8 L a cd) rest (O8 U M) (("a", .str y) :: ("e", .str x) :: G0q X Y k l) r) :
    Exs prog w A (fe 8 L a cd) (.Assign [.Name "e" p1] (.Subscript (.Name "expected" p2) (.Name "i" p3) p4) p5 :: .Assign [.Name "a" q1] (.Subscript (.Name "actual" q2) (.Name "j" q3) q4) q5 :: rest) (O8 U M) (G0q X Y k l) r :=
  exs_go (ex_assign (d := .str x) e (evx_nl (ev_item_list (i := 2 * k) (ev_name e rfl) (ev_name e rfl) (sl_get (dbl_get0 X hx)) (by omega))) (.inl rfl) (no8 _ U M (by decide) (by decide)))
    (exs_go (ex_assign (d := .str y) e (evx_nl (ev_item_list (i := 2 * l) (ev_name e rfl) (ev_name e rfl) (sl_get (dbl_get0 Y hy)) (by omega))) (.inl rfl) (no8 _ U M (by decide) (by decide))) b)
theorem pre8x {X Y U M : List Str} {k l : Nat} {x y : Str} {rest : List Stmt} {os' : Owns} {G' : Gam} {p1 p2 p3 p4 p5 q1 q2 q3 q4 q5 : Pos} (e : FEnv (fe 8 L a cd)) (hx : X[k]? = some x) (hy : Y[l]? = some y) (hk : k ≤ 1000) (hl : l ≤ 1000)
    (b : ExsX prog w A (fe 8 L a cd) L Ll rest (O8 U M) (("a", .str y) :: ("e", .str x) :: G0q X Y k l) os' G') :
    ExsX prog w A (fe 8 L a cd) L Ll (.Assign [.Name "e" p1] (.Subscript (.Name "expected" p2) (.Name "i" p3) p4) p5 :: .Assign [.Name "a" q1] (.Subscript (.Name "actual" q2) (.Name "j" q3) q4) q5 :: rest) (O8 U M) (G0q X Y k l) os' G' :=
  exsx_go (ex_assign (d := .str x) e (evx_nl (ev_item_list (i := 2 * k) (ev_name e rfl) (ev_name e rfl) (sl_get (dbl_get0 X hx)) (by omega))) (.inl rfl) (no8 _ U M (by decide) (by decide)))
    (exsx_go (ex_assign (d := .str y) e (evx_nl (ev_item_list (i := 2 * l) (ev_name e rfl) (ev_name e rfl) (sl_get (dbl_get0 Y hy)) (by omega))) (.inl rfl) (no8 _ U M (by decide) (by decide))) b)
end

structure Q8 where
  k : Nat
  l : Nat
  M : List Str
  U : List Str

section
variable {prog : Program} {w : World} {A : Around} {envl : Env} {L a Ll : Addr} {cd : Value}
theorem loop8 {n : Nat} {X Y FM FU : List Str} (o : Ok (n + 2) A) (u : Und A (fe 8 L a cd) envl L Ll) (e : FEnv (fe 8 L a cd)) (hX : X.length ≤ 100) (hY : Y.length ≤ 100) (oX : ∀ x ∈ X, PyData.strOk x = true) (oY : ∀ x ∈ Y, PyData.strOk x = true)
    (dX : ∀ i x, X[i]? = some x → X[i + 1]? ≠ some x) (dY : ∀ i x, Y[i]? = some x → Y[i + 1]? ≠ some x) (hlast : ∀ x, X[X.length - 1]? = some x → Y[Y.length - 1]? = some x → False)
    (hF : mg X Y = (FM, FU)) :
    ExsL prog w A (fe 8 L a cd) Ll (fb 8) [] [("expected", .list (sl (dbl X))), ("actual", .list (sl (dbl Y)))] (.ret (.tuple [.list (sl FM), .list (sl FU)])) := by
  have loc : ∀ x ∈ (["expected", "actual", "i", "j", "missing", "unexpected", "e", "a"] : List Str), (fe 8 L a cd).kindOf x = some .local := by
    intro x hx
    simp only [List.mem_cons, List.not_mem_nil, or_false] at hx
    rcases hx with rfl | rfl | rfl | rfl | rfl | rfl | rfl | rfl <;> rfl
  have hu : A.units + 100 < cLine := by have := o.units; omega
  have n2 : ∀ (x : Str) (U M : List PyData), x ≠ "unexpected" → x ≠ "missing" → ∀ q ∈ ([("unexpected", U), ("missing", M)] : Owns), q.1 ≠ x := by
    intro x U M h1 h2 q hq
    simp only [List.mem_cons, List.not_mem_nil, or_false] at hq
    rcases hq with rfl | rfl
    · exact fun h => h1 h.symm
    · exact fun h => h2 h.symm
  have n0 : ∀ n : Str, ∀ q ∈ ([] : Owns), q.1 ≠ n := fun _ _ h => nomatch h
  refine exsl_go (ex_assign_two (i := 0) e ev_int (.inl (loc _ (by simp))) (.inl (loc _ (by simp))) (n0 _) (n0 _)).l ?_
  refine exsl_go (ex_assign_own (ds := []) e (evf_listS evs_nil rfl) rfl (.inl (loc _ (by simp))) (n0 _) rfl).l ?_
  refine exsl_go (ex_assign_own (ds := []) e (evf_listS evs_nil rfl) rfl (.inl (loc _ (by simp))) (fun q h => by simp only [List.mem_cons, List.not_mem_nil, or_false] at h; subst h; decide) rfl).l ?_
  refine exsl_go (exl_while_inv (σ := Q8) (os' := [("unexpected", sl FU), ("missing", sl FM)]) (G' := [])
    (fun q => [("unexpected", sl q.U), ("missing", sl q.M)]) (fun q => [("j", .int ((2 * q.l : Nat) : Int)), ("i", .int ((2 * q.k : Nat) : Int)), ("expected", .list (sl (dbl X))), ("actual", .list (sl (dbl Y)))])
    (fun q => q.k ≤ X.length ∧ q.l ≤ Y.length ∧ q.M.length ≤ q.k ∧ q.U.length ≤ q.l ∧ q.M ++ (mg (X.drop q.k) (Y.drop q.l)).1 = FM ∧ q.U ++ (mg (X.drop q.k) (Y.drop q.l)).2 = FU) (fun q => (X.length - q.k) + (Y.length - q.l))
    (fun q _ => tst_plain ev_bool tr_bool) ?_ ⟨0, 0, [], []⟩ (by simp [hF])) ?_
  · rintro ⟨k, l, M, U⟩ ⟨hk, hl, hM, hU, hm1, hm2⟩
    dsimp only at hk hl hM hU hm1 hm2 ⊢
    by_cases hk1 : k = X.length
    · right
      subst hk1
      rw [List.drop_length, mg_nil_l] at hm1 hm2
      dsimp only at hm1 hm2
      refine exsl_brk (exl_try u e (exsx_x (exx_assign (evr_item (i := 2 * X.length) o (ev_name e rfl) (ev_name e rfl) (by rw [sl, List.length_map, dbl_len]; omega) (by omega)))) (fun ex => ?_) rfl)
      have := handler8 (prog := prog) (w := w) (A' := A.mark (some (.ref ex))) (X := X) (Y := Y) (M := M) (U := U) (k := X.length) (l := l) (G := [("j", .int ((2 * l : Nat) : Int)), ("i", .int ((2 * X.length : Nat) : Int)), ("expected", .list (sl (dbl X))), ("actual", .list (sl (dbl Y)))]) e hX hY (by omega) (by omega) rfl rfl rfl rfl
      rw [List.drop_length] at this
      rw [← hm1, ← hm2]
      exact this
    · have hkX : k < X.length := by omega
      have hx : X[k]? = some X[k] := List.getElem?_eq_getElem hkX
      have okx : PyData.strOk X[k] = true := oX _ (List.getElem_mem hkX)
      by_cases hl1 : l = Y.length
      · right
        subst hl1
        rw [List.drop_length, mg_nil_r] at hm1 hm2
        dsimp only at hm1 hm2
        refine exsl_brk (exl_try u e (exsx_go (ex_assign (d := .str X[k]) e (evx_nl (ev_item_list (i := 2 * k) (ev_name e rfl) (ev_name e rfl) (sl_get (dbl_get0 X hx)) (by omega))) (.inl (loc _ (by simp))) (n2 _ _ _ (by decide) (by decide))) (exsx_x (exx_assign (evr_item (i := 2 * Y.length) o (ev_name e rfl) (ev_name e rfl) (by rw [sl, List.length_map, dbl_len]; omega) (by omega))))) (fun ex => ?_) rfl)
        have := handler8 (prog := prog) (w := w) (A' := A.mark (some (.ref ex))) (X := X) (Y := Y) (M := M) (U := U) (k := k) (l := Y.length) (G := [("e", .str X[k]), ("j", .int ((2 * Y.length : Nat) : Int)), ("i", .int ((2 * k : Nat) : Int)), ("expected", .list (sl (dbl X))), ("actual", .list (sl (dbl Y)))]) e hX hY (by omega) (by omega) rfl rfl rfl rfl
        rw [List.drop_length] at this
        rw [← hm1, ← hm2]
        exact this
      · have hlY : l < Y.length := by omega
        have hy : Y[l]? = some Y[l] := List.getElem?_eq_getElem hlY
        have oky : PyData.strOk Y[l] = true := oY _ (List.getElem_mem hlY)
        generalize hxe : X[k] = x at hx okx
        generalize hye : Y[l] = y at hy oky
        have hmg : mg (X.drop k) (Y.drop l) = if x.cps.toList < y.cps.toList then (x :: (mg (X.drop (k + 1)) (Y.drop l)).1, (mg (X.drop (k + 1)) (Y.drop l)).2)
            else if y.cps.toList < x.cps.toList then ((mg (X.drop k) (Y.drop (l + 1))).1, y :: (mg (X.drop k) (Y.drop (l + 1))).2) else mg (X.drop (k + 1)) (Y.drop (l + 1)) := by
          have e1 : X.drop k = x :: X.drop (k + 1) := by rw [drop_at hkX, hxe]
          have e2 : Y.drop l = y :: Y.drop (l + 1) := by rw [drop_at hlY, hye]
          rw [e1, e2, mg]
        have os8 : ∀ (U M : List Str) (p q r : Str), p ≠ "unexpected" → p ≠ "missing" → q ≠ "unexpected" → q ≠ "missing" → r ≠ "unexpected" → r ≠ "missing" → ∀ o ∈ O8 U M, o.1 ≠ p ∧ o.1 ≠ q ∧ o.1 ≠ r := fun U M p q r a1 a2 a3 a4 a5 a6 o ho => ⟨no8 p U M a1 a2 o ho, no8 q U M a3 a4 o ho, no8 r U M a5 a6 o ho⟩
        by_cases hlt : x.cps.toList < y.cps.toList
        · rw [hmg, if_pos hlt] at hm1 hm2
          dsimp only at hm1 hm2
          by_cases hk2 : k + 1 < X.length
          · left
            refine ⟨⟨k + 1, l, M ++ [x], U⟩, by dsimp only; omega, ⟨by dsimp only; omega, hl, by simp; omega, hU, by simpa using hm1, hm2⟩, ?_⟩
            refine exs_go (ex_try (pre8 e hx hy (by omega) (by omega) (exs_go (ex_if_t (Tst.as (tst_cmp (ev_name e rfl) (ev_name e rfl) o_lts) (by simp [hlt])) (exs_go (ex_swapped (ex_append_s e (ev_name e rfl) (by omega) (by decide) _)) (exs_go (ex_aug e rfl rfl ev_int iadd_n rfl (.inl rfl) (no8 _ _ _ (by decide) (by decide))) (exs_go (skip_go e hu oX hX hx hk2 (dX k x hx) rfl rfl rfl (by decide) (by decide) (os8 _ _ _ _ _ (by decide) (by decide) (by decide) (by decide) (by decide) (by decide)) (.inl rfl) rfl rfl rfl) exs_nil)))) exs_nil))) (exs_nil.weaken ?_)
            exact wk_add rfl (wk_add rfl (wk_add rfl (wk_add rfl wk_nil)))
          · right
            have hkl : k + 1 = X.length := by omega
            refine exsl_brk (exl_try u e (pre8x e hx hy (by omega) (by omega) (exsx_x (exx_if_t (Tst.as (tst_cmp (ev_name e rfl) (ev_name e rfl) o_lts) (by simp [hlt])) (exsx_go (ex_swapped (ex_append_s e (ev_name e rfl) (by omega) (by decide) _)) (exsx_go (ex_aug e rfl rfl ev_int iadd_n rfl (.inl rfl) (no8 _ _ _ (by decide) (by decide))) (exsx_x (skip_x (n := n + 1) o u e oX hX hx hkl rfl rfl rfl (by decide) (by decide) (os8 _ _ _ _ _ (by decide) (by decide) (by decide) (by decide) (by decide) (by decide)) (.inl rfl) rfl rfl rfl))))))) (fun ex => ?_) rfl)
            have := handler8 (prog := prog) (w := w) (A' := A.mark (some (.ref ex))) (X := X) (Y := Y) (M := M ++ [x]) (U := U) (k := k + 1) (l := l) (G := ("i", .int ((2 * (k + 1) : Nat) : Int)) :: ("i", .int ((2 * k + 1 : Nat) : Int)) :: ("a", .str y) :: ("e", .str x) :: G0q X Y k l) e hX hY (by simp; omega) (by omega) rfl rfl rfl rfl
            rw [List.drop_eq_nil_of_le (by omega : X.length ≤ k + 1)] at this hm1 hm2
            rw [mg_nil_l] at hm1 hm2
            rw [← hm1, ← hm2]
            have e0 : M ++ [x] ++ dbl [] = M ++ [x] := by simp [dbl]
            rw [e0] at this
            exact this
        · by_cases hgt : y.cps.toList < x.cps.toList
          · rw [hmg, if_neg hlt, if_pos hgt] at hm1 hm2
            dsimp only at hm1 hm2
            by_cases hl2 : l + 1 < Y.length
            · left
              refine ⟨⟨k, l + 1, M, U ++ [y]⟩, by dsimp only; omega, ⟨hk, by dsimp only; omega, hM, by simp; omega, hm1, by simpa using hm2⟩, ?_⟩
              refine exs_go (ex_try (pre8 e hx hy (by omega) (by omega) (exs_go (ex_if_f (Tst.as (tst_cmp (ev_name e rfl) (ev_name e rfl) o_lts) (by simp [hlt])) (exs_go (ex_if_t (Tst.as (tst_cmp (ev_name e rfl) (ev_name e rfl) o_gts) (by simp [hgt])) (exs_go (ex_append_s e (ev_name e rfl) (by omega) (by decide) _) (exs_go (ex_aug e rfl rfl ev_int iadd_n rfl (.inl rfl) (no8 _ _ _ (by decide) (by decide))) (exs_go (skip_go e hu oY hY hy hl2 (dY l y hy) rfl rfl rfl (by decide) (by decide) (os8 _ _ _ _ _ (by decide) (by decide) (by decide) (by decide) (by decide) (by decide)) (.inl rfl) rfl rfl rfl) exs_nil)))) exs_nil)) exs_nil))) (exs_nil.weaken ?_)
              exact wk_add rfl (wk_add rfl (wk_add rfl (wk_add rfl wk_nil)))
            · right
              have hll : l + 1 = Y.length := by omega
              refine exsl_brk (exl_try u e (pre8x e hx hy (by omega) (by omega) (exsx_x (exx_if_f (Tst.as (tst_cmp (ev_name e rfl) (ev_name e rfl) o_lts) (by simp [hlt])) (exsx_x (exx_if_t (Tst.as (tst_cmp (ev_name e rfl) (ev_name e rfl) o_gts) (by simp [hgt])) (exsx_go (ex_append_s e (ev_name e rfl) (by omega) (by decide) _) (exsx_go (ex_aug e rfl rfl ev_int iadd_n rfl (.inl rfl) (no8 _ _ _ (by decide) (by decide))) (exsx_x (skip_x (n := n + 1) o u e oY hY hy hll rfl rfl rfl (by decide) (by decide) (os8 _ _ _ _ _ (by decide) (by decide) (by decide) (by decide) (by decide) (by decide)) (.inl rfl) rfl rfl rfl))))))))) (fun ex => ?_) rfl)
              have := handler8 (prog := prog) (w := w) (A' := A.mark (some (.ref ex))) (X := X) (Y := Y) (M := M) (U := U ++ [y]) (k := k) (l := l + 1) (G := ("j", .int ((2 * (l + 1) : Nat) : Int)) :: ("j", .int ((2 * l + 1 : Nat) : Int)) :: ("a", .str y) :: ("e", .str x) :: G0q X Y k l) e hX hY (by omega) (by simp; omega) rfl rfl rfl rfl
              rw [List.drop_eq_nil_of_le (by omega : Y.length ≤ l + 1)] at this hm1 hm2
              rw [mg_nil_r] at hm1 hm2
              rw [← hm1, ← hm2]
              have e0 : U ++ [y] ++ dbl [] = U ++ [y] := by simp [dbl]
              rw [e0] at this
              exact this
          · have hxy : x = y := cps_eq (lex_tri hlt hgt)
            subst hxy
            rw [hmg, if_neg hlt, if_neg hgt] at hm1 hm2
            by_cases hk2 : k + 1 < X.length
            · by_cases hl2 : l + 1 < Y.length
              · left
                refine ⟨⟨k + 1, l + 1, M, U⟩, by dsimp only; omega, ⟨by dsimp only; omega, by dsimp only; omega, by dsimp only; omega, by dsimp only; omega, hm1, hm2⟩, ?_⟩
                refine exs_go (ex_try (pre8 e hx hy (by omega) (by omega) (exs_go (ex_if_f (Tst.as (tst_cmp (ev_name e rfl) (ev_name e rfl) o_lts) (by simp [hlt])) (exs_go (ex_if_f (Tst.as (tst_cmp (ev_name e rfl) (ev_name e rfl) o_gts) (by simp [hgt])) (exs_go (ex_aug e rfl rfl ev_int iadd_n rfl (.inl rfl) (no8 _ _ _ (by decide) (by decide))) (exs_go (ex_fin (exs_go (skip_go e hu oX hX hx hk2 (dX k x hx) rfl rfl rfl (by decide) (by decide) (os8 _ _ _ _ _ (by decide) (by decide) (by decide) (by decide) (by decide) (by decide)) (.inl rfl) rfl rfl rfl) exs_nil)
                  (exs_go (ex_aug e rfl rfl ev_int iadd_n rfl (.inl rfl) (no8 _ _ _ (by decide) (by decide))) (exs_go (skip_go e hu oY hY hy hl2 (dY l x hy) rfl rfl rfl (by decide) (by decide) (os8 _ _ _ _ _ (by decide) (by decide) (by decide) (by decide) (by decide) (by decide)) (.inl rfl) rfl rfl rfl) exs_nil))) exs_nil))) exs_nil)) exs_nil))) (exs_nil.weaken ?_)
                exact wk_add rfl (wk_add rfl (wk_add rfl (wk_add rfl wk_nil)))
              · right
                have hll : l + 1 = Y.length := by omega
                refine exsl_brk (exl_try u e (pre8x e hx hy (by omega) (by omega) (exsx_x (exx_if_f (Tst.as (tst_cmp (ev_name e rfl) (ev_name e rfl) o_lts) (by simp [hlt])) (exsx_x (exx_if_f (Tst.as (tst_cmp (ev_name e rfl) (ev_name e rfl) o_gts) (by simp [hgt])) (exsx_go (ex_aug e rfl rfl ev_int iadd_n rfl (.inl rfl) (no8 _ _ _ (by decide) (by decide))) (exsx_x (exx_fin_late u (exs_go (skip_go e hu oX hX hx hk2 (dX k x hx) rfl rfl rfl (by decide) (by decide) (os8 _ _ _ _ _ (by decide) (by decide) (by decide) (by decide) (by decide) (by decide)) (.inl rfl) rfl rfl rfl) exs_nil)
                  (exsx_go (ex_aug e rfl rfl ev_int iadd_n rfl (.inl rfl) (no8 _ _ _ (by decide) (by decide))) (exsx_x (skip_x (n := n + 1) o u e oY hY hy hll rfl rfl rfl (by decide) (by decide) (os8 _ _ _ _ _ (by decide) (by decide) (by decide) (by decide) (by decide) (by decide)) (.inl rfl) rfl rfl rfl)))))))))) ) (fun ex => ?_) rfl)
                have := handler8 (prog := prog) (w := w) (A' := A.mark (some (.ref ex))) (X := X) (Y := Y) (M := M) (U := U) (k := k + 1) (l := l + 1) (G := ("j", .int ((2 * (l + 1) : Nat) : Int)) :: ("j", .int ((2 * l + 1 : Nat) : Int)) :: ("i", .int ((2 * (k + 1) : Nat) : Int)) :: ("i", .int ((2 * k + 1 : Nat) : Int)) :: ("a", .str x) :: ("e", .str x) :: G0q X Y k l) e hX hY (by omega) (by omega) rfl rfl rfl rfl
                rw [List.drop_eq_nil_of_le (by omega : Y.length ≤ l + 1)] at this hm1 hm2
                rw [mg_nil_r] at hm1 hm2
                rw [← hm1, ← hm2]
                exact this
            · have hkl : k + 1 = X.length := by omega
              by_cases hl2 : l + 1 < Y.length
              · right
                have hum : ∀ ex : Addr, (A.mark (some (.ref ex))).units + 100 < cLine := fun _ => hu
                refine exsl_brk (exl_try u e (pre8x e hx hy (by omega) (by omega) (exsx_x (exx_if_f (Tst.as (tst_cmp (ev_name e rfl) (ev_name e rfl) o_lts) (by simp [hlt])) (exsx_x (exx_if_f (Tst.as (tst_cmp (ev_name e rfl) (ev_name e rfl) o_gts) (by simp [hgt])) (exsx_go (ex_aug e rfl rfl ev_int iadd_n rfl (.inl rfl) (no8 _ _ _ (by decide) (by decide))) (exsx_x (exx_fin u (exsx_x (skip_x (n := n + 1) o u e oX hX hx hkl rfl rfl rfl (by decide) (by decide) (os8 _ _ _ _ _ (by decide) (by decide) (by decide) (by decide) (by decide) (by decide)) (.inl rfl) rfl rfl rfl))
                  (fun ex => exs_go (ex_aug e rfl rfl ev_int iadd_n rfl (.inl rfl) (no8 _ _ _ (by decide) (by decide))) (exs_go (skip_go e (hum ex) oY hY hy hl2 (dY l x hy) rfl rfl rfl (by decide) (by decide) (os8 _ _ _ _ _ (by decide) (by decide) (by decide) (by decide) (by decide) (by decide)) (.inl rfl) rfl rfl rfl) exs_nil))))))))) ) (fun ex => ?_) rfl)
                have := handler8 (prog := prog) (w := w) (A' := A.mark (some (.ref ex))) (X := X) (Y := Y) (M := M) (U := U) (k := k + 1) (l := l + 1) (G := ("j", .int ((2 * (l + 1) : Nat) : Int)) :: ("j", .int ((2 * l + 1 : Nat) : Int)) :: ("i", .int ((2 * (k + 1) : Nat) : Int)) :: ("i", .int ((2 * k + 1 : Nat) : Int)) :: ("a", .str x) :: ("e", .str x) :: G0q X Y k l) e hX hY (by omega) (by omega) rfl rfl rfl rfl
                rw [List.drop_eq_nil_of_le (by omega : X.length ≤ k + 1)] at this hm1 hm2
                rw [mg_nil_l] at hm1 hm2
                rw [← hm1, ← hm2]
                exact this
              · exfalso
                refine hlast x ?_ ?_
                · rw [show X.length - 1 = k by omega]; exact hx
                · rw [show Y.length - 1 = l by omega]; exact hy
  · exact Exs.l (exs_unown (exs_unown (exs_ret (ex_return (ev_tupleS (evs_cons (ev_name e rfl) (evs_cons (ev_name e rfl) evs_nil)))))))
end
end Mine
end

section
open PySem PySem.W PyProof.Rows
set_option linter.all false
set_option maxRecDepth 100000
namespace Mine

section
variable {prog : Program} {w : World}
/-- sorted_list_difference, called from a frame of its own name -/
theorem sld_fn {n : Nat} {X Y FM FU : List Str} {A : Around} {envl : Env} {Ll a : Addr} {vs : List Value} {s : Shared} {E : Value → Shared → Prop} (o : Ok (n + 3) A) (hfr : A.frames = some [envl]) (hfl : envl.frame = some Ll) (hkl : envl.scope.kind = .function) (low : Low Ll s)
    (hX : X.length ≤ 100) (hY : Y.length ≤ 100) (oX : ∀ x ∈ X, PyData.strOk x = true) (oY : ∀ x ∈ Y, PyData.strOk x = true)
    (dX : ∀ i x, X[i]? = some x → X[i + 1]? ≠ some x) (dY : ∀ i x, Y[i]? = some x → Y[i + 1]? ≠ some x) (hlast : ∀ x, X[X.length - 1]? = some x → Y[Y.length - 1]? = some x → False)
    (hF : mg X Y = (FM, FU)) (f : IsFn s.heap a 8) (r : RdA s.heap vs [.list (sl (dbl X)), .list (sl (dbl Y))]) :
    wpAny (model prog w) A (call (.ref a) vs) (fun v s' => Rd s'.heap v (.tuple [.list (sl FM), .list (sl FU)]) ∧ ∃ s₀', Sl Ll s s₀' ∧ Keeps s₀' s') E s := by
  have b : Base s.heap := low.base s .refl
  obtain ⟨ob, pm, code, doc, e1, e2, e3⟩ := f
  have hvl : vs.length = 2 := r.len
  refine wpAny_call (codeAny_call_straight o.d e1 e2 b.nolim e3 rfl (binds := (["expected", "actual"] : List Str).zip vs) ?_ (show ∀ x ∈ (fs 8).names, x.2 ≠ .cell by decide) (fun x hx => ?_) (fun s₁ h₁ => ?_) rfl rfl rfl)
  · match vs, hvl with
    | [a, b], _ => rfl
  · have := (List.of_mem_zip hx).1
    simp only [List.mem_cons, List.not_mem_nil, or_false] at this
    rcases this with h | h <;> rw [h] <;> rfl
  have o' : Ok (n + 2) (A.deeper (fe 8 s.heap.objs.size a code)) := o.deeper _
  have u : Und (A.deeper (fe 8 s.heap.objs.size a code)) (fe 8 s.heap.objs.size a code) envl s.heap.objs.size Ll := ⟨by rw [Around.frames_deeper hfr], rfl, rfl, rfl, hfl, hkl⟩
  refine loop8 (prog := prog) (w := w) (L := s.heap.objs.size) (a := a) (Ll := Ll) (cd := code) o' u ⟨rfl, rfl, rfl⟩ hX hY oX oY dX dY hlast hF (fun _ => none) s s₁ _ _ rfl low ?_ ?_
  · refine ⟨b, List.nodup_nil, (fun x => ((["expected", "actual"] : List Str).zip vs).reverse.lookup x), fun _ => none, fun _ => 0, ⟨h₁, (fun n c h => nomatch h), List.Pairwise.nil, (fun n c h => nomatch h)⟩, List.nodup_nil, (fun _ _ e => nomatch e), ?_, (fun _ h => nomatch h)⟩
    intro y d' hy
    obtain ⟨v, hv, rv⟩ := r.lookup (ns := ["expected", "actual"]) rfl hy
    obtain ⟨as, q1, q2, q3⟩ := rv
    have hin : y ∈ (["expected", "actual"] : List Str) := by
      simp only [List.lookup_cons] at hy
      split at hy
      · rename_i q; simp [beq_iff_eq.mp q]
      · split at hy
        · rename_i q; simp [beq_iff_eq.mp q]
        · cases hy
    have e : ((["expected", "actual"] : List Str).zip vs).reverse.lookup y = some v := by
      have hnd : (((["expected", "actual"] : List Str).zip vs).map (·.1)).Nodup := by rw [List.map_fst_zip (by simp; omega)]; decide
      rw [PySem.lookup_reverse_of_nodup _ hnd]; exact hv
    have hkd : (fe 8 s.heap.objs.size a code).kindOf y = some .local := by
      simp only [List.mem_cons, List.not_mem_nil, or_false] at hin
      rcases hin with rfl | rfl <;> rfl
    exact ⟨v, .inl ⟨hkd, e⟩, ⟨as, Reads.keeps h₁.keep q1, q2.gr h₁.keep, q3, fun _ _ h => nomatch h⟩⟩
  · intro s₀' sl v s' rv k
    exact ⟨rv, s₀', sl, k⟩
end
end Mine
end

section
open PySem PySem.W PyProof.Rows
set_option linter.all false
set_option maxRecDepth 100000
namespace Mine

abbrev cl (x : Str) : List Nat := x.cps.toList
theorem cl_inj {x y : Str} (h : cl x = cl y) : x = y := Str.ext' (Array.toList_inj.mp h)
theorem cl_app (x y : Str) : cl (x ++ y) = cl x ++ cl y := by simp [cl, Str.cps_append]
theorem cl_len (x : Str) : x.length = (cl x).length := by simp [cl, Str.length]
theorem dot_eq : ("." : Str) = ⟨#[46]⟩ := by decide +kernel
theorem cl_dot : cl ("." : Str) = [46] := by decide +kernel
theorem cl_local : cl ("local" : Str) = [108, 111, 99, 97, 108] := by decide +kernel

/-- texts with dots between them -/
def J : List (List Nat) → List Nat
  | [] => []
  | [p] => p
  | p :: q :: r => p ++ 46 :: J (q :: r)
theorem J_cons {p : List Nat} {r : List (List Nat)} (h : r ≠ []) : J (p :: r) = p ++ 46 :: J r := by
  cases r with
  | nil => exact absurd rfl h
  | cons q r => rfl
theorem cl_join : ∀ ps : List Str, cl (Txt.join ("." : Str) ps) = J (ps.map cl) := by
  have : ∀ ps : List Str, cl (Str.join ("." : Str) ps) = J (ps.map cl) := by
    intro ps
    induction ps with
    | nil => rfl
    | cons p r ih =>
      cases r with
      | nil => rfl
      | cons q r =>
        show cl (p ++ "." ++ Str.join ("." : Str) (q :: r)) = _
        rw [cl_app, cl_app, ih, cl_dot]
        simp [J, List.append_assoc]
  intro ps
  show cl (Builtin.Str.glued _ _) = _
  rw [StrLaws.glued_eq_join]; exact this ps
theorem split46 {p q r s : List Nat} (hp : 46 ∉ p) (hq : 46 ∉ q) (h : p ++ 46 :: r = q ++ 46 :: s) : p = q ∧ r = s := by
  induction p generalizing q with
  | nil =>
    cases q with
    | nil => simpa using h
    | cons b q => simp at h; simp [← h.1] at hq
  | cons a p ih =>
    cases q with
    | nil => simp at h; simp [h.1] at hp
    | cons b q =>
      simp at h
      obtain ⟨rfl, h2⟩ := h
      obtain ⟨rfl, rfl⟩ := ih (fun m => hp (List.mem_cons_of_mem _ m)) (fun m => hq (List.mem_cons_of_mem _ m)) h2
      exact ⟨rfl, rfl⟩
theorem J_inj : ∀ {ps qs : List (List Nat)}, (∀ p ∈ ps, 46 ∉ p) → (∀ p ∈ qs, 46 ∉ p) → ps ≠ [] → qs ≠ [] → J ps = J qs → ps = qs
  | [], _, _, _, h, _, _ => absurd rfl h
  | _, [], _, _, _, h, _ => absurd rfl h
  | [p], [q], _, _, _, _, h => by rw [show p = q from h]
  | [p], q :: r :: qs, h1, _, _, _, h => by
    exfalso
    apply h1 p (.head _)
    rw [show p = q ++ 46 :: J (r :: qs) from h]
    simp
  | p :: r :: ps, [q], _, h2, _, _, h => by
    exfalso
    apply h2 q (.head _)
    rw [show q = p ++ 46 :: J (r :: ps) from h.symm]
    simp
  | p :: p' :: ps, q :: q' :: qs, h1, h2, _, _, h => by
    obtain ⟨rfl, e⟩ := split46 (h1 p (.head _)) (h2 q (.head _)) (show p ++ 46 :: J (p' :: ps) = q ++ 46 :: J (q' :: qs) from h)
    rw [J_inj (fun x m => h1 x (.tail _ m)) (fun x m => h2 x (.tail _ m)) (by simp) (by simp) e]
theorem J_cut : ∀ u : List Nat, ∃ us : List (List Nat), us ≠ [] ∧ (∀ p ∈ us, 46 ∉ p) ∧ J us = u
  | [] => ⟨[[]], by simp, by simp, rfl⟩
  | c :: u => by
    obtain ⟨us, h1, h2, h3⟩ := J_cut u
    by_cases hc : c = 46
    · subst hc
      refine ⟨[] :: us, by simp, ?_, ?_⟩
      · intro p hp
        rcases List.mem_cons.mp hp with rfl | hp
        · simp
        · exact h2 p hp
      · rw [J_cons h1, h3]; rfl
    · cases us with
      | nil => exact absurd rfl h1
      | cons p us =>
        refine ⟨(c :: p) :: us, by simp, ?_, ?_⟩
        · intro q hq
          rcases List.mem_cons.mp hq with rfl | hq
          · intro m
            rcases List.mem_cons.mp m with h | m
            · exact hc h.symm
            · exact h2 p (.head _) m
          · exact h2 q (.tail _ hq)
        · cases us with
          | nil => rw [← h3]; rfl
          | cons q us => rw [← h3]; rfl
theorem J_app : ∀ {us qs : List (List Nat)}, us ≠ [] → qs ≠ [] → J (us ++ qs) = J us ++ 46 :: J qs
  | [], _, h, _ => absurd rfl h
  | [u], qs, _, h => by rw [List.singleton_append, J_cons h]; rfl
  | u :: v :: us, qs, _, h => by
    show J (u :: (v :: us ++ qs)) = _
    rw [J_cons (by simp), J_app (us := v :: us) (by simp) h, show J (u :: v :: us) = u ++ 46 :: J (v :: us) from rfl]
    simp [List.append_assoc]
/-- a text's tail after a dot -/
theorem J_tail {ps qs : List (List Nat)} (h1 : ∀ p ∈ ps, 46 ∉ p) (h2 : ∀ p ∈ qs, 46 ∉ p) (hp : ps ≠ []) (hq : qs ≠ []) : (46 :: J qs) <:+ J ps ↔ ∃ us, us ≠ [] ∧ ps = us ++ qs := by
  constructor
  · rintro ⟨u, hu⟩
    obtain ⟨us, a, b, c⟩ := J_cut u
    refine ⟨us, a, J_inj h1 ?_ hp (by simp [hq]) ?_⟩
    · intro p hp
      rcases List.mem_append.mp hp with h | h
      · exact b p h
      · exact h2 p h
    · rw [J_app a hq, c]; exact hu.symm
  · rintro ⟨us, a, rfl⟩
    rw [J_app a hq]
    exact ⟨J us, rfl⟩

/-- the text's methods by their signs -/
theorem split_join {ps : List Str} (h : ∀ p ∈ ps, 46 ∉ cl p) (hp : ps ≠ []) : Txt.split (Txt.join ("." : Str) ps) ("." : Str) = ps := by
  have e := StrLaws.join_split (Txt.join ("." : Str) ps) ("." : Str)
  have e2 : cl (Str.join ("." : Str) (Txt.split (Txt.join ("." : Str) ps) ("." : Str))) = J ((Txt.split (Txt.join ("." : Str) ps) ("." : Str)).map cl) := by
    have := cl_join (Txt.split (Txt.join ("." : Str) ps) ("." : Str))
    rwa [show Txt.join ("." : Str) (Txt.split (Txt.join ("." : Str) ps) ("." : Str)) = Str.join ("." : Str) (Txt.split (Txt.join ("." : Str) ps) ("." : Str)) from StrLaws.glued_eq_join _ _] at this
  rw [e, cl_join] at e2
  have hne : Txt.split (Txt.join ("." : Str) ps) ("." : Str) ≠ [] := by
    unfold Txt.split
    split
    · simp
    · split
      · simp
      · rw [ne_eq, ← List.length_eq_zero_iff, PySem.length_partsBetween]; omega
  have fr : ∀ p ∈ (Txt.split (Txt.join ("." : Str) ps) ("." : Str)).map cl, 46 ∉ p := by
    intro p hp
    obtain ⟨q, hq, rfl⟩ := List.mem_map.mp hp
    rw [dot_eq] at hq
    exact StrLaws.split_free _ 46 q hq
  have := J_inj fr (fun p hp => by obtain ⟨q, hq, rfl⟩ := List.mem_map.mp hp; exact h q hq) (by simpa using hne) (by simpa using hp) e2.symm
  exact (List.map_inj_right (fun x y h => cl_inj h)).mp this
end Mine
end

section
open PySem PySem.W PyProof.Rows
set_option linter.all false
set_option maxRecDepth 100000
namespace Mine

/-- the signs of a host -/
def Gd (x : Str) : Prop := ∀ c ∈ cl x, c ∈ [46, 48, 49, 97, 98, 99, 108, 111]
theorem gd_lt {c : Nat} (h : c ∈ [46, 48, 49, 97, 98, 99, 108, 111]) : c < 128 := by
  simp only [List.mem_cons, List.not_mem_nil, or_false] at h
  omega
theorem gd_fix {c : Nat} (h : c ∈ [46, 48, 49, 97, 98, 99, 108, 111]) : lo1 (up1 c) = c ∧ lo1 c = c ∧ up1 c < 128 := by
  simp only [List.mem_cons, List.not_mem_nil, or_false] at h
  rcases h with rfl | rfl | rfl | rfl | rfl | rfl | rfl | rfl <;> decide
theorem Gd.ok {x : Str} (h : Gd x) : PyData.strOk x = true := by
  unfold PyData.strOk
  rw [Array.all_eq_true_iff_forall_mem]
  intro c hc
  have := gd_lt (h c (by simpa [cl] using hc))
  simp; omega
theorem map_id_cps {x : Str} {f : Nat → Nat} (h : ∀ c ∈ cl x, f c = c) : (⟨x.cps.map f⟩ : Str) = x := by
  apply cl_inj
  show (x.cps.map f).toList = x.cps.toList
  rw [Array.toList_map]
  conv => rhs; rw [← List.map_id x.cps.toList]
  exact List.map_congr_left h
theorem Gd.lower {x : Str} (h : Gd x) : Txt.lower x = x := by
  rw [lower_ascii fun c hc => gd_lt (h c hc)]
  exact map_id_cps fun c hc => (gd_fix (h c hc)).2.1
theorem Gd.lowup {x : Str} (h : Gd x) : Txt.lower (Txt.upper x) = x := by
  have e := upper_ascii (x := x) fun c hc => gd_lt (h c hc)
  have hA : ∀ c ∈ (Txt.upper x).cps.toList, c < 128 := by
    intro c hc
    rw [e] at hc
    simp only [Array.toList_map, List.mem_map] at hc
    obtain ⟨d, hd, rfl⟩ := hc
    exact (gd_fix (h d hd)).2.2
  rw [lower_ascii hA, e]
  apply cl_inj
  show ((x.cps.map up1).map lo1).toList = x.cps.toList
  rw [Array.toList_map, Array.toList_map, List.map_map]
  conv => rhs; rw [← List.map_id x.cps.toList]
  exact List.map_congr_left fun c hc => (gd_fix (h c hc)).1
theorem Gd.up_len {x : Str} (h : Gd x) : (Txt.upper x).length = x.length := by
  rw [upper_ascii fun c hc => gd_lt (h c hc)]; simp [Str.length]
theorem Gd.app {x y : Str} (h : Gd x) (k : Gd y) : Gd (x ++ y) := fun c hc => by
  rw [cl_app] at hc
  rcases List.mem_append.mp hc with hc | hc
  · exact h c hc
  · exact k c hc
theorem gd_J : ∀ ps : List (List Nat), (∀ p ∈ ps, ∀ c ∈ p, c ∈ [46, 48, 49, 97, 98, 99, 108, 111]) → ∀ c ∈ J ps, c ∈ [46, 48, 49, 97, 98, 99, 108, 111]
  | [], _, c, hc => nomatch hc
  | [p], h, c, hc => h p (.head _) c hc
  | p :: q :: r, h, c, hc => by
    rw [J_cons (by simp)] at hc
    rcases List.mem_append.mp hc with hc | hc
    · exact h p (.head _) c hc
    · rcases List.mem_cons.mp hc with rfl | hc
      · simp
      · exact gd_J (q :: r) (fun p hp => h p (.tail _ hp)) c hc
theorem tl_ok {n : Nat} (h : n ≤ 1000) : Builtin.Str.tooLong n = false := by
  unfold Builtin.Str.tooLong
  have := sizeLine_eq
  simp; omega

/-- find, slice, starts, ends, item by signs -/
theorem at_dot {x : Str} {hi i : Nat} (hh : hi = x.length) : StrLaws.At x ("." : Str) hi i ↔ (cl x)[i]? = some 46 := by
  subst hh
  unfold StrLaws.At
  rw [StrLaws.subAt_eq, show (Str.ofString ".").cps.toList = [46] from cl_dot]
  have e1 : (Str.ofString ".").length = 1 := by decide +kernel
  rw [e1, beq_iff_eq]
  constructor
  · rintro ⟨a, b⟩
    have := congrArg (fun l => l[0]?) b
    simpa [List.getElem?_drop] using this
  · intro h
    obtain ⟨hi, e⟩ := List.getElem?_eq_some_iff.mp h
    refine ⟨by rw [cl_len]; omega, ?_⟩
    rw [List.drop_eq_getElem_cons hi, e]; rfl
theorem find_no {x : Str} (h : 46 ∉ cl x) : Txt.find x ("." : Str) = -1 := by
  unfold Txt.find
  rcases StrLaws.occ_head x ("." : Str) 1 (Nat.le_refl _) with ⟨e, _⟩ | ⟨i, r, e, a, _⟩
  · rw [e]
  · exfalso
    exact h (List.mem_of_getElem? ((at_dot rfl).mp a))
theorem find_at {x : Str} {p r : List Nat} (hp : 46 ∉ p) (h : cl x = p ++ 46 :: r) : Txt.find x ("." : Str) = p.length := by
  unfold Txt.find
  have hg : (cl x)[p.length]? = some 46 := by rw [h]; simp
  rcases StrLaws.occ_head x ("." : Str) 1 (Nat.le_refl _) with ⟨e, n⟩ | ⟨i, r', e, a, b⟩
  · exact absurd ((at_dot rfl).mpr hg) (n _)
  · rw [e]
    have ha := (at_dot rfl).mp a
    have h1 : ¬ p.length < i := fun q => b _ q ((at_dot rfl).mpr hg)
    have h2 : ¬ i < p.length := fun q => by
      rw [h, List.getElem?_append_left q] at ha
      exact hp (List.mem_of_getElem? ha)
    have : i = p.length := by omega
    rw [this]
theorem slice_cl {x : Str} {k : Nat} (h : k ≤ x.length) : cl (Txt.slice x (some (k : Int)) none) = (cl x).drop k := by
  rw [slice_from_eq (x := x) (i := (k : Int)) (b := (x.length : Int)) (by omega) (by omega) rfl]
  show (((x.cps.toList.drop ((k : Int)).toNat).take ((x.length : Int) - k).toNat).toArray).toList = _
  rw [List.toList_toArray, show ((k : Int)).toNat = k by omega, List.take_of_length_le]
  have := cl_len x
  simp only [List.length_drop]
  show (cl x).length - k ≤ _
  omega
theorem ends_iff {x y : Str} : Txt.endswith x y = true ↔ cl y <:+ cl x := by
  unfold Txt.endswith
  rw [Bool.and_eq_true, StrLaws.subAt_eq, decide_eq_true_eq, beq_iff_eq, Nat.zero_add, cl_len x, cl_len y]
  constructor
  · rintro ⟨a, b⟩
    rw [List.take_of_length_le (by simp only [List.length_drop]; show (cl x).length - _ ≤ _; omega)] at b
    exact ⟨(cl x).take ((cl x).length - (cl y).length), by
      show _ ++ y.cps.toList = _
      rw [← b]; exact List.take_append_drop _ _⟩
  · rintro ⟨u, hu⟩
    have hl := congrArg List.length hu
    rw [List.length_append] at hl
    refine ⟨by omega, ?_⟩
    show ((cl x).drop _).take _ = cl y
    rw [← hu, List.drop_append, show (u ++ cl y).length - (cl y).length = u.length by simp]
    simp
    exact List.take_of_length_le (by simp [cl])
theorem starts_dot {x : Str} : Txt.startswith x ("." : Str) = true ↔ (cl x)[0]? = some 46 := by
  unfold Txt.startswith
  have := at_dot (x := x) (hi := x.length) (i := 0) rfl
  rw [← this]
  unfold StrLaws.At
  simp
theorem item_0 {x : Str} {c : Nat} (h : (cl x)[0]? = some c) : Txt.item x 0 = ⟨#[c]⟩ := by
  have hl : 0 < x.length := by rw [cl_len]; exact (List.getElem?_eq_some_iff.mp h).1
  unfold Txt.item Txt.charAt seqIndex?
  have hx : x.cps[0]? = some c := by simpa [cl] using h
  simp [hl, hx]
theorem item_last {x : Str} {c : Nat} (h : (cl x).getLast? = some c) : Txt.item x (-1) = ⟨#[c]⟩ := by
  have hne : cl x ≠ [] := by rintro e; rw [e] at h; cases h
  have hl : 0 < x.length := by rw [cl_len]; exact List.length_pos_iff.mpr hne
  have hx : x.cps[x.length - 1]? = some c := by
    rw [List.getLast?_eq_getElem?] at h
    simpa [cl, Str.length] using h
  unfold Txt.item Txt.charAt
  have : seqIndex? (-1) x.length = some (x.length - 1) := by
    unfold seqIndex?
    simp; omega
  rw [this]
  simp [hx]
theorem one_dot {c : Nat} : ((⟨#[c]⟩ : Str) == ("." : Str)) = (c == 46) := by
  rw [dot_eq, Bool.eq_iff_iff, beq_iff_eq, beq_iff_eq]
  constructor
  · intro h; have := congrArg (fun s : Str => s.cps) h; simpa using this
  · rintro rfl; rfl

/-- ends in no digit, nor a line's end -/
theorem ip_no {x : Str} {c : Nat} (hz : x.length ≤ 1000) (h : (cl x).getLast? = some c) (h1 : Sre.isDigit c = false) (h2 : c ≠ 10) : Ip x false := by
  refine ⟨hz, .inr ⟨rfl, fun q q1 q2 hd ha => ?_⟩⟩
  have hx : x.cps.getD (x.cps.size - 1) 0 = c := by
    rw [List.getLast?_eq_getElem?] at h
    have : x.cps[x.cps.size - 1]? = some c := by simpa [cl] using h
    rw [Array.getD_eq_getD_getElem?, this]; rfl
  rcases ha with ha | ⟨ha, hb⟩
  · rw [ha, hx, h1] at hd; cases hd
  · rw [show x.cps.size - 1 = q by omega] at hx
    rw [hx] at hb; exact h2 hb
theorem ip_yes {x : Str} {u : List Nat} (hz : x.length ≤ 1000) (h : cl x = u ++ [46, 49, 48]) : Ip x true := by
  have hl : x.cps.size = u.length + 3 := by
    have := congrArg List.length h
    simpa [cl] using this
  have g : ∀ j, x.cps.getD j 0 = (cl x).getD j 0 := by
    intro j
    simp [Array.getD_eq_getD_getElem?, List.getD_eq_getElem?_getD, cl]
  refine ⟨hz, .inl ⟨rfl, u.length, by omega, ?_, ?_, ?_⟩⟩
  · rw [g, h]; simp
  · rw [g, h]; simp [Sre.isDigit]
  · rw [g, h]; simp [Sre.isDigit]
end Mine
end

section
open PySem PySem.W PyProof.Rows
set_option linter.all false
set_option maxRecDepth 100000
namespace Mine

abbrev loc5 : Str := "local"
abbrev dt : Str := "."
/-- ten labels -/
structure Lb (Ls : List Str) : Prop where
  len : Ls.length = 10
  mem : ∀ l ∈ Ls, l = "b" ∨ l = "0b" ∨ l = "10b"
def rg (Ls : List Str) (k : Nat) : Str := Txt.join dt (Ls.drop k ++ [loc5])
def lens (Ls : List Str) : List Int := Ls.map fun l => (l.length : Int)

theorem cl_b : cl ("b" : Str) = [98] := by decide +kernel
theorem cl_0b : cl ("0b" : Str) = [48, 98] := by decide +kernel
theorem cl_10b : cl ("10b" : Str) = [49, 48, 98] := by decide +kernel
theorem lab_cl {l : Str} (h : l = "b" ∨ l = "0b" ∨ l = "10b") : cl l = [98] ∨ cl l = [48, 98] ∨ cl l = [49, 48, 98] := by
  rcases h with rfl | rfl | rfl
  · exact .inl cl_b
  · exact .inr (.inl cl_0b)
  · exact .inr (.inr cl_10b)
theorem lab_dot {l : Str} (h : l = "b" ∨ l = "0b" ∨ l = "10b") : 46 ∉ cl l := by rcases lab_cl h with e | e | e <;> rw [e] <;> decide
theorem lab_gd {l : Str} (h : l = "b" ∨ l = "0b" ∨ l = "10b") : ∀ c ∈ cl l, c ∈ [46, 48, 49, 97, 98, 99, 108, 111] := by rcases lab_cl h with e | e | e <;> rw [e] <;> decide
theorem lab_len {l : Str} (h : l = "b" ∨ l = "0b" ∨ l = "10b") : 1 ≤ (cl l).length ∧ (cl l).length ≤ 3 := by rcases lab_cl h with e | e | e <;> rw [e] <;> decide
theorem lab_last {l : Str} (h : l = "b" ∨ l = "0b" ∨ l = "10b") : (cl l).getLast? = some 98 := by rcases lab_cl h with e | e | e <;> rw [e] <;> rfl
theorem lab_inj {l m : Str} (h : l = "b" ∨ l = "0b" ∨ l = "10b") (k : m = "b" ∨ m = "0b" ∨ m = "10b") (e : l.length = m.length) : l = m := by
  rw [cl_len, cl_len] at e
  apply cl_inj
  rcases lab_cl h with a | a | a <;> rcases lab_cl k with b | b | b <;> rw [a, b] at e ⊢ <;> simp at e
theorem loc_gd : ∀ c ∈ cl loc5, c ∈ [46, 48, 49, 97, 98, 99, 108, 111] := by rw [cl_local]; decide
theorem loc_dot : 46 ∉ cl loc5 := by rw [cl_local]; decide
theorem dt_gd : Gd dt := by unfold Gd; rw [cl_dot]; decide

section
variable {Ls : List Str} (hL : Lb Ls)
/-- all of a row's parts -/
theorem parts_dot {ms : List Str} (hm : ∀ l ∈ ms, l = "b" ∨ l = "0b" ∨ l = "10b") : ∀ p ∈ (ms ++ [loc5]).map cl, 46 ∉ p := by
  intro p hp
  obtain ⟨q, hq, rfl⟩ := List.mem_map.mp hp
  rcases List.mem_append.mp hq with h | h
  · exact lab_dot (hm q h)
  · rw [List.mem_singleton.mp h]; exact loc_dot
theorem parts_dot' {ms : List Str} (hm : ∀ l ∈ ms, l = "b" ∨ l = "0b" ∨ l = "10b") : ∀ p ∈ ms ++ [loc5], 46 ∉ cl p := fun p hp => parts_dot hm _ (List.mem_map.mpr ⟨p, hp, rfl⟩)
theorem parts_gd {ms : List Str} (hm : ∀ l ∈ ms, l = "b" ∨ l = "0b" ∨ l = "10b") : Gd (Txt.join dt (ms ++ [loc5])) := by
  unfold Gd
  rw [cl_join]
  apply gd_J
  intro p hp c hc
  obtain ⟨q, hq, rfl⟩ := List.mem_map.mp hp
  rcases List.mem_append.mp hq with h | h
  · exact lab_gd (hm q h) c hc
  · rw [List.mem_singleton.mp h] at hc; exact loc_gd c hc
theorem labs_gd {ms : List Str} (hm : ∀ l ∈ ms, l = "b" ∨ l = "0b" ∨ l = "10b") : Gd (Txt.join dt ms) := by
  unfold Gd
  rw [cl_join]
  apply gd_J
  intro p hp c hc
  obtain ⟨q, hq, rfl⟩ := List.mem_map.mp hp
  exact lab_gd (hm q hq) c hc
theorem J_len {B : Nat} : ∀ ps : List (List Nat), (∀ p ∈ ps, p.length ≤ B) → (J ps).length ≤ ps.length * (B + 1)
  | [], _ => Nat.zero_le _
  | [p], h => by have := h p (.head _); simp [J]; omega
  | p :: q :: r, h => by
    have h1 := h p (.head _)
    have h2 := J_len (q :: r) fun x hx => h x (.tail _ hx)
    rw [J_cons (by simp), List.length_append, List.length_cons, List.length_cons, Nat.succ_mul]
    omega
theorem labs_len {ms : List Str} (hm : ∀ l ∈ ms, l = "b" ∨ l = "0b" ∨ l = "10b") (hl : ms.length ≤ 10) : (Txt.join dt ms).length ≤ 100 := by
  rw [cl_len, cl_join]
  have := J_len (B := 5) (ms.map cl) ?_
  · rw [List.length_map] at this; omega
  · intro p hp
    obtain ⟨q, hq, rfl⟩ := List.mem_map.mp hp
    have := lab_len (hm q hq); omega
theorem parts_len {ms : List Str} (hm : ∀ l ∈ ms, l = "b" ∨ l = "0b" ∨ l = "10b") (hl : ms.length ≤ 10) : (Txt.join dt (ms ++ [loc5])).length ≤ 100 := by
  rw [cl_len, cl_join]
  have := J_len (B := 5) ((ms ++ [loc5]).map cl) ?_
  · rw [List.length_map, List.length_append, List.length_singleton] at this; omega
  · intro p hp
    obtain ⟨q, hq, rfl⟩ := List.mem_map.mp hp
    rcases List.mem_append.mp hq with h | h
    · have := lab_len (hm q h); omega
    · rw [List.mem_singleton.mp h, cl_local]; simp
theorem J_end : ∀ (ps : List (List Nat)) (q : List Nat), ∃ u, J (ps ++ [q]) = u ++ q
  | [], q => ⟨[], rfl⟩
  | p :: ps, q => by
    obtain ⟨u, hu⟩ := J_end ps q
    rw [List.cons_append, J_cons (by simp), hu]
    exact ⟨p ++ 46 :: u, by simp⟩
theorem parts_end (ms : List Str) : ∃ u, cl (Txt.join dt (ms ++ [loc5])) = u ++ cl loc5 := by
  rw [cl_join, List.map_append]
  exact J_end _ _
theorem parts_last (ms : List Str) : (cl (Txt.join dt (ms ++ [loc5]))).getLast? = some 108 := by
  obtain ⟨u, hu⟩ := parts_end ms
  rw [hu, cl_local]; simp
theorem foldl_le (sep : Str) : ∀ (ts : List Str) (a : Nat), (∀ t ∈ ts, t.length ≤ 5) → ts.foldl (fun n t => n + t.length + sep.length) a ≤ a + ts.length * (5 + sep.length)
  | [], a, _ => by simp
  | t :: ts, a, h => by
    rw [List.foldl_cons]
    have := foldl_le sep ts (a + t.length + sep.length) fun x hx => h x (.tail _ hx)
    have h1 := h t (.head _)
    rw [List.length_cons, Nat.succ_mul]
    omega
theorem join_ok {ts : List Str} (h : ∀ t ∈ ts, t.length ≤ 5) (hl : ts.length ≤ 11) : JoinOk dt ts = true := by
  unfold JoinOk
  rw [Bool.not_eq_true']
  apply tl_ok
  have := foldl_le dt ts 0 h
  have e : (dt : Str).length = 1 := by decide +kernel
  rw [e] at this
  simp only [List.foldl_toArray]
  have h2 : ts.length * (5 + 1) ≤ 66 := by omega
  rw [e]
  omega
theorem parts5 {ms : List Str} (hm : ∀ l ∈ ms, l = "b" ∨ l = "0b" ∨ l = "10b") : ∀ t ∈ ms ++ [loc5], t.length ≤ 5 := by
  intro t ht
  rcases List.mem_append.mp ht with h | h
  · have := lab_len (hm t h); rw [cl_len]; omega
  · rw [List.mem_singleton.mp h, cl_len, cl_local]; simp

include hL
theorem dmem (k : Nat) : ∀ l ∈ Ls.drop k, l = "b" ∨ l = "0b" ∨ l = "10b" := fun l h => hL.mem l (List.mem_of_mem_drop h)
theorem tmem (k : Nat) : ∀ l ∈ Ls.take k, l = "b" ∨ l = "0b" ∨ l = "10b" := fun l h => hL.mem l (List.mem_of_mem_take h)
theorem rg_gd (k : Nat) : Gd (rg Ls k) := parts_gd (dmem hL k)
theorem rg_len (k : Nat) : (rg Ls k).length ≤ 100 := parts_len (dmem hL k) (by rw [List.length_drop]; have := hL.len; omega)
theorem rg_ip (k : Nat) : Ip (rg Ls k) false := ip_no (by have := rg_len hL k; omega) (parts_last _) (by decide) (by decide)
theorem rg_cons {k : Nat} (hk : k < 10) : cl (rg Ls k) = cl (Ls[k]'(by have := hL.len; omega)) ++ 46 :: cl (rg Ls (k + 1)) := by
  unfold rg
  rw [cl_join, cl_join, List.drop_eq_getElem_cons (by have := hL.len; omega), List.cons_append, List.map_cons, J_cons (by simp)]
theorem rg_10 : rg Ls 10 = loc5 := by
  unfold rg
  rw [List.drop_eq_nil_of_le (by have := hL.len; omega)]
  apply cl_inj
  rw [List.nil_append, cl_join]; rfl
theorem dot_rg (k : Nat) : cl (dt ++ rg Ls k) = 46 :: cl (rg Ls k) := by rw [cl_app, cl_dot]; rfl
theorem rg_first (k : Nat) : ∃ c, (cl (rg Ls k))[0]? = some c ∧ c ≠ 46 := by
  by_cases hk : k < 10
  · rw [rg_cons hL hk]
    have hm := hL.mem (Ls[k]'(by have := hL.len; omega)) (List.getElem_mem _)
    rcases lab_cl hm with e | e | e <;> rw [e]
    · exact ⟨98, rfl, by decide⟩
    · exact ⟨48, rfl, by decide⟩
    · exact ⟨49, rfl, by decide⟩
  · unfold rg
    rw [List.drop_eq_nil_of_le (by have := hL.len; omega), List.nil_append, cl_join]
    exact ⟨108, by show (cl loc5)[0]? = _; rw [cl_local]; rfl, by decide⟩
theorem rg_find {k : Nat} (hk : k < 10) : Txt.find (rg Ls k) dt = ((cl (Ls[k]'(by have := hL.len; omega))).length : Nat) := find_at (lab_dot (hL.mem _ (List.getElem_mem _))) (rg_cons hL hk)
theorem rg_slice {k : Nat} (hk : k < 10) : Txt.slice (rg Ls k) (some (Txt.find (rg Ls k) dt + 1)) none = rg Ls (k + 1) := by
  rw [rg_find hL hk]
  have e : (((cl (Ls[k]'(by have := hL.len; omega))).length : Nat) : Int) + 1 = (((cl (Ls[k]'(by have := hL.len; omega))).length + 1 : Nat) : Int) := by push_cast; rfl
  rw [e]
  apply cl_inj
  rw [slice_cl (by rw [cl_len, rg_cons hL hk]; simp), rg_cons hL hk, List.drop_append, List.drop_eq_nil_of_le (by omega), show (cl (Ls[k]'(by have := hL.len; omega))).length + 1 - (cl (Ls[k]'(by have := hL.len; omega))).length = 1 by omega]
  rfl
theorem rg_hdn (k : Nat) : hdn false (rg Ls k) = true := by
  obtain ⟨c, h1, h2⟩ := rg_first hL k
  unfold hdn
  have e0 : (rg Ls k == ("" : Str)) = false := by
    rw [beq_eq_false_iff_ne]
    intro e
    rw [e] at h1
    have : cl ("" : Str) = [] := by decide +kernel
    rw [this] at h1; cases h1
  rw [e0, item_0 h1, item_last (x := rg Ls k) (parts_last _), one_dot, one_dot]
  simp [h2]
theorem rg_reach {k : Nat} (hk : k < 10) : reachF false (rg Ls k) = dt ++ rg Ls (k + 1) := by
  unfold reachF
  rw [rg_slice hL hk, rg_hdn hL k]
  have h1 : decide (0 ≤ Txt.find (rg Ls k) dt) = true := by rw [rg_find hL hk]; simp
  have h2 : (decide (0 ≤ Txt.find (rg Ls (k + 1)) dt) || rg Ls (k + 1) == loc5) = true := by
    by_cases hk2 : k + 1 < 10
    · rw [rg_find hL hk2]; simp
    · have : k + 1 = 10 := by omega
      rw [this, rg_10 hL]; simp
  rw [h1, h2]; rfl
theorem rg_cut (k : Nat) : Txt.slice (dt ++ rg Ls k) (some 1) none = rg Ls k := by
  apply cl_inj
  have := slice_cl (x := dt ++ rg Ls k) (k := 1) (by rw [cl_len, dot_rg hL]; simp)
  rw [show ((1 : Nat) : Int) = 1 from rfl] at this
  rw [this, dot_rg hL]; rfl
theorem rg_split (k : Nat) : Txt.split (rg Ls k) dt = Ls.drop k ++ [loc5] := split_join (parts_dot' (dmem hL k)) (by simp)
theorem rg_inj {k j : Nat} (hk : k ≤ 10) (hj : j ≤ 10) (h : rg Ls k = rg Ls j) : k = j := by
  have e := congrArg (fun x => (Txt.split x dt).length) h
  simp only [rg_split hL, List.length_append, List.length_drop, hL.len] at e
  omega
end
end Mine
end

section
open PySem PySem.W PyProof.Rows
set_option linter.all false
set_option maxRecDepth 100000
namespace Mine

def udl (ba bb : Bool) (a b : Str) : Bool :=
  if (!(!ba && !bb)) = true then a == b
  else if (Txt.startswith b dt && Txt.endswith a b) = true then true
  else !(Txt.startswith b dt) && a == b
abbrev ten : Str := ".10"
theorem cl_ten : cl ten = [46, 49, 48] := by decide +kernel
theorem ten_gd : Gd ten := by unfold Gd; rw [cl_ten]; decide
theorem gd_slice {x : Str} (g : Gd x) {i : Int} (h0 : 0 ≤ i) (h1 : i ≤ x.length) : Gd (Txt.slice x (some i) none) := by
  obtain ⟨k, rfl⟩ := Int.eq_ofNat_of_zero_le h0
  intro c hc
  rw [slice_cl (by omega)] at hc
  exact g c (List.mem_of_mem_drop hc)

section
variable {prog : Program} {w : World}
theorem reach_c {x : Str} {b : Bool} (hx : Ip x b) (g : Gd x) (hz : x.length ≤ 1000) : FnC prog w 6 4 [.str x] (.str (reachF b x)) := by
  refine reach_fn hx g.ok (Gd.ok (gd_slice g ?_ ?_)) hz
  · rcases fact_find x dt with h | ⟨h, _⟩
    · rw [show Txt.find x dt = -1 from h]; decide
    · have h' : 0 ≤ Txt.find x (Str.ofString ".") := h
      omega
  · rcases fact_find x dt with h | ⟨_, h⟩
    · rw [show Txt.find x dt = -1 from h]; omega
    · have e : (dt : Str).length = 1 := by decide +kernel
      rw [e] at h
      have h' : Txt.find x dt + 1 ≤ x.length := h
      exact h'
theorem udm_c {x y a b : Str} {ba bb : Bool} (ex : Txt.lower x = a) (ey : Txt.lower y = b) (ga : Gd a) (gb : Gd b) (ia : Ip a ba) (ib : Ip b bb) : FnC prog w 5 3 [.str x, .str y] (.bool (udl ba bb a b)) := by
  subst ex ey
  exact udm_fn ia ib ga.ok gb.ok (tl_ok ia.1) (tl_ok ib.1)
end

section
variable {Ls : List Str} (hL : Lb Ls)
abbrev hld1 (Ls : List Str) : Str := ((Ls.getD 0 dt ++ dt) ++ Ls.getD 1 dt) ++ loc5
abbrev hld2 (Ls : List Str) : Str := rg Ls 0 ++ dt
abbrev hld3 (Ls : List Str) : Str := rg Ls 0 ++ ten
include hL
theorem l0 : Ls.getD 0 dt = "b" ∨ Ls.getD 0 dt = "0b" ∨ Ls.getD 0 dt = "10b" := by
  have h : 0 < Ls.length := by have := hL.len; omega
  rw [List.getD_eq_getElem?_getD, List.getElem?_eq_getElem h]; exact hL.mem _ (List.getElem_mem h)
theorem l1 : Ls.getD 1 dt = "b" ∨ Ls.getD 1 dt = "0b" ∨ Ls.getD 1 dt = "10b" := by
  have h : 1 < Ls.length := by have := hL.len; omega
  rw [List.getD_eq_getElem?_getD, List.getElem?_eq_getElem h]; exact hL.mem _ (List.getElem_mem h)
theorem cl_h1 : cl (hld1 Ls) = cl (Ls.getD 0 dt) ++ 46 :: (cl (Ls.getD 1 dt) ++ cl loc5) := by
  rw [cl_app, cl_app, cl_app, cl_dot]; simp
theorem gd_lab {l : Str} (h : l = "b" ∨ l = "0b" ∨ l = "10b") : Gd l := lab_gd h
theorem h1_gd : Gd (hld1 Ls) := (((gd_lab hL (l0 hL)).app dt_gd).app (gd_lab hL (l1 hL))).app loc_gd
theorem h1_len : (hld1 Ls).length ≤ 20 := by
  rw [cl_len, cl_h1 hL]
  have a := lab_len (l0 hL)
  have b := lab_len (l1 hL)
  rw [cl_local]
  simp only [List.length_append, List.length_cons, List.length_nil]
  omega
theorem h1_ip : Ip (hld1 Ls) false := ip_no (c := 108) (by have := h1_len hL; omega) (by rw [cl_h1 hL, cl_local, List.getLast?_append, List.getLast?_cons, List.getLast?_append]; rfl) (by decide) (by decide)
theorem h1_reach : reachF false (hld1 Ls) = hld1 Ls := by
  have ef : Txt.find (hld1 Ls) dt = ((cl (Ls.getD 0 dt)).length : Nat) := find_at (lab_dot (l0 hL)) (cl_h1 hL)
  have es : cl (Txt.slice (hld1 Ls) (some (Txt.find (hld1 Ls) dt + 1)) none) = cl (Ls.getD 1 dt) ++ cl loc5 := by
    rw [ef, show (((cl (Ls.getD 0 dt)).length : Nat) : Int) + 1 = (((cl (Ls.getD 0 dt)).length + 1 : Nat) : Int) by push_cast; rfl]
    rw [slice_cl (by rw [cl_len, cl_h1 hL]; simp), cl_h1 hL, List.drop_append, List.drop_eq_nil_of_le (by omega), show (cl (Ls.getD 0 dt)).length + 1 - (cl (Ls.getD 0 dt)).length = 1 by omega]
    rfl
  have e2 : Txt.find (Txt.slice (hld1 Ls) (some (Txt.find (hld1 Ls) dt + 1)) none) dt = -1 := find_no (by rw [es]; intro h; rcases List.mem_append.mp h with h | h; exact lab_dot (l1 hL) h; exact loc_dot h)
  have e3 : (Txt.slice (hld1 Ls) (some (Txt.find (hld1 Ls) dt + 1)) none == loc5) = false := by
    rw [beq_eq_false_iff_ne]
    intro e
    rw [e] at es
    have := congrArg List.length es
    have b := lab_len (l1 hL)
    rw [List.length_append] at this; omega
  unfold reachF
  rw [e2, e3]
  simp
theorem cl_h2 : cl (hld2 Ls) = cl (rg Ls 0) ++ [46] := by rw [cl_app, cl_dot]
theorem h2_gd : Gd (hld2 Ls) := (rg_gd hL 0).app dt_gd
theorem h2_len : (hld2 Ls).length ≤ 110 := by
  have := rg_len hL 0
  rw [cl_len] at this
  rw [cl_len, cl_h2 hL]; simp only [List.length_append, List.length_cons, List.length_nil]; omega
theorem h2_ip : Ip (hld2 Ls) false := ip_no (c := 46) (by have := h2_len hL; omega) (by rw [cl_h2 hL]; simp) (by decide) (by decide)
theorem h2_reach : reachF false (hld2 Ls) = hld2 Ls := by
  have : hdn false (hld2 Ls) = false := by
    unfold hdn
    rw [item_last (x := hld2 Ls) (c := 46) (by rw [cl_h2 hL]; simp), one_dot]
    simp
  unfold reachF
  rw [this]; simp
theorem cl_h3 : cl (hld3 Ls) = cl (rg Ls 0) ++ [46, 49, 48] := by rw [cl_app, cl_ten]
theorem h3_gd : Gd (hld3 Ls) := (rg_gd hL 0).app ten_gd
theorem h3_len : (hld3 Ls).length ≤ 110 := by
  have := rg_len hL 0
  rw [cl_len] at this
  rw [cl_len, cl_h3 hL]; simp only [List.length_append, List.length_cons, List.length_nil]; omega
theorem h3_ip : Ip (hld3 Ls) true := ip_yes (by have := h3_len hL; omega) (cl_h3 hL)
theorem h3_reach : reachF true (hld3 Ls) = hld3 Ls := by
  unfold reachF hdn
  simp
omit hL in
theorem loc_ip : Ip loc5 false := ip_no (c := 108) (by rw [cl_len, cl_local]; decide) (by rw [cl_local]; rfl) (by decide) (by decide)
omit hL in
theorem loc_reach : reachF false loc5 = loc5 := by
  unfold reachF
  rw [find_no loc_dot]; simp

theorem rg_starts (k : Nat) : Txt.startswith (rg Ls k) dt = false := by
  obtain ⟨c, h1, h2⟩ := rg_first hL k
  rw [Bool.eq_false_iff]
  intro h
  rw [starts_dot.mp h] at h1
  exact h2 (Option.some.inj h1).symm
theorem lens_inj {ms ns : List Str} (hm : ∀ l ∈ ms, l = "b" ∨ l = "0b" ∨ l = "10b") (hn : ∀ l ∈ ns, l = "b" ∨ l = "0b" ∨ l = "10b") (h : lens ms = lens ns) : ms = ns := by
  induction ms generalizing ns with
  | nil => cases ns with | nil => rfl | cons _ _ => simp [lens] at h
  | cons m ms ih =>
    cases ns with
    | nil => simp [lens] at h
    | cons n ns =>
      simp only [lens, List.map_cons, List.cons.injEq] at h
      rw [lab_inj (hm m (.head _)) (hn n (.head _)) (by omega), ih (fun l h => hm l (.tail _ h)) (fun l h => hn l (.tail _ h)) h.2]
theorem udl_cut {k : Nat} (h1 : 1 ≤ k) (h2 : k ≤ 10) : udl false false (rg Ls 0) (dt ++ Txt.join dt (Ls.take (10 - k) ++ [loc5])) = decide (lens (Ls.drop k) = (lens Ls).take (10 - k)) := by
  have ecl : cl (dt ++ Txt.join dt (Ls.take (10 - k) ++ [loc5])) = 46 :: J ((Ls.take (10 - k) ++ [loc5]).map cl) := by rw [cl_app, cl_dot, cl_join]; rfl
  have hs : Txt.startswith (dt ++ Txt.join dt (Ls.take (10 - k) ++ [loc5])) dt = true := starts_dot.mpr (by rw [ecl]; rfl)
  have he : Txt.endswith (rg Ls 0) (dt ++ Txt.join dt (Ls.take (10 - k) ++ [loc5])) = decide (lens (Ls.drop k) = (lens Ls).take (10 - k)) := by
    rw [Bool.eq_iff_iff, decide_eq_true_eq, ends_iff, ecl]
    have e0 : cl (rg Ls 0) = J ((Ls ++ [loc5]).map cl) := by unfold rg; rw [cl_join, List.drop_zero]
    rw [e0, J_tail (parts_dot hL.mem) (parts_dot (tmem hL _)) (by simp) (by simp)]
    have lt : (lens Ls).take (10 - k) = lens (Ls.take (10 - k)) := by unfold lens; rw [List.map_take]
    rw [lt]
    constructor
    · rintro ⟨us, hu, e⟩
      have hl : us.length = k := by
        have := congrArg List.length e
        simp only [List.length_map, List.length_append, List.length_take, List.length_cons, List.length_nil, hL.len] at this
        omega
      have e2 := congrArg (List.drop k) e
      rw [List.drop_append, ← hl, List.drop_length, Nat.sub_self, List.drop_zero, List.nil_append, ← List.map_drop, List.drop_append_of_le_length (by have := hL.len; omega)] at e2
      rw [hl] at e2
      have e3 := (List.map_inj_right (fun x y h => cl_inj h)).mp e2
      rw [List.append_cancel_right e3]
    · intro h
      have e := lens_inj hL (dmem hL k) (tmem hL _) h
      refine ⟨(Ls.take k).map cl, ?_, ?_⟩
      · intro q
        have := congrArg List.length q
        simp only [List.length_map, List.length_take, List.length_nil, hL.len] at this
        omega
      · rw [← e, ← List.map_append, ← List.append_assoc, List.take_append_drop]
  unfold udl
  rw [hs, he]
  cases decide (lens (Ls.drop k) = (lens Ls).take (10 - k)) <;> simp
theorem cut_gd (k : Nat) : Gd (dt ++ Txt.join dt (Ls.take k ++ [loc5])) := dt_gd.app (parts_gd (tmem hL k))
theorem cut_len (k : Nat) : (dt ++ Txt.join dt (Ls.take k ++ [loc5])).length ≤ 110 := by
  have := parts_len (ms := Ls.take k) (tmem hL k) (by rw [List.length_take]; have := hL.len; omega)
  rw [cl_len] at this
  rw [cl_len, cl_app, cl_dot]; simp only [List.length_append, List.length_cons, List.length_nil]; omega
theorem cut_ip (k : Nat) : Ip (dt ++ Txt.join dt (Ls.take k ++ [loc5])) false := ip_no (c := 108) (by have := cut_len hL k; omega) (by
  obtain ⟨u, hu⟩ := parts_end (Ls.take k)
  rw [cl_app, hu, cl_local]; simp) (by decide) (by decide)
/-- the rules -/
def rul (Ls : List Str) : List Str := [rg Ls 0, dt ++ rg Ls 1, dt ++ rg Ls 0, dt ++ Txt.join dt ((Ls.drop 3).take 3)] ++ (List.range 10).map fun k => rg Ls (k + 1)
theorem udl_0 : udl false false (rg Ls 0) (rg Ls 0) = true := by
  unfold udl; rw [rg_starts hL]; simp
theorem udl_1 : udl false false (rg Ls 0) (dt ++ rg Ls 1) = true := by
  have hs : Txt.startswith (dt ++ rg Ls 1) dt = true := starts_dot.mpr (by rw [dot_rg hL]; rfl)
  have he : Txt.endswith (rg Ls 0) (dt ++ rg Ls 1) = true := ends_iff.mpr (by rw [dot_rg hL, rg_cons hL (k := 0) (by omega)]; exact ⟨_, rfl⟩)
  unfold udl; rw [hs, he]; simp
theorem udl_2 : udl false false (rg Ls 0) (dt ++ rg Ls 0) = false := by
  have hs : Txt.startswith (dt ++ rg Ls 0) dt = true := starts_dot.mpr (by rw [dot_rg hL]; rfl)
  have he : Txt.endswith (rg Ls 0) (dt ++ rg Ls 0) = false := by
    rw [Bool.eq_false_iff]; intro h
    have := (ends_iff.mp h).length_le
    rw [dot_rg hL, List.length_cons] at this; omega
  unfold udl; rw [hs, he]; simp
theorem mid_mem : ∀ l ∈ (Ls.drop 3).take 3, l = "b" ∨ l = "0b" ∨ l = "10b" := fun l h => dmem hL 3 l (List.mem_of_mem_take h)
theorem mid_gd : Gd (dt ++ Txt.join dt ((Ls.drop 3).take 3)) := dt_gd.app (labs_gd (mid_mem hL))
theorem mid_len : (dt ++ Txt.join dt ((Ls.drop 3).take 3)).length ≤ 110 := by
  have := labs_len (mid_mem hL) (by rw [List.length_take]; omega)
  rw [cl_len] at this
  rw [cl_len, cl_app, cl_dot]; simp only [List.length_append, List.length_cons, List.length_nil]; omega
theorem J_last : ∀ (ps : List (List Nat)), (∀ p ∈ ps, p.getLast? = some 98) → ps ≠ [] → (J ps).getLast? = some 98
  | [], _, h => absurd rfl h
  | [p], h, _ => h p (.head _)
  | p :: q :: r, h, _ => by
    rw [J_cons (by simp), List.getLast?_append, List.getLast?_cons, J_last (q :: r) (fun x hx => h x (.tail _ hx)) (by simp)]; rfl
theorem mid_last : (cl (dt ++ Txt.join dt ((Ls.drop 3).take 3))).getLast? = some 98 := by
  have : (J (((Ls.drop 3).take 3).map cl)).getLast? = some 98 := J_last hL _ (fun p hp => by
    obtain ⟨q, hq, rfl⟩ := List.mem_map.mp hp
    exact lab_last (mid_mem hL q hq)) (by
      intro h
      have := congrArg List.length h
      simp [hL.len] at this)
  rw [cl_app, cl_dot, cl_join, List.getLast?_append, this]; rfl
theorem mid_ip : Ip (dt ++ Txt.join dt ((Ls.drop 3).take 3)) false := ip_no (by have := mid_len hL; omega) (mid_last hL) (by decide) (by decide)
theorem udl_3 : udl false false (rg Ls 0) (dt ++ Txt.join dt ((Ls.drop 3).take 3)) = false := by
  have hs : Txt.startswith (dt ++ Txt.join dt ((Ls.drop 3).take 3)) dt = true := starts_dot.mpr (by rw [cl_app, cl_dot]; rfl)
  have he : Txt.endswith (rg Ls 0) (dt ++ Txt.join dt ((Ls.drop 3).take 3)) = false := by
    rw [Bool.eq_false_iff]; intro h
    obtain ⟨u, hu⟩ := ends_iff.mp h
    have a : (cl (rg Ls 0)).getLast? = some 108 := parts_last _
    rw [← hu, List.getLast?_append, mid_last hL] at a
    cases a
  unfold udl; rw [hs, he]; simp
theorem udl_r {k : Nat} (h1 : 1 ≤ k) (h2 : k ≤ 10) : udl false false (rg Ls 0) (rg Ls k) = false := by
  have : (rg Ls 0 == rg Ls k) = false := by
    rw [beq_eq_false_iff_ne]; intro e
    have := rg_inj hL (by omega) h2 e; omega
  unfold udl; rw [rg_starts hL, this]; simp
theorem udl_h : udl true true (hld3 Ls) (hld3 Ls) = true := by unfold udl; simp
abbrev lten : Str := ".local.10"
omit hL in
theorem cl_lten : cl lten = [46, 108, 111, 99, 97, 108, 46, 49, 48] := by decide +kernel
omit hL in
theorem lten_gd : Gd lten := by unfold Gd; rw [cl_lten]; decide
omit hL in
theorem lten_ip : Ip lten true := ip_yes (u := [46, 108, 111, 99, 97, 108]) (by rw [cl_len, cl_lten]; decide) (by rw [cl_lten]; rfl)
theorem udl_l : udl true true (hld3 Ls) lten = false := by
  have : (hld3 Ls == lten) = false := by
    rw [beq_eq_false_iff_ne]; intro e
    obtain ⟨c, h1, h2⟩ := rg_first hL 0
    have e2 := congrArg (fun x => (cl x)[0]?) e
    simp only [cl_h3 hL, cl_lten] at e2
    rw [List.getElem?_append_left (List.getElem?_eq_some_iff.mp h1).1, h1] at e2
    simp at e2; exact h2 e2
  unfold udl; rw [this]; rfl
end
end Mine
end

section
open PySem PySem.W PyProof.Rows
set_option linter.all false
set_option maxRecDepth 100000
namespace Mine

def pick (n : Nat) (lo hi st : Option Int) : List Nat := sliceRange (sliceBounds lo hi st n).1 (sliceBounds lo hi st n).2.1 (sliceBounds lo hi st n).2.2
theorem RdA.pick {h : Heap} {vs : List Value} {ds : List PyData} (r : RdA h vs ds) : ∀ idx : List Nat, RdA h (idx.filterMap (vs[·]?)) (idx.filterMap (ds[·]?))
  | [] => .nil
  | i :: idx => by
    rw [List.filterMap_cons, List.filterMap_cons]
    have hl := r.len
    by_cases hi : i < ds.length
    · obtain ⟨v, e, q⟩ := r.get (List.getElem?_eq_getElem hi)
      rw [e, List.getElem?_eq_getElem hi]
      exact .cons q (RdA.pick r idx)
    · rw [List.getElem?_eq_none (by omega), List.getElem?_eq_none (by omega)]
      exact RdA.pick r idx

abbrev le (L a : Addr) (cd : Value) : Env := envOfC (fn 13) (fs 13) L a cd
def st13 (k : Nat) : Stmt := (fb 13).getD k (.Pass default)

section
variable {prog : Program} {w : World} {A : Around} {env : Env} {os : Owns} {G : Gam}
theorem ev_slice_step {value : Expr} {lo : Option Expr} {st : Expr} {p pos : Pos} {ds : List PyData} {l : Option Int} {k : Int} (a : EvV prog w A env G value (fun h v => Ls h v ds)) (pl : Part prog w A env G lo l) (ps : Ev prog w A env G st (.int k)) (hk : k ≠ 0)
    (hz : ds.length ≤ 1000) (hs : ∀ o k, subscripted (.Slice lo none (some st) p) false o k = operate [o, k] (getItem o k) := by intro _ _; rfl) : Ev prog w A env G (.Subscript value (.Slice lo none (some st) p) pos) (.list ((pick ds.length l none (some k)).filterMap (ds[·]?))) := fun s E c => by
  refine Subscript_ (a.use c fun v s1 h k1 => wpAny_Slice (pl.go.use (c.gr (kp_gr k1)) fun vl s2 hl k2 => ?_))
  rw [evalPart_none]
  refine wpAny_pure ((Part.yes ps).go.use ((c.gr (kp_gr k1)).gr (kp_gr k2)) fun vu s3 hu k3 => ?_)
  obtain ⟨b, vs, rfl, il, ra⟩ := (h.gr (kp_gr k2)).gr (kp_gr k3)
  have hl' := ra.len
  refine kba_turn (value' := .Name "a" pos) (fun _ => rfl) (subscriptTail_ops (il.push _).typeIs list_getitem_lookup (wpAny_getItem_list_slice (il.push _) (Heap.IsSliceOf.new ..) hl.is .none hu.is (by simp [hk]) ?_ (by rw [sizeLine_eq]; simp; omega)) (hs _ _) (fun _ => rfl))
  rw [Heap.size_push]
  refine ⟨?_, kp_trans k1 (kp_trans k2 (kp_trans k3 ?_))⟩
  · have e : slicePick vs.toArray l none (some k) = ((pick ds.length l none (some k)).filterMap (vs[·]?)).toArray := by
      unfold slicePick Mine.pick
      simp [hl']
    rw [e]
    refine .list (vs := (pick ds.length l none (some k)).filterMap (vs[·]?)) ⟨0, ?_⟩ ?_
    · have := Heap.get?_push_size (s3.heap.push { cls := .type "slice", data := .fields #[vl, .none, vu] }) (o := { cls := .type "list", data := .seq ((pick ds.length l none (some k)).filterMap (vs[·]?)).toArray }) rfl
      rw [Heap.size_push] at this
      exact this
    · exact (ra.pick _).gr fun b o e => Heap.get?_push_of_some _ (Heap.get?_push_of_some _ e)
  · exact kp_trans kp_push kp_push
theorem pick_ints {n : Nat} {l : Option Int} {k : Int} {xs : List Int} : (pick n l none (some k)).filterMap ((xs.map PyData.int)[·]?) = ((pick n l none (some k)).filterMap (xs[·]?)).map .int := by
  rw [List.map_filterMap]
  congr 1
  funext i
  simp
def isInts : List Expr → List Int → Bool
  | [], [] => true
  | .Constant (.int a) _ _ :: es, n :: ns => a == n && isInts es ns
  | _, _ => false
theorem evs_ints : ∀ {es : List Expr} {ns : List Int}, isInts es ns = true → EvS prog w A env G es (ns.map .int)
  | [], [], _ => evs_nil
  | [], _ :: _, h => by simp [isInts] at h
  | e :: es, [], h => by simp [isInts] at h
  | e :: es, n :: ns, h => by
    unfold isInts at h
    split at h
    · rename_i h1 h2; cases h1
    · rename_i a k p es' n' ns' h1 h2
      cases h1; cases h2
      rw [Bool.and_eq_true, beq_iff_eq] at h
      obtain ⟨rfl, h⟩ := h
      exact evs_cons ev_int (evs_ints h)
    · cases h
theorem star_ints {pos : Pos} : ∀ {es : List Expr} {ns : List Int}, isInts es ns = true → backTo pos (starEach es env) = es.map (fun e => (false, eval e env))
  | [], _, _ => rfl
  | e :: es, [], h => by simp [isInts] at h
  | e :: es, n :: ns, h => by
    unfold isInts at h
    split at h
    · rename_i h1 h2; cases h1
    · rename_i a k p es' n' ns' h1 h2
      cases h1; cases h2
      rw [Bool.and_eq_true] at h
      have ih := star_ints (pos := pos) h.2
      show _ :: backTo pos (starEach es env) = _
      rw [ih]; rfl
    · cases h
/-- the item before the end -/
theorem ev_item_neg {value slice : Expr} {pos : Pos} {ds : List PyData} {d : PyData} (a : Ev prog w A env G value (.list ds)) (b : Ev prog w A env G slice (.int (-1))) (hd : ds.getLast? = some d) (hz : ds.length ≤ 1000)
    (hs : ∀ o k, subscripted slice false o k = operate [o, k] (getItem o k) := by intro _ _; rfl) :
    Ev prog w A env G (.Subscript value slice pos) d := fun s E c =>
  Subscript_ (two (t := fun o i => subscriptTail value slice o i) a b (fun _ _ _ h k => h.gr k) c fun v1 v2 s' h1 h2 k => by
    obtain ⟨l, vs, rfl, p, ra⟩ := h1.list_inv; obtain ⟨u, rfl⟩ := h2.int_inv
    have hl := ra.len
    have hne : 0 < ds.length := by cases ds with | nil => cases hd | cons _ _ => simp
    have hd' : ds[ds.length - 1]? = some d := by rw [← List.getLast?_eq_getElem?]; exact hd
    obtain ⟨v, e, r⟩ := ra.get hd'
    have gi : wpAny (model prog w) A (getItem (.ref l) (.int (-1) u)) (fun v s'' => Rd s''.heap v d ∧ Keeps s s'') E s' := by
      refine wpAny_getItem_list_neg p.isList (by decide) (by simp; omega) (by decide) ?_ ⟨r, k⟩
      have e2 : ((-1 : Int) + (vs.toArray.size : Nat)).toNat = ds.length - 1 := by simp [hl]; omega
      rw [e2]; simpa using e
    exact kba_turn (value' := .Name "a" pos) (fun _ => rfl) (subscriptTail_ops p.isList.typeIs list_getitem_lookup gi (hs _ _) (fun _ => rfl)))
end
end Mine
end

section
open PySem PySem.W PyProof.Rows
set_option linter.all false
set_option maxRecDepth 100000
namespace Mine

def starts : List Int := [9, 1, 0, 0, 1, 2, 2, 1, 0, 2]
/-- the numbers of a script -/
def numOf (xs : List Int) : List Int := (List.range 10).map fun i => starts.getD i 0 + ((pick xs.length (some (i : Int)) none (some 10)).filterMap (xs[·]?)).sum
theorem outcome_all {n : Nat} {f : Nat → PyData} : outcome n (fun _ => true) f = (List.range n).map f := by
  unfold outcome; rw [List.filter_eq_self.mpr (fun _ _ => rfl)]

theorem lookup_names {G : Gam} {x : Str} {d : PyData} (h : G.lookup x = some d) : x ∈ G.map (·.1) := List.mem_map.mpr ⟨_, PySem.mem_of_lookup h, rfl⟩

section
variable {prog : Program} {w : World} {A : Around} {L a : Addr} {cd : Value}
theorem fe13 : FEnv (le L a cd) := ⟨rfl, rfl, rfl⟩
theorem n0 (n : Str) : ∀ q ∈ ([] : Owns), q.1 ≠ n := fun _ h => nomatch h

theorem s13_0 {xs : List Int} (o : Ok 10 A) (hx : xs.length ≤ 63) : Ex prog w A (le L a cd) (st13 0) [] [("script", li xs)] (.go [] [("numbers", li (numOf xs)), ("script", li xs)]) := by
  refine ex_assign fe13 ?_ ?_ (n0 _)
  · refine evx_any (Ev.as (EvF.ev (d := .list (outcome 10 (fun _ => true) fun i => .int (starts.getD i 0 + ((pick xs.length (some (i : Int)) none (some 10)).filterMap (xs[·]?)).sum))) ?_) ?_)
    · refine evf_comp (n := 10) (cl := [("script", L + 1)]) (Gf := [("script", li xs)]) (ds := fun i => [("start", (starts.map PyData.int).getD i .none), ("k", .int i)]) (nm := ["k", "start"]) ?_ (Frees.cons frees_nil rfl rfl rfl (L + 1) rfl rfl) (by decide) (fun C i hi => tsts_nil) (fun C i hi _ => ?_) rfl ?_ ?_ ?_ rfl ?_
      · refine src_enum (x := "k") (y := "start") (ds := starts.map .int) o fe13 ?_ (by decide)
        refine evf_listS (ds := starts.map .int) ?_ ?_ ?_ ?_
        · exact evs_ints rfl
        · rfl
        · exact star_ints (ns := starts) rfl
        · decide
      · refine evf_scal (d := .int _) ?_ rfl
        have hd : (starts.map PyData.int).getD i .none = .int (starts.getD i 0) := by
          have h10 : i < starts.length := hi
          simp [List.getD_eq_getElem?_getD, List.getElem?_eq_getElem h10]
        rw [hd]
        refine ev_bin (ev_name ⟨rfl, rfl, rfl⟩ rfl) ?_ o_add
        refine ev_call1 (R1 := fun h v => Rd h v (.list (((pick xs.length (some (i : Int)) none (some 10)).filterMap (xs[·]?)).map .int))) ⟨rfl, rfl, rfl⟩ (.inl ⟨_, rfl⟩) rfl ?_ (b_sum o)
        refine Ev.as (ev_slice_step (ev_ls (ev_name ⟨rfl, rfl, rfl⟩ rfl)) (.yes (ev_name ⟨rfl, rfl, rfl⟩ rfl)) ev_int (by decide) (by simp; omega)) ?_
        rw [List.length_map, pick_ints]
      · intro i x d h
        have := lookup_names h
        simp only [List.map_cons, List.map_nil, List.mem_cons, List.not_mem_nil, or_false] at this ⊢
        exact this.symm
      · decide
      · decide
      · decide
    · rw [outcome_all, li, numOf, List.map_map]; rfl
  · exact .inr ⟨rfl, _, rfl⟩
end
end Mine
end

section
open PySem PySem.W PyProof.Rows
set_option linter.all false
set_option maxRecDepth 100000
namespace Mine

theorem numOf_len (xs : List Int) : (numOf xs).length = 10 := by simp [numOf]
def n0Of (xs : List Int) : Int := (numOf xs).getD 0 0
def rootOf (xs : List Int) : Int := 2 + ((n0Of xs).fdiv 3).fmod 9
theorem root_bd (xs : List Int) : 2 ≤ rootOf xs ∧ rootOf xs ≤ 10 := by
  unfold rootOf
  have h1 := Int.fmod_nonneg_of_pos ((n0Of xs).fdiv 3) (b := 9) (by decide)
  have h2 := Int.fmod_lt_of_pos ((n0Of xs).fdiv 3) (b := 9) (by decide)
  omega
theorem getN {xs : List Int} {i : Nat} (h : i < xs.length) : (xs.map PyData.int)[i]? = some (.int (xs.getD i 0)) := by
  simp [List.getD_eq_getElem?_getD, List.getElem?_eq_getElem h]
def lb3 : List Str := ["b", "0b", "10b"]
def labOf (xs : List Int) (i : Nat) : Str := lb3.getD (((numOf xs).getD (((i : Nat) : Int).fmod (rootOf xs)).toNat 0).fmod 3).toNat "b"
def labs (xs : List Int) : List Str := (List.range 10).map (labOf xs)
theorem fmod3 (x : Int) : x.fmod 3 = 0 ∨ x.fmod 3 = 1 ∨ x.fmod 3 = 2 := by
  have h1 := Int.fmod_nonneg_of_pos x (b := 3) (by decide)
  have h2 := Int.fmod_lt_of_pos x (b := 3) (by decide)
  omega
theorem labs_lb (xs : List Int) : Lb (labs xs) := by
  refine ⟨by simp [labs], fun l h => ?_⟩
  obtain ⟨i, _, rfl⟩ := List.mem_map.mp h
  unfold labOf
  rcases fmod3 ((numOf xs).getD (((i : Nat) : Int).fmod (rootOf xs)).toNat 0) with e | e | e <;> rw [e]
  · exact .inl rfl
  · exact .inr (.inl rfl)
  · exact .inr (.inr rfl)

section
variable {prog : Program} {w : World} {A : Around} {L a : Addr} {cd : Value}
theorem s13_1 {xs : List Int} : Ex prog w A (le L a cd) (st13 1) [] [("numbers", li (numOf xs)), ("script", li xs)] (.go [] [("root", .int (rootOf xs)), ("numbers", li (numOf xs)), ("script", li xs)]) := by
  refine ex_assign fe13 (evx_nl (d := .int (rootOf xs)) ?_) (.inr ⟨rfl, _, rfl⟩) (n0 _)
  exact ev_bin ev_int (ev_bin (ev_bin (ev_item_list (i := 0) (ev_name fe13 rfl) ev_int (getN (by rw [numOf_len]; decide)) (by decide)) ev_int (o_fdiv (by decide) (by decide))) ev_int (o_mod (by decide))) o_add

theorem s13_2 {xs : List Int} (o : Ok 10 A) : Ex prog w A (le L a cd) (st13 2) [] [("root", .int (rootOf xs)), ("numbers", li (numOf xs)), ("script", li xs)] (.go [] [("labels", .list (sl (labs xs)))]) := by
  refine Ex.weaken (ex_assign fe13 ?_ (.inr ⟨rfl, _, rfl⟩) (n0 _)) (wk_add rfl wk_nil)
  refine evx_any (Ev.as (EvF.ev (d := .list (outcome 10 (fun _ => true) fun i => .str (labOf xs i))) ?_) (by rw [outcome_all, sl, labs, List.map_map]; rfl))
  have hb := root_bd xs
  refine evf_comp (n := 10) (cl := [("root", L + 3), ("numbers", L + 2)]) (Gf := [("numbers", li (numOf xs)), ("root", .int (rootOf xs))]) (ds := fun i => [("k", .int (0 + i))]) (nm := ["k"]) ?_
    (Frees.cons (Frees.cons frees_nil rfl rfl rfl (L + 3) rfl rfl) rfl rfl rfl (L + 2) rfl rfl) (by decide) (fun C i hi => tsts_nil) (fun C i hi _ => ?_) rfl ?_ ?_ ?_ rfl ?_
  · exact src_range (lo := 0) (hi := 10) o (ev_call1 (R1 := fun h v => Rd h v (.int 10)) fe13 (.inr ⟨_, rfl⟩) rfl ev_int b_range1) (by decide) (by decide) (by decide) (by decide)
  · refine evf_scal (d := .str _) ?_ rfl
    have e0 : (0 : Int) + (i : Int) = i := by omega
    rw [e0]
    have h1 := Int.fmod_nonneg_of_pos ((i : Nat) : Int) (b := rootOf xs) (by omega)
    have h2 := Int.fmod_lt_of_pos ((i : Nat) : Int) (b := rootOf xs) (by omega)
    refine ev_item_tuple (ds := sl lb3) (i := ((numOf xs).getD (((i : Nat) : Int).fmod (rootOf xs)).toNat 0).fmod 3) (j := (((numOf xs).getD (((i : Nat) : Int).fmod (rootOf xs)).toNat 0).fmod 3).toNat) ?_ ?_ ?_ ?_ ?_ ?_
    · exact ev_tupleS (evs_cons ev_str (evs_cons ev_str (evs_cons ev_str evs_nil))) (hz := by simp [lb3])
    · exact ev_bin (ev_item_list (i := (((i : Nat) : Int).fmod (rootOf xs)).toNat) (ev_name ⟨rfl, rfl, rfl⟩ rfl) (Ev.as (ev_bin (ev_name ⟨rfl, rfl, rfl⟩ rfl) (ev_name ⟨rfl, rfl, rfl⟩ rfl) (o_mod (by omega))) (by congr 1; omega)) (getN (by rw [numOf_len]; omega)) (by omega)) ev_int (o_mod (by decide))
    · rcases fmod3 ((numOf xs).getD (((i : Nat) : Int).fmod (rootOf xs)).toNat 0) with e | e | e <;> rw [e] <;> rfl
    · unfold labOf
      rcases fmod3 ((numOf xs).getD (((i : Nat) : Int).fmod (rootOf xs)).toNat 0) with e | e | e <;> rw [e] <;> rfl
    · rcases fmod3 ((numOf xs).getD (((i : Nat) : Int).fmod (rootOf xs)).toNat 0) with e | e | e <;> rw [e] <;> decide
    · rcases fmod3 ((numOf xs).getD (((i : Nat) : Int).fmod (rootOf xs)).toNat 0) with e | e | e <;> rw [e] <;> decide
  · intro i x d h
    simpa using lookup_names h
  · decide
  · decide
  · decide

/-- joins of labels and the end -/
theorem ev_join {e : Expr} {env : Env} {G : Gam} {ms : List Str} {kk : Nat} {p ap pos : Pos} (a : Ev prog w A env G e (.list (sl ms))) (hm : JoinOk dt ms = true) (pl : Sem Bool)
    (hs : backTo pos (starEach [e] env) = [(false, eval e env)] := by rfl)
    (he : eval (.Call (.Attribute (.Constant (.str dt) kk p) "join" ap) [e] [] pos) env = (do
      let ov ← eval (.Constant (.str dt) kk p) env
      standAt ap.atName
      let (f, first) ← holding [ov] (getMethod ov "join" pl)
      callWith pos f first (backTo pos (starEach [e] env)) []) := by rfl) : Ev prog w A env G (.Call (.Attribute (.Constant (.str dt) kk p) "join" ap) [e] [] pos) (.str (Txt.join dt ms)) :=
  ev_meth1 (R2 := fun h v => Ls h v (sl ms)) pl ev_str (ev_ls a) (gm_str fun t s Q E h => GM.join h) (m_join hm) hs he

theorem s13_3 {Ls : List Str} (hL : Lb Ls) : Ex prog w A (le L a cd) (st13 3) [] [("labels", .list (sl Ls))] (.go [("rungs", sl ((List.range 1).map (rg Ls)))] [("labels", .list (sl Ls))]) := by
  refine ex_assign_own (ds := sl [rg Ls 0]) fe13 (evf_listS (evs_cons ?_ evs_nil) rfl) rfl (.inr ⟨rfl, _, rfl⟩) (n0 _) rfl
  have e : rg Ls 0 = Txt.join dt (Ls ++ [loc5]) := by unfold rg; rw [List.drop_zero]
  rw [e]
  refine ev_join (ms := Ls ++ [loc5]) (Ev.as (ev_bin (ev_name fe13 rfl) (ev_listS (ds := [.str loc5]) (evs_cons ev_str evs_nil)) (o_addl (by rw [sizeLine_eq]; simp [hL.len]))) ?_) (join_ok (parts5 hL.mem) (by simp [hL.len])) _
  simp [sl]
end
end Mine
end

section
open PySem PySem.W PyProof.Rows
set_option linter.all false
set_option maxRecDepth 100000
set_option maxHeartbeats 1000000
namespace Mine

def RG (Ls : List Str) (n : Nat) : List Str := (List.range n).map (rg Ls)
theorem RG_succ (Ls : List Str) (n : Nat) : RG Ls (n + 1) = RG Ls n ++ [rg Ls n] := by unfold RG; rw [List.range_succ, List.map_append]; rfl
theorem RG_len (Ls : List Str) (n : Nat) : (RG Ls n).length = n := by simp [RG]
theorem RG_get (Ls : List Str) {n k : Nat} (h : k < n) : (RG Ls n)[k]? = some (rg Ls k) := by unfold RG; rw [List.getElem?_map, List.getElem?_range h]; rfl

section
variable {prog : Program} {w : World} {A : Around} {L a : Addr} {cd : Value}
theorem o_nes {n : Nat} {a b : Str} (o : Ok (n + 1) A) (ha : PyData.strOk a = true) (hb : PyData.strOk b = true) : Op2 prog w A (compareOp .NotEq) (.str a) (.str b) (.bool (!(a == b))) := by
  have := o_ne (prog := prog) (w := w) (d := .str a) (e := .str b) o (str_ok ha) (str_ok hb) (by simp [PyData.depth])
  rwa [PyData.eqv] at this
theorem n1 {d : List PyData} (x : Str) (h : x ≠ "rungs") : ∀ q ∈ ([("rungs", d)] : Owns), q.1 ≠ x := by
  intro q hq
  rw [List.mem_singleton.mp hq]
  exact fun e => h e.symm
theorem sl_from {ms : List Str} {k : Nat} : pyslice (sl ms) (some (k : Int)) none = sl (ms.drop k) := by rw [pyslice_from, sl, ← List.map_drop]

theorem s13_4 {Ls : List Str} (hL : Lb Ls) (o : Ok 10 A) : Ex prog w A (le L a cd) (st13 4) [("rungs", sl (RG Ls 1))] [("labels", .list (sl Ls))] (.go [("rungs", sl (RG Ls 11))] [("labels", .list (sl Ls))]) := by
  refine ex_for (n := 10) (m := 10) (osx := fun i => [("rungs", sl (RG Ls (i + 1)))]) (Gx := fun _ => [("labels", .list (sl Ls))]) (lo := 0) (hi := 10) o fe13 rfl (ev_call1 (R1 := fun h v => Rd h v (.int 10)) fe13 (.inr ⟨_, rfl⟩) rfl ev_int b_range1)
    (by decide) (by decide) (by decide) (by decide) rfl (Nat.le_refl _) (fun i => n1 _ (by decide)) ?_ (.inl ⟨rfl, rfl⟩)
  intro i hi
  have e0 : (0 : Int) + (i : Int) = i := by omega
  have hr := reach_c (prog := prog) (w := w) (rg_ip hL i) (rg_gd hL i) (by have := rg_len hL i; omega)
  rw [rg_reach hL hi] at hr
  refine exs_go (ex_assign (d := .str (dt ++ rg Ls (i + 1))) fe13 (evx_nl (ev_f1 fe13 (o.less (by omega)) rfl (by simp) (ev_item_neg (ds := sl (RG Ls (i + 1))) (ev_name fe13 rfl) (ev_un ev_int o_neg) ?_ ?_) hr)) (.inl rfl) (n1 _ (by decide))) ?_
  · rw [RG_succ, sl, List.map_append]; simp
  · simp [sl, RG_len]; omega
  have e2 : rg Ls (i + 1) = Txt.join dt (Ls.drop (i + 1) ++ [loc5]) := rfl
  have okr : PyData.strOk (dt ++ rg Ls (i + 1)) = true := (dt_gd.app (rg_gd hL (i + 1))).ok
  refine exs_ifr (c := false) (Tst.as (tst_cmp (ev_name fe13 rfl) (ev_bin (d2 := .str (rg Ls (i + 1))) ev_str (e2 ▸ ev_join (ms := Ls.drop (i + 1) ++ [loc5]) (Ev.as (ev_bin (ev_slice_list (l := some ((i + 1 : Nat) : Int)) (ev_ls (ev_name fe13 rfl)) (.yes (Ev.as (ev_bin (ev_name fe13 rfl) ev_int o_add) (by congr 1; push_cast; omega))) .no (by simp [hL.len])) (ev_listS (ds := [.str loc5]) (evs_cons ev_str evs_nil)) (o_addl ?_)) ?_) (join_ok (parts5 (dmem hL _)) ?_) _) (o_adds ?_)) (o_nes (n := 9) o okr okr)) (by simp)) (fun h => nomatch h) (fun _ => ?_)
  · have h1 := rg_len hL (i + 1)
    have h2 : (Str.ofString ".").length = 1 := by decide +kernel
    rw [sizeLine_eq, Str.length_append, h2]; omega
  · rw [sl_from, sizeLine_eq, sl, List.length_map, List.length_drop, hL.len, List.length_singleton]; omega
  · rw [sl_from]; simp [sl]
  · rw [List.length_append, List.length_drop, hL.len, List.length_singleton]; omega
  rw [show RG Ls (i + 1 + 1) = RG Ls (i + 1) ++ [rg Ls (i + 1)] from RG_succ ..]
  refine exs_go (ex_append_s fe13 (Ev.as (ev_slice_str (l := some 1) (u := none) (ev_name fe13 rfl) (.yes ev_int) .no ?_) ?_) (by rw [RG_len]; omega) (by decide) _) (exs_nil.weaken ?_)
  · have h1 := rg_len hL (i + 1)
    have h2 : (dt : Str).length = 1 := by decide +kernel
    rw [Str.length_append, h2]; omega
  · rw [rg_cut hL]
  · exact wk_add rfl wk_nil

def hl (Ls : List Str) : List Str := [loc5, hld1 Ls, hld2 Ls, hld3 Ls]
abbrev Ga (Ls : List Str) : Gam := [("rungs", .list (sl (RG Ls 11))), ("labels", .list (sl Ls))]
abbrev Gb (Ls : List Str) : Gam := ("held", .list (sl (hl Ls))) :: Ga Ls
theorem s13_5 {Ls : List Str} (hL : Lb Ls) (o : Ok 10 A) : Ex prog w A (le L a cd) (st13 5) [] (Ga Ls) (.go [] (Gb Ls)) := by
  have g0 : (sl Ls)[0]? = some (.str (Ls.getD 0 dt)) := by
    have h : 0 < Ls.length := by have := hL.len; omega
    rw [List.getD_eq_getElem?_getD, List.getElem?_eq_getElem h]; exact sl_get (List.getElem?_eq_getElem h)
  have g1 : (sl Ls)[1]? = some (.str (Ls.getD 1 dt)) := by
    have h : 1 < Ls.length := by have := hL.len; omega
    rw [List.getD_eq_getElem?_getD, List.getElem?_eq_getElem h]; exact sl_get (List.getElem?_eq_getElem h)
  have l0' := lab_len (l0 hL)
  have l1' := lab_len (l1 hL)
  have h2 : (Str.ofString ".").length = 1 := by decide +kernel
  have h3 := rg_len hL 0
  have h4 : (Str.ofString ".10").length = 3 := by decide +kernel
  have h5 : (Str.ofString "local").length = 5 := by decide +kernel
  rw [← cl_len] at l0' l1'
  refine ex_assign (d := .list (sl (hl Ls))) fe13 (evx_any (ev_listS (evs_cons ev_str (evs_cons ?_ (evs_cons ?_ (evs_cons ?_ evs_nil)))) (hz := by simp [hl]))) (.inr ⟨rfl, _, rfl⟩) (n0 _)
  · refine ev_bin (d1 := .str ((Ls.getD 0 dt ++ Str.ofString ".") ++ Ls.getD 1 dt)) (ev_bin (d1 := .str (Ls.getD 0 dt ++ Str.ofString ".")) (ev_bin (ev_item_list (i := 0) (ev_name fe13 rfl) ev_int g0 (by decide)) ev_str (o_adds ?_)) (ev_item_list (i := 1) (ev_name fe13 rfl) ev_int g1 (by decide)) (o_adds ?_)) ev_str (o_adds ?_)
    all_goals (rw [sizeLine_eq]; simp only [Str.length_append, h2, h4, h5]; omega)
  · refine ev_bin (ev_item_list (i := 0) (ev_name fe13 rfl) ev_int (sl_get (RG_get Ls (by decide))) (by decide)) ev_str (o_adds ?_)
    rw [sizeLine_eq]; simp only [Str.length_append, h2, h4, h5]; omega
  · refine ev_bin (ev_item_list (i := 0) (ev_name fe13 rfl) ev_int (sl_get (RG_get Ls (by decide))) (by decide)) ev_str (o_adds ?_)
    rw [sizeLine_eq]; simp only [Str.length_append, h2, h4, h5]; omega
end
end Mine
end

section
open PySem PySem.W PyProof.Rows
set_option linter.all false
set_option maxRecDepth 100000
set_option maxHeartbeats 1000000
namespace Mine

theorem lens_drop (Ls : List Str) (k : Nat) : lens (Ls.drop k) = (lens Ls).drop k := by unfold lens; rw [List.map_drop]
abbrev bls (bs : List Bool) : List PyData := bs.map .bool
/-- whether k fewer labels, ahead and behind, leave the same row -/
def mtw (w : List Int) (k : Nat) : Bool := decide (w.drop k = w.take (10 - k))
theorem sl_getD {ss : List Str} {i : Nat} (h : i < ss.length) : (sl ss).getD i .none = .str (ss.getD i dt) := by
  simp [sl, List.getD_eq_getElem?_getD, List.getElem?_eq_getElem h]
theorem lay_sl : ∀ {ss : List Str}, (∀ x ∈ ss, PyData.strOk x = true) → PyData.canLayAll0 (sl ss) = true
  | [], _ => rfl
  | x :: ss, h => by
    show (PyData.canLay0 (.str x) && PyData.canLayAll0 (sl ss)) = true
    rw [str_ok (h x (.head _)), lay_sl fun y hy => h y (.tail _ hy)]; rfl
theorem dep_sl : ∀ ss : List Str, PyData.depthAll (sl ss) ≤ 1
  | [] => by simp [PyData.depthAll]
  | x :: ss => by
    have := dep_sl ss
    simp only [sl, List.map_cons, PyData.depthAll, PyData.depth] at this ⊢
    omega
theorem range_getD {α : Type} (l : List α) (d : α) : (List.range l.length).map (fun i => l.getD i d) = l := by
  apply List.ext_getElem (by simp)
  intro i h1 h2
  simp [List.getD_eq_getElem?_getD, List.getElem?_eq_getElem h2]

section
variable {prog : Program} {w : World} {A : Around} {L a : Addr} {cd : Value}
theorem EvF.as {env : Env} {G : Gam} {e : Expr} {d d' : PyData} (a : EvF prog w A env G e d) (h : d = d') : EvF prog w A env G e d' := h ▸ a
theorem s13_6 {Ls : List Str} (hL : Lb Ls) (o : Ok 10 A) : Ex prog w A (le L a cd) (st13 6) [] (Gb Ls) (.go [] (Gb Ls)) := by
  have hlen : (hl Ls).length = 4 := rfl
  have eo : outcome (sl (hl Ls)).length (fun _ => true) (fun i => PyData.str ((hl Ls).getD i dt)) = sl (hl Ls) := by
    rw [outcome_all, sl, List.length_map]
    conv => rhs; rw [← range_getD (hl Ls) dt, List.map_map]
    rfl
  have ok : ∀ x ∈ hl Ls, PyData.strOk x = true := by
    intro x hx
    simp only [hl, List.mem_cons, List.not_mem_nil, or_false] at hx
    rcases hx with rfl | rfl | rfl | rfl
    · exact Gd.ok loc_gd
    · exact (h1_gd hL).ok
    · exact (h2_gd hL).ok
    · exact (h3_gd hL).ok
  have lay : (PyData.list (sl (hl Ls))).canLay0 = true := by rw [PyData.canLay0]; exact lay_sl ok
  refine ex_if_f (Tst.as (tst_cmp (Ev.as (EvF.ev (d := .list (outcome (sl (hl Ls)).length (fun _ => true) fun i => .str ((hl Ls).getD i dt))) ?_) (by rw [eo])) (ev_name fe13 rfl) (o_ne (n := 9) (d := .list (sl (hl Ls))) (e := .list (sl (hl Ls))) o lay lay ?_)) ?_) exs_nil
  · refine evf_comp (cl := []) (Gf := []) (nm := ["host"]) (src_list (ds := sl (hl Ls)) o (ev_ls (ev_name fe13 rfl))) frees_nil (by simp [sl, hl]) (fun C i hi => tsts_nil) (fun C i hi _ => ?_) rfl ?_ ?_ ?_ rfl ?_
    · have hi4 : i < 4 := by simpa [sl, hlen] using hi
      refine evf_scal (d := .str _) ?_ rfl
      rw [sl_getD (by rw [hlen]; exact hi4)]
      have key : FnC prog w 6 4 [.str ((hl Ls).getD i dt)] (.str ((hl Ls).getD i dt)) := by
        match i, hi4 with
        | 0, _ => have := reach_c (prog := prog) (w := w) loc_ip loc_gd (by rw [cl_len, cl_local]; decide); rwa [loc_reach] at this
        | 1, _ => have := reach_c (prog := prog) (w := w) (h1_ip hL) (h1_gd hL) (by have := h1_len hL; omega); rwa [h1_reach hL] at this
        | 2, _ => have := reach_c (prog := prog) (w := w) (h2_ip hL) (h2_gd hL) (by have := h2_len hL; omega); rwa [h2_reach hL] at this
        | 3, _ => have := reach_c (prog := prog) (w := w) (h3_ip hL) (h3_gd hL) (by have := h3_len hL; omega); rwa [h3_reach hL] at this
      exact ev_f1 ⟨rfl, rfl, rfl⟩ (o.less (by omega)) rfl (by simp) (ev_name ⟨rfl, rfl, rfl⟩ rfl) key
    · intro i x d h
      simpa using lookup_names h
    · decide
    · decide
    · decide
  · have := dep_sl (hl Ls)
    simp only [PyData.depth]; omega
  · rw [SeqAt.eqv_refl _ lay]; rfl

abbrev Gc (Ls : List Str) : Gam := ("rows", rowsOf (lens Ls)) :: Gb Ls
theorem last_cut {ds : List PyData} : pyslice ds none (some (-1)) = ds.dropLast := by
  unfold pyslice clip clipAt
  simp only [Option.elim, List.drop_zero, Nat.sub_zero, List.dropLast_eq_take]
  congr 1
  rw [if_pos (by decide)]
  omega
theorem s13_7 {Ls : List Str} (hL : Lb Ls) (o : Ok 10 A) : Ex prog w A (le L a cd) (st13 7) [] (Gb Ls) (.go [] (Gc Ls)) := by
  have hlr : (sl (RG Ls 11)).length = 11 := by rw [sl, List.length_map, RG_len]
  have eo : outcome (sl (RG Ls 11)).length (fun _ => true) (fun i => li ((lens Ls).drop i)) = (List.range 11).map fun k => li ((lens Ls).drop k) := by rw [outcome_all, hlr]
  refine ex_assign (d := rowsOf (lens Ls)) fe13 (evx_any (Ev.as (EvF.ev (d := .list (outcome (sl (RG Ls 11)).length (fun _ => true) fun i => li ((lens Ls).drop i))) ?_) (by rw [eo]; rfl))) (.inr ⟨rfl, _, rfl⟩) (n0 _)
  refine evf_comp (cl := []) (Gf := []) (nm := ["rung"]) (src_list (ds := sl (RG Ls 11)) o (ev_ls (ev_name fe13 rfl))) frees_nil (by rw [hlr]; decide) (fun C i hi => tsts_nil) (fun C i hi _ => ?_) rfl ?_ ?_ ?_ rfl ?_
  · have hi11 : i < 11 := by rw [hlr] at hi; exact hi
    have hg : (sl (RG Ls 11)).getD i .none = .str (rg Ls i) := by
      rw [sl_getD (by rw [RG_len]; exact hi11)]
      congr 1
      rw [List.getD_eq_getElem?_getD, RG_get Ls hi11]; rfl
    rw [hg]
    have hd : pyslice (sl (Ls.drop i ++ [loc5])) none (some (-1)) = sl (Ls.drop i) := by rw [last_cut, sl, List.map_append]; simp [sl]
    have hll : (sl (Ls.drop i)).length = 10 - i := by rw [sl, List.length_map, List.length_drop, hL.len]
    have eo2 : outcome (sl (Ls.drop i)).length (fun _ => true) (fun j => PyData.int (((Ls.drop i).getD j dt).length : Int)) = ((lens Ls).drop i).map .int := by
      rw [outcome_all, ← lens_drop, lens, List.map_map, sl, List.length_map]
      conv => rhs; rw [← range_getD (Ls.drop i) dt, List.map_map]
      rfl
    refine EvF.as (d := .list (outcome (sl (Ls.drop i)).length (fun _ => true) (fun j => PyData.int (((Ls.drop i).getD j dt).length : Int)))) ?_ (by rw [eo2]; rfl)
    refine evf_comp (cl := []) (Gf := []) (nm := ["label"]) (src_list (ds := sl (Ls.drop i)) o (ev_ls (Ev.as (ev_slice_listT (ds := sl (Ls.drop i ++ [loc5])) ?_ .no (.yes (ev_un ev_int o_neg)) ?_) (by rw [show -(1 : Int) = -1 from rfl, hd])))) frees_nil (by rw [hll]; omega) (fun C' j hj => tsts_nil) (fun C' j hj _ => ?_) rfl ?_ ?_ ?_ rfl ?_
    · have hs := rg_split hL i
      refine hs ▸ ev_meth1V (R2 := fun h v => Rd h v (.str dt)) _ (ev_name ⟨rfl, rfl, rfl⟩ rfl) ev_str (gm_str fun t s Q E h => GM.split h) (m_split (by decide +kernel) (by have := rg_len hL i; omega) ?_)
      rw [PySem.length_partsBetween]
      have := StrLaws.occ_length_le (rg Ls i) dt 0 (rg Ls i).length ((rg Ls i).length + 1)
      have h2 := rg_len hL i
      rw [sizeLine_eq]; omega
    · simp [sl, hL.len]; omega
    · have hj2 : j < (Ls.drop i).length := by simpa [sl] using hj
      rw [sl_getD hj2]
      refine evf_scal (d := .int _) (ev_call1 (R1 := fun h v => Rd h v (.str ((Ls.drop i).getD j dt))) ⟨rfl, rfl, rfl⟩ (.inl ⟨_, rfl⟩) rfl (ev_name ⟨rfl, rfl, rfl⟩ rfl) (b_lens ?_)) rfl
      have hm := dmem hL i ((Ls.drop i).getD j dt) (by rw [List.getD_eq_getElem?_getD, List.getElem?_eq_getElem hj2]; exact List.getElem_mem _)
      have := lab_len hm
      rw [cl_len]; omega
    · intro i x d h
      simpa using lookup_names h
    · decide
    · decide
    · decide
  · intro i x d h
    simpa using lookup_names h
  · decide
  · decide
  · decide
end
end Mine
end

section
open PySem PySem.W PyProof.Rows
set_option linter.all false
set_option maxRecDepth 100000
set_option maxHeartbeats 1000000
namespace Mine

theorem bls_all {n : Nat} {f : Nat → Bool} : outcome n (fun _ => true) (fun i => PyData.bool (f i)) = bls ((List.range n).map f) := by rw [outcome_all, bls, List.map_map]; rfl
def an1 (w : List Int) : List Bool := (List.range 10).map fun i => mtw w (i + 1)
def dueB (w : List Int) : List Bool := an1 w ++ [true, true] ++ List.replicate 12 false ++ [true, false]
theorem sl_upto {ms : List Str} {k : Nat} : pyslice (sl ms) none (some (k : Int)) = sl (ms.take k) := by
  unfold pyslice clip
  simp only [Option.elim, List.drop_zero, Nat.sub_zero]
  have : clipAt (sl ms).length (k : Int) = min k (sl ms).length := by unfold clipAt; split <;> omega
  rw [this]
  show List.take _ (ms.map PyData.str) = (ms.take k).map PyData.str
  rw [List.map_take, List.take_eq_take_iff]; simp only [sl]; omega
theorem eqv_ints : ∀ {a b : List Int}, PyData.eqv (li a) (li b) = decide (a = b) := by
  have key : ∀ a b : List Int, PyData.eqvAll (a.map .int) (b.map .int) = decide (a = b) := by
    intro a
    induction a with
    | nil => intro b; cases b <;> simp [PyData.eqvAll]
    | cons x a ih =>
      intro b
      cases b with
      | nil => simp [PyData.eqvAll]
      | cons y b =>
        simp only [List.map_cons, PyData.eqvAll, ih, PyData.eqv]
        rw [Bool.eq_iff_iff]; simp
  intro a b
  rw [li, li, PyData.eqv]; exact key a b
theorem lay_li : ∀ {a : List Int}, (li a).canLay0 = true := by
  have key : ∀ a : List Int, PyData.canLayAll0 (a.map .int) = true := by
    intro a
    induction a with
    | nil => rfl
    | cons x a ih => show (PyData.canLay0 (.int x) && _) = true; rw [ih]; rfl
  intro a
  rw [li, PyData.canLay0]; exact key a
theorem dep_li (a : List Int) : (li a).depth ≤ 2 := by
  have key : ∀ a : List Int, PyData.depthAll (a.map .int) ≤ 1 := by
    intro a
    induction a with
    | nil => simp [PyData.depthAll]
    | cons x a ih => simp only [List.map_cons, PyData.depthAll, PyData.depth] at ih ⊢; omega
  have := key a
  rw [li, PyData.depth]; omega

section
variable {prog : Program} {w : World} {A : Around} {L a : Addr} {cd : Value}
theorem s13_8 {Ls : List Str} (hL : Lb Ls) (o : Ok 10 A) : Ex prog w A (le L a cd) (st13 8) [] (Gc Ls) (.go [("answers", bls (an1 (lens Ls)))] (Gc Ls)) := by
  refine ex_assign_own (ds := bls (an1 (lens Ls))) fe13 (EvF.as (d := .list (outcome 10 (fun _ => true) fun i => .bool (mtw (lens Ls) (i + 1)))) ?_ (by rw [bls_all]; rfl)) (nls_bools _) (.inr ⟨rfl, _, rfl⟩) (n0 _) rfl
  refine evf_comp (n := 10) (cl := [("rungs", L + 5), ("labels", L + 4)]) (Gf := [("rungs", .list (sl (RG Ls 11))), ("labels", .list (sl Ls))]) (ds := fun i => [("k", .int (1 + i))]) (nm := ["k"]) ?_
    (Frees.cons (Frees.cons frees_nil rfl rfl rfl (L + 4) rfl rfl) rfl rfl rfl (L + 5) rfl rfl) (by decide) (fun C i hi => tsts_nil) (fun C i hi _ => ?_) rfl ?_ ?_ ?_ rfl ?_
  · exact src_range (lo := 1) (hi := 11) o (ev_call2 (R1 := fun h v => Rd h v (.int 1)) (R2 := fun h v => Rd h v (.int 11)) fe13 (.inr ⟨_, rfl⟩) rfl ev_int ev_int (fun _ _ _ h k => h.gr k) b_range2) (by decide) (by decide) (by decide) (by decide)
  · have hu := udm_c (prog := prog) (w := w) (rg_gd hL 0).lowup (cut_gd hL (10 - (i + 1))).lower (rg_gd hL 0) (cut_gd hL (10 - (i + 1))) (rg_ip hL 0) (cut_ip hL (10 - (i + 1)))
    rw [udl_cut hL (by omega) (by omega), lens_drop] at hu
    have h3 := rg_len hL 0
    have h4 := parts_len (ms := Ls.take (10 - (i + 1))) (tmem hL _) (by rw [List.length_take]; omega)
    refine evf_scal (d := .bool _) (ev_f2 ⟨rfl, rfl, rfl⟩ (o.less (by omega)) rfl (by simp) (ev_meth0 _ (ev_item_listT (i := 0) (ev_name ⟨rfl, rfl, rfl⟩ rfl) ev_int (sl_get (RG_get Ls (by decide))) (by decide)) (gm_str fun t s Q E h => GM.upper h) (m_upper ?_)) (ev_bin ev_str (ev_join (ms := Ls.take (10 - (i + 1)) ++ [loc5]) (Ev.as (ev_bin (ev_slice_listT (u := some ((10 - (i + 1) : Nat) : Int)) (ev_ls (ev_name ⟨rfl, rfl, rfl⟩ rfl)) .no (.yes (Ev.as (ev_bin ev_int (ev_name ⟨rfl, rfl, rfl⟩ rfl) o_sub) (by congr 1; omega))) ?_) (ev_listS (ds := [.str loc5]) (evs_cons ev_str evs_nil)) (o_addl ?_)) ?_) (join_ok (parts5 (tmem hL _)) ?_) _) (o_adds ?_)) hu) rfl
    all_goals first
      | exact tl_ok (by rw [(rg_gd hL 0).up_len]; omega)
      | (rw [sl_upto]; simp [sl]; done)
      | (rw [sl_upto, sizeLine_eq, sl, List.length_map, List.length_take, List.length_singleton]; omega)
      | (rw [List.length_append, List.length_take, List.length_singleton]; omega)
      | (rw [sl, List.length_map, hL.len]; decide)
      | (have h2 : (Str.ofString ".").length = 1 := by decide +kernel
         rw [sizeLine_eq, Str.length_append, h2]; omega)
  · intro i x d h
    simpa using lookup_names h
  · decide
  · decide
  · decide

theorem bool_list (bs : List Bool) : (PyData.list (bls bs)).canLay0 = true ∧ (PyData.list (bls bs)).depth ≤ 2 := by
  have k1 : ∀ bs : List Bool, PyData.canLayAll0 (bls bs) = true := by
    intro bs
    induction bs with
    | nil => rfl
    | cons x a ih => show (PyData.canLay0 (.bool x) && _) = true; rw [ih]; rfl
  have k2 : ∀ bs : List Bool, PyData.depthAll (bls bs) ≤ 1 := by
    intro bs
    induction bs with
    | nil => simp [PyData.depthAll]
    | cons x a ih => simp only [bls, List.map_cons, PyData.depthAll, PyData.depth] at ih ⊢; omega
  have := k2 bs
  refine ⟨by rw [PyData.canLay0]; exact k1 bs, by rw [PyData.depth]; omega⟩
abbrev O1 (w : List Int) : Owns := [("answers", bls (an1 w))]
theorem nA {d : List PyData} (x : Str) (h : x ≠ "answers") : ∀ q ∈ ([("answers", d)] : Owns), q.1 ≠ x := by
  intro q hq
  rw [List.mem_singleton.mp hq]
  exact fun e => h e.symm
abbrev Gd' (Ls : List Str) : Gam := ("due", .list (bls (dueB (lens Ls)))) :: Gc Ls
theorem s13_9 {Ls : List Str} (hL : Lb Ls) (o : Ok 10 A) : Ex prog w A (le L a cd) (st13 9) (O1 (lens Ls)) (Gc Ls) (.go (O1 (lens Ls)) (Gd' Ls)) := by
  have e1 : (bls (an1 (lens Ls) ++ [true, true] ++ List.replicate 12 false) ++ bls [true, false]) = bls (dueB (lens Ls)) := by simp [bls, dueB]
  refine ex_assign (d := .list (bls (dueB (lens Ls)))) fe13 (evx_new (EvF.as (evf_addl (ds := bls (an1 (lens Ls) ++ [true, true] ++ List.replicate 12 false)) (es := bls [true, false]) ?_ (ev_listS (evs_cons ev_bool (evs_cons ev_bool evs_nil))) (by rw [e1]; exact nls_bools _) ?_) (by rw [e1]))) (.inl rfl) (nA _ (by decide))
  · refine Ev.as (ev_bin (d1 := .list (bls (an1 (lens Ls) ++ [true, true]))) (d2 := .list (bls (List.replicate 12 false))) ?_ ?_ (o_addl ?_)) (by simp [bls])
    · refine Ev.as (ev_bin (d1 := .list (bls (an1 (lens Ls)))) (d2 := .list (bls [true, true])) ?_ (ev_listS (evs_cons ev_bool (evs_cons ev_bool evs_nil))) (o_addl ?_)) (by simp [bls])
      · refine Ev.as (EvF.ev (d := .list (outcome 10 (fun _ => true) fun i => .bool (mtw (lens Ls) (i + 1)))) ?_) (by rw [bls_all]; rfl)
        refine evf_comp (n := 10) (cl := [("rows", L + 7)]) (Gf := [("rows", rowsOf (lens Ls))]) (ds := fun i => [("k", .int (1 + i))]) (nm := ["k"]) ?_
          (Frees.cons frees_nil rfl rfl rfl (L + 7) rfl rfl) (by decide) (fun C i hi => tsts_nil) (fun C i hi _ => ?_) rfl ?_ ?_ ?_ rfl ?_
        · exact src_range (lo := 1) (hi := 11) o (ev_call2 (R1 := fun h v => Rd h v (.int 1)) (R2 := fun h v => Rd h v (.int 11)) fe13 (.inr ⟨_, rfl⟩) rfl ev_int ev_int (fun _ _ _ h k => h.gr k) b_range2) (by decide) (by decide) (by decide) (by decide)
        · have hw : (lens Ls).length = 10 := by rw [lens, List.length_map, hL.len]
          refine evf_scal (d := .bool _) (Ev.as (ev_cmp (ev_item_list (i := i + 1) (ev_name ⟨rfl, rfl, rfl⟩ rfl) (Ev.as (ev_name ⟨rfl, rfl, rfl⟩ rfl) (by congr 1; push_cast; omega)) (rowsOf_get (by omega)) (by omega))
            (Ev.as (ev_slice_listT (u := some ((10 - (i + 1) : Nat) : Int)) (ev_ls (ev_item_listT (i := 0) (ev_name ⟨rfl, rfl, rfl⟩ rfl) ev_int (rowsOf_get (by decide)) (by decide))) .no (.yes (Ev.as (ev_bin ev_int (ev_name ⟨rfl, rfl, rfl⟩ rfl) o_sub) (by congr 1; omega))) ?_) (d' := li (((lens Ls).drop 0).take (10 - (i + 1)))) ?_) (o_eq (n := 9) o lay_li lay_li ?_)) ?_) rfl
          · simp [hw]
          · rw [slice_li]; rfl
          · have := dep_li ((lens Ls).drop (i + 1)); omega
          · rw [eqv_ints]; rfl
        · intro i x d h
          simpa using lookup_names h
        · decide
        · decide
        · decide
      · rw [sizeLine_eq]; simp [an1]
    · refine Ev.as (ev_bin (ev_listS (ds := bls [false]) (evs_cons ev_bool evs_nil)) ev_int (o_mull (by decide) (by decide) (by decide))) ?_
      simp [bls]
    · rw [sizeLine_eq]; simp [an1]
  · rw [sizeLine_eq]; simp [an1]
end
end Mine
end

section
open PySem PySem.W PyProof.Rows
set_option linter.all false
set_option maxRecDepth 100000
set_option maxHeartbeats 1000000
namespace Mine

def an2 : List Bool := [true, true, false, false] ++ List.replicate 10 false
theorem rul_len (Ls : List Str) : (rul Ls).length = 14 := by simp [rul]
theorem rul_get {Ls : List Str} (hL : Lb Ls) {i : Nat} (hi : i < 14) : Gd ((rul Ls).getD i dt) ∧ Ip ((rul Ls).getD i dt) false ∧ ((rul Ls).getD i dt).length ≤ 110 ∧ udl false false (rg Ls 0) ((rul Ls).getD i dt) = an2.getD i false := by
  have h2 : (Str.ofString ".").length = 1 := by decide +kernel
  have dl : ∀ k, (dt ++ rg Ls k).length ≤ 110 := fun k => by
    have := rg_len hL k
    rw [Str.length_append, h2]; omega
  have dg : ∀ k, Gd (dt ++ rg Ls k) := fun k => dt_gd.app (rg_gd hL k)
  have di : ∀ k, Ip (dt ++ rg Ls k) false := fun k => ip_no (c := 108) (by have := dl k; omega) (by
    have : (cl (rg Ls k)).getLast? = some 108 := parts_last _
    rw [cl_app, List.getLast?_append, this]; rfl) (by decide) (by decide)
  match i, hi with
  | 0, _ => exact ⟨rg_gd hL 0, rg_ip hL 0, by have := rg_len hL 0; show (rg Ls 0).length ≤ 110; omega, udl_0 hL⟩
  | 1, _ => exact ⟨dg 1, di 1, dl 1, udl_1 hL⟩
  | 2, _ => exact ⟨dg 0, di 0, dl 0, udl_2 hL⟩
  | 3, _ => exact ⟨mid_gd hL, mid_ip hL, mid_len hL, udl_3 hL⟩
  | j + 4, hj =>
    have e : (rul Ls).getD (j + 4) dt = rg Ls (j + 1) := by
      have : (rul Ls)[j + 4]? = some (rg Ls (j + 1)) := by
        unfold rul
        rw [List.getElem?_append_right (by simp)]
        have e2 : j + 4 - [rg Ls 0, dt ++ rg Ls 1, dt ++ rg Ls 0, dt ++ Txt.join dt (List.take 3 (List.drop 3 Ls))].length = j := by simp
        rw [e2, List.getElem?_map, List.getElem?_range (by omega)]; rfl
      rw [List.getD_eq_getElem?_getD, this]; rfl
    have ea : an2.getD (j + 4) false = false := by
      unfold an2
      rw [List.getD_eq_getElem?_getD, List.getElem?_append_right (by simp)]
      have e2 : j + 4 - [true, true, false, false].length = j := by simp
      rw [e2, List.getElem?_replicate]; split <;> rfl
    rw [e, ea]
    exact ⟨rg_gd hL _, rg_ip hL _, by have := rg_len hL (j + 1); omega, udl_r hL (by omega) (by omega)⟩

section
variable {prog : Program} {w : World} {A : Around} {L a : Addr} {cd : Value}
abbrev Ge (Ls : List Str) : Gam := ("rules", .list (sl (rul Ls))) :: Gd' Ls
theorem s13_10 {Ls : List Str} (hL : Lb Ls) : Ex prog w A (le L a cd) (st13 10) (O1 (lens Ls)) (Gd' Ls) (.go (O1 (lens Ls)) (Ge Ls)) := by
  have h2 : (Str.ofString ".").length = 1 := by decide +kernel
  have l1 := rg_len hL 1
  have l0 := rg_len hL 0
  have l3 := labs_len (mid_mem hL) (by rw [List.length_take]; omega)
  have e1 : sl [rg Ls 0, dt ++ rg Ls 1, dt ++ rg Ls 0, dt ++ Txt.join dt ((Ls.drop 3).take 3)] ++ sl ((RG Ls 11).drop 1) = sl (rul Ls) := by rw [sl_append]; rfl
  refine ex_assign (d := .list (sl (rul Ls))) fe13 (evx_new (EvF.as (evf_addl (ds := sl [rg Ls 0, dt ++ rg Ls 1, dt ++ rg Ls 0, dt ++ Txt.join dt ((Ls.drop 3).take 3)]) (es := sl ((RG Ls 11).drop 1)) ?_ ?_ (by rw [e1]; exact nls_strs _) ?_) (by rw [e1]))) (.inl rfl) (nA _ (by decide))
  · refine ev_listS (evs_cons ?_ (evs_cons ?_ (evs_cons ?_ (evs_cons ?_ evs_nil))))
    · exact ev_item_list (i := 0) (ev_name fe13 rfl) ev_int (sl_get (RG_get Ls (by decide))) (by decide)
    · refine ev_bin ev_str (ev_item_list (i := 1) (ev_name fe13 rfl) ev_int (sl_get (RG_get Ls (by decide))) (by decide)) (o_adds ?_)
      rw [sizeLine_eq, Str.length_append, h2]; omega
    · refine ev_bin ev_str (ev_item_list (i := 0) (ev_name fe13 rfl) ev_int (sl_get (RG_get Ls (by decide))) (by decide)) (o_adds ?_)
      rw [sizeLine_eq, Str.length_append, h2]; omega
    · refine ev_bin (d2 := .str (Txt.join dt ((Ls.drop 3).take 3))) ev_str (ev_join (ms := (Ls.drop 3).take 3) (Ev.as (ev_slice_list (l := some 3) (u := some 6) (ev_ls (ev_name fe13 rfl)) (.yes ev_int) (.yes ev_int) ?_) ?_) (join_ok ?_ ?_) _) (o_adds ?_)
      · rw [sl, List.length_map, hL.len]; decide
      · unfold pyslice
        rw [sl, List.length_map, hL.len, show clip 10 (some 3) 0 = 3 from rfl, show clip 10 (some 6) 10 = 6 from rfl, ← List.map_drop, ← List.map_take]
      · intro t ht
        have := lab_len (mid_mem hL t ht); rw [cl_len]; omega
      · rw [List.length_take]; omega
      · rw [sizeLine_eq, Str.length_append, h2]; omega
  · refine Ev.as (ev_slice_list (l := some 1) (u := none) (ev_ls (ev_name fe13 rfl)) (.yes ev_int) .no ?_) ?_
    · rw [sl, List.length_map, RG_len]; decide
    · have := sl_from (ms := RG Ls 11) (k := 1)
      exact congrArg PyData.list this
  · rw [sizeLine_eq, sl, sl, List.length_map, List.length_map, List.length_drop, RG_len]; simp

theorem s13_11 {Ls : List Str} (hL : Lb Ls) (o : Ok 10 A) : Ex prog w A (le L a cd) (st13 11) (O1 (lens Ls)) (Ge Ls) (.go [("answers", bls (an1 (lens Ls) ++ an2))] (Ge Ls)) := by
  have hlr : (sl (rul Ls)).length = 14 := by rw [sl, List.length_map, rul_len]
  have e1 : bls (an1 (lens Ls)) ++ bls an2 = bls (an1 (lens Ls) ++ an2) := by simp [bls]
  rw [← e1]
  have eo : outcome (sl (rul Ls)).length (fun _ => true) (fun i => PyData.bool (an2.getD i false)) = bls an2 := by rw [bls_all, hlr]; rfl
  refine ex_extend fe13 (Ev.as (EvF.ev (d := .list (outcome (sl (rul Ls)).length (fun _ => true) fun i => .bool (an2.getD i false))) ?_) (by rw [eo])) (nls_bools _) (by simp [an1, an2]) (by decide) _
  refine evf_comp (cl := [("rungs", L + 5)]) (Gf := [("rungs", .list (sl (RG Ls 11)))]) (nm := ["rule"]) (src_list (ds := sl (rul Ls)) o (ev_ls (ev_name fe13 rfl))) (Frees.cons frees_nil rfl rfl rfl (L + 5) rfl rfl) (by rw [hlr]; decide) (fun C i hi => tsts_nil) (fun C i hi _ => ?_) rfl ?_ ?_ ?_ rfl ?_
  · have hi14 : i < 14 := by rw [hlr] at hi; exact hi
    rw [sl_getD (by rw [rul_len]; exact hi14)]
    obtain ⟨g, ip, ln, he⟩ := rul_get hL hi14
    have hu := udm_c (prog := prog) (w := w) (rg_gd hL 0).lower g.lowup (rg_gd hL 0) g (rg_ip hL 0) ip
    rw [he] at hu
    exact evf_scal (d := .bool _) (ev_f2 ⟨rfl, rfl, rfl⟩ (o.less (by omega)) rfl (by simp) (ev_item_listT (i := 0) (ev_name ⟨rfl, rfl, rfl⟩ rfl) ev_int (sl_get (RG_get Ls (by decide))) (by decide)) (ev_meth0 _ (ev_name ⟨rfl, rfl, rfl⟩ rfl) (gm_str fun t s Q E h => GM.upper h) (m_upper (tl_ok (by rw [g.up_len]; omega)))) hu) rfl
  · intro i x d h
    simpa using lookup_names h
  · decide
  · decide
  · decide

theorem s13_12 {Ls : List Str} (hL : Lb Ls) (o : Ok 10 A) : Ex prog w A (le L a cd) (st13 12) [("answers", bls (an1 (lens Ls) ++ an2))] (Ge Ls) (.go [("answers", bls (dueB (lens Ls)))] (Ge Ls)) := by
  have e1 : bls (an1 (lens Ls) ++ an2) ++ bls [true, false] = bls (dueB (lens Ls)) := by simp [bls, dueB, an2]
  rw [← e1]
  have eo : outcome 2 (fun _ => true) (fun i => PyData.bool ([true, false].getD i false)) = bls [true, false] := by rw [bls_all]; rfl
  refine ex_extend fe13 (Ev.as (EvF.ev (d := .list (outcome 2 (fun _ => true) fun i => .bool ([true, false].getD i false))) ?_) (by rw [eo])) (nls_bools _) (by simp [an1, an2]) (by decide) _
  have gh : (sl (hl Ls))[3]? = some (.str (hld3 Ls)) := rfl
  refine evf_comp (cl := [("held", L + 6)]) (Gf := [("held", .list (sl (hl Ls)))]) (nm := ["rule"]) (src_tuple (ds := [.str (hld3 Ls), .str lten]) o (ev_tupleS (evs_cons (ev_item_list (i := 3) (ev_name fe13 rfl) ev_int gh (by decide)) (evs_cons ev_str evs_nil)))) (Frees.cons frees_nil rfl rfl rfl (L + 6) rfl rfl) (by decide) (fun C i hi => tsts_nil) (fun C i hi _ => ?_) rfl ?_ ?_ ?_ rfl ?_
  · have h3 := h3_len hL
    have key : ∀ r b, Gd r → Ip r true → udl true true (hld3 Ls) r = b → FnC prog w 5 3 [.str (Txt.upper (hld3 Ls)), .str r] (.bool b) := fun r b g ip he => by
      have hu := udm_c (prog := prog) (w := w) (h3_gd hL).lowup g.lower (h3_gd hL) g (h3_ip hL) ip
      rwa [he] at hu
    have : ∃ r b, ([PyData.str (hld3 Ls), PyData.str lten]).getD i .none = .str r ∧ [true, false].getD i false = b ∧ FnC prog w 5 3 [.str (Txt.upper (hld3 Ls)), .str r] (.bool b) := by
      match i, hi with
      | 0, _ => exact ⟨_, _, rfl, rfl, key _ _ (h3_gd hL) (h3_ip hL) (udl_h hL)⟩
      | 1, _ => exact ⟨_, _, rfl, rfl, key _ _ lten_gd lten_ip (udl_l hL)⟩
    obtain ⟨r, b, e1, e2, hu⟩ := this
    rw [e1, e2]
    exact evf_scal (d := .bool _) (ev_f2 ⟨rfl, rfl, rfl⟩ (o.less (by omega)) rfl (by simp) (ev_meth0 _ (ev_item_listT (i := 3) (ev_name ⟨rfl, rfl, rfl⟩ rfl) ev_int gh (by decide)) (gm_str fun t s Q E h => GM.upper h) (m_upper (tl_ok (by rw [(h3_gd hL).up_len]; omega)))) (ev_name ⟨rfl, rfl, rfl⟩ rfl) hu) rfl
  · intro i x d h
    simpa using lookup_names h
  · decide
  · decide
  · decide

abbrev Gg (Ls : List Str) : Gam := ("answers", .list (bls (dueB (lens Ls)))) :: Ge Ls
abbrev Gh (Ls : List Str) : Gam := [("answers", .list (bls (dueB (lens Ls)))), ("rows", rowsOf (lens Ls)), ("rungs", .list (sl (RG Ls 11)))]
theorem s13_13 {Ls : List Str} (hL : Lb Ls) (o : Ok 10 A) : Ex prog w A (le L a cd) (st13 13) [] (Gg Ls) (.go [] (Gh Ls)) := by
  obtain ⟨b1, b2⟩ := bool_list (dueB (lens Ls))
  refine Ex.weaken (ex_if_f (tst_boolop (tst_or (b := false) (Tst.as (tst_cmp (ev_name fe13 rfl) (ev_name fe13 rfl) (o_ne (n := 9) o b1 b1 (by omega))) (by rw [SeqAt.eqv_refl _ b1]; rfl))
    (fun _ => tst_or (b := false) (Tst.as (tst_cmp (Ev.as (EvF.ev (d := .list (outcome (bls (dueB (lens Ls))).length (fun _ => false) fun i => .none)) ?_) (d' := .list []) ?_) (ev_listS (ds := []) evs_nil) (o_ne (n := 9) o rfl rfl (by simp [PyData.depth, PyData.depthAll]))) (by rw [PyData.eqv]; rfl)) (fun _ => tst_or0) rfl) rfl)) exs_nil) (wk_add rfl (wk_add rfl (wk_add rfl wk_nil)))
  · refine evf_comp (cl := []) (Gf := []) (nm := ["answer"]) (src_list (ds := bls (dueB (lens Ls))) o (ev_ls (ev_name fe13 rfl))) frees_nil (by simp [bls, dueB, an1]) (fun C i hi => ?_) (fun C i hi h => nomatch h) rfl ?_ ?_ ?_ rfl ?_
    · have : ∃ b, (bls (dueB (lens Ls))).getD i .none = .bool b := by
        rw [List.getD_eq_getElem?_getD, List.getElem?_eq_getElem hi]
        simp [bls]
      obtain ⟨b, e⟩ := this
      rw [e]
      exact tsts_one (tst_not (tst_plain (ev_call2 (R1 := fun h v => Rd h v (.bool b)) ⟨rfl, rfl, rfl⟩ (.inl ⟨_, rfl⟩) rfl (ev_name ⟨rfl, rfl, rfl⟩ rfl) (ev_builtin ⟨rfl, rfl, rfl⟩ rfl rfl) (fun _ _ _ h k => h.gr k) b_isb) tr_bool))
    · intro i x d h
      simpa using lookup_names h
    · decide
    · decide
    · decide
  · unfold outcome
    rw [List.filter_eq_nil_iff.mpr (by simp)]; rfl
end
end Mine
end

section
open PySem PySem.W PyProof.Rows
set_option linter.all false
set_option maxRecDepth 100000
set_option maxHeartbeats 1000000
namespace Mine

/-- the host's period -/
def perOf (w : List Int) : Nat := 1 + (List.range 10).findIdx fun i => mtw w (i + 1)
def perNs (w : List Int) : List Int := ((List.range 10).filter fun i => mtw w (i + 1)).map fun i => (1 : Int) + (i : Nat)
theorem mtw_10 {w : List Int} (hw : w.length = 10) : mtw w 10 = true := by
  unfold mtw
  rw [List.drop_eq_nil_of_le (by omega)]; rfl
theorem per_idx {w : List Int} (hw : w.length = 10) : (List.range 10).findIdx (fun i => mtw w (i + 1)) < 10 := by
  have := List.findIdx_lt_length_of_exists (xs := List.range 10) (p := fun i => mtw w (i + 1)) ⟨9, by simp, mtw_10 hw⟩
  simpa using this
theorem per_le {w : List Int} (hw : w.length = 10) : 1 ≤ perOf w ∧ perOf w ≤ 10 := by
  have := per_idx hw
  unfold perOf; omega
theorem per_is {w : List Int} (hw : w.length = 10) : mtw w (perOf w) = true := by
  have h := per_idx hw
  have := List.findIdx_getElem (xs := List.range 10) (p := fun i => mtw w (i + 1)) (w := by simpa using h)
  unfold perOf
  rw [Nat.add_comm]
  simpa using this
theorem per_min {w : List Int} {k : Nat} (h1 : 1 ≤ k) (h2 : k < perOf w) : mtw w k = false := by
  unfold perOf at h2
  have := List.not_of_lt_findIdx (xs := List.range 10) (p := fun i => mtw w (i + 1)) (i := k - 1) (by omega)
  simpa [show k - 1 + 1 = k by omega] using this
theorem perNs_mem {w : List Int} (hw : w.length = 10) : ((perOf w : Nat) : Int) ∈ perNs w := by
  have := per_le hw
  refine List.mem_map.mpr ⟨perOf w - 1, List.mem_filter.mpr ⟨by simp; omega, ?_⟩, by omega⟩
  rw [show perOf w - 1 + 1 = perOf w by omega]; exact per_is hw
theorem perNs_min {w : List Int} : ∀ a ∈ perNs w, ((perOf w : Nat) : Int) ≤ a := by
  intro a ha
  obtain ⟨i, hi, rfl⟩ := List.mem_map.mp ha
  obtain ⟨h1, h2⟩ := List.mem_filter.mp hi
  rcases Nat.lt_or_ge (i + 1) (perOf w) with h | h
  · rw [per_min (by omega) h] at h2; cases h2
  · omega
def tns (w : List Int) : List Int := (List.range 10).map fun k => ((turnOf w k : Nat) : Int)
def nw (w : List Int) : List Int := w.map fun x => -x
def lateOf (w : List Int) : Nat := max (best w 9) (best (nw w) 9)
/-- what of the row the rest asks -/
structure Crit (w : List Int) : Prop where
  late : lateOf w < perOf w
  turn : turnOf w (lateOf w) = perOf w
  most : ∀ k, k ≤ 9 → turnOf w k ≤ perOf w

section
variable {prog : Program} {w : World} {A : Around} {L a : Addr} {cd : Value}
theorem o_lt_same {n : Nat} {ds : List PyData} (o : Ok (n + 1) A) (hl : PyData.canLayAll0 ds = true) (hd : ∀ d ∈ ds, d.depth ≤ 10) (hk : ∀ d ∈ ds, d.canLay0 = true) : Op2 prog w A (compareOp .Lt) (.list ds) (.list ds) (.bool false) := fun v1 v2 s E h1 h2 => by
  obtain ⟨l, vs, rfl, p, ra⟩ := h1.list_inv
  obtain ⟨b, ws, rfl, q, rb⟩ := h2.list_inv
  have e1 := ra.len
  have e2 := rb.len
  refine llt_lists (e := fun _ => true) (g := fun _ => false) p.isList q.isList (fun _ _ _ _ => rfl) (by simp; omega) o.u ?_ (fun _ _ _ h => nomatch h) ⟨.bool, kp_refl s⟩
  intro j a1 a2
  have hj : j < ds.length := by simpa [e1] using a1
  obtain ⟨v, ev, r1⟩ := ra.get (List.getElem?_eq_getElem hj)
  obtain ⟨u, eu, r2⟩ := rb.get (List.getElem?_eq_getElem hj)
  obtain ⟨as, r1, _⟩ := r1
  obtain ⟨bs, r2, _⟩ := r2
  have hm := List.getElem_mem hj
  have := SeqAt.eqAt_reads _ _ A.in1 s v u as bs r1 r2 (hk _ hm) (hk _ hm) (by have := hd _ hm; have := o.units; simp only [Around.in1_units]; omega)
  rw [SeqAt.eqv_refl _ (hk _ hm)] at this
  have f1 : vs.toArray[j] = v := by
    obtain ⟨_, q⟩ := List.getElem?_eq_some_iff.mp ev
    simpa using q
  have f2 : ws.toArray[j] = u := by
    obtain ⟨_, q⟩ := List.getElem?_eq_some_iff.mp eu
    simpa using q
  rw [f1, f2]; exact this
theorem o_gt_same {n : Nat} {ds : List PyData} (o : Ok (n + 1) A) (hl : PyData.canLayAll0 ds = true) (hd : ∀ d ∈ ds, d.depth ≤ 10) (hk : ∀ d ∈ ds, d.canLay0 = true) : Op2 prog w A (compareOp .Gt) (.list ds) (.list ds) (.bool false) := fun v1 v2 s E h1 h2 => by
  obtain ⟨l, vs, rfl, p, ra⟩ := h1.list_inv
  obtain ⟨b, ws, rfl, q, rb⟩ := h2.list_inv
  have e1 := ra.len
  have e2 := rb.len
  refine lgt_lists (e := fun _ => true) (g := fun _ => false) p.isList q.isList (fun _ _ _ _ => rfl) (by simp; omega) o.u ?_ (fun _ _ _ h => nomatch h) ⟨.bool, kp_refl s⟩
  intro j a1 a2
  have hj : j < ds.length := by simpa [e1] using a1
  obtain ⟨v, ev, r1⟩ := ra.get (List.getElem?_eq_getElem hj)
  obtain ⟨u, eu, r2⟩ := rb.get (List.getElem?_eq_getElem hj)
  obtain ⟨as, r1, _⟩ := r1
  obtain ⟨bs, r2, _⟩ := r2
  have hm := List.getElem_mem hj
  have := SeqAt.eqAt_reads _ _ A.in1 s v u as bs r1 r2 (hk _ hm) (hk _ hm) (by have := hd _ hm; have := o.units; simp only [Around.in1_units]; omega)
  rw [SeqAt.eqv_refl _ (hk _ hm)] at this
  have f1 : vs.toArray[j] = v := by
    obtain ⟨_, q⟩ := List.getElem?_eq_some_iff.mp ev
    simpa using q
  have f2 : ws.toArray[j] = u := by
    obtain ⟨_, q⟩ := List.getElem?_eq_some_iff.mp eu
    simpa using q
  rw [f1, f2]; exact this

theorem s13_14 {Ls : List Str} (hL : Lb Ls) (o : Ok 10 A) : Ex prog w A (le L a cd) (st13 14) [] (Gh Ls) (.go [] (("period", .int (perOf (lens Ls) : Nat)) :: Gh Ls)) := by
  have hw : (lens Ls).length = 10 := by rw [lens, List.length_map, hL.len]
  refine ex_assign (d := .int (perOf (lens Ls) : Nat)) fe13 (evx_nl (ev_call1 (R1 := fun h v => Rd h v (.list ((perNs (lens Ls)).map .int))) fe13 (.inl ⟨_, rfl⟩) rfl (Ev.as (EvF.ev (d := .list (outcome 10 (fun i => mtw (lens Ls) (i + 1)) fun i => .int ((1 : Int) + (i : Nat)))) ?_) ?_) (b_minl o (perNs_mem hw) perNs_min))) (.inr ⟨rfl, _, rfl⟩) (n0 _)
  · refine evf_comp (n := 10) (cl := [("answers", L + 8)]) (Gf := [("answers", .list (bls (dueB (lens Ls))))]) (ds := fun i => [("k", .int (1 + i))]) (nm := ["k"]) ?_
      (Frees.cons frees_nil rfl rfl rfl (L + 8) rfl rfl) (by decide) (fun C i hi => ?_) (fun C i hi _ => ?_) rfl ?_ ?_ ?_ rfl ?_
    · exact src_range (lo := 1) (hi := 11) o (ev_call2 (R1 := fun h v => Rd h v (.int 1)) (R2 := fun h v => Rd h v (.int 11)) fe13 (.inr ⟨_, rfl⟩) rfl ev_int ev_int (fun _ _ _ h k => h.gr k) b_range2) (by decide) (by decide) (by decide) (by decide)
    · have hg : (bls (dueB (lens Ls)))[i]? = some (.bool (mtw (lens Ls) (i + 1))) := by
        have : (dueB (lens Ls))[i]? = some (mtw (lens Ls) (i + 1)) := by
          unfold dueB
          rw [List.getElem?_append_left (by simp [an1]; omega), List.getElem?_append_left (by simp [an1]; omega), List.getElem?_append_left (by simp [an1]; omega), an1, List.getElem?_map, List.getElem?_range hi]; rfl
        rw [bls, List.getElem?_map, this]; rfl
      exact tsts_one (tst_plain (ev_item_listT (i := i) (ev_name ⟨rfl, rfl, rfl⟩ rfl) (Ev.as (ev_bin (ev_name ⟨rfl, rfl, rfl⟩ rfl) ev_int o_sub) (by congr 1; omega)) hg (by omega)) tr_bool)
    · exact evf_scal (d := .int _) (ev_name ⟨rfl, rfl, rfl⟩ rfl) rfl
    · intro i x d h
      simpa using lookup_names h
    · decide
    · decide
    · decide
  · unfold outcome perNs
    rw [List.map_map]; rfl
theorem s13_15 {Ls : List Str} (hL : Lb Ls) (o : Ok 10 A) : Ex prog w A (le L a cd) (st13 15) [] (("period", .int (perOf (lens Ls) : Nat)) :: Gh Ls) (.go [] (("turns", li (tns (lens Ls))) :: ("period", .int (perOf (lens Ls) : Nat)) :: Gh Ls)) := by
  have hw : (lens Ls).length = 10 := by rw [lens, List.length_map, hL.len]
  refine ex_assign (d := li (tns (lens Ls))) fe13 (evx_any (Ev.as (EvF.ev (d := .list (outcome 10 (fun _ => true) fun k => .int (turnOf (lens Ls) k : Nat))) ?_) (by rw [outcome_all, li, tns, List.map_map]; rfl))) (.inr ⟨rfl, _, rfl⟩) (n0 _)
  refine evf_comp (n := 10) (cl := [("rows", L + 7)]) (Gf := [("rows", rowsOf (lens Ls))]) (ds := fun i => [("k", .int (0 + i))]) (nm := ["k"]) ?_
    (Frees.cons frees_nil rfl rfl rfl (L + 7) rfl rfl) (by decide) (fun C i hi => tsts_nil) (fun C i hi _ => ?_) rfl ?_ ?_ ?_ rfl ?_
  · exact src_range (lo := 0) (hi := 10) o (ev_call1 (R1 := fun h v => Rd h v (.int 10)) fe13 (.inr ⟨_, rfl⟩) rfl ev_int b_range1) (by decide) (by decide) (by decide) (by decide)
  · exact evf_scal (d := .int _) (ev_f2 ⟨rfl, rfl, rfl⟩ (o.less (by omega)) rfl (by simp) (ev_name ⟨rfl, rfl, rfl⟩ rfl) (Ev.as (ev_name ⟨rfl, rfl, rfl⟩ rfl) (by congr 1; omega)) (turn_fn hw (by omega))) rfl
  · intro i x d h
    simpa using lookup_names h
  · decide
  · decide
  · decide
abbrev Gj (Ls : List Str) : Gam := ("turns", li (tns (lens Ls))) :: ("period", .int (perOf (lens Ls) : Nat)) :: Gh Ls
theorem s13_16 {Ls : List Str} (hL : Lb Ls) (o : Ok 10 A) : Ex prog w A (le L a cd) (st13 16) [] (Gj Ls) (.go [] (("late", .int (lateOf (lens Ls) : Nat)) :: Gj Ls)) := by
  have hw : (lens Ls).length = 10 := by rw [lens, List.length_map, hL.len]
  have hn : (nw (lens Ls)).length = 10 := by rw [nw, List.length_map, hw]
  refine ex_assign (d := .int (lateOf (lens Ls) : Nat)) fe13 (evx_nl (Ev.as (ev_call2 (R1 := fun h v => Rd h v (.int (best (lens Ls) 9 : Nat))) (R2 := fun h v => Rd h v (.int (best (nw (lens Ls)) 9 : Nat))) fe13 (.inl ⟨_, rfl⟩) rfl
    (ev_f1 fe13 (o.less (by omega)) rfl (by simp) (ev_name fe13 rfl) (greatest_fn hw)) (ev_f1 (d1 := rowsOf (nw (lens Ls))) fe13 (o.less (by omega)) rfl (by simp) ?_ (greatest_fn hn)) (fun _ _ _ h k => h.gr k) (b_max2 o)) (by unfold lateOf; congr 1; omega))) (.inl rfl) (n0 _)
  refine Ev.as (EvF.ev (d := .list (outcome 11 (fun _ => true) fun k => li ((nw (lens Ls)).drop k))) ?_) (by rw [outcome_all]; rfl)
  have hlr : ((List.range 11).map fun k => li ((lens Ls).drop k)).length = 11 := by simp
  refine EvF.as (d := .list (outcome ((List.range 11).map fun k => li ((lens Ls).drop k)).length (fun _ => true) fun k => li ((nw (lens Ls)).drop k))) ?_ (by rw [hlr])
  refine evf_comp (cl := []) (Gf := []) (nm := ["row"]) (src_list (ds := (List.range 11).map fun k => li ((lens Ls).drop k)) o (ev_ls (ev_name fe13 rfl))) frees_nil (by rw [hlr]; decide) (fun C i hi => tsts_nil) (fun C i hi _ => ?_) rfl ?_ ?_ ?_ rfl ?_
  · have hi11 : i < 11 := by rw [hlr] at hi; exact hi
    have hg : ((List.range 11).map fun k => li ((lens Ls).drop k)).getD i .none = li ((lens Ls).drop i) := by rw [List.getD_eq_getElem?_getD, rowsOf_get hi11]; rfl
    rw [hg]
    have eo2 : outcome (((lens Ls).drop i).map PyData.int).length (fun _ => true) (fun j => PyData.int (-(((lens Ls).drop i).getD j 0))) = ((nw (lens Ls)).drop i).map .int := by
      rw [outcome_all, nw, ← List.map_drop, List.map_map, List.length_map]
      conv => rhs; rw [← range_getD ((lens Ls).drop i) 0, List.map_map]
      rfl
    refine EvF.as (d := .list (outcome (((lens Ls).drop i).map PyData.int).length (fun _ => true) (fun j => PyData.int (-(((lens Ls).drop i).getD j 0))))) ?_ (by rw [eo2]; rfl)
    refine evf_comp (cl := []) (Gf := []) (nm := ["number"]) (src_list (ds := ((lens Ls).drop i).map PyData.int) o (ev_ls (ev_name ⟨rfl, rfl, rfl⟩ rfl))) frees_nil (by simp [hw]; omega) (fun C' j hj => tsts_nil) (fun C' j hj _ => ?_) rfl ?_ ?_ ?_ rfl ?_
    · have hj2 : j < ((lens Ls).drop i).length := by simpa using hj
      have hgj : (((lens Ls).drop i).map PyData.int).getD j .none = .int (((lens Ls).drop i).getD j 0) := by
        rw [List.getD_eq_getElem?_getD, getN hj2]; rfl
      rw [hgj]
      exact evf_scal (d := .int _) (ev_un (ev_name ⟨rfl, rfl, rfl⟩ rfl) o_neg) rfl
    · intro i x d h
      simpa using lookup_names h
    · decide
    · decide
    · decide
  · intro i x d h
    simpa using lookup_names h
  · decide
  · decide
  · decide
end
end Mine
end

section
open PySem PySem.W PyProof.Rows
set_option linter.all false
set_option maxRecDepth 100000
set_option maxHeartbeats 1000000
namespace Mine

section
variable {prog : Program} {w : World} {A : Around} {env : Env} {G : Gam}
/-- a comprehension given straight to a local name -/
theorem ex_assign_comp {y : Str} {py : Pos} {elt target iter : Expr} {ifs : List Expr} {scope : Scope} {cl : List (Str × Addr)} {pos spos : Pos} {Gf : Gam} {n : Nat} {ds : Nat → Gam} {nm : List Str} {keep : Nat → Bool} {f : Nat → PyData}
    (fe : FEnv env) (hy : CanSt env y) (src : Src prog w A env G target iter n ds nm) (fr : Frees env G cl scope Gf) (hz : n ≤ 1000)
    (htests : ∀ C i, i < n → Tsts prog w A (compEnvC scope cl C env) (ds i ++ Gf) ifs (keep i))
    (helt : ∀ C i, i < n → keep i = true → EvF prog w A (compEnvC scope cl C env) (ds i ++ Gf) elt (f i))
    (hclos : closureFor scope env = pure cl)
    (hsw : swapsWith (.ListComp elt [⟨target, iter, ifs, 0⟩] scope pos) (some (.Name y py)) spos.line env = pure true)
    (hnm : ∀ i x d, (ds i).lookup x = some d → x ∈ nm)
    (hnm2 : ∀ x ∈ nm, scope.names.lookup x = some .local)
    (hcell : ∀ y ∈ scope.names, y.2 ≠ .cell) (hkind : scope.kind = .function)
    (hnames : ∀ y ∈ scope.names, y.2 = .local → scope.names.lookup y.1 = some .local)
    (hs : ∀ x, foldedSetIterable iter env x = pure x := by intro _; rfl) :
    Ex prog w A env (.Assign [.Name y py] (.ListComp elt [⟨target, iter, ifs, 0⟩] scope pos) spos) [] G (.go [] ((y, .list (outcome n keep f)) :: G)) := fun kp s₀ s Q E X q => by
  rw [exec_Assign_Name_used _ _ _ _ hsw]
  refine wpAny_bind (wpAny_standAt (wpAny_bind ?_))
  show wpAny _ A (do let _ ← comprehension (.ListComp elt [⟨target, iter, ifs, 0⟩] scope pos) scope env _ (newList []) false (eval iter env) (some (assign (.Name y py) env))) _ _ s
  have loc : ∀ C x, x ∈ nm → (compEnvC scope cl C env).kindOf x = some .local := fun C x hx => lookup_relabel_local (hnm2 x hx)
  have c : Cx env G s.heap := X.cx
  refine wpAny_bind (wpAny_mono (wpAny_comprehension_free (use := some (assign (.Name y py) env)) (Q := fun _ s' => Q .next s') rfl hs hclos hkind hnames
    (src s _ _ c fun it s₂ fp wr St K k2 hF st hfp hwr hK => ?_)) (fun _ s' hq => wpAny_pure (wpAny_pure hq)) fun _ _ e => e)
  refine comp_block (RR := fun acc C => compPost (model prog w) A E (some (assign (.Name y py) env)) (fun _ s' => Q .next s') acc C) (s₀ := s) (Gf := Gf) (keep := keep) (f := f) (fun C => hF _ (by simp [compEnvC, relabel, hkind]) (loc C)) hz hcell hkind st hfp k2 hwr hK
    (fun C i x d h => loc C x (hnm i x d h)) (fun C h g => fr.cx (c.gr g) C) htests helt ?_
  intro D C h' tk m' ys h₁ g1 hC1 hD hC hDC hn hpl hr hk
  have grow : Gr s.heap h' := fun b o e => hk b o (fun hb => by rw [hwr b hb] at e; cases e) (kp_gr k2 b o e)
  have hC0 : s.heap.get? C = none := by
    cases e : s.heap.get? C with
    | none => rfl
    | some o => have := kp_gr k2 _ _ e; rw [hC] at this; cases this
  have kk : Keeps s { s₂ with heap := h', toks := tk } := by
    obtain ⟨h2, tk2, rfl, g2⟩ := k2
    exact ⟨h', tk, rfl, grow⟩
  have X' := X.keep kk
  have hs0 : s₀.heap.get? C = none := by
    cases e : s₀.heap.get? C with
    | none => rfl
    | some o => have := kp_gr X.done _ _ e; rw [hC0] at this; cases this
  have hkC : kp C = none := by
    cases e : kp C with
    | none => rfl
    | some o =>
      obtain ⟨_, _, m, cm, al, c, nd, kx, _⟩ := X
      have := (kx _ _ e).1
      rw [hC0] at this; cases this
  have hLC : env.locals ≠ C := by
    obtain ⟨_, _, m, cm, al, c, _⟩ := X
    obtain ⟨o, _, _, ho, _⟩ := c.toInCall.ns
    rintro rfl; rw [hC0] at ho; cases ho
  have hcC : ∀ n c, env.cells.lookup n = some c → C ≠ c := by
    obtain ⟨_, _, m, cm, al, c, _⟩ := X
    rintro n c' q rfl
    obtain ⟨o, ho, _⟩ := c.cell n _ q
    rw [hC0] at ho; cases ho
  obtain ⟨oC, esC, epC, hoC, hdC, hrC⟩ := id hn
  have X2 : Fs (fun b => if b = C then some oC else kp b) s₀ env [] G { s₂ with heap := h', toks := tk } := by
    obtain ⟨b0, nn, m, cm, al, c, nd, kx, ee, ff⟩ := X'
    refine ⟨b0, nn, m, cm, al, c, nd, ?_, ee, ff⟩
    intro z o ez
    by_cases hz : z = C
    · subst hz
      simp only [if_true] at ez
      cases ez
      exact ⟨hoC, fun h => hLC h.symm, fun n c' q => hcC n c' q, fun h => nomatch h⟩
    · simp only [hz, if_false] at ez
      exact kx z o ez
  have rF : RdF s.heap h' (.ref D) (.list (outcome n keep f)) := by
    refine RdF.list (by obtain ⟨nn, e⟩ := hpl; exact ⟨nn, e⟩) ?_ (RdAF.older hr g1)
    cases e : s.heap.get? D with
    | none => rfl
    | some o => have := kp_gr k2 D o e; rw [hD] at this; cases this
  show wpAny _ A (assign (.Name y py) env (.ref D)) _ _ _
  refine wpAny_assign_Name (fs_store (d := .list (outcome n keep f)) fe X2 (kp_refl _) hy (fun _ h => nomatch h) (fun av hv _ => ?_) fun s3 X3 => ?_)
  · have := hv rfl
    subst this
    exact rF.x fun _ h => nomatch h
  · have h3C : s3.heap.get? C = some oC := by
      obtain ⟨b0, nn, m, cm, al, c, nd, kx, ee, ff⟩ := X3
      exact (kx C oC (by simp)).1
    refine ⟨m', ⟨oC, esC, epC, h3C, hdC, hrC⟩, fun h'' hs'' => ?_⟩
    refine q _ ?_
    have X4 := X3.kpless (kp := kp) (fun z o ez => by
      have : z ≠ C := by rintro rfl; rw [hkC] at ez; cases ez
      simp only [this, if_false]; exact ez)
    have := X4.but (wr := [C]) (h' := h'') (tk := s3.toks) (fun b hb => by rw [List.mem_singleton.mp hb]; exact hs0) (fun b hb => by rw [List.mem_singleton.mp hb]; exact hkC)
      (fun b hb => by rw [List.mem_singleton.mp hb]; exact ⟨oC, h3C, by rintro ⟨_, _, q⟩; rw [hdC] at q; cases q⟩) (fun h => hLC (List.mem_singleton.mp h)) (fun n c' q h => hcC n c' q (List.mem_singleton.mp h).symm)
      (fun b o hb e => hs''.extBut b o (fun h => hb (by simp [h])) e)
    exact this
end
end Mine
end

section
open PySem PySem.W PyProof.Rows
set_option linter.all false
set_option maxRecDepth 100000
set_option maxHeartbeats 1000000
namespace Mine

/-- the frame's own slots change -/
theorem Fs.ownSlots {kp : Kp} {s₀ s s1 : Shared} {env : Env} {os : Owns} {G : Gam} {L : Addr} (x : Fs kp s₀ env os G s) (hL : env.locals = L) (sl : Sl L s s1) : Fs kp s₀ env os G s1 := by
  obtain ⟨h', rfl, hs⟩ := sl
  obtain ⟨b, nn, m, cm, al, c, nd, kx, e, f⟩ := x
  have ne : ∀ b' o, isSeq o → s.heap.get? b' = some o → h'.get? b' = some o := by
    intro b' o sq eb
    rw [hs.2.1 b' ?_]; exact eb
    intro hz
    rw [List.mem_singleton.mp hz, ← hL] at eb
    exact ns_notSeq c.toInCall.ns eb sq rfl
  refine ⟨b, nn, m, cm, al, ?_, nd, ?_, ?_, ?_⟩
  · obtain ⟨⟨⟨h1, tk1, hss⟩, b1, c1, d1⟩, e1, f1, i1⟩ := c
    refine ⟨⟨⟨h', tk1, by rw [hss]⟩, ?_, fun b' o' eb => ?_, d1⟩, fun n' c' q' => ?_, f1, i1⟩
    · obtain ⟨o, es, ep, ho, hd, hr⟩ := b1
      obtain ⟨sl2, e2⟩ := hs.2.2 _ _ ho
      exact ⟨_, es, ep, e2, hd, hr⟩
    · have hbL : b' ≠ L := by
        have := Nat.lt_of_lt_of_le (Heap.lt_size eb) d1
        rw [hL] at this
        exact Nat.ne_of_lt this
      show h'.get? b' = some o'
      rw [hs.2.1 b' (by simp [hbL])]
      exact c1 b' o' eb
    · obtain ⟨o, ho, hd⟩ := e1 n' c' q'
      obtain ⟨sl2, e2⟩ := hs.2.2 _ _ ho
      exact ⟨_, e2, hd⟩
  · intro z o ez
    obtain ⟨p, q1, q2, q3⟩ := kx z o ez
    refine ⟨?_, q1, q2, q3⟩
    show h'.get? z = some o
    rw [hs.2.1 z ?_]; exact p
    intro hz
    exact q1 ((List.mem_singleton.mp hz).trans hL.symm)
  · intro y d hy
    obtain ⟨u, lu, ru⟩ := e y d hy
    exact ⟨u, lu, ru.but fun b' o sq _ eb => ne b' o sq eb⟩
  · intro o ho
    obtain ⟨lo, f0, vs, ⟨q, p⟩, ra⟩ := f o ho
    exact ⟨lo, f0, vs, ⟨q, ne _ _ ⟨_, _, rfl⟩ p⟩, ra.but fun b' o sq _ eb => ne b' o sq eb⟩

section
variable {prog : Program} {w : World} {A : Around} {env : Env} {os : Owns} {G : Gam} {L a : Addr} {cd : Value}
theorem Fs.low {kp : Kp} {s₀ s : Shared} (x : Fs kp s₀ env os G s) (hL : env.locals = L) : Low L s := by
  obtain ⟨b, nn, m, cm, al, c, nd, kx, e, f⟩ := x
  obtain ⟨o, es, ep, ho, hd, hr⟩ := c.toInCall.ns
  rw [hL] at ho
  refine ⟨⟨o, ho, (fun vs q => by rw [hd] at q; cases q), by rintro ⟨_, _, q⟩; rw [hd] at q; cases q⟩, ?_⟩
  rintro s1 ⟨h', rfl, hs⟩
  refine b.gr fun b' o' eb => ?_
  show h'.get? b' = some o'
  have hbL : b' ≠ L := by
    have := Nat.lt_of_lt_of_le (Heap.lt_size eb) c.toInCall.fresh
    rw [hL] at this
    exact Nat.ne_of_lt this
  rw [hs.2.1 b' (by simp [hbL])]
  exact c.toInCall.keep b' o' eb

/-- sorted_list_difference, called by name from law -/
theorem call_sld {n : Nat} {X Y FM FU : List Str} {x : Str} {p pos : Pos} {e1 e2 : Expr} {kp : Kp} {s₀ s : Shared} {E : Value → Shared → Prop} (fe : FEnv env) (o : Ok (n + 3) A) (hfr : A.frames = some [env]) (hfl : env.frame = some L) (hL : env.locals = L) (hn : x = fn 8)
    (a : Ev prog w A env (ownG os ++ G) e1 (.list (sl (dbl X)))) (b : Ev prog w A env (ownG os ++ G) e2 (.list (sl (dbl Y))))
    (hX : X.length ≤ 100) (hY : Y.length ≤ 100) (oX : ∀ x ∈ X, PyData.strOk x = true) (oY : ∀ x ∈ Y, PyData.strOk x = true)
    (dX : ∀ i x, X[i]? = some x → X[i + 1]? ≠ some x) (dY : ∀ i x, Y[i]? = some x → Y[i + 1]? ≠ some x) (hlast : ∀ x, X[X.length - 1]? = some x → Y[Y.length - 1]? = some x → False)
    (hF : mg X Y = (FM, FU)) (X0 : Fs kp s₀ env os G s)
    (hk : env.kindOf x = some .globalImplicit := by rfl) (hs : starEach [e1, e2] env = [(false, eval e1 env), (false, eval e2 env)] := by rfl) (hd : (x == ("__debug__" : Str)) = false := by decide) :
    wpAny (model prog w) A (eval (.Call (.Name x p) [e1, e2] [] pos) env) (fun v s' => Rd s'.heap v (.tuple [.list (sl FM), .list (sl FU)]) ∧ Fs kp s₀ env os G s') E s := by
  have c := X0.cx
  refine Call_Name2 ((ev_fn 8 fe hk (by simp) hn hd).use c fun v s1 h k => ?_) hs
  obtain ⟨af, rfl, hf⟩ := h
  refine Calls.callWith_function (o := hf.choose) (fd := Calls.docDef (fn 8) (fp 8) (fb 8) (fs 8) hf.choose_spec.choose hf.choose_spec.choose_spec.choose hf.choose_spec.choose_spec.choose_spec.choose) (Calls.evalArgs_plain (Calls.spliced_cons (a.use (c.gr (kp_gr k)) fun v2 s2 h2 k2 => Calls.spliced_cons (b.use ((c.gr (kp_gr k)).gr (kp_gr k2)) fun v3 s3 h3 k3 => Calls.spliced_nil ?_))))
  have spec := hf.choose_spec.choose_spec.choose_spec.choose_spec
  have X3 := X0.keep (kp_trans k (kp_trans k2 k3))
  refine ⟨⟨kp_gr k3 _ _ (kp_gr k2 _ _ spec.1), spec.2.1⟩, wpAny_mono (sld_fn o hfr hfl fe.kind (X3.low hL) hX hY oX oY dX dY hlast hF (hf.gr (kp_gr (kp_trans k2 k3))) (.cons (h2.gr (kp_gr k3)) (.cons h3 .nil))) (fun v s4 h4 => ?_) fun _ _ e => e⟩
  obtain ⟨r, s₀', sl, kk⟩ := h4
  exact ⟨r, (X3.ownSlots hL sl).keep kk⟩
end
end Mine
end

section
open PySem PySem.W PyProof.Rows
set_option linter.all false
set_option maxRecDepth 100000
namespace Mine

/-- texts in order -/
def leS (a b : Str) : Bool := !(Spec.ltCps (cl b) (cl a))
theorem leS_iff {a b : Str} : leS a b = true ↔ ¬ cl b < cl a := by
  unfold leS
  rw [ltCps_eq]; simp
theorem leS_trans (a b c : Str) (h1 : leS a b = true) (h2 : leS b c = true) : leS a c = true := by
  rw [leS_iff] at *
  exact List.not_lt.mpr (List.le_trans (List.not_lt.mp h1) (List.not_lt.mp h2))
theorem leS_total (a b : Str) : (leS a b || leS b a) = true := by
  rw [Bool.or_eq_true, leS_iff, leS_iff]
  by_cases h : cl b < cl a
  · right; exact fun h2 => List.lt_irrefl _ (List.lt_trans h h2)
  · exact .inl h
theorem leS_anti {a b : Str} (h1 : leS a b = true) (h2 : leS b a = true) : a = b := cl_inj (lex_tri (leS_iff.mp h2) (leS_iff.mp h1))
def srt (l : List Str) : List Str := l.mergeSort leS
theorem srt_perm (l : List Str) : (srt l).Perm l := List.mergeSort_perm l leS
theorem srt_pw (l : List Str) : (srt l).Pairwise (fun a b => leS a b = true) := List.pairwise_mergeSort leS_trans leS_total l
theorem sortedS_pw : ∀ {l : List Str}, sortedS l = true → l.Pairwise (fun a b => leS a b = true) := by
  have key : ∀ (r : List Str) (p : Str), risingS p r = true → (p :: r).Pairwise (fun a b => leS a b = true) := by
    intro r
    induction r with
    | nil => intro p _; simp
    | cons x r ih =>
      intro p h
      simp only [risingS, Bool.and_eq_true] at h
      have h2 := ih x h.2
      refine List.pairwise_cons.mpr ⟨fun y hy => ?_, h2⟩
      have hpx : leS p x = true := h.1
      rcases List.mem_cons.mp hy with rfl | hy
      · exact hpx
      · exact leS_trans _ _ _ hpx ((List.pairwise_cons.mp h2).1 y hy)
  intro l h
  cases l with
  | nil => simp
  | cons x r => exact key r x h
theorem srt_hu {ss ss' : List Str} (p : ss'.Perm ss) (s : ss'.Pairwise (fun a b => leS a b = true)) : ∀ l : List Str, l.Perm ss → sortedS l = true → l = ss' := fun l h1 h2 =>
  List.Perm.eq_of_pairwise (fun a b _ _ x y => leS_anti x y) (sortedS_pw h2) s (h1.trans p.symm)
theorem dbl_perm : ∀ l : List Str, (dbl l).Perm (l ++ l)
  | [] => .nil
  | x :: l => by
    rw [dbl_cons]
    refine List.Perm.cons x ?_
    refine ((dbl_perm l).cons x).trans ?_
    exact (List.perm_middle).symm
theorem dbl_pw : ∀ {l : List Str}, l.Pairwise (fun a b => leS a b = true) → (dbl l).Pairwise (fun a b => leS a b = true)
  | [], _ => List.Pairwise.nil
  | x :: l, h => by
    rw [dbl_cons]
    obtain ⟨h1, h2⟩ := List.pairwise_cons.mp h
    have hm : ∀ y ∈ dbl l, leS x y = true := fun y hy => h1 y (by
      have := (dbl_perm l).mem_iff.mp hy
      simpa using this)
    have hr : leS x x = true := leS_iff.mpr (List.lt_irrefl _)
    refine List.pairwise_cons.mpr ⟨fun y hy => ?_, List.pairwise_cons.mpr ⟨hm, dbl_pw h2⟩⟩
    rcases List.mem_cons.mp hy with rfl | hy
    · exact hr
    · exact hm y hy
/-- strictly in order -/
def stS (l : List Str) : Prop := l.Pairwise fun a b => cl a < cl b
theorem st_of {l : List Str} (h : l.Pairwise (fun a b => leS a b = true)) (n : l.Nodup) : stS l := by
  refine (List.Pairwise.and h n).imp ?_
  rintro a b ⟨h1, h2⟩
  by_cases q : cl a < cl b
  · exact q
  · exact absurd (cl_inj (lex_tri q (leS_iff.mp h1))) h2
abbrev til : Str := "~"
theorem mg1 {c : Str → Bool} : ∀ {X : List Str}, stS X → (∀ x ∈ X, cl x < cl til) → mg X (X.filter c ++ [til]) = (X.filter (fun x => !c x), [til, til])
  | [], _, _ => by simp [mg, dbl]
  | x :: X, hs, ht => by
    obtain ⟨h1, h2⟩ := List.pairwise_cons.mp hs
    have ih := mg1 (c := c) h2 fun y hy => ht y (.tail _ hy)
    cases hc : c x with
    | true =>
      rw [List.filter_cons_of_pos (by simp [hc]), List.filter_cons_of_neg (by simp [hc]), List.cons_append, mg, if_neg (List.lt_irrefl _), if_neg (List.lt_irrefl _), ih]
    | false =>
      rw [List.filter_cons_of_neg (by simp [hc]), List.filter_cons_of_pos (by simp [hc])]
      cases e : X.filter c ++ [til] with
      | nil => simp at e
      | cons y r =>
        have hxy : cl x < cl y := by
          have hm : y ∈ X.filter c ++ [til] := by rw [e]; simp
          rcases List.mem_append.mp hm with h | h
          · exact h1 y (List.mem_filter.mp h).1
          · rw [List.mem_singleton.mp h]; exact ht x (.head _)
        rw [mg, if_pos hxy, ← e, ih]
theorem mg2 {c : Str → Bool} : ∀ {X : List Str}, stS X → (∀ x ∈ X, cl x < cl til) → mg (X.filter c ++ [til]) X = ([til, til], X.filter (fun x => !c x))
  | [], _, _ => by simp [mg, dbl]
  | x :: X, hs, ht => by
    obtain ⟨h1, h2⟩ := List.pairwise_cons.mp hs
    have ih := mg2 (c := c) h2 fun y hy => ht y (.tail _ hy)
    cases hc : c x with
    | true =>
      rw [List.filter_cons_of_pos (by simp [hc]), List.filter_cons_of_neg (by simp [hc]), List.cons_append, mg, if_neg (List.lt_irrefl _), if_neg (List.lt_irrefl _), ih]
    | false =>
      rw [List.filter_cons_of_neg (by simp [hc]), List.filter_cons_of_pos (by simp [hc])]
      cases e : X.filter c ++ [til] with
      | nil => simp at e
      | cons y r =>
        have hxy : cl x < cl y := by
          have hm : y ∈ X.filter c ++ [til] := by rw [e]; simp
          rcases List.mem_append.mp hm with h | h
          · exact h1 y (List.mem_filter.mp h).1
          · rw [List.mem_singleton.mp h]; exact ht x (.head _)
        rw [mg, if_neg (fun q => List.lt_irrefl _ (List.lt_trans hxy q)), if_pos hxy, ← e, ih]
theorem stS_next {X : List Str} (h : stS X) : ∀ i x, X[i]? = some x → X[i + 1]? ≠ some x := by
  intro i x h1 h2
  obtain ⟨a, b⟩ := List.getElem?_eq_some_iff.mp h1
  obtain ⟨c, d⟩ := List.getElem?_eq_some_iff.mp h2
  have := List.pairwise_iff_getElem.mp h i (i + 1) a c (by omega)
  rw [b, d] at this
  exact List.lt_irrefl _ this
theorem cl_til : cl til = [126] := by decide +kernel
theorem gd_til {x : Str} (g : Gd x) (hne : cl x ≠ []) : cl x < cl til := by
  rw [cl_til]
  cases e : cl x with
  | nil => exact absurd e hne
  | cons a r =>
    have : a ∈ cl x := by rw [e]; simp
    have := g a this
    simp only [List.mem_cons, List.not_mem_nil, or_false] at this
    exact List.Lex.rel (by omega)
end Mine
end

section
open PySem PySem.W PyProof.Rows
set_option linter.all false
set_option maxRecDepth 100000
set_option maxHeartbeats 1000000
namespace Mine

def cr (w : List Int) (k : Nat) : Bool := ((turnOf w k : Nat) : Int) == ((perOf w : Nat) : Int)
def rsL (Ls : List Str) : List Str := (List.range 9).map fun i => rg Ls (i + 1)
def tmL (Ls : List Str) : List Str := ((List.range 9).filter fun i => cr (lens Ls) (i + 1)).map fun i => rg Ls (i + 1)
def wlL (Ls : List Str) : List Str := ((List.range 9).filter fun i => !cr (lens Ls) (i + 1)).map fun i => rg Ls (i + 1)
def cS (Ls : List Str) (x : Str) : Bool := decide (x ∈ tmL Ls)

section
variable {Ls : List Str} (hL : Lb Ls)
include hL
theorem cS_rg {i : Nat} (hi : i < 9) : cS Ls (rg Ls (i + 1)) = cr (lens Ls) (i + 1) := by
  unfold cS tmL
  rw [Bool.eq_iff_iff, decide_eq_true_eq]
  constructor
  · intro h
    obtain ⟨j, hj, e⟩ := List.mem_map.mp h
    obtain ⟨h1, h2⟩ := List.mem_filter.mp hj
    have hj9 : j < 9 := by simpa using h1
    have := rg_inj hL (by omega) (by omega) e
    rw [← this]; exact h2
  · intro h
    exact List.mem_map.mpr ⟨i, List.mem_filter.mpr ⟨by simpa using hi, h⟩, rfl⟩
theorem rs_tm : (rsL Ls).filter (cS Ls) = tmL Ls := by
  unfold rsL
  rw [List.filter_map]
  conv => rhs; unfold tmL
  congr 1
  refine List.filter_congr fun i hi => ?_
  exact cS_rg hL (by simpa using hi)
theorem rs_wl : (rsL Ls).filter (fun x => !cS Ls x) = wlL Ls := by
  unfold rsL
  rw [List.filter_map]
  conv => rhs; unfold wlL
  congr 1
  refine List.filter_congr fun i hi => ?_
  show (!cS Ls (rg Ls (i + 1))) = _
  rw [cS_rg hL (by simpa using hi)]
theorem rs_nodup : (rsL Ls).Nodup := by
  unfold rsL
  rw [List.nodup_iff_pairwise_ne, List.pairwise_map]
  refine (List.pairwise_lt_range (n := 9)).imp_of_mem ?_
  intro a b ha hb hab e
  have ha9 : a < 9 := by simpa using ha
  have hb9 : b < 9 := by simpa using hb
  have := rg_inj hL (by omega) (by omega) e
  omega
theorem srt_st : stS (srt (rsL Ls)) := st_of (srt_pw _) ((srt_perm _).nodup_iff.mpr (rs_nodup hL))
theorem srt_tm : srt (tmL Ls) = (srt (rsL Ls)).filter (cS Ls) :=
  List.Perm.eq_of_pairwise (fun a b _ _ x y => leS_anti x y) (srt_pw _) ((srt_pw _).sublist List.filter_sublist) ((srt_perm _).trans (by rw [← rs_tm hL]; exact ((srt_perm _).filter _).symm))
theorem srt_wl : srt (wlL Ls) = (srt (rsL Ls)).filter (fun x => !cS Ls x) :=
  List.Perm.eq_of_pairwise (fun a b _ _ x y => leS_anti x y) (srt_pw _) ((srt_pw _).sublist List.filter_sublist) ((srt_perm _).trans (by rw [← rs_wl hL]; exact ((srt_perm _).filter _).symm))
theorem mem_rs {x : Str} (h : x ∈ srt (rsL Ls)) : ∃ i, i < 9 ∧ x = rg Ls (i + 1) := by
  have := (srt_perm _).mem_iff.mp h
  obtain ⟨i, hi, rfl⟩ := List.mem_map.mp this
  exact ⟨i, by simpa using hi, rfl⟩
theorem rs_til : ∀ x ∈ srt (rsL Ls), cl x < cl til := by
  intro x hx
  obtain ⟨i, hi, rfl⟩ := mem_rs hL hx
  refine gd_til (rg_gd hL _) ?_
  obtain ⟨c, h, _⟩ := rg_first hL (i + 1)
  intro e
  rw [e] at h; cases h
abbrev hereL (Ls : List Str) : List Str := srt (rsL Ls)
abbrev thereL (Ls : List Str) : List Str := srt (tmL Ls) ++ [til]
theorem mg_1 : mg (hereL Ls) (thereL Ls) = (srt (wlL Ls), [til, til]) := by
  unfold hereL thereL
  rw [srt_tm hL, srt_wl hL]; exact mg1 (srt_st hL) (rs_til hL)
theorem mg_2 : mg (thereL Ls) (hereL Ls) = ([til, til], srt (wlL Ls)) := by
  unfold hereL thereL
  rw [srt_tm hL, srt_wl hL]; exact mg2 (srt_st hL) (rs_til hL)
theorem st_there : stS (thereL Ls) := by
  unfold thereL stS
  rw [srt_tm hL]
  refine List.pairwise_append.mpr ⟨(srt_st hL).sublist List.filter_sublist, List.pairwise_singleton .., fun a ha b hb => ?_⟩
  rw [List.mem_singleton.mp hb]
  exact rs_til hL a (List.mem_filter.mp ha).1
theorem ok_here : ∀ x ∈ hereL Ls, PyData.strOk x = true := by
  intro x hx
  obtain ⟨i, _, rfl⟩ := mem_rs hL hx
  exact (rg_gd hL _).ok
omit hL in
theorem ok_til : PyData.strOk til = true := by decide +kernel
theorem ok_there : ∀ x ∈ thereL Ls, PyData.strOk x = true := by
  intro x hx
  rcases List.mem_append.mp hx with h | h
  · rw [srt_tm hL] at h
    exact ok_here hL x (List.mem_filter.mp h).1
  · rw [List.mem_singleton.mp h]; exact ok_til
theorem len_here : (hereL Ls).length ≤ 9 := by
  unfold hereL
  rw [(srt_perm _).length_eq]; simp [rsL]
theorem len_tm : (srt (tmL Ls)).length ≤ 9 := by
  rw [srt_tm hL]
  exact Nat.le_trans (List.length_filter_le _ _) (len_here hL)
theorem last_ne : ∀ x, (hereL Ls)[(hereL Ls).length - 1]? = some x → (thereL Ls)[(thereL Ls).length - 1]? = some x → False := by
  intro x h1 h2
  have a := rs_til hL x (List.mem_of_getElem? h1)
  unfold thereL at h2
  rw [List.length_append, List.length_singleton, Nat.add_sub_cancel, List.getElem?_append_right (Nat.le_refl _), Nat.sub_self] at h2
  cases h2
  exact List.lt_irrefl _ a
theorem rg_count {k : Nat} (hk : k ≤ 10) : Txt.count (rg Ls k) dt = ((10 - k : Nat) : Int) := by
  have hJ : ∀ ps : List (List Nat), (∀ p ∈ ps, 46 ∉ p) → ps ≠ [] → cnt 46 (J ps) = ((ps.length - 1 : Nat) : Int) := by
    intro ps
    induction ps with
    | nil => intro _ h; exact absurd rfl h
    | cons p r ih =>
      intro h _
      cases r with
      | nil => show cnt 46 p = _; rw [cnt_none 46 p (h p (.head _))]; rfl
      | cons q r =>
        rw [J_cons (by simp), cnt_append, cnt_cons, cnt_none 46 p (h p (.head _)), ih (fun x hx => h x (.tail _ hx)) (by simp)]
        simp only [List.length_cons]
        push_cast
        simp
        omega
  have e : Txt.count (rg Ls k) dt = cnt 46 (cl (rg Ls k)) := by
    rw [show (dt : Str) = ⟨#[46]⟩ from dot_eq]; exact count_cnt _ _
  have ec : cl (rg Ls k) = J ((Ls.drop k ++ [loc5]).map cl) := by unfold rg; rw [cl_join]
  rw [e, ec, hJ _ (parts_dot (dmem hL k)) (by simp)]
  simp only [List.length_map, List.length_append, List.length_drop, hL.len, List.length_singleton]
  omega
/-- the wild places -/
def pls (Ls : List Str) : List Int := (srt (wlL Ls)).map fun x => 10 - Txt.count x dt
theorem mem_pls {k : Nat} (h1 : 1 ≤ k) (h2 : k ≤ 9) : (k : Int) ∈ pls Ls ↔ cr (lens Ls) k = false := by
  unfold pls
  rw [List.mem_map]
  constructor
  · rintro ⟨x, hx, e⟩
    obtain ⟨i, hi, rfl⟩ := List.mem_map.mp ((srt_perm _).mem_iff.mp hx)
    obtain ⟨a, b⟩ := List.mem_filter.mp hi
    have hi9 : i < 9 := by simpa using a
    rw [rg_count hL (by omega)] at e
    have : k = i + 1 := by omega
    subst this
    simpa using b
  · intro h
    refine ⟨rg Ls k, (srt_perm _).mem_iff.mpr (List.mem_map.mpr ⟨k - 1, List.mem_filter.mpr ⟨by simp; omega, ?_⟩, by rw [Nat.sub_add_cancel h1]⟩), ?_⟩
    · rw [Nat.sub_add_cancel h1, h]; rfl
    · rw [rg_count hL (by omega)]; omega
end
end Mine
end

section
open PySem PySem.W PyProof.Rows
set_option linter.all false
set_option maxRecDepth 100000
set_option maxHeartbeats 1000000
namespace Mine

theorem rows_lay (w : List Int) : (∀ d ∈ (List.range 11).map (fun k => li (w.drop k)), d.depth ≤ 10) ∧ (∀ d ∈ (List.range 11).map (fun k => li (w.drop k)), d.canLay0 = true) ∧ PyData.canLayAll0 ((List.range 11).map (fun k => li (w.drop k))) = true := by
  have a : ∀ d ∈ (List.range 11).map (fun k => li (w.drop k)), d.canLay0 = true := by
    intro d hd
    obtain ⟨k, _, rfl⟩ := List.mem_map.mp hd
    exact lay_li
  refine ⟨?_, a, ?_⟩
  · intro d hd
    obtain ⟨k, _, rfl⟩ := List.mem_map.mp hd
    have := dep_li (w.drop k); omega
  · have key : ∀ l : List PyData, (∀ d ∈ l, d.canLay0 = true) → PyData.canLayAll0 l = true := by
      intro l
      induction l with
      | nil => intro _; rfl
      | cons x l ih =>
        intro h
        show (PyData.canLay0 x && PyData.canLayAll0 l) = true
        rw [h x (.head _), ih fun d hd => h d (.tail _ hd)]; rfl
    exact key _ a

section
variable {prog : Program} {w : World} {A : Around} {L a : Addr} {cd : Value}
theorem o_nei {n : Nat} {a b : Int} (o : Ok (n + 1) A) : Op2 prog w A (compareOp .NotEq) (.int a) (.int b) (.bool (!(a == b))) := by
  have := o_ne (prog := prog) (w := w) (d := .int a) (e := .int b) o rfl rfl (by simp [PyData.depth])
  rwa [PyData.eqv] at this
abbrev Gk (Ls : List Str) : Gam := [("turns", li (tns (lens Ls))), ("period", .int (perOf (lens Ls) : Nat)), ("rungs", .list (sl (RG Ls 11)))]
theorem best_hd (w : List Int) : lateOf w ≤ 9 := by
  unfold lateOf
  have := best_le w 9
  have := best_le (nw w) 9
  omega
theorem tns_get {w : List Int} {k : Nat} (h : k < 10) : ((tns w).map PyData.int)[k]? = some (.int (turnOf w k : Nat)) := by
  rw [tns, List.map_map, List.getElem?_map, List.getElem?_range h]; rfl
theorem s13_17 {Ls : List Str} (hL : Lb Ls) (o : Ok 10 A) (C : Crit (lens Ls)) : Ex prog w A (le L a cd) (st13 17) [] (("late", .int (lateOf (lens Ls) : Nat)) :: Gj Ls) (.go [] (Gk Ls)) := by
  obtain ⟨r1, r2, r3⟩ := rows_lay (lens Ls)
  have hb := best_hd (lens Ls)
  have hm1 : ((perOf (lens Ls) : Nat) : Int) ∈ tns (lens Ls) := List.mem_map.mpr ⟨lateOf (lens Ls), by simp; omega, by rw [C.turn]⟩
  have hm2 : ∀ x ∈ tns (lens Ls), x ≤ ((perOf (lens Ls) : Nat) : Int) := by
    intro x hx
    obtain ⟨k, hk, rfl⟩ := List.mem_map.mp hx
    have := C.most k (by have : k < 10 := by simpa using hk
                         omega)
    omega
  refine Ex.weaken (ex_if_f (tst_boolop (tst_or (b := false) (Tst.as (tst_cmp (ev_name fe13 rfl) (ev_name fe13 rfl) o_ge) (by have := C.late; simp; omega))
    (fun _ => tst_or (b := false) (Tst.as (tst_cmp (ev_item_list (i := lateOf (lens Ls)) (ev_name fe13 rfl) (ev_name fe13 rfl) (tns_get (by omega)) (by omega)) (ev_name fe13 rfl) (o_nei (n := 9) o)) (by rw [C.turn]; simp))
    (fun _ => tst_or (b := false) (Tst.as (tst_cmp (ev_call1 (R1 := fun h v => Rd h v (.list ((tns (lens Ls)).map .int))) fe13 (.inl ⟨_, rfl⟩) rfl (ev_name fe13 rfl) (b_maxl o hm1 hm2)) (ev_name fe13 rfl) (o_nei (n := 9) o)) (by simp))
    (fun _ => tst_or (b := false) (tst_plain (ev_call2 (R1 := fun h v => Rd h v (.int (b2i false - b2i false))) fe13 (.inl ⟨_, rfl⟩) rfl (ev_f2 (d1 := rowsOf (lens Ls)) (d2 := rowsOf (lens Ls)) fe13 (o.less (by omega)) rfl (by simp) (ev_name fe13 rfl) (ev_name fe13 rfl) (twc (n := 1) (fun A o => o_gt_same o r3 r1 r2) (fun A o => o_lt_same o r3 r1 r2))) (ev_builtin fe13 rfl rfl) (fun _ _ _ h k => h.gr k) b_isi) tr_bool) (fun _ => tst_or0) rfl) rfl) rfl) rfl)) exs_nil) (wk_add rfl (wk_add rfl (wk_add rfl wk_nil)))

theorem fltS {Ls : List Str} {p : Nat → Bool} : outcome 9 p (fun i => PyData.str (rg Ls (i + 1))) = sl (((List.range 9).filter p).map fun i => rg Ls (i + 1)) := by
  unfold outcome
  rw [sl, List.map_map]; rfl
theorem s13_18 {Ls : List Str} (hL : Lb Ls) (o : Ok 10 A) : Ex prog w A (le L a cd) (st13 18) [] (Gk Ls) (.go [] (("tame", .list (sl (tmL Ls))) :: Gk Ls)) := by
  have e : .list (outcome 9 (fun i => cr (lens Ls) (i + 1)) (fun i => PyData.str (rg Ls (i + 1)))) = PyData.list (sl (tmL Ls)) := by rw [fltS]; rfl
  rw [← e]
  refine ex_assign_comp (n := 9) (cl := [("turns", L + 10), ("rungs", L + 5), ("period", L + 9)]) (Gf := [("period", .int (perOf (lens Ls) : Nat)), ("turns", li (tns (lens Ls))), ("rungs", .list (sl (RG Ls 11)))]) (ds := fun i => [("k", .int (1 + i))]) (nm := ["k"]) fe13 (.inl rfl) ?_
    (Frees.cons (Frees.cons (Frees.cons frees_nil rfl rfl rfl (L + 5) rfl rfl) rfl rfl rfl (L + 10) rfl rfl) rfl rfl rfl (L + 9) rfl rfl) (by decide) (fun C i hi => ?_) (fun C i hi _ => ?_) rfl rfl ?_ ?_ ?_ rfl ?_
  · exact src_range (lo := 1) (hi := 10) o (ev_call2 (R1 := fun h v => Rd h v (.int 1)) (R2 := fun h v => Rd h v (.int 10)) fe13 (.inr ⟨_, rfl⟩) rfl ev_int ev_int (fun _ _ _ h k => h.gr k) b_range2) (by decide) (by decide) (by decide) (by decide)
  · exact tsts_one (tst_cmp (ev_item_listT (i := i + 1) (ev_name ⟨rfl, rfl, rfl⟩ rfl) (Ev.as (ev_name ⟨rfl, rfl, rfl⟩ rfl) (by congr 1; push_cast; omega)) (tns_get (by omega)) (by omega)) (ev_name ⟨rfl, rfl, rfl⟩ rfl) (o_eqi (n := 9) o))
  · exact evf_scal (d := .str _) (ev_item_listT (i := i + 1) (ev_name ⟨rfl, rfl, rfl⟩ rfl) (Ev.as (ev_name ⟨rfl, rfl, rfl⟩ rfl) (by congr 1; push_cast; omega)) (sl_get (RG_get Ls (by omega))) (by omega)) rfl
  · intro i x d h
    simpa using lookup_names h
  · decide
  · decide
  · decide
abbrev Gl (Ls : List Str) : Gam := ("tame", .list (sl (tmL Ls))) :: Gk Ls
abbrev Gm (Ls : List Str) : Gam := ("wild", .list (sl (srt (wlL Ls)))) :: Gl Ls
theorem s13_19 {Ls : List Str} (hL : Lb Ls) (o : Ok 10 A) : Ex prog w A (le L a cd) (st13 19) [] (Gl Ls) (.go [] (Gm Ls)) := by
  have hz : (wlL Ls).length < 64 := by
    unfold wlL
    rw [List.length_map]
    have := List.length_filter_le (fun i => !cr (lens Ls) (i + 1)) (List.range 9)
    rw [List.length_range] at this; omega
  refine ex_assign (d := .list (sl (srt (wlL Ls)))) fe13 (evx_any (ev_call1 (R1 := fun h v => Rd h v (.list ((wlL Ls).map .str))) fe13 (.inl ⟨_, rfl⟩) rfl (Ev.as (EvF.ev (d := .list (outcome 9 (fun i => !cr (lens Ls) (i + 1)) (fun i => PyData.str (rg Ls (i + 1))))) ?_) (by rw [fltS]; rfl)) (b_sorted hz (srt_hu (srt_perm _) (srt_pw _))))) (.inl rfl) (n0 _)
  refine evf_comp (n := 9) (cl := [("turns", L + 10), ("rungs", L + 5), ("period", L + 9)]) (Gf := [("period", .int (perOf (lens Ls) : Nat)), ("turns", li (tns (lens Ls))), ("rungs", .list (sl (RG Ls 11)))]) (ds := fun i => [("k", .int (1 + i))]) (nm := ["k"]) ?_
    (Frees.cons (Frees.cons (Frees.cons frees_nil rfl rfl rfl (L + 5) rfl rfl) rfl rfl rfl (L + 10) rfl rfl) rfl rfl rfl (L + 9) rfl rfl) (by decide) (fun C i hi => ?_) (fun C i hi _ => ?_) rfl ?_ ?_ ?_ rfl ?_
  · exact src_range (lo := 1) (hi := 10) o (ev_call2 (R1 := fun h v => Rd h v (.int 1)) (R2 := fun h v => Rd h v (.int 10)) fe13 (.inr ⟨_, rfl⟩) rfl ev_int ev_int (fun _ _ _ h k => h.gr k) b_range2) (by decide) (by decide) (by decide) (by decide)
  · exact tsts_one (tst_cmp (ev_item_listT (i := i + 1) (ev_name ⟨rfl, rfl, rfl⟩ rfl) (Ev.as (ev_name ⟨rfl, rfl, rfl⟩ rfl) (by congr 1; push_cast; omega)) (tns_get (by omega)) (by omega)) (ev_name ⟨rfl, rfl, rfl⟩ rfl) (o_nei (n := 9) o))
  · exact evf_scal (d := .str _) (ev_item_listT (i := i + 1) (ev_name ⟨rfl, rfl, rfl⟩ rfl) (Ev.as (ev_name ⟨rfl, rfl, rfl⟩ rfl) (by congr 1; push_cast; omega)) (sl_get (RG_get Ls (by omega))) (by omega)) rfl
  · intro i x d h
    simpa using lookup_names h
  · decide
  · decide
  · decide
theorem rep2 (xs : List Str) : (List.replicate (Int.toNat 2) (sl xs)).flatten = (xs ++ xs).map .str := by
  show (List.replicate 2 (sl xs)).flatten = _
  simp [sl]
abbrev Gn (Ls : List Str) : Gam := ("here", .list (sl (dbl (hereL Ls)))) :: Gm Ls
theorem s13_20 {Ls : List Str} (hL : Lb Ls) (o : Ok 10 A) : Ex prog w A (le L a cd) (st13 20) [] (Gm Ls) (.go [] (Gn Ls)) := by
  refine ex_assign (d := .list (sl (dbl (hereL Ls)))) fe13 (evx_any (ev_call1 (R1 := fun h v => Rd h v (.list ((rsL Ls ++ rsL Ls).map .str))) fe13 (.inl ⟨_, rfl⟩) rfl (Ev.as (ev_bin (d1 := .list (sl (rsL Ls))) (Ev.as (ev_slice_list (l := some 1) (u := some 10) (ev_ls (ev_name fe13 rfl)) (.yes ev_int) (.yes ev_int) ?_) ?_) ev_int (o_mull (by decide) (by decide) ?_)) (by rw [rep2])) (b_sorted ?_ (srt_hu ((dbl_perm _).trans ((srt_perm _).append (srt_perm _))) (dbl_pw (srt_pw _)))))) (.inl rfl) (n0 _)
  · rw [sl, List.length_map, RG_len]; decide
  · rfl
  · simp [sl, rsL]
  · simp [rsL]
abbrev Go (Ls : List Str) : Gam := ("there", .list (sl (dbl (thereL Ls)))) :: Gn Ls
theorem tm_len (Ls : List Str) : (tmL Ls).length ≤ 9 := by
  unfold tmL
  rw [List.length_map]
  have := List.length_filter_le (fun i => cr (lens Ls) (i + 1)) (List.range 9)
  rw [List.length_range] at this; exact this
theorem s13_21 {Ls : List Str} (hL : Lb Ls) (o : Ok 10 A) : Ex prog w A (le L a cd) (st13 21) [] (Gn Ls) (.go [] (Go Ls)) := by
  have ht := tm_len Ls
  have e : sl (dbl (srt (tmL Ls))) ++ sl [til, til] = sl (dbl (thereL Ls)) := by
    rw [sl_append]
    congr 1
    unfold thereL dbl
    rw [List.flatMap_append]; rfl
  have hdl : (sl (dbl (srt (tmL Ls)))).length ≤ 18 := by rw [sl, List.length_map, dbl_len, (srt_perm _).length_eq]; omega
  refine ex_assign (d := .list (sl (dbl (thereL Ls)))) fe13 (evx_any (Ev.as (ev_bin (d1 := .list (sl (dbl (srt (tmL Ls))))) (d2 := .list (sl [til, til])) (ev_call1 (R1 := fun h v => Rd h v (.list ((tmL Ls ++ tmL Ls).map .str))) fe13 (.inl ⟨_, rfl⟩) rfl (Ev.as (ev_bin (d1 := .list (sl (tmL Ls))) (ev_name fe13 rfl) ev_int (o_mull (by decide) (by decide) ?_)) (by rw [rep2])) (b_sorted ?_ (srt_hu ((dbl_perm _).trans ((srt_perm _).append (srt_perm _))) (dbl_pw (srt_pw _))))) (ev_listS (evs_cons ev_str (evs_cons ev_str evs_nil))) (o_addl ?_)) (by rw [e]))) (.inl rfl) (n0 _)
  · rw [sl, List.length_map]; omega
  · rw [List.length_append]; omega
  · rw [sizeLine_eq]
    have : (sl [til, til]).length = 2 := rfl
    omega
end
end Mine
end

section
open PySem PySem.W PyProof.Rows
set_option linter.all false
set_option maxRecDepth 100000
set_option maxHeartbeats 1000000
namespace Mine

def wdt (w : List Int) : Nat := max 1 (perOf w - 1)
/-- among as many places side by side as the period less one there is one with that turn -/
def Win (w : List Int) : Prop := ∀ k, 1 ≤ k → k + wdt w ≤ 10 → ∃ q, k ≤ q ∧ q < k + wdt w ∧ turnOf w q = perOf w

section
variable {prog : Program} {w : World} {A : Around} {env : Env} {L a : Addr} {cd : Value}
theorem Src.n {G : Gam} {target iter : Expr} {n m : Nat} {ds : Nat → Gam} {nm : List Str} (h : n = m) (x : Src prog w A env G target iter n ds nm) : Src prog w A env G target iter m ds nm := h ▸ x
/-- a call of sorted_list_difference beside a display -/
theorem tsl_sld {n : Nat} {G : Gam} {X Y FM FU : List Str} {d2 : PyData} {x : Str} {p pos cpos : Pos} {e1 e2 r : Expr} {kp : Kp} {s₀ s : Shared} {Q : Bool → Shared → Prop} {E : Value → Shared → Prop} (fe : FEnv env) (o : Ok (n + 3) A) (hfr : A.frames = some [env]) (hfl : env.frame = some L) (hL : env.locals = L) (hn : x = fn 8)
    (a : Ev prog w A env G e1 (.list (sl (dbl X)))) (b1 : Ev prog w A env G e2 (.list (sl (dbl Y)))) (rr : Ev prog w A env G r d2)
    (hX : X.length ≤ 100) (hY : Y.length ≤ 100) (oX : ∀ x ∈ X, PyData.strOk x = true) (oY : ∀ x ∈ Y, PyData.strOk x = true)
    (dX : ∀ i x, X[i]? = some x → X[i + 1]? ≠ some x) (dY : ∀ i x, Y[i]? = some x → Y[i + 1]? ≠ some x) (hlast : ∀ x, X[X.length - 1]? = some x → Y[Y.length - 1]? = some x → False)
    (hF : mg X Y = (FM, FU)) (hd2 : d2 = .tuple [.list (sl FM), .list (sl FU)]) (oM : ∀ x ∈ FM, PyData.strOk x = true) (oU : ∀ x ∈ FU, PyData.strOk x = true) (X0 : Fs kp s₀ env [] G s)
    (q : ∀ s', Fs kp s₀ env [] G s' → Q false s')
    (hm : behindInMarks .NotEq r = false := by rfl)
    (hk : env.kindOf x = some .globalImplicit := by rfl) (hs : starEach [e1, e2] env = [(false, eval e1 env), (false, eval e2 env)] := by rfl) (hd : (x == ("__debug__" : Str)) = false := by decide) :
    wpAny (model prog w) A (isTrue (.Compare (.Call (.Name x p) [e1, e2] [] pos) [.NotEq] [r] cpos) env (eval (.Compare (.Call (.Name x p) [e1, e2] [] pos) [.NotEq] [r] cpos) env)) Q E s := by
  subst hd2
  have lay : (PyData.tuple [.list (sl FM), .list (sl FU)]).canLay0 = true := by
    rw [PyData.canLay0]
    show (PyData.canLay0 (.list (sl FM)) && (PyData.canLay0 (.list (sl FU)) && true)) = true
    rw [PyData.canLay0, PyData.canLay0, lay_sl oM, lay_sl oU]; rfl
  have dep : (PyData.tuple [.list (sl FM), .list (sl FU)]).depth ≤ 10 := by
    have h1 := dep_sl FM
    have h2 := dep_sl FU
    simp only [PyData.depth, PyData.depthAll]; omega
  refine wpAny_isTrue_Compare1 (wpAny_mono (call_sld (os := []) fe o hfr hfl hL hn a b1 hX hY oX oY dX dY hlast hF X0 hk hs hd) (fun v s1 h1 => ?_) fun _ _ e => e) hm
  obtain ⟨r1, x1⟩ := h1
  refine rr.use x1.cx fun v2 s2 r2 k2 => ?_
  refine wpAny_mono (o_ne (n := n + 2) o lay lay (by omega) v v2 s2 E (r1.gr (kp_gr k2)) r2) (fun v3 s3 h3 => ?_) fun _ _ e => e
  obtain ⟨r3, k3⟩ := h3
  rw [SeqAt.eqv_refl _ lay] at r3
  refine wpAny_mono (tr_bool v3 s3 E r3) (fun c s4 h4 => ?_) fun _ _ e => e
  obtain ⟨rfl, k4⟩ := h4
  exact q s4 (((x1.keep k2).keep k3).keep k4)

theorem ok_wl {Ls : List Str} (hL : Lb Ls) : ∀ x ∈ srt (wlL Ls), PyData.strOk x = true := by
  intro x hx
  obtain ⟨i, _, rfl⟩ := List.mem_map.mp ((srt_perm _).mem_iff.mp hx)
  exact (rg_gd hL _).ok
theorem ok_tt : ∀ x ∈ [til, til], PyData.strOk x = true := by
  intro x hx
  simp only [List.mem_cons, List.not_mem_nil, or_false, or_self] at hx
  rw [hx]; exact ok_til
theorem s13_22 {Ls : List Str} (hL : Lb Ls) (o : Ok 10 A) (hfr : A.frames = some [le L a cd]) : Ex prog w A (le L a cd) (st13 22) [] (Go Ls) (.go [] (Go Ls)) := fun kp s₀ s Q E X q => by
  have l1 := len_here hL
  have l2 : (thereL Ls).length ≤ 10 := by have := len_tm hL; rw [List.length_append, List.length_singleton]; omega
  refine wpAny_If ?_
  refine isTrue_or (tsl_sld (n := 7) fe13 o hfr rfl rfl rfl (ev_name fe13 rfl) (ev_name fe13 rfl) (ev_tupleS (evs_cons (ev_name fe13 rfl) (evs_cons (ev_listS (ds := sl [til, til]) (evs_cons ev_str (evs_cons ev_str evs_nil))) evs_nil))) (by omega) (by omega) (ok_here hL) (ok_there hL) (stS_next (srt_st hL)) (stS_next (st_there hL)) (last_ne hL) (mg_1 hL) rfl (ok_wl hL) ok_tt X fun s1 X1 => ?_)
  refine isTrue_or (tsl_sld (n := 7) fe13 o hfr rfl rfl rfl (ev_name fe13 rfl) (ev_name fe13 rfl) (ev_tupleS (evs_cons (ev_listS (ds := sl [til, til]) (evs_cons ev_str (evs_cons ev_str evs_nil))) (evs_cons (ev_name fe13 rfl) evs_nil))) (by omega) (by omega) (ok_there hL) (ok_here hL) (stS_next (st_there hL)) (stS_next (srt_st hL)) (fun x h1 h2 => last_ne hL x h2 h1) (mg_2 hL) rfl ok_tt (ok_wl hL) X1 fun s2 X2 => ?_)
  refine isTrue_or_nil ?_
  exact wpAny_execs_nil (q s2 X2)

abbrev Gp (Ls : List Str) : Gam := [("places", li (pls Ls)), ("period", .int (perOf (lens Ls) : Nat))]
theorem s13_23 {Ls : List Str} (hL : Lb Ls) (o : Ok 10 A) : Ex prog w A (le L a cd) (st13 23) [] (Go Ls) (.go [] (Gp Ls)) := by
  have hlr : (sl (srt (wlL Ls))).length = (srt (wlL Ls)).length := by rw [sl, List.length_map]
  have hll : (srt (wlL Ls)).length ≤ 9 := by rw [srt_wl hL]; exact Nat.le_trans (List.length_filter_le _ _) (len_here hL)
  have eo : outcome (sl (srt (wlL Ls))).length (fun _ => true) (fun i => PyData.int (10 - Txt.count ((srt (wlL Ls)).getD i dt) dt)) = (pls Ls).map .int := by
    rw [outcome_all, hlr, pls, List.map_map]
    conv => rhs; rw [← range_getD (srt (wlL Ls)) dt, List.map_map]
    rfl
  refine Ex.weaken (ex_assign (d := li (pls Ls)) fe13 (evx_any (Ev.as (EvF.ev (d := .list (outcome (sl (srt (wlL Ls))).length (fun _ => true) fun i => .int (10 - Txt.count ((srt (wlL Ls)).getD i dt) dt))) ?_) (by rw [eo]; rfl))) (.inr ⟨rfl, _, rfl⟩) (n0 _)) (wk_add rfl (wk_add rfl wk_nil))
  refine evf_comp (cl := []) (Gf := []) (nm := ["rung"]) (src_list (ds := sl (srt (wlL Ls))) o (ev_ls (ev_name fe13 rfl))) frees_nil (by rw [hlr]; omega) (fun C i hi => tsts_nil) (fun C i hi _ => ?_) rfl ?_ ?_ ?_ rfl ?_
  · rw [sl_getD (by rw [hlr] at hi; exact hi)]
    exact evf_scal (d := .int _) (ev_bin ev_int (ev_meth1 (R2 := fun h v => Rd h v (.str dt)) _ (ev_name ⟨rfl, rfl, rfl⟩ rfl) ev_str (gm_str fun t s Q E h => GM.count h) m_count) o_sub) rfl
  · intro i x d h
    simpa using lookup_names h
  · decide
  · decide
  · decide
abbrev Gq (Ls : List Str) : Gam := [("width", .int (wdt (lens Ls) : Nat)), ("places", li (pls Ls))]
theorem s13_24 {Ls : List Str} (hL : Lb Ls) (o : Ok 10 A) : Ex prog w A (le L a cd) (st13 24) [] (Gp Ls) (.go [] (Gq Ls)) := by
  have hp := per_le (w := lens Ls) (by rw [lens, List.length_map, hL.len])
  refine Ex.weaken (ex_assign (d := .int (wdt (lens Ls) : Nat)) fe13 (evx_nl (Ev.as (ev_call2 (R1 := fun h v => Rd h v (.int 1)) (R2 := fun h v => Rd h v (.int ((perOf (lens Ls) : Nat) - 1))) fe13 (.inl ⟨_, rfl⟩) rfl ev_int (ev_bin (ev_name fe13 rfl) ev_int o_sub) (fun _ _ _ h k => h.gr k) (b_max2 o)) (by unfold wdt; congr 1; omega))) (.inl rfl) (n0 _)) (wk_add rfl (wk_add rfl wk_nil))
theorem any_ints {xs : List Int} {k : Int} : (xs.map PyData.int).any (fun y => PyData.eqv y (.int k)) = decide (k ∈ xs) := by
  rw [Bool.eq_iff_iff, List.any_eq_true, decide_eq_true_eq]
  constructor
  · rintro ⟨y, hy, e⟩
    obtain ⟨z, hz, rfl⟩ := List.mem_map.mp hy
    rw [PyData.eqv, beq_iff_eq] at e
    rwa [← e]
  · intro h
    exact ⟨_, List.mem_map.mpr ⟨k, h, rfl⟩, by rw [PyData.eqv]; simp⟩
theorem s13_25 {Ls : List Str} (hL : Lb Ls) (o : Ok 10 A) (W : Win (lens Ls)) : Ex prog w A (le L a cd) (st13 25) [] (Gq Ls) (.go [] (Gq Ls)) := by
  have hw : (lens Ls).length = 10 := by rw [lens, List.length_map, hL.len]
  have hp := per_le hw
  have hwd : 1 ≤ wdt (lens Ls) ∧ wdt (lens Ls) ≤ 9 := by unfold wdt; omega
  refine ex_for (n := 10 - wdt (lens Ls)) (m := 10 - wdt (lens Ls)) (osx := fun _ => []) (Gx := fun _ => Gq Ls) (lo := 1) (hi := 11 - (wdt (lens Ls) : Nat)) o fe13 rfl (ev_call2 (R1 := fun h v => Rd h v (.int 1)) (R2 := fun h v => Rd h v (.int (11 - (wdt (lens Ls) : Nat)))) fe13 (.inr ⟨_, rfl⟩) rfl ev_int (ev_bin ev_int (ev_name fe13 rfl) o_sub) (fun _ _ _ h k => h.gr k) b_range2)
    (by decide) (by decide) (by omega) (by omega) (by omega) (Nat.le_refl _) (fun _ => n0 _) ?_ (.inl ⟨rfl, rfl⟩)
  intro i hi
  have eo : ∀ j, j < wdt (lens Ls) → ((!decide ((((i + 1 + j : Nat)) : Int) ∈ pls Ls)) = cr (lens Ls) (i + 1 + j)) := by
    intro j hj
    have := mem_pls hL (k := i + 1 + j) (by omega) (by omega)
    cases hc : cr (lens Ls) (i + 1 + j) with
    | false => rw [decide_eq_true (this.mpr hc)]; rfl
    | true =>
      have hn : ¬ ((((i + 1 + j : Nat)) : Int) ∈ pls Ls) := fun h => by rw [this.mp h] at hc; cases hc
      rw [decide_eq_false hn]; rfl
  have hne : ∃ d l, outcome (wdt (lens Ls)) (fun j => !decide ((((i + 1 + j : Nat)) : Int) ∈ pls Ls)) (fun j => PyData.int ((i + 1 + j : Nat) : Int)) = d :: l := by
    obtain ⟨q, h1, h2, h3⟩ := W (i + 1) (by omega) (by omega)
    have hc : cr (lens Ls) q = true := by unfold cr; rw [h3]; simp
    have hm : PyData.int ((q : Nat) : Int) ∈ outcome (wdt (lens Ls)) (fun j => !decide ((((i + 1 + j : Nat)) : Int) ∈ pls Ls)) (fun j => PyData.int ((i + 1 + j : Nat) : Int)) := by
      unfold outcome
      refine List.mem_map.mpr ⟨q - (i + 1), List.mem_filter.mpr ⟨by simp; omega, ?_⟩, by congr 1; omega⟩
      rw [eo _ (by omega), show i + 1 + (q - (i + 1)) = q by omega]; exact hc
    cases e : outcome (wdt (lens Ls)) (fun j => !decide ((((i + 1 + j : Nat)) : Int) ∈ pls Ls)) (fun j => PyData.int ((i + 1 + j : Nat) : Int)) with
    | nil => rw [e] at hm; cases hm
    | cons d l => exact ⟨d, l, rfl⟩
  have hlay : (PyData.list (outcome (wdt (lens Ls)) (fun j => !decide ((((i + 1 + j : Nat)) : Int) ∈ pls Ls)) (fun j => PyData.int ((i + 1 + j : Nat) : Int)))).canLay0 = true := by
    have : outcome (wdt (lens Ls)) (fun j => !decide ((((i + 1 + j : Nat)) : Int) ∈ pls Ls)) (fun j => PyData.int ((i + 1 + j : Nat) : Int)) = (((List.range (wdt (lens Ls))).filter fun j => !decide ((((i + 1 + j : Nat)) : Int) ∈ pls Ls)).map fun j => ((i + 1 + j : Nat) : Int)).map .int := by unfold outcome; rw [List.map_map]; rfl
    rw [this]; exact lay_li
  have ebk : (1 : Int) + (i : Nat) = ((i + 1 : Nat) : Int) := by push_cast; omega
  refine exs_ifr (c := false) (Tst.as (tst_cmp (EvF.ev (d := .list (outcome (wdt (lens Ls)) (fun j => !decide ((((i + 1 + j : Nat)) : Int) ∈ pls Ls)) (fun j => PyData.int ((i + 1 + j : Nat) : Int)))) ?_) (ev_listS (ds := []) evs_nil) (o_eq (n := 9) o hlay rfl (by simp [PyData.depth, PyData.depthAll]))) ?_) (fun h => nomatch h) (fun _ => exs_nil.weaken (wk_cons rfl wk_refl))
  · refine evf_comp (n := wdt (lens Ls)) (cl := [("places", L + 11)]) (Gf := [("places", li (pls Ls))]) (ds := fun j => [("place", .int ((i + 1 : Nat) + (j : Nat)))]) (nm := ["place"]) ?_
      (Frees.cons frees_nil rfl rfl rfl (L + 11) rfl rfl) (by omega) (fun C j hj => ?_) (fun C j hj _ => ?_) rfl ?_ ?_ ?_ rfl ?_
    · have e9 : wdt (lens Ls) = (((i + 1 : Nat) : Int) + (wdt (lens Ls) : Nat) - ((i + 1 : Nat) : Int)).toNat := by omega
      refine Src.n e9.symm (src_range (lo := ((i + 1 : Nat) : Int)) (hi := ((i + 1 : Nat) : Int) + (wdt (lens Ls) : Nat)) o (ev_call2 (R1 := fun h v => Rd h v (.int ((i + 1 : Nat) : Int))) (R2 := fun h v => Rd h v (.int (((i + 1 : Nat) : Int) + (wdt (lens Ls) : Nat)))) fe13 (.inr ⟨_, rfl⟩) rfl ?_ ?_ (fun _ _ _ h k => h.gr k) b_range2) (by omega) (by omega) (by omega) (by omega))
      · rw [← ebk]; exact ev_name fe13 rfl
      · rw [← ebk]; exact ev_bin (ev_name fe13 rfl) (ev_name fe13 rfl) o_add
    · exact tsts_one (Tst.as (tst_cmp (ev_name ⟨rfl, rfl, rfl⟩ rfl) (ev_name ⟨rfl, rfl, rfl⟩ rfl) (o_notin (n := 9) (es := (pls Ls).map .int) o rfl (by have := lay_li (a := pls Ls); rw [li, PyData.canLay0] at this; exact this) (by simp [PyData.depth]))) (by rw [any_ints]; push_cast; rfl))
    · exact evf_scal (d := .int _) (Ev.as (ev_name ⟨rfl, rfl, rfl⟩ rfl) (by congr 1)) rfl
    · intro i x d h
      simpa using lookup_names h
    · decide
    · decide
    · decide
  · obtain ⟨d, l, e⟩ := hne
    rw [e, PyData.eqv]; rfl
end
end Mine
end

section
open PySem PySem.W PyProof.Rows
set_option linter.all false
set_option maxRecDepth 100000
set_option maxHeartbeats 1000000
namespace Mine

theorem fb13 : fb 13 = [st13 0, st13 1, st13 2, st13 3, st13 4, st13 5, st13 6, st13 7, st13 8, st13 9, st13 10, st13 11, st13 12, st13 13, st13 14, st13 15, st13 16, st13 17, st13 18, st13 19, st13 20, st13 21, st13 22, st13 23, st13 24, st13 25, st13 26] := rfl

section
variable {prog : Program} {w : World} {A : Around} {L a : Addr} {cd : Value}
theorem s13_26 {G : Gam} : Ex prog w A (le L a cd) (st13 26) [] G (.ret (.bool true)) := ex_return ev_bool
theorem law_body {xs : List Int} (hx : xs.length ≤ 63) (o : Ok 10 A) (hfr : A.frames = some [le L a cd]) (C : Crit (lens (labs xs))) (W : Win (lens (labs xs))) :
    Exs prog w A (le L a cd) (fb 13) [] [("script", li xs)] (.ret (.bool true)) := by
  have hL := labs_lb xs
  rw [fb13]
  refine exs_go (s13_0 o hx) (exs_go s13_1 (exs_go (s13_2 o) (exs_go (s13_3 hL) (exs_go (s13_4 hL o) (exs_unown ?_)))))
  refine exs_go (s13_5 hL o) (exs_go (s13_6 hL o) (exs_go (s13_7 hL o) (exs_go (s13_8 hL o) (exs_go (s13_9 hL o) (exs_go (s13_10 hL) (exs_go (s13_11 hL o) (exs_go (s13_12 hL o) (exs_unown ?_))))))))
  refine exs_go (s13_13 hL o) (exs_go (s13_14 hL o) (exs_go (s13_15 hL o) (exs_go (s13_16 hL o) (exs_go (s13_17 hL o C) (exs_go (s13_18 hL o) (exs_go (s13_19 hL o) (exs_go (s13_20 hL o) (exs_go (s13_21 hL o) ?_))))))))
  exact exs_go (s13_22 hL o hfr) (exs_go (s13_23 hL o) (exs_go (s13_24 hL o) (exs_go (s13_25 hL o W) (exs_ret s13_26))))
end
end Mine
end

section
open PySem PySem.W PyProof.Rows
set_option linter.all false
set_option maxRecDepth 100000
set_option maxHeartbeats 1000000
namespace Mine

section
variable {prog : Program} {w : World}
theorem law_call {xs : List Int} {A : Around} {fa : Addr} {ob : Obj} {pm cd doc : Value} {v : Value} {s : Shared} {R : Result → Shared → Prop} (hx : xs.length ≤ 63) (o : Ok 11 A) (hfr : A.frames = some []) (C : Crit (lens (labs xs))) (W : Win (lens (labs xs)))
    (ho : s.heap.get? fa = some ob) (hd : ob.data = .func (Calls.docDef (fn 13) (fp 13) (fb 13) (fs 13) pm cd doc)) (hcd : s.heap.CodeRec cd (fn 13)) (b : Base s.heap) (r : Rd s.heap v (li xs))
    (hR : ∀ s', Keeps s s' → R (.ok (.ret (.bool true))) s') : codeAny (model prog w) A (.call (.ref fa) ⟨[v], []⟩) R s := by
  refine codeAny_call_cells o.d ho hd b.nolim hcd rfl (binds := [("script", v)]) rfl rfl ?_ (fun s₁ h₁ => ?_)
  · intro x hx
    rw [List.mem_singleton.mp hx]
    exact .inr ⟨rfl, rfl⟩
  · refine law_body (prog := prog) (w := w) (A := A.deeper (le s.heap.objs.size fa cd)) (L := s.heap.objs.size) (a := fa) (cd := cd) hx (o.deeper _) (Around.frames_deeper hfr) C W (fun _ => none) s s₁ _ _ ?_ ?_
    · refine ⟨b, List.nodup_nil, _, _, fun _ => 0, h₁, List.nodup_nil, (fun _ _ e => nomatch e), ?_, (fun _ h => nomatch h)⟩
      intro y d hy
      rw [List.lookup_cons] at hy
      split at hy
      · rename_i q
        cases hy
        have : y = "script" := beq_iff_eq.mp q
        subst this
        obtain ⟨as, q1, q2, q3⟩ := r
        exact ⟨v, .inr ⟨rfl, ⟨_, rfl⟩, rfl⟩, ⟨as, Reads.keeps h₁.toInCall.keep q1, q2.gr h₁.toInCall.keep, q3, fun _ _ h => nomatch h⟩⟩
      · cases hy
    · intro v' s' rv k
      rw [rv.bool_inv]
      exact hR s' k
end
end Mine
end

section
open PySem PySem.W PyProof.Rows
set_option linter.all false
set_option maxRecDepth 100000
namespace Mine

/-- a repetition of length s at place p -/
def Lrep (w : List Int) (p s : Nat) : Prop := ∀ i, p - s ≤ i → i < p → i + s < 10 → w.getD i 0 = w.getD (i + s) 0
/-- a period -/
def Per (w : List Int) (k : Nat) : Prop := ∀ i, i + k < 10 → w.getD (i + k) 0 = w.getD i 0
theorem getD_drop {w : List Int} {j i : Nat} : (w.drop j).getD i 0 = w.getD (j + i) 0 := by
  simp [List.getD_eq_getElem?_getD, List.getElem?_drop]
theorem b2i_eq {p q : Bool} : (b2i p - b2i q == 0) = (p == q) := by cases p <;> cases q <;> rfl
theorem turnOk_iff {w : List Int} (hw : w.length = 10) {p s : Nat} (hp : p ≤ 9) (hs : 1 ≤ s) (hs9 : s ≤ 9) : turnOk w p s = true ↔ Lrep w p s := by
  unfold turnOk
  rw [b2i_eq, beq_iff_eq]
  have key : (w.drop (low p s)).take (wid p s) = (w.drop (low p s + s)).take (wid p s) ↔ Lrep w p s := by
    constructor
    · intro h i h1 h2 h3
      have hlt : i - low p s < wid p s := by unfold low wid; omega
      have := congrArg (fun l => l.getD (i - low p s) 0) h
      simp only [List.getD_eq_getElem?_getD, List.getElem?_take, hlt, if_true, List.getElem?_drop] at this
      have e1 : low p s + (i - low p s) = i := by unfold low; omega
      have e2 : low p s + s + (i - low p s) = i + s := by unfold low; omega
      rw [e1, e2] at this
      simpa [List.getD_eq_getElem?_getD] using this
    · intro h
      apply List.ext_getElem?
      intro n
      rw [List.getElem?_take, List.getElem?_take]
      by_cases hn : n < wid p s
      · rw [if_pos hn, if_pos hn, List.getElem?_drop, List.getElem?_drop]
        have a1 : low p s + n < w.length := by unfold low; unfold wid at hn; omega
        have a2 : low p s + s + n < w.length := by unfold low; unfold wid at hn; omega
        have := h (low p s + n) (by unfold low; omega) (by unfold low; unfold wid at hn; omega) (by unfold low; unfold wid at hn; omega)
        rw [show low p s + n + s = low p s + s + n by omega] at this
        rw [List.getD_eq_getElem?_getD, List.getD_eq_getElem?_getD, List.getElem?_eq_getElem a1, List.getElem?_eq_getElem a2] at this
        rw [List.getElem?_eq_getElem a1, List.getElem?_eq_getElem a2]
        simpa using this
      · rw [if_neg hn, if_neg hn]
  rw [← key]
  constructor
  · intro h
    cases e : ltI ((w.drop (low p s)).take (wid p s)) ((w.drop (low p s + s)).take (wid p s)) with
    | true => rw [e] at h; have := ltI_asymm e; rw [this] at h; cases h
    | false => rw [e] at h; exact ltI_total e h
  · intro h; rw [h]
end Mine
end

section
open PySem PySem.W PyProof.Rows
set_option linter.all false
set_option maxRecDepth 100000
namespace Mine

theorem mtw_iff {w : List Int} (hw : w.length = 10) {k : Nat} (hk : k ≤ 10) : mtw w k = true ↔ Per w k := by
  unfold mtw
  rw [decide_eq_true_eq]
  constructor
  · intro h i hi
    have := congrArg (fun l => l.getD i 0) h
    simp only [List.getD_eq_getElem?_getD, List.getElem?_take, show i < 10 - k by omega, if_true, List.getElem?_drop] at this
    rw [Nat.add_comm k i] at this
    simpa [List.getD_eq_getElem?_getD] using this
  · intro h
    apply List.ext_getElem?
    intro n
    rw [List.getElem?_take, List.getElem?_drop]
    by_cases hn : n < 10 - k
    · rw [if_pos hn]
      have a1 : k + n < w.length := by omega
      have a2 : n < w.length := by omega
      have := h n (by omega)
      rw [Nat.add_comm n k, List.getD_eq_getElem?_getD, List.getD_eq_getElem?_getD, List.getElem?_eq_getElem a1, List.getElem?_eq_getElem a2] at this
      rw [List.getElem?_eq_getElem a1, List.getElem?_eq_getElem a2]
      simpa using this
    · rw [if_neg hn, List.getElem?_eq_none (by omega)]
theorem turn_bd (w : List Int) (p : Nat) : 1 ≤ turnOf w p ∧ turnOf w p ≤ 10 := by
  have : (List.range 9).findIdx (fun i => turnOk w p (1 + i)) ≤ 9 := by simpa using List.findIdx_le_length (xs := List.range 9) (p := fun i => turnOk w p (1 + i))
  unfold turnOf; omega
theorem turn_rep {w : List Int} (hw : w.length = 10) {p : Nat} (hp : p ≤ 9) : Lrep w p (turnOf w p) := by
  by_cases h : (List.range 9).findIdx (fun i => turnOk w p (1 + i)) < 9
  · have := List.findIdx_getElem (xs := List.range 9) (p := fun i => turnOk w p (1 + i)) (w := by simpa using h)
    have h2 : turnOk w p (turnOf w p) = true := by unfold turnOf; simpa using this
    exact (turnOk_iff hw hp (turn_bd w p).1 (by unfold turnOf; omega)).mp h2
  · intro i _ _ h3
    have : turnOf w p = 10 := by have := turn_bd w p; unfold turnOf at *; omega
    omega
theorem turn_min {w : List Int} (hw : w.length = 10) {p s : Nat} (hp : p ≤ 9) (hs : 1 ≤ s) (h : Lrep w p s) : turnOf w p ≤ s := by
  rcases Nat.lt_or_ge s (turnOf w p) with q | q
  · exfalso
    have hb := turn_bd w p
    unfold turnOf at q
    have := List.not_of_lt_findIdx (xs := List.range 9) (p := fun i => turnOk w p (1 + i)) (i := s - 1) (by omega)
    have hs9 : s ≤ 9 := by unfold turnOf at hb; omega
    have h2 : turnOk w p s = false := by simpa [show 1 + (s - 1) = s by omega] using this
    rw [(turnOk_iff hw hp hs hs9).mpr h] at h2; cases h2
  · exact q
end Mine
end

section
open PySem PySem.W PyProof.Rows
set_option linter.all false
set_option maxRecDepth 100000
namespace Mine

/-- rows in order, by the first unlike number -/
theorem ltI_iff : ∀ {a b : List Int}, ltI a b = true ↔ ∃ d, (∀ e, e < d → a.getD e 0 = b.getD e 0) ∧ d ≤ a.length ∧ d < b.length ∧ (d = a.length ∨ (d < a.length ∧ a.getD d 0 < b.getD d 0))
  | a, [] => by simp [ltI]
  | [], b :: bs => by
    simp only [ltI, true_iff]
    exact ⟨0, fun _ h => absurd h (Nat.not_lt_zero _), Nat.le_refl _, by simp, .inl rfl⟩
  | a :: as, b :: bs => by
    rw [ltI]
    by_cases h : a = b
    · rw [if_pos h, ltI_iff]
      subst h
      constructor
      · rintro ⟨d, h1, h2, h3, h4⟩
        refine ⟨d + 1, fun e he => ?_, by simpa using h2, by simpa using h3, ?_⟩
        · cases e with
          | zero => rfl
          | succ e => simpa using h1 e (by omega)
        · rcases h4 with h4 | ⟨h4, h5⟩
          · exact .inl (by simp [h4])
          · exact .inr ⟨by simpa using h4, by simpa using h5⟩
      · rintro ⟨d, h1, h2, h3, h4⟩
        cases d with
        | zero =>
          rcases h4 with h4 | ⟨h4, h5⟩
          · simp at h4
          · simp at h5
        | succ d =>
          refine ⟨d, fun e he => by simpa using h1 (e + 1) (by omega), by simpa using h2, by simpa using h3, ?_⟩
          rcases h4 with h4 | ⟨h4, h5⟩
          · exact .inl (by simpa using h4)
          · exact .inr ⟨by simpa using h4, by simpa using h5⟩
    · rw [if_neg h, decide_eq_true_eq]
      constructor
      · intro hlt
        exact ⟨0, fun _ h => absurd h (Nat.not_lt_zero _), Nat.zero_le _, by simp, .inr ⟨by simp, by simpa using hlt⟩⟩
      · rintro ⟨d, h1, h2, h3, h4⟩
        cases d with
        | zero =>
          rcases h4 with h4 | ⟨h4, h5⟩
          · simp at h4
          · simpa using h5
        | succ d =>
          have := h1 0 (by omega)
          simp at this
          exact absurd this h
end Mine
end

section
open PySem PySem.W PyProof.Rows
set_option linter.all false
set_option maxRecDepth 100000
namespace Mine

theorem ltI_trans : ∀ {a b c : List Int}, ltI a b = true → ltI b c = true → ltI a c = true
  | _, _, [], _, h => by simp [ltI] at h
  | _, [], _ :: _, h, _ => by simp [ltI] at h
  | [], _ :: _, _ :: _, _, _ => rfl
  | a :: as, b :: bs, c :: cs, h1, h2 => by
    rw [ltI] at h1 h2 ⊢
    split at h1
    · rename_i e1
      subst e1
      split at h2
      · rename_i e2
        rw [if_pos e2]; exact ltI_trans h1 h2
      · rename_i e2
        rw [if_neg e2]; exact h2
    · rename_i e1
      have q1 := of_decide_eq_true h1
      split at h2
      · rename_i e2
        subst e2
        rw [if_neg e1]; exact h1
      · rename_i e2
        have q2 := of_decide_eq_true h2
        rw [if_neg (by omega)]; exact decide_eq_true (by omega)
theorem best_top {w : List Int} {n : Nat} (hw : w.length = n) : ∀ i, i < n → ∀ j, j ≤ i → j ≠ best w i → ltI (w.drop j) (w.drop (best w i)) = true
  | 0, _, j, hj, h => absurd (by simp [best]; omega) h
  | i + 1, hi, j, hj, h => by
    have ih := best_top hw i (by omega)
    have hb := best_le w i
    rw [best] at h ⊢
    split at h
    · rename_i hl
      rw [if_pos hl]
      by_cases e : j = best w i
      · rw [e]; exact hl
      · exact ltI_trans (ih j (by omega) e) hl
    · rename_i hl
      rw [if_neg hl]
      by_cases e : j = i + 1
      · subst e
        cases q : ltI (w.drop (i + 1)) (w.drop (best w i)) with
        | true => rfl
        | false =>
          have := ltI_total q (by simpa using hl)
          have := congrArg List.length this
          simp [hw] at this; omega
      · exact ih j (by omega) h
end Mine
end

section
open PySem PySem.W PyProof.Rows
set_option linter.all false
set_option maxRecDepth 100000
namespace Mine

/-- a repetition of length r at place q of a word of n numbers -/
def Rp (g : Nat → Int) (n q r : Nat) : Prop := ∀ i, q - r ≤ i → i < q → i + r < n → g i = g (i + r)
/-- a period -/
def Pr (g : Nat → Int) (n r : Nat) : Prop := ∀ i, i + r < n → g i = g (i + r)
/-- the suffix at a lies before the suffix at b -/
def Lt (g : Nat → Int) (n a b : Nat) : Prop := ∃ d, (∀ e, e < d → g (a + e) = g (b + e)) ∧ a + d ≤ n ∧ b + d < n ∧ (a + d = n ∨ g (a + d) < g (b + d))
def Tp (g : Nat → Int) (n b : Nat) : Prop := b < n ∧ ∀ j, j < n → j ≠ b → Lt g n j b

theorem Lt.asymm {g : Nat → Int} {n a b : Nat} (h1 : Lt g n a b) (h2 : Lt g n b a) : False := by
  obtain ⟨d, p1, p2, p3, p4⟩ := h1
  obtain ⟨c, q1, q2, q3, q4⟩ := h2
  rcases Nat.lt_trichotomy d c with h | h | h
  · have := q1 d h; omega
  · subst h; omega
  · have := p1 c h; omega
theorem Lt.un {g : Nat → Int} {n a b : Nat} (h : Lt (fun i => -g i) n a b) : ∃ d, (∀ e, e < d → g (a + e) = g (b + e)) ∧ a + d ≤ n ∧ b + d < n ∧ (a + d = n ∨ g (b + d) < g (a + d)) := by
  obtain ⟨d, p1, p2, p3, p4⟩ := h
  refine ⟨d, fun e he => ?_, p2, p3, p4.imp_right fun p => ?_⟩
  · have := p1 e he; simp only at this; omega
  · simp only at p; omega
theorem top_late {g : Nat → Int} {n p b : Nat} (T : Tp g n b) (h1 : 1 ≤ p) (P : Pr g n p) : b < p := by
  rcases Nat.lt_or_ge b p with h | h
  · exact h
  · exfalso
    obtain ⟨d, p1, p2, p3, p4⟩ := T.2 (b - p) (by have := T.1; omega) (by omega)
    have := P (b - p + d) (by omega)
    rw [show b - p + d + p = b + d by omega] at this
    omega
theorem top_turn {g : Nat → Int} {n p q q' r : Nat} (T : Tp g n q) (T' : Tp (fun i => -g i) n q') (hq : q' ≤ q) (M : ∀ r, 1 ≤ r → r < p → ¬ Pr g n r) (h1 : 1 ≤ r) (h2 : r < p) (R : Rp g n q r) : False := by
  have tq := T.1
  rcases Nat.lt_or_ge q r with h | h
  · apply M r h1 h2
    intro i hi
    rcases Nat.lt_or_ge i q with hiq | hiq
    · exact R i (by omega) hiq hi
    · obtain ⟨d, p1, p2, p3, p4⟩ := (T'.2 (q' + r) (by omega) (by omega)).un
      obtain ⟨c, q1, q2, q3, q4⟩ := T.2 (q + r) (by omega) (by omega)
      have hd : q - q' ≤ d := by
        rcases Nat.lt_or_ge d (q - q') with hh | hh
        · have := R (q' + d) (by omega) (by omega) (by omega)
          rw [show q' + d + r = q' + r + d by omega] at this
          omega
        · exact hh
      rw [show q' + r + d = q + r + (d - (q - q')) by omega, show q' + d = q + (d - (q - q')) by omega] at p4
      have p1' : ∀ e, e < d - (q - q') → g (q + r + e) = g (q + e) := fun e he => by
        have := p1 (e + (q - q')) (by omega)
        rw [show q' + r + (e + (q - q')) = q + r + e by omega, show q' + (e + (q - q')) = q + e by omega] at this
        omega
      have hend : q + r + c = n := by
        rcases Nat.lt_trichotomy c (d - (q - q')) with hc | hc | hc
        · have := p1' c hc; omega
        · rw [← hc] at p4; omega
        · have := q1 _ hc; omega
      have := q1 (i - q) (by omega)
      rw [show q + r + (i - q) = i + r by omega, show q + (i - q) = i by omega] at this
      exact this.symm
  · obtain ⟨d, p1, p2, p3, p4⟩ := T.2 (q - r) (by omega) (by omega)
    have hd : r ≤ d := by
      rcases Nat.lt_or_ge d r with hh | hh
      · have := R (q - r + d) (by omega) (by omega) (by omega)
        rw [show q - r + d + r = q + d by omega] at this
        omega
      · exact hh
    have l2 := T.2 (q + r) (by omega) (by omega)
    refine l2.asymm ⟨d - r, fun e he => ?_, by omega, by omega, .inr ?_⟩
    · have := p1 (e + r) (by omega)
      rw [show q - r + (e + r) = q + e by omega, show q + (e + r) = q + r + e by omega] at this
      exact this
    · rw [show q + (d - r) = q - r + d by omega, show q + r + (d - r) = q + d by omega]
      omega
theorem Pr.neg {g : Nat → Int} {n r : Nat} (h : Pr g n r) : Pr (fun i => -g i) n r := fun i hi => by have := h i hi; simp only; omega
theorem Pr.unneg {g : Nat → Int} {n r : Nat} (h : Pr (fun i => -g i) n r) : Pr g n r := fun i hi => by have := h i hi; simp only at this; omega
theorem Rp.neg {g : Nat → Int} {n q r : Nat} (h : Rp g n q r) : Rp (fun i => -g i) n q r := fun i a b c => by have := h i a b c; simp only; omega
theorem crit_core {g : Nat → Int} {n p b b' : Nat} (T : Tp g n b) (T' : Tp (fun i => -g i) n b') (h1 : 1 ≤ p) (P : Pr g n p) (M : ∀ r, 1 ≤ r → r < p → ¬ Pr g n r) : max b b' < p ∧ ∀ r, 1 ≤ r → r < p → ¬ Rp g n (max b b') r := by
  have l1 := top_late T h1 P
  have l2 := top_late T' h1 P.neg
  refine ⟨by omega, fun r a1 a2 R => ?_⟩
  rcases Nat.lt_or_ge b b' with h | h
  · rw [show max b b' = b' by omega] at R
    have T2 : Tp (fun i => -(fun i => -g i) i) n b := by simpa using T
    exact top_turn T' T2 (by omega) (fun r c1 c2 c3 => M r c1 c2 c3.unneg) a1 a2 R.neg
  · rw [show max b b' = b by omega] at R
    exact top_turn T T' h M a1 a2 R
/-- tops of rows -/
theorem top_best {w : List Int} {n : Nat} (hw : w.length = n) (hn : 1 ≤ n) : Tp (fun i => w.getD i 0) n (best w (n - 1)) := by
  have hb := best_le w (n - 1)
  refine ⟨by omega, fun j hj hne => ?_⟩
  obtain ⟨d, p1, p2, p3, p4⟩ := ltI_iff.mp (best_top hw (n - 1) (by omega) j (by omega) hne)
  simp only [getD_drop] at p1 p4
  rw [List.length_drop, hw] at p2 p3 p4
  refine ⟨d, p1, by omega, by omega, ?_⟩
  show _ ∨ w.getD (j + d) 0 < w.getD (best w (n - 1) + d) 0
  omega
theorem nw_getD {w : List Int} {i : Nat} : (nw w).getD i 0 = -(w.getD i 0) := by
  unfold nw
  rw [List.getD_eq_getElem?_getD, List.getD_eq_getElem?_getD, List.getElem?_map]
  cases w[i]? <;> simp
theorem top_nw {w : List Int} {n : Nat} (hw : w.length = n) (hn : 1 ≤ n) : Tp (fun i => -(w.getD i 0)) n (best (nw w) (n - 1)) := by
  have := top_best (w := nw w) (n := n) (by simpa [nw] using hw) hn
  simpa only [nw_getD] using this
theorem Pr.per {w : List Int} {k : Nat} : Per w k ↔ Pr (fun i => w.getD i 0) 10 k := ⟨fun h i hi => (h i hi).symm, fun h i hi => (h i hi).symm⟩
theorem per_Pr {w : List Int} (hw : w.length = 10) : Pr (fun i => w.getD i 0) 10 (perOf w) := Pr.per.mp ((mtw_iff hw (per_le hw).2).mp (per_is hw))
theorem per_Mn {w : List Int} (hw : w.length = 10) : ∀ r, 1 ≤ r → r < perOf w → ¬ Pr (fun i => w.getD i 0) 10 r := fun r h1 h2 h => by
  have := per_min (w := w) h1 h2
  rw [(mtw_iff hw (by have := (per_le hw).2; omega)).mpr (Pr.per.mpr h)] at this
  cases this
theorem most_w {w : List Int} (hw : w.length = 10) {k : Nat} (hk : k ≤ 9) : turnOf w k ≤ perOf w := turn_min hw hk (per_le hw).1 (fun i _ _ h => per_Pr hw i h)
theorem turn_w {w : List Int} (hw : w.length = 10) {q : Nat} (hq : q ≤ 9) (h : ∀ r, 1 ≤ r → r < perOf w → ¬ Rp (fun i => w.getD i 0) 10 q r) : turnOf w q = perOf w := by
  have a := most_w hw hq
  have b := turn_bd w q
  rcases Nat.lt_or_ge (turnOf w q) (perOf w) with c | c
  · exact absurd (turn_rep hw hq) (h _ b.1 c)
  · omega
theorem crit_w {w : List Int} (hw : w.length = 10) : Crit w := by
  have p := per_le hw
  have := crit_core (top_best hw (by omega)) (top_nw hw (by omega)) p.1 (per_Pr hw) (per_Mn hw)
  have l : lateOf w < perOf w := this.1
  refine ⟨l, turn_w hw (by omega) this.2, fun k hk => most_w hw hk⟩
end Mine
end

section
open PySem PySem.W PyProof.Rows
set_option linter.all false
set_option maxRecDepth 100000
namespace Mine

theorem Lt.on {f g : Nat → Int} {n a b : Nat} (h : ∀ i, i < n → f i = g i) (l : Lt f n a b) : Lt g n a b := by
  obtain ⟨d, p1, p2, p3, p4⟩ := l
  refine ⟨d, fun e he => ?_, p2, p3, ?_⟩
  · rw [← h _ (by omega), ← h _ (by omega)]; exact p1 e he
  · rcases p4 with p4 | p4
    · exact .inl p4
    · by_cases e : a + d = n
      · exact .inl e
      · right; rw [← h _ (by omega), ← h _ (by omega)]; exact p4
theorem Tp.on {f g : Nat → Int} {n b : Nat} (h : ∀ i, i < n → f i = g i) (t : Tp f n b) : Tp g n b := ⟨t.1, fun j hj hne => (t.2 j hj hne).on h⟩
/-- a place where no repetition is shorter than the period -/
theorem cft {f : Nat → Int} {n p : Nat} (hp : 2 ≤ p) (hn : p ≤ n) (P : Pr f n p) (M : ∀ r, 1 ≤ r → r < p → ¬ Pr f n r) : ∃ q, 1 ≤ q ∧ q < p ∧ ∀ r, 1 ≤ r → r < p → ¬ Rp f n q r := by
  have hl : ((List.range n).map f).length = n := by simp
  have hg : ∀ i, i < n → ((List.range n).map f).getD i 0 = f i := fun i hi => by simp [List.getD_eq_getElem?_getD, List.getElem?_map, List.getElem?_range hi]
  have T := (top_best hl (by omega)).on hg
  have T' := (top_nw hl (by omega)).on (g := fun i => -f i) (fun i hi => congrArg (fun x => -x) (hg i hi))
  have c := crit_core T T' (by omega) P M
  refine ⟨_, ?_, c.1, c.2⟩
  rcases Nat.eq_zero_or_pos (max (best ((List.range n).map f) (n - 1)) (best (nw ((List.range n).map f)) (n - 1))) with e | e
  · exact absurd (fun i h1 h2 h3 => by omega) (c.2 1 (by omega) (by omega))
  · exact e

/-- sets of places that bear one number, as bits -/
def hop (S lo hi c : Nat) : Nat := Nat.lor (Nat.lor S (Nat.shiftLeft (Nat.shiftRight (Nat.mod S (Nat.pow 2 hi)) lo) (Nat.add lo c))) (Nat.shiftLeft (Nat.shiftRight (Nat.mod S (Nat.pow 2 (Nat.add hi c))) (Nat.add lo c)) lo)
def orb (p s d e : Nat) : Nat → Nat → Nat
  | 0, S => S
  | k + 1, S => orb p s d e k (hop (hop (hop S 0 (10 - p) p) s (10 - d) d) 0 (s + p - e) e)
def chk1 (p s d e : Nat) : Bool := ((List.range s).all fun i => Nat.ble 10 (i + d) || Nat.testBit (orb p s d e 4 (2 ^ i)) (i + d)) || ((List.range (10 - e)).all fun i => Nat.ble (i + e + 1) (s + p) || Nat.testBit (orb p s d e 4 (2 ^ i)) (i + e))
def chkA : Bool := (List.range 11).all fun p => (List.range (11 - p)).all fun s => (List.range p).all fun d => (List.range p).all fun e => Nat.beq d 0 || Nat.beq e 0 || Nat.beq s 0 || Nat.beq (s + p) 10 || chk1 p s d e
theorem chkA_ok : chkA = true := by decide +kernel

def InvS (g : Nat → Int) (x : Nat) (S : Nat) : Prop := ∀ j, Nat.testBit S j = true → j < 10 ∧ g j = g x
theorem hop_inv {g : Nat → Int} {x S lo hi c : Nat} (h : InvS g x S) (R : ∀ j, lo ≤ j → j < hi → j + c < 10 ∧ g j = g (j + c)) : InvS g x (hop S lo hi c) := by
  intro j hj
  have e : hop S lo hi c = (S ||| (((S % 2 ^ hi) >>> lo) <<< (lo + c))) ||| (((S % 2 ^ (hi + c)) >>> (lo + c)) <<< lo) := rfl
  rw [e, Nat.testBit_or, Nat.testBit_or, Nat.testBit_shiftLeft, Nat.testBit_shiftLeft, Nat.testBit_shiftRight, Nat.testBit_shiftRight, Nat.testBit_mod_two_pow, Nat.testBit_mod_two_pow] at hj
  simp only [Bool.or_eq_true, Bool.and_eq_true, decide_eq_true_eq] at hj
  rcases hj with (hj | ⟨h1, h2, h3⟩) | ⟨h1, h2, h3⟩
  · exact h j hj
  · have r := R (lo + (j - (lo + c))) (by omega) (by omega)
    rw [show lo + (j - (lo + c)) + c = j by omega] at r
    exact ⟨r.1, r.2.symm.trans (h _ h3).2⟩
  · have r := R j (by omega) (by omega)
    have q := h _ h3
    rw [show lo + c + (j - lo) = j + c by omega] at q
    exact ⟨by omega, r.2.trans q.2⟩
theorem orb_inv {g : Nat → Int} {x p s d e : Nat} (P : Pr g 10 p) (he : s + p ≤ 10) (D : ∀ i, s ≤ i → i + d < 10 → g i = g (i + d)) (E : ∀ i, i + e < s + p → g i = g (i + e)) : ∀ (k : Nat) {S : Nat}, InvS g x S → InvS g x (orb p s d e k S)
  | 0, _, h => h
  | k + 1, _, h => orb_inv P he D E k (hop_inv (hop_inv (hop_inv h fun j _ b => ⟨by omega, P j (by omega)⟩) fun j a b => ⟨by omega, D j a (by omega)⟩) fun j _ b => ⟨by omega, E j (by omega)⟩)
theorem pow_inv {g : Nat → Int} {x : Nat} (hx : x < 10) : InvS g x (2 ^ x) := by
  intro j hj
  rw [Nat.testBit_two_pow] at hj
  have : x = j := by simpa using hj
  subst this
  exact ⟨hx, rfl⟩
theorem two_per {g : Nat → Int} {p s d e : Nat} (hs : s + p ≤ 10) (P : Pr g 10 p) (d1 : 1 ≤ d) (d2 : d < p) (e1 : 1 ≤ e) (e2 : e < p) (D : ∀ i, s ≤ i → i + d < 10 → g i = g (i + d)) (E : ∀ i, i + e < s + p → g i = g (i + e)) : Pr g 10 d ∨ Pr g 10 e := by
  by_cases s0 : s = 0
  · exact .inl fun i hi => D i (by omega) hi
  by_cases s1 : s + p = 10
  · exact .inr fun i hi => E i (by omega)
  have a := chkA_ok
  unfold chkA at a
  have a := List.all_eq_true.mp a p (by simp; omega)
  have a := List.all_eq_true.mp a s (by simp; omega)
  have a := List.all_eq_true.mp a d (by simpa using d2)
  have a := List.all_eq_true.mp a e (by simpa using e2)
  simp only [Bool.or_eq_true, Nat.beq_eq] at a
  have c : chk1 p s d e = true := a.resolve_left (by omega)
  unfold chk1 at c
  rw [Bool.or_eq_true] at c
  rcases c with c | c
  · left
    intro i hi
    rcases Nat.lt_or_ge i s with h | h
    · have q := List.all_eq_true.mp c i (by simpa using h)
      rw [Bool.or_eq_true] at q
      have q := q.resolve_left (fun z => by have := Nat.le_of_ble_eq_true z; omega)
      exact (orb_inv P hs D E 4 (pow_inv (by omega)) _ q).2.symm
    · exact D i h hi
  · right
    intro i hi
    rcases Nat.lt_or_ge (i + e) (s + p) with h | h
    · exact E i h
    · have q := List.all_eq_true.mp c i (by simp; omega)
      rw [Bool.or_eq_true] at q
      have q := q.resolve_left (fun z => by have := Nat.le_of_ble_eq_true z; omega)
      exact (orb_inv P hs D E 4 (pow_inv (by omega)) _ q).2.symm

theorem win_w {w : List Int} (hw : w.length = 10) : Win w := by
  intro k h1 h2
  have pl := per_le hw
  have P := per_Pr hw
  have M := per_Mn hw
  revert h2 P M
  unfold wdt
  generalize hp : perOf w = p at *
  generalize hg : (fun i => w.getD i 0) = g
  intro h2 P M
  rcases Nat.lt_or_ge p 2 with hp2 | hp2
  · refine ⟨k, by omega, by omega, ?_⟩
    rw [← hp]
    exact turn_w hw (by omega) (fun r a b => by omega)
  by_cases hd : ∃ d, 1 ≤ d ∧ d < p ∧ Pr (fun i => g (k - 1 + i)) (10 - (k - 1)) d
  · by_cases he : ∃ e, 1 ≤ e ∧ e < p ∧ Pr (fun i => g (k - 1 + p - 1 - i)) (k - 1 + p) e
    · exfalso
      obtain ⟨d, d1, d2, D⟩ := hd
      obtain ⟨e, e1, e2, E⟩ := he
      rcases two_per (s := k - 1) (by omega) P d1 d2 e1 e2 (fun i a b => by
        have := D (i - (k - 1)) (by omega)
        simp only at this
        rw [show k - 1 + (i - (k - 1)) = i by omega, show k - 1 + (i - (k - 1) + d) = i + d by omega] at this
        exact this) (fun i a => by
        have := E (k - 1 + p - 1 - i - e) (by omega)
        simp only at this
        rw [show k - 1 + p - 1 - (k - 1 + p - 1 - i - e) = i + e by omega, show k - 1 + p - 1 - (k - 1 + p - 1 - i - e + e) = i by omega] at this
        exact this.symm) with c | c
      · exact M d d1 d2 c
      · exact M e e1 e2 c
    · obtain ⟨q, q1, q2, q3⟩ := cft (f := fun i => g (k - 1 + p - 1 - i)) (n := k - 1 + p) hp2 (by omega) (fun i hi => by
        have := P (k - 1 + p - 1 - i - p) (by omega)
        simp only
        rw [show k - 1 + p - 1 - i - p + p = k - 1 + p - 1 - i by omega] at this
        rw [show k - 1 + p - 1 - (i + p) = k - 1 + p - 1 - i - p by omega]
        exact this.symm) (fun r a b c => he ⟨r, a, b, c⟩)
      refine ⟨k - 1 + p - q, by omega, by omega, ?_⟩
      rw [← hp]
      refine turn_w hw (by omega) (fun r a b c => q3 r a (by omega) fun i i1 i2 i3 => ?_)
      rw [hg] at c
      have := c (k - 1 + p - 1 - (i + r)) (by omega) (by omega) (by omega)
      rw [show k - 1 + p - 1 - (i + r) + r = k - 1 + p - 1 - i by omega] at this
      exact this.symm
  · obtain ⟨q, q1, q2, q3⟩ := cft (f := fun i => g (k - 1 + i)) (n := 10 - (k - 1)) hp2 (by omega) (fun i hi => by
      have := P (k - 1 + i) (by omega)
      simpa [Nat.add_assoc] using this) (fun r a b c => hd ⟨r, a, b, c⟩)
    refine ⟨k - 1 + q, by omega, by omega, ?_⟩
    rw [← hp]
    refine turn_w hw (by omega) (fun r a b c => q3 r a (by omega) fun i i1 i2 i3 => ?_)
    rw [hg] at c
    have := c (k - 1 + i) (by omega) (by omega) (by omega)
    simpa [Nat.add_assoc] using this
end Mine
end

section
open PySem PySem.W PyProof.Rows PySem.Calls
set_option linter.all false
set_option maxRecDepth 100000
set_option maxHeartbeats 1000000
namespace Mine

theorem bl_boot : ∀ q ∈ bl, q.1 ≠ ("__name__" : Str) ∧ bootBuiltins q.1 = some q.2 := by
  intro q hq
  simp only [bl, List.mem_cons, List.not_mem_nil, or_false] at hq
  rcases hq with rfl | rfl | rfl | rfl | rfl | rfl | rfl | rfl | rfl | rfl <;> exact ⟨by decide, by rfl⟩
theorem look_mem {α : Type} {l : List (Str × α)} {n : Str} {v : α} (h : l.lookup n = some v) : (n, v) ∈ l := by
  induction l with
  | nil => cases h
  | cons a r ih =>
    obtain ⟨k, x⟩ := a
    rw [List.lookup_cons] at h
    split at h
    · rename_i q
      cases h
      rw [beq_iff_eq.mp q]; exact .head _
    · exact .tail _ (ih h)
theorem base_top {p : Program} {loose : List Str} {mean : ExcName → Option Value} {mg mb : Str → Option Value} {h : Heap} (T : Top p loose mean mg mb h)
    (hf : ∀ i ∈ [3, 4, 5, 6, 8, 9, 11, 12], ∃ d ∈ recsOf p, d.name = fn i ∧ d.params = fp i ∧ d.body = fb i ∧ d.scope = fs i)
    (hb : ∀ n ∈ bl.map (·.1), mg n = none) (hp : ∃ a, mg "IPV4_RE" = some (.ref a) ∧ IsPat h a) : Base h := by
  refine ⟨T.nolimit, mg, mb, T.g, T.b, fun n v e => ?_, fun i hi => ?_, hp⟩
  · have m := look_mem e
    exact ⟨hb n (List.mem_map.mpr ⟨_, m, rfl⟩), (T.builtins n (bl_boot _ m).1).trans (bl_boot _ m).2⟩
  · obtain ⟨d, hd, e1, e2, e3, e4⟩ := hf i hi
    obtain ⟨a, o, pm, code, doc, h1, h2, h3, h4⟩ := T.fn d hd
    rw [e1] at h1
    rw [e1, e2, e3, e4] at h3
    rw [e1] at h4
    exact ⟨a, h1, o, pm, code, doc, h2, h3, h4⟩
theorem ra_ints {h : Heap} : ∀ {vs : List Value} {xs : List Int} {as : List Addr}, ReadsAll h vs (xs.map .int) as → as = []
  | _, [], _, r => by cases r; rfl
  | _, x :: xs, _, r => by
    cases r with
    | cons a b =>
      cases a
      rw [ra_ints b]; rfl
theorem nds_ints : ∀ {xs : List Int}, nds (xs.map .int) = true
  | [] => rfl
  | x :: xs => by rw [List.map_cons, nds, nds_ints]; rfl
theorem well_obj {P : Params} {h : Heap} {l : Addr} {ds : List WData} {d : WData} (e : d = .list ds) (w : Well P h (.ref l) d) : ∃ items n, h.get? l = some (seqObj "list" items n) := by
  subst e
  cases w with
  | list a _ => exact ⟨_, _, a⟩
theorem rd_script {P : Params} {h : Heap} {l : Addr} {xs : List Int} {as : List Addr} (w : Well P h (.ref l) (ofPy (.list (xs.map .int)))) (r : Reads h (.ref l) (.list (xs.map .int)) as) : Rd h (.ref l) (li xs) := by
  refine ⟨as, r, ?_, by rw [li, nd]; exact nds_ints⟩
  cases r with
  | list a b c d =>
    rw [ra_ints d]
    intro x hx
    rw [List.mem_singleton.mp hx]
    exact well_obj rfl w
theorem good_true {c : ClaimW} {cl : Str → Option Addr} {mean : ExcName → Option Value} {args : List WData} {s s' : Shared} (hg : s.gens = #[]) (k : Keeps s s') (hn : ∀ cls, c.raises args cls = false) (hp : c.post args (.bool true) args = true) : GoodWG c cl mean args s (.ok (.ret (.bool true))) s' := by
  obtain ⟨h, tk, rfl, k⟩ := k
  exact ⟨.inl ⟨.bool true, .bool true, [], rfl, hn, .bool true, hp, fun _ => ⟨List.nodup_nil, fun _ h => nomatch h⟩⟩, .of_keep k, rfl, .of_eq hg⟩
theorem ok_caller : Ok 11 callerA := ⟨rfl, by decide +kernel, by decide +kernel⟩
theorem len_labs (xs : List Int) : (lens (labs xs)).length = 10 := by rw [lens, List.length_map, (labs_lb xs).len]
end Mine
end

open PySem PySem.W PyProof.Rows
set_option maxRecDepth 100000 in
set_option maxHeartbeats 8000000 in
theorem PySem.Challenge.cw_tv0028_01_holds : PySem.Challenge.rw_tv0028_01.Holds := by
  w_on
  o_law
  k_head
  (case hw => w_witness2)
  k_fill
  intro w s₀ s₁ mg mb G Y fa o pm cd doc dV kV ho hd hcd hD hmg hg args vals as hpre hlay hrd hwl hlo
  have KX := kIn_of Y
  refine Ground.open G ?_
  intro T B D TE TW
  clear D
  wrow_args hpre hlay hrd hwl hlo
  refine enter_call ?_
  rename_i xs hs hl0 hL1 hr1 hl2 asx as2 l vs rs hL ra wl r0 hI hr hc ht
  have he := Dflts.none hD rfl
  subst he
  have he := Dflts.noKw hD
  subst he
  have bT : Mine.Base s₁.heap := by
    refine Mine.base_top T ?_ ?_ ?_
    · intro i hi
      simp only [List.mem_cons, List.not_mem_nil, or_false] at hi
      rcases hi with rfl | rfl | rfl | rfl | rfl | rfl | rfl | rfl
      · exact ⟨_, List.mem_of_getElem? (i := 0) rfl, rfl, rfl, rfl, rfl⟩
      · exact ⟨_, List.mem_of_getElem? (i := 1) rfl, rfl, rfl, rfl, rfl⟩
      · exact ⟨_, List.mem_of_getElem? (i := 2) rfl, rfl, rfl, rfl, rfl⟩
      · exact ⟨_, List.mem_of_getElem? (i := 3) rfl, rfl, rfl, rfl, rfl⟩
      · exact ⟨_, List.mem_of_getElem? (i := 4) rfl, rfl, rfl, rfl, rfl⟩
      · exact ⟨_, List.mem_of_getElem? (i := 5) rfl, rfl, rfl, rfl, rfl⟩
      · exact ⟨_, List.mem_of_getElem? (i := 6) rfl, rfl, rfl, rfl, rfl⟩
      · exact ⟨_, List.mem_of_getElem? (i := 7) rfl, rfl, rfl, rfl, rfl⟩
    · intro n hn
      simp only [Mine.bl, List.map_cons, List.map_nil, List.mem_cons, List.not_mem_nil, or_false] at hn
      rcases hn with rfl | rfl | rfl | rfl | rfl | rfl | rfl | rfl | rfl | rfl <;> exact mg_none_of KX T.g (by k_is)
    · have e1 : mg (PySem.Str.ofString "IPV4_RE") = some (.ref 36) := mg_of KX T.g (by k_is)
      refine ⟨36, e1, ?_⟩
      have e2 := KX 36 _ (by k_is)
      have e3 := KX 35 _ (by k_is)
      exact ⟨_, _, _, _, _, e2, rfl, rfl, rfl, e3, _, rfl, by decide +kernel⟩
  refine Mine.law_call (xs := xs) (by omega) Mine.ok_caller rfl (Mine.crit_w (Mine.len_labs xs)) (Mine.win_w (Mine.len_labs xs)) ho hd hcd bT (Mine.rd_script wl r0) (fun s' k => Mine.good_true hg k ?_ ?_)
  · exact fun _ => rfl
  · refine' postW_of ?qs ?qv ?qe
    (case qs => o_shape)
    (case qv => wtm_val)
    (case qe => w_fin)
