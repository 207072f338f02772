import PyProof.Rows.All
import Wide.All
import OpenK.AllK
import Wide.FinOn
import PySem.Challenge.RW_il0030_01
open PySem PySem.W PyProof.Rows
set_option Elab.async false
set_option linter.all false
noncomputable section
section
set_option maxRecDepth 100000
namespace Mine
def stm (i : Nat) : Stmt := PySem.Challenge.pw_il0030_01.main.body.getD i (.Pass default)
/-- the statements of the text that are looked at: its defs and its two classes -/
def view : Program := { PySem.Challenge.pw_il0030_01 with main := { PySem.Challenge.pw_il0030_01.main with body := [0, 2, 4, 6, 7, 9, 11, 13, 14, 15, 16, 17, 18, 19, 21, 22, 23, 24, 25, 26, 27, 28].map stm } }
abbrev look (s : Shared) : Bool := xlAt view [] s && recOk (RowW.records PySem.Challenge.rw_il0030_01.row.toRowW) s
set_option maxHeartbeats 8000000 in
theorem left_ok : LeftO PySem.Challenge.rw_il0030_01.prog view [] look (Hook.obs Hook.none) (Hook.val Hook.none) 2488 := fun w => by
  kernel_rfl
end Mine
end
namespace Mine

/-! the frozen part of a heap, and what reads as what in it -/
abbrev Gh := Addr → Option Obj
def Le (G G' : Gh) : Prop := ∀ b o, G b = some o → G' b = some o
def Sub (G : Gh) (h : Heap) : Prop := ∀ b o, G b = some o → h.get? b = some o
def Kp (h h' : Heap) : Prop := ∀ b o, h.get? b = some o → h'.get? b = some o
theorem Le.refl (G : Gh) : Le G G := fun _ _ e => e
theorem Le.trans {G G' G'' : Gh} (a : Le G G') (b : Le G' G'') : Le G G'' := fun x o e => b x o (a x o e)
theorem Kp.refl (h : Heap) : Kp h h := fun _ _ e => e
theorem Kp.trans {h h' h'' : Heap} (a : Kp h h') (b : Kp h' h'') : Kp h h'' := fun x o e => b x o (a x o e)
theorem Sub.kp {G : Gh} {h h' : Heap} (a : Sub G h) (b : Kp h h') : Sub G h' := fun x o e => b x o (a x o e)
def put (G : Gh) (a : Addr) (o : Obj) : Gh := fun b => if b = a then some o else G b
def cut (G : Gh) (a : Addr) : Gh := fun b => if b = a then none else G b

abbrev listO (vs : List Value) (n : Nat) : Obj := { cls := .type "list", data := .seq vs.toArray n }
abbrev tupO (vs : List Value) (n : Nat) : Obj := { cls := .type "tuple", data := .seq vs.toArray n }

section
variable (prog : Program) (w : World)
mutual
inductive Rd (G : Gh) : Value → PyData → Prop
  | none : Rd G .none .none
  | bool (b : Bool) : Rd G (.bool b) (.bool b)
  | int (i : Int) (t : Tok) : Rd G (.int i t) (.int i)
  | str (x : Str) (t : Tok) : Rd G (.str x t) (.str x)
  | list {a : Addr} {o : Obj} {vs : List Value} {n : Nat} {xs : List PyData} : G a = some o → o.cls = .type "list" → o.data = .seq vs.toArray n → RdAll G vs xs → Rd G (.ref a) (.list xs)
  | tuple {a : Addr} {o : Obj} {vs : List Value} {n : Nat} {xs : List PyData} : G a = some o → o.cls = .type "tuple" → o.data = .seq vs.toArray n → RdAll G vs xs → Rd G (.ref a) (.tuple xs)
  | dict {a : Addr} {o : Obj} {kv : List (Str × Value)} {ds : List (PyData × PyData)} : G a = some o → o.IsDictOf (strKind prog w) kv → (a == sysModules) = false → RdKv G kv ds → Rd G (.ref a) (.dict ds)
inductive RdAll (G : Gh) : List Value → List PyData → Prop
  | nil : RdAll G [] []
  | cons {v : Value} {vs : List Value} {d : PyData} {ds : List PyData} : Rd G v d → RdAll G vs ds → RdAll G (v :: vs) (d :: ds)
inductive RdKv (G : Gh) : List (Str × Value) → List (PyData × PyData) → Prop
  | nil : RdKv G [] []
  | cons {k : Str} {v : Value} {r : List (Str × Value)} {d : PyData} {ds : List (PyData × PyData)} : Rd G v d → RdKv G r ds → RdKv G ((k, v) :: r) ((.str k, d) :: ds)
end
end

section
variable {prog : Program} {w : World}
mutual
theorem Rd.mono {G G' : Gh} (h : Le G G') : ∀ {v : Value} {d : PyData}, Rd prog w G v d → Rd prog w G' v d
  | _, _, .none => .none
  | _, _, .bool b => .bool b
  | _, _, .int i t => .int i t
  | _, _, .str x t => .str x t
  | _, _, .list e c q r => .list (h _ _ e) c q (RdAll.mono h r)
  | _, _, .tuple e c q r => .tuple (h _ _ e) c q (RdAll.mono h r)
  | _, _, .dict e k m r => .dict (h _ _ e) k m (RdKv.mono h r)
theorem RdAll.mono {G G' : Gh} (h : Le G G') : ∀ {vs : List Value} {ds : List PyData}, RdAll prog w G vs ds → RdAll prog w G' vs ds
  | _, _, .nil => .nil
  | _, _, .cons a r => .cons (Rd.mono h a) (RdAll.mono h r)
theorem RdKv.mono {G G' : Gh} (h : Le G G') : ∀ {kv : List (Str × Value)} {ds : List (PyData × PyData)}, RdKv prog w G kv ds → RdKv prog w G' kv ds
  | _, _, .nil => .nil
  | _, _, .cons a r => .cons (Rd.mono h a) (RdKv.mono h r)
end
theorem RdAll.length {G : Gh} : ∀ {vs : List Value} {ds : List PyData}, RdAll prog w G vs ds → vs.length = ds.length
  | _, _, .nil => rfl
  | _, _, .cons _ r => by rw [List.length_cons, List.length_cons, r.length]
theorem RdAll.append {G : Gh} : ∀ {vs ws : List Value} {ds es : List PyData}, RdAll prog w G vs ds → RdAll prog w G ws es → RdAll prog w G (vs ++ ws) (ds ++ es)
  | _, _, _, _, .nil, k => k
  | _, _, _, _, .cons a r, k => .cons a (r.append k)
theorem RdAll.get {G : Gh} : ∀ {vs : List Value} {ds : List PyData}, RdAll prog w G vs ds → ∀ {i : Nat} {d : PyData}, ds[i]? = some d → ∃ v, vs[i]? = some v ∧ Rd prog w G v d
  | _, _, .nil, i, d, h => by simp at h
  | _, _, .cons (v := v) a r, 0, d, h => by
    simp only [List.getElem?_cons_zero, Option.some.injEq] at h
    exact ⟨v, rfl, h ▸ a⟩
  | _, _, .cons a r, i + 1, d, h => by
    rw [List.getElem?_cons_succ] at h
    obtain ⟨v, e, q⟩ := r.get h
    exact ⟨v, by rw [List.getElem?_cons_succ]; exact e, q⟩
theorem RdAll.get' {G : Gh} : ∀ {vs : List Value} {ds : List PyData}, RdAll prog w G vs ds → ∀ {i : Nat} {v : Value}, vs[i]? = some v → ∃ d, ds[i]? = some d ∧ Rd prog w G v d
  | _, _, .nil, i, d, h => by simp at h
  | _, _, .cons (d := d) a r, 0, v, h => by
    simp only [List.getElem?_cons_zero, Option.some.injEq] at h
    exact ⟨d, rfl, h ▸ a⟩
  | _, _, .cons a r, i + 1, v, h => by
    rw [List.getElem?_cons_succ] at h
    obtain ⟨d, e, q⟩ := r.get' h
    exact ⟨d, by rw [List.getElem?_cons_succ]; exact e, q⟩
theorem RdAll.drop {G : Gh} : ∀ {vs : List Value} {ds : List PyData}, RdAll prog w G vs ds → ∀ n, RdAll prog w G (vs.drop n) (ds.drop n)
  | _, _, h, 0 => h
  | _, _, .nil, n + 1 => by simpa using RdAll.nil
  | _, _, .cons _ r, n + 1 => r.drop n
theorem RdAll.take {G : Gh} : ∀ {vs : List Value} {ds : List PyData}, RdAll prog w G vs ds → ∀ n, RdAll prog w G (vs.take n) (ds.take n)
  | _, _, _, 0 => by simpa using RdAll.nil
  | _, _, .nil, n + 1 => by simpa using RdAll.nil
  | _, _, .cons a r, n + 1 => by simpa using RdAll.cons a (r.take n)

-- no dict stands in it
mutual
def nd : PyData → Bool
  | .list xs | .tuple xs => ndAll xs
  | .dict _ => false
  | .none | .bool _ | .int _ | .str _ => true
def ndAll : List PyData → Bool
  | [] => true
  | x :: xs => nd x && ndAll xs
end
mutual
theorem nd_of_lay : ∀ (d : PyData), d.canLay0 = true → nd d = true
  | .none, _ | .bool _, _ | .int _, _ | .str _, _ => rfl
  | .list xs, h => ndAll_of_lay xs h
  | .tuple xs, h => ndAll_of_lay xs h
  | .dict _, h => nomatch h
theorem ndAll_of_lay : ∀ (ds : List PyData), PyData.canLayAll0 ds = true → ndAll ds = true
  | [], _ => rfl
  | x :: xs, h => by
    have h' : x.canLay0 = true ∧ PyData.canLayAll0 xs = true := by simpa [PyData.canLayAll0] using h
    rw [ndAll, nd_of_lay x h'.1, ndAll_of_lay xs h'.2]; rfl
end

mutual
theorem Rd.reads {G : Gh} {h : Heap} (s : Sub G h) : ∀ {v : Value} {d : PyData}, nd d = true → Rd prog w G v d → ∃ as, Reads h v d as
  | _, _, _, .none => ⟨_, .none⟩
  | _, _, _, .bool b => ⟨_, .bool b⟩
  | _, _, _, .int i t => ⟨_, .int i t⟩
  | _, _, _, .str x t => ⟨_, .str x t⟩
  | _, _, hn, .list e c z r => let ⟨_, q⟩ := RdAll.reads s (show ndAll _ = true from hn) r; ⟨_, .list (s _ _ e) c z (by simpa using q)⟩
  | _, _, hn, .tuple e c z r => let ⟨_, q⟩ := RdAll.reads s (show ndAll _ = true from hn) r; ⟨_, .tuple (s _ _ e) c z (by simpa using q)⟩
  | _, _, hn, .dict _ _ _ _ => nomatch hn
theorem RdAll.reads {G : Gh} {h : Heap} (s : Sub G h) : ∀ {vs : List Value} {ds : List PyData}, ndAll ds = true → RdAll prog w G vs ds → ∃ as, ReadsAll h vs ds as
  | _, _, _, .nil => ⟨_, .nil⟩
  | _, _, hn, .cons a r => by
    have h' := Bool.and_eq_true_iff.mp (show (nd _ && ndAll _) = true from hn)
    obtain ⟨_, q⟩ := Rd.reads s h'.1 a
    obtain ⟨_, q'⟩ := RdAll.reads s h'.2 r
    exact ⟨_, .cons q q'⟩
end

-- a dict place may be taken out of the frozen part: data without dicts do not see it
mutual
theorem Rd.cut {G : Gh} {a : Addr} {o : Obj} (ha : G a = some o) (hc : o.cls = .type "dict") : ∀ {v : Value} {d : PyData}, nd d = true → Rd prog w G v d → Rd prog w (cut G a) v d
  | _, _, _, .none => .none
  | _, _, _, .bool b => .bool b
  | _, _, _, .int i t => .int i t
  | _, _, _, .str x t => .str x t
  | _, _, hn, .list (a := b) e c z r => .list (by
      show (if b = a then none else G b) = _
      rw [if_neg (fun q => by rw [q, ha] at e; cases e; rw [c] at hc; simp at hc)]; exact e) c z (RdAll.cut ha hc (show ndAll _ = true from hn) r)
  | _, _, hn, .tuple (a := b) e c z r => .tuple (by
      show (if b = a then none else G b) = _
      rw [if_neg (fun q => by rw [q, ha] at e; cases e; rw [c] at hc; simp at hc)]; exact e) c z (RdAll.cut ha hc (show ndAll _ = true from hn) r)
  | _, _, hn, .dict _ _ _ _ => nomatch hn
theorem RdAll.cut {G : Gh} {a : Addr} {o : Obj} (ha : G a = some o) (hc : o.cls = .type "dict") : ∀ {vs : List Value} {ds : List PyData}, ndAll ds = true → RdAll prog w G vs ds → RdAll prog w (cut G a) vs ds
  | _, _, _, .nil => .nil
  | _, _, hn, .cons q r => by
    have h' := Bool.and_eq_true_iff.mp (show (nd _ && ndAll _) = true from hn)
    exact .cons (Rd.cut ha hc h'.1 q) (RdAll.cut ha hc h'.2 r)
end
def imm : PyData → Bool
  | .none | .bool _ | .int _ | .str _ => true
  | _ => false
theorem Rd.imm {G : Gh} (G' : Gh) {v : Value} {d : PyData} (h : imm d = true) (r : Rd prog w G v d) : Rd prog w G' v d := by
  cases r with
  | none => exact .none
  | bool b => exact .bool b
  | int i t => exact .int i t
  | str x t => exact .str x t
  | list _ _ _ _ => cases h
  | tuple _ _ _ _ => cases h
  | dict _ _ _ _ => cases h
end

/-! the module -/
structure Md (prog : Program) (w : World) where
  H : Heap
  mg : Str → Option Value
  mb : Str → Option Value
  g : H.Ns mainGlobals mg
  b : H.Ns builtinsNs mb
  nl : H.NoLimit
  bt : ∀ x : Str, x ≠ "__name__" → mb x = bootBuiltins x

def Room (k : Nat) (A : Around) : Prop := A.handled = none ∧ A.depth + k < 900 ∧ A.units + 100 * k < 9000
theorem Room.in1 {k : Nat} {A : Around} (h : Room (k + 1) A) : Room k A.in1 := ⟨h.1, by have := h.2.1; simp only [Around.in1_depth]; omega, by have := h.2.2; simp only [Around.in1_units]; omega⟩
theorem Room.le {k j : Nat} {A : Around} (h : Room k A) (hj : j ≤ k) : Room j A := ⟨h.1, by have := h.2.1; omega, by have := h.2.2; omega⟩
theorem Room.deeper {k : Nat} {A : Around} (env : Env) (h : Room (k + 1) A) : Room k (A.deeper env) := ⟨h.1, by have := h.2.1; show A.depth + 1 + k < 900; omega, by have := h.2.2; simp only [Around.deeper_units]; omega⟩
theorem Room.depth {k : Nat} {A : Around} (h : Room k A) : A.depth < recursionLimit := by have := h.2.1; show _ < 1000; omega
theorem Room.units {k : Nat} {A : Around} (h : Room k A) : A.units + 100 < cLine := by have := h.2.2; show _ < 9900; omega
theorem Room.mark {k : Nat} {A : Around} (h : Room k A) : Room k (A.mark none) := ⟨by show (Option.or none A.handled) = none; rw [h.1]; rfl, h.2.1, h.2.2⟩

def VarAt (env : Env) (h : Heap) (x : Str) (v : Value) : Prop :=
  (x == ("__debug__" : Str)) = false ∧ ((env.kindOf x = some .local ∧ ∃ m, h.Ns env.locals m ∧ m x = some v) ∨ (env.kindOf x = some .cell ∧ ∃ c, env.cells.lookup x = some c ∧ h.IsCell c (some v)))
theorem VarAt.kp {env : Env} {h h' : Heap} {x : Str} {v : Value} (q : VarAt env h x v) (k : Kp h h') : VarAt env h' x v := by
  refine ⟨q.1, q.2.imp ?_ ?_⟩
  · rintro ⟨a, m, n, e⟩; exact ⟨a, m, n.keeps k, e⟩
  · rintro ⟨a, c, n, e⟩; exact ⟨a, c, n, e.keeps k⟩

structure EnvOk (env : Env) : Prop where
  fn : env.scope.kind = .function
  glob : env.globals = mainGlobals
  bi : env.builtins = builtinsNs

abbrev Vars := List (Str × PyData)

section
variable {prog : Program} {w : World} (D : Md prog w)

structure Es (env : Env) (V : Vars) (G : Gh) (s : Shared) : Prop where
  g0 : ∀ b o, D.H.get? b = some o → G b = some o
  inn : Sub G s.heap
  sees : ∀ x d, V.lookup x = some d → ∃ v, VarAt env s.heap x v ∧ Rd prog w G v d

structure Step (G : Gh) (s : Shared) (G' : Gh) (s' : Shared) : Prop where
  shp : ∃ h tk, s' = { s with heap := h, toks := tk }
  le : Le G G'
  inn : Sub G' s'.heap
  kp : Kp s.heap s'.heap
  new : ∀ b o, G' b = some o → G b = some o ∨ s.heap.get? b = none

variable {D}
theorem Step.refl {G : Gh} {s : Shared} (h : Sub G s.heap) : Step G s G s := ⟨⟨s.heap, s.toks, rfl⟩, Le.refl _, h, Kp.refl _, fun _ _ e => .inl e⟩
theorem Step.trans {G G' G'' : Gh} {s s' s'' : Shared} (a : Step G s G' s') (b : Step G' s' G'' s'') : Step G s G'' s'' := by
  refine ⟨?_, a.le.trans b.le, b.inn, a.kp.trans b.kp, fun x o e => ?_⟩
  · obtain ⟨h, tk, rfl⟩ := a.shp
    obtain ⟨h', tk', rfl⟩ := b.shp
    exact ⟨h', tk', rfl⟩
  · rcases b.new x o e with q | q
    · exact a.new x o q
    · refine .inr ?_
      cases z : s.heap.get? x with
      | none => rfl
      | some o' => rw [a.kp _ _ z] at q; cases q
/-- the heap as it stands, but for tokens -/
theorem Step.tok {G : Gh} {s : Shared} (h : Sub G s.heap) (tk : Nat) : Step G s G { s with toks := tk } := ⟨⟨s.heap, tk, rfl⟩, Le.refl _, h, Kp.refl _, fun _ _ e => .inl e⟩
/-- a new object, kept out of the frozen part -/
theorem Step.push {G : Gh} {s : Shared} (h : Sub G s.heap) (o : Obj) : Step G s G { s with heap := s.heap.push o } :=
  ⟨⟨_, s.toks, rfl⟩, Le.refl _, h.kp fun _ _ e => Heap.get?_push_of_some _ e, fun _ _ e => Heap.get?_push_of_some _ e, fun _ _ e => .inl e⟩
/-- what is new in the heap and in nobody's hand may be frozen -/
theorem Step.freeze {G G' : Gh} {s s' : Shared} (a : Step G s G' s') {b : Addr} {o : Obj} (hb : s'.heap.get? b = some o) (hn : s.heap.get? b = none) : Step G s (put G' b o) s' := by
  have hg : G' b = none ∨ G' b = some o := by
    cases e : G' b with
    | none => exact .inl rfl
    | some o' => rw [a.inn _ _ e] at hb; exact .inr hb
  refine ⟨a.shp, a.le.trans fun x q e => ?_, fun x q e => ?_, a.kp, fun x q e => ?_⟩
  · show (if x = b then some o else G' x) = _
    by_cases hx : x = b
    · rw [if_pos hx]; subst hx; rcases hg with hg | hg <;> rw [hg] at e
      · cases e
      · exact e
    · rw [if_neg hx]; exact e
  · have e' : (if x = b then some o else G' x) = some q := e
    by_cases hx : x = b
    · rw [if_pos hx] at e'; subst hx; rw [← e']; exact hb
    · rw [if_neg hx] at e'; exact a.inn _ _ e'
  · have e' : (if x = b then some o else G' x) = some q := e
    by_cases hx : x = b
    · exact .inr (hx ▸ hn)
    · rw [if_neg hx] at e'; exact a.new _ _ e'
theorem put_self (G : Gh) (a : Addr) (o : Obj) : put G a o a = some o := by simp [put]
theorem Step.le_put {G G' : Gh} {s s' : Shared} (a : Step G s G' s') {b : Addr} {o : Obj} (hb : s'.heap.get? b = some o) : Le G' (put G' b o) := fun x q e => by
  show (if x = b then some o else G' x) = _
  by_cases hx : x = b
  · rw [if_pos hx]; subst hx; rw [a.inn _ _ e] at hb; exact hb.symm
  · rw [if_neg hx]; exact e

theorem Es.step {env : Env} {V : Vars} {G G' : Gh} {s s' : Shared} (e : Es D env V G s) (a : Step G s G' s') : Es D env V G' s' :=
  ⟨fun b o q => a.le _ _ (e.g0 b o q), a.inn, fun x d q => let ⟨v, h1, h2⟩ := e.sees x d q; ⟨v, h1.kp a.kp, h2.mono a.le⟩⟩
theorem Es.base {env : Env} {V : Vars} {G : Gh} {s : Shared} (e : Es D env V G s) : Kp D.H s.heap := fun b o q => e.inn _ _ (e.g0 b o q)

variable (D)
/-- an expression gives d; the frame's own things stay as they are -/
def Ev (k : Nat) (env : Env) (V : Vars) (e : Expr) (d : PyData) : Prop :=
  ∀ A, Room k A → ∀ G s Q E, Es D env V G s → (∀ G' s' v, Step G s G' s' → Rd prog w G' v d → Q v s') → wpAny (model prog w) A (eval e env) Q E s
/-- several, left to right -/
def EvL (k : Nat) (env : Env) (V : Vars) (es : List Expr) (ds : List PyData) : Prop :=
  ∀ A pos, Room k A → ∀ G s Q E, Es D env V G s → (∀ G' s' vs, Step G s G' s' → RdAll prog w G' vs ds → Q vs s') → wpAny (model prog w) A (spliced (backTo pos (starEach es env))) Q E s
/-- a test -/
def Tr (k : Nat) (env : Env) (V : Vars) (e : Expr) (b : Bool) : Prop :=
  ∀ A, Room k A → ∀ G s Q E, Es D env V G s → (∀ G' s', Step G s G' s' → Q b s') → wpAny (model prog w) A (isTrue e env (eval e env)) Q E s
/-- a call of a value -/
def CallTo (k : Nat) (f : Value) (ds : List PyData) (d : PyData) : Prop :=
  ∀ A, Room k A → ∀ G s vs Q E, (∀ b o, D.H.get? b = some o → G b = some o) → Sub G s.heap → RdAll prog w G vs ds → (∀ G' s' v, Step G s G' s' → Rd prog w G' v d → Q v s') → wpAny (model prog w) A (call f vs) Q E s
end
end Mine
namespace Mine
section
variable {prog : Program} {w : World} {D : Md prog w} {k : Nat} {env : Env} {V : Vars}

def In0 (D : Md prog w) (G : Gh) : Prop := ∀ b o, D.H.get? b = some o → G b = some o
theorem In0.step {G G' : Gh} {s s' : Shared} (h : In0 D G) (a : Step G s G' s') : In0 D G' := fun b o e => a.le _ _ (h b o e)

theorem Ev.name {x : Str} {pos : Pos} {d : PyData} (ok : EnvOk env) (h : V.lookup x = some d) : Ev D k env V (.Name x pos) d := by
  intro A hA G s Q E e hQ
  obtain ⟨v, ⟨hd, hv⟩, hr⟩ := e.sees x d h
  have q := hQ G s v (Step.refl e.inn) hr
  rcases hv with ⟨hk, m, hn, hm⟩ | ⟨hk, c, hc, hv⟩
  · exact wpAny_Name (wpAny_loadName_local ok.fn hk hn hm q) hd
  · exact wpAny_Name (wpAny_loadName_cell ok.fn hk hc hv q) hd
theorem Ev.cstr {x : Str} {j : Nat} {pos : Pos} : Ev D k env V (.Constant (.str x) j pos) (.str x) :=
  fun A hA G s Q E e hQ => wpAny_Constant_str (hQ _ _ _ (Step.tok e.inn _) (.str x _))
theorem Ev.cint {i : Int} {j : Nat} {pos : Pos} : Ev D k env V (.Constant (.int i) j pos) (.int i) :=
  fun A hA G s Q E e hQ => wpAny_Constant_int (hQ _ _ _ (Step.tok e.inn _) (.int i _))
theorem Ev.cnone {j : Nat} {pos : Pos} : Ev D k env V (.Constant .none j pos) .none :=
  fun A hA G s Q E e hQ => wpAny_Constant_none (hQ _ _ _ (Step.refl e.inn) .none)
theorem Ev.cbool {b : Bool} {j : Nat} {pos : Pos} : Ev D k env V (.Constant (.bool b) j pos) (.bool b) :=
  fun A hA G s Q E e hQ => wpAny_Constant_bool (hQ _ _ _ (Step.refl e.inn) (.bool b))

/-! operators: a relation on values first -/
variable (D)
def BinR (k : Nat) (op : Operator) (d1 d2 d : PyData) : Prop :=
  ∀ A, Room k A → ∀ G s a b Q E, In0 D G → Sub G s.heap → Rd prog w G a d1 → Rd prog w G b d2 → (∀ G' s' v, Step G s G' s' → Rd prog w G' v d → Q v s') → wpAny (model prog w) A (binaryOp op a b) Q E s
def CmpR (k : Nat) (op : CmpOp) (d1 d2 : PyData) (r : Bool) : Prop :=
  ∀ A, Room k A → ∀ G s a b Q E, In0 D G → Sub G s.heap → Rd prog w G a d1 → Rd prog w G b d2 → (∀ G' s', Step G s G' s' → Q (.bool r) s') → wpAny (model prog w) A (compareOp op a b) Q E s
/-- truth of a value -/
def TruR (k : Nat) (d : PyData) (r : Bool) : Prop :=
  ∀ A, Room k A → ∀ G s v Q E, In0 D G → Sub G s.heap → Rd prog w G v d → (∀ G' s', Step G s G' s' → Q r s') → wpAny (model prog w) A (truthy v) Q E s
variable {D}

theorem Ev.bin {op : Operator} {l r : Expr} {pos : Pos} {d1 d2 d : PyData} (h1 : Ev D k env V l d1) (h2 : Ev D k env V r d2) (h : BinR D k op d1 d2 d) : Ev D k env V (.BinOp l op r pos) d := by
  intro A hA G s Q E e hQ
  refine wpAny_BinOp (h1 A hA G s _ E e fun G1 s1 v1 t1 r1 => h2 A hA G1 s1 _ E (e.step t1) fun G2 s2 v2 t2 r2 => ?_)
  exact h A hA G2 s2 _ _ _ E ((In0.step e.g0 t1).step t2) t2.inn (r1.mono t2.le) r2 fun G3 s3 v t3 r3 => hQ _ _ _ ((t1.trans t2).trans t3) r3
theorem Ev.cmp {op : CmpOp} {l r : Expr} {pos : Pos} {d1 d2 : PyData} {b : Bool} (h1 : Ev D k env V l d1) (h2 : Ev D k env V r d2) (h : CmpR D k op d1 d2 b)
    (hm : behindInMarks op r = false := by with_unfolding_all rfl) : Ev D k env V (.Compare l [op] [r] pos) (.bool b) := by
  intro A hA G s Q E e hQ
  refine wpAny_Compare1 (h1 A hA G s _ E e fun G1 s1 v1 t1 r1 => h2 A hA G1 s1 _ E (e.step t1) fun G2 s2 v2 t2 r2 => ?_) hm
  exact h A hA G2 s2 _ _ _ E ((In0.step e.g0 t1).step t2) t2.inn (r1.mono t2.le) r2 fun G3 s3 t3 => hQ _ _ _ ((t1.trans t2).trans t3) (.bool b)
theorem Tr.cmp {op : CmpOp} {l r : Expr} {pos : Pos} {d1 d2 : PyData} {b : Bool} (h1 : Ev D k env V l d1) (h2 : Ev D k env V r d2) (h : CmpR D k op d1 d2 b)
    (hm : behindInMarks op r = false := by with_unfolding_all rfl) : Tr D k env V (.Compare l [op] [r] pos) b := by
  intro A hA G s Q E e hQ
  refine wpAny_isTrue_Compare1 (h1 A hA G s _ E e fun G1 s1 v1 t1 r1 => h2 A hA G1 s1 _ E (e.step t1) fun G2 s2 v2 t2 r2 => ?_) hm
  exact h A hA G2 s2 _ _ _ E ((In0.step e.g0 t1).step t2) t2.inn (r1.mono t2.le) r2 fun G3 s3 t3 => wpAny_truthy_bool (hQ _ _ ((t1.trans t2).trans t3))
theorem Tr.val {e : Expr} {d : PyData} {b : Bool} (h : Ev D k env V e d) (ht : TruR D k d b)
    (he : PySem.isTrue e env (eval e env) = (do let v ← eval e env; standAt e.pos; holding [v] (truthy v)) := by exact rfl) : Tr D k env V e b := by
  intro A hA G s Q E c hQ
  refine wpAny_isTrue_value (h A hA G s _ E c fun G1 s1 v1 t1 r1 => ?_) he
  exact ht A hA G1 s1 _ _ E (In0.step c.g0 t1) t1.inn r1 fun G2 s2 t2 => hQ _ _ (t1.trans t2)
theorem Tr.not {e : Expr} {pos : Pos} {b : Bool} (h : Tr D k env V e b) : Tr D k env V (.UnaryOp .Not e pos) (!b) :=
  fun A hA G s Q E c hQ => wpAny_isTrue_Not (h A hA G s _ E c hQ)
theorem Tr.cond {t a b : Expr} {pos : Pos} {c r : Bool} (h : Tr D k env V t c) (ha : c = true → Tr D k env V a r) (hb : c = false → Tr D k env V b r)
    : Tr D k env V (.IfExp t a b pos) r := by
  intro A hA G s Q E e hQ
  show wpAny (model prog w) A (do if ← isTrue t env (eval t env) then isTrue a env (eval a env) else isTrue b env (eval b env)) Q E s
  refine wpAny_bind (h A hA G s _ E e fun G1 s1 t1 => ?_)
  cases c with
  | true => exact ha rfl A hA G1 s1 Q E (e.step t1) fun G2 s2 t2 => hQ _ _ (t1.trans t2)
  | false => exact hb rfl A hA G1 s1 Q E (e.step t1) fun G2 s2 t2 => hQ _ _ (t1.trans t2)
theorem Ev.cond {t a b : Expr} {pos : Pos} {c : Bool} {d : PyData} (h : Tr D k env V t c) (ha : c = true → Ev D k env V a d) (hb : c = false → Ev D k env V b d) : Ev D k env V (.IfExp t a b pos) d := by
  intro A hA G s Q E e hQ
  refine wpAny_IfExp (h A hA G s _ E e fun G1 s1 t1 => ?_)
  cases c with
  | true => exact ha rfl A hA G1 s1 Q E (e.step t1) fun G2 s2 v t2 r => hQ _ _ _ (t1.trans t2) r
  | false => exact hb rfl A hA G1 s1 Q E (e.step t1) fun G2 s2 v t2 r => hQ _ _ _ (t1.trans t2) r

/-- and, or as tests -/
def TrAnd (D : Md prog w) (k : Nat) (env : Env) (V : Vars) (es : List Expr) (b : Bool) : Prop :=
  ∀ A, Room k A → ∀ G s Q E, Es D env V G s → (∀ G' s', Step G s G' s' → Q b s') → wpAny (model prog w) A (allTrue .And es env) Q E s
def TrOr (D : Md prog w) (k : Nat) (env : Env) (V : Vars) (es : List Expr) (b : Bool) : Prop :=
  ∀ A, Room k A → ∀ G s Q E, Es D env V G s → (∀ G' s', Step G s G' s' → Q b s') → wpAny (model prog w) A (allTrue .Or es env) Q E s
theorem TrAnd.nil : TrAnd D k env V [] true := fun A hA G s Q E e hQ => wpAny_allTrue_And_nil (hQ _ _ (Step.refl e.inn))
theorem TrOr.nil : TrOr D k env V [] false := fun A hA G s Q E e hQ => wpAny_allTrue_Or_nil (hQ _ _ (Step.refl e.inn))
theorem TrAnd.cons {x : Expr} {rest : List Expr} {b c : Bool} (h : Tr D k env V x b) (hr : b = true → TrAnd D k env V rest c) : TrAnd D k env V (x :: rest) (b && c) := by
  intro A hA G s Q E e hQ
  refine wpAny_allTrue_And_cons (h A hA G s _ E e fun G1 s1 t1 => ?_)
  cases b with
  | true => exact hr rfl A hA G1 s1 Q E (e.step t1) fun G2 s2 t2 => hQ _ _ (t1.trans t2)
  | false => exact hQ _ _ t1
theorem TrOr.cons {x : Expr} {rest : List Expr} {b c : Bool} (h : Tr D k env V x b) (hr : b = false → TrOr D k env V rest c) : TrOr D k env V (x :: rest) (b || c) := by
  intro A hA G s Q E e hQ
  refine wpAny_allTrue_Or_cons (h A hA G s _ E e fun G1 s1 t1 => ?_)
  cases b with
  | false => exact hr rfl A hA G1 s1 Q E (e.step t1) fun G2 s2 t2 => hQ _ _ (t1.trans t2)
  | true => exact hQ _ _ t1
theorem Tr.and {es : List Expr} {pos : Pos} {b : Bool} (h : TrAnd D k env V es b) : Tr D k env V (.BoolOp .And es pos) b := fun A hA G s Q E e hQ => wpAny_isTrue_BoolOp (h A hA G s Q E e hQ)
theorem Tr.or {es : List Expr} {pos : Pos} {b : Bool} (h : TrOr D k env V es b) : Tr D k env V (.BoolOp .Or es pos) b := fun A hA G s Q E e hQ => wpAny_isTrue_BoolOp (h A hA G s Q E e hQ)
theorem Tr.to {e : Expr} {b c : Bool} (h : Tr D k env V e b) (q : b = c) : Tr D k env V e c := q ▸ h
theorem Ev.to {e : Expr} {d d' : PyData} (h : Ev D k env V e d) (q : d = d') : Ev D k env V e d' := q ▸ h
/-- x or y as a value -/
theorem Ev.or2 {x y : Expr} {pos : Pos} {d1 d : PyData} {b : Bool} (h1 : Ev D k env V x d1) (ht : TruR D k d1 b) (hy : b = true → d = d1) (hn : b = false → Ev D k env V y d) : Ev D k env V (.BoolOp .Or [x, y] pos) d := by
  intro A hA G s Q E e hQ
  refine wpAny_Or2 (h1 A hA G s _ E e fun G1 s1 v1 t1 r1 => ht A hA G1 s1 _ _ E (In0.step e.g0 t1) t1.inn r1 fun G2 s2 t2 => ?_)
  cases b with
  | true => exact hQ _ _ _ (t1.trans t2) (hy rfl ▸ r1.mono t2.le)
  | false => exact hn rfl A hA G2 s2 Q E (e.step (t1.trans t2)) fun G3 s3 v t3 r => hQ _ _ _ ((t1.trans t2).trans t3) r

/-! lists of expressions; displays -/
theorem EvL.nil : EvL D k env V [] [] := fun A pos hA G s Q E e hQ => Calls.spliced_nil (hQ _ _ _ (Step.refl e.inn) .nil)
theorem EvL.cons {e : Expr} {rest : List Expr} {d : PyData} {ds : List PyData} (h : Ev D k env V e d) (hr : EvL D k env V rest ds)
    (hs : starEach (e :: rest) env = (false, eval e env) :: starEach rest env := by exact rfl) : EvL D k env V (e :: rest) (d :: ds) := by
  intro A pos hA G s Q E c hQ
  rw [hs]
  refine Calls.spliced_cons (h A hA G s _ E c fun G1 s1 v t1 r => hr A pos hA G1 s1 _ E (c.step t1) fun G2 s2 vs t2 rs => ?_)
  exact hQ _ _ _ (t1.trans t2) (.cons (r.mono t2.le) rs)
theorem fresh_size {h h' : Heap} (q : Kp h h') : h.get? h'.objs.size = Option.none := by
  cases z : h.get? h'.objs.size with
  | none => rfl
  | some o => exact absurd (Heap.lt_size (q _ _ z)) (Nat.lt_irrefl _)
/-- a new object, frozen at once -/
theorem Step.made {G G1 : Gh} {s s1 : Shared} (t : Step G s G1 s1) (o : Obj) (hf : o.isFreed = false := by exact rfl) :
    Step G s (put G1 s1.heap.objs.size o) { s1 with heap := s1.heap.push o } ∧ Le G1 (put G1 s1.heap.objs.size o) := by
  have hg := Heap.get?_push_size s1.heap (o := o) hf
  have t2 := t.trans (Step.push t.inn o)
  exact ⟨t2.freeze hg (fresh_size t.kp), t2.le_put hg⟩
theorem Ev.list {es : List Expr} {pos : Pos} {ds : List PyData} (h : EvL D k env V es ds) (hz : ds.length ≤ sizeLine) : Ev D k env V (.List es pos) (.list ds) := by
  intro A hA G s Q E e hQ
  refine wpAny_List (h A pos hA G s _ E e fun G1 s1 vs t1 rs => ⟨by rw [rs.length]; exact hz, ?_⟩)
  obtain ⟨t2, l⟩ := t1.made (listO vs 0)
  exact hQ _ _ _ t2 (.list (put_self _ _ _) rfl rfl (rs.mono l))
theorem Ev.tuple {es : List Expr} {j : Nat} {pos : Pos} {ds : List PyData} (h : EvL D k env V es ds) (hz : ds.length ≤ sizeLine) : Ev D k env V (.Tuple es j pos) (.tuple ds) := by
  intro A hA G s Q E e hQ
  refine wpAny_Tuple (h A pos hA G s _ E e fun G1 s1 vs t1 rs => ⟨by rw [rs.length]; exact hz, ?_⟩)
  obtain ⟨t2, l⟩ := t1.made (tupO vs 0)
  exact hQ _ _ _ t2 (.tuple (put_self _ _ _) rfl rfl (rs.mono l))
end
end Mine
namespace Mine
section
variable {prog : Program} {w : World} {D : Md prog w} {k : Nat} {env : Env} {V : Vars}

theorem BinR.addStr {x y : Str} (hz : x.length + y.length ≤ sizeLine) : BinR D k .Add (.str x) (.str y) (.str (x ++ y)) := by
  intro A hA G s a b Q E g0 hi ra rb hQ
  cases ra; cases rb
  exact add_str (fun t' tk => hQ G _ _ (Step.tok hi tk) (.str _ _)) hz
theorem BinR.mod {a b : Int} (hb : b ≠ 0) : BinR D k .Mod (.int a) (.int b) (.int (a.fmod b)) := by
  intro A hA G s v1 v2 Q E g0 hi ra rb hQ
  cases ra; cases rb
  exact mod_int' hb (hQ G _ _ (Step.tok hi _) (.int _ _))
theorem BinR.fdiv {a b : Int} (hb : b ≠ 0) (hp : Builtin.divisionGoesByPylong a b = false) : BinR D k .FloorDiv (.int a) (.int b) (.int (a.fdiv b)) := by
  intro A hA G s v1 v2 Q E g0 hi ra rb hQ
  cases ra; cases rb
  exact floordiv_int hb (hQ G _ _ (Step.tok hi _) (.int _ _)) (.inl hp)
theorem BinR.addList {xs ys : List PyData} (hz : xs.length + ys.length ≤ sizeLine) : BinR D k .Add (.list xs) (.list ys) (.list (xs ++ ys)) := by
  intro A hA G s v1 v2 Q E g0 hi ra rb hQ
  cases ra with
  | @list a o vs n _ e1 c1 z1 r1 =>
    cases rb with
    | @list b o2 ws n2 _ e2 c2 z2 r2 =>
      obtain ⟨cls, dd, data, sl⟩ := o
      obtain ⟨cls2, dd2, data2, sl2⟩ := o2
      simp only at c1 z1 c2 z2
      subst c1 z1 c2 z2
      have e : vs.toArray ++ ws.toArray = (vs ++ ws).toArray := by simp
      refine concat_meets ⟨_, hi _ _ e1, rfl⟩ ⟨_, hi _ _ e2, rfl⟩ noFill_list_add seq_list_add PySem.F.slot_list_add PySem.F.entry_list_add (PySem.F.args_list_add_2 _ _)
        (list_addW a b vs.toArray ws.toArray n n2 dd dd2 sl sl2 (by simp only [List.size_toArray, r1.length, r2.length]; exact hz)) ⟨hi _ _ e1, hi _ _ e2, ?_⟩
      rw [e]
      obtain ⟨t, l⟩ := (Step.refl (s := s) hi).made (listO (vs ++ ws) 0)
      exact hQ _ _ _ t (.list (put_self _ _ _) rfl rfl ((r1.append r2).mono l))

theorem CmpR.eq {d1 d2 : PyData} (h1 : d1.canLay0 = true) (h2 : d2.canLay0 = true) (hd : d1.depth ≤ 64) : CmpR D k .Eq d1 d2 (PyData.eqv d1 d2) := by
  intro A hA G s a b Q E g0 hi ra rb hQ
  obtain ⟨_, q1⟩ := ra.reads hi (nd_of_lay _ h1)
  obtain ⟨_, q2⟩ := rb.reads hi (nd_of_lay _ h2)
  have := hA.units
  exact PySem.SeqAt.compareEq_reads q1 q2 h1 h2 (by have := Nat.min_le_left d1.depth d2.depth; omega) (hQ G _ (Step.refl hi))
theorem CmpR.ne {d1 d2 : PyData} (h1 : d1.canLay0 = true) (h2 : d2.canLay0 = true) (hd : d1.depth ≤ 64) : CmpR D k .NotEq d1 d2 (!PyData.eqv d1 d2) := by
  intro A hA G s a b Q E g0 hi ra rb hQ
  obtain ⟨_, q1⟩ := ra.reads hi (nd_of_lay _ h1)
  obtain ⟨_, q2⟩ := rb.reads hi (nd_of_lay _ h2)
  have := hA.units
  exact PySem.SeqAt.compareNe_reads q1 q2 h1 h2 (by have := Nat.min_le_left d1.depth d2.depth; omega) (hQ G _ (Step.refl hi))
theorem CmpR.isIn {d : PyData} {xs : List PyData} (h1 : d.canLay0 = true) (h2 : PyData.canLayAll0 xs = true) (hd : d.depth ≤ 64) : CmpR D k .In d (.list xs) (xs.any fun y => PyData.eqv y d) := by
  intro A hA G s a b Q E g0 hi ra rb hQ
  obtain ⟨_, q1⟩ := ra.reads hi (nd_of_lay _ h1)
  obtain ⟨_, q2⟩ := rb.reads hi (nd_of_lay (.list xs) h2)
  have := hA.units
  exact PySem.SeqAt.in_list_reads q2 q1 h2 h1 (by have := Nat.min_le_right (PyData.depthAll xs) d.depth; omega) (hQ G _ (Step.refl hi))
theorem CmpR.notIn {d : PyData} {xs : List PyData} (h1 : d.canLay0 = true) (h2 : PyData.canLayAll0 xs = true) (hd : d.depth ≤ 64) : CmpR D k .NotIn d (.list xs) (!xs.any fun y => PyData.eqv y d) := by
  intro A hA G s a b Q E g0 hi ra rb hQ
  obtain ⟨_, q1⟩ := ra.reads hi (nd_of_lay _ h1)
  obtain ⟨_, q2⟩ := rb.reads hi (nd_of_lay (.list xs) h2)
  have := hA.units
  exact PySem.SeqAt.notIn_list_reads q2 q1 h2 h1 (by have := Nat.min_le_right (PyData.depthAll xs) d.depth; omega) (hQ G _ (Step.refl hi))
theorem CmpR.ltInt {a b : Int} : CmpR D k .Lt (.int a) (.int b) (decide (a < b)) := by
  intro A hA G s v1 v2 Q E g0 hi ra rb hQ
  cases ra; cases rb
  exact wpAny_lt_int (hQ G _ (Step.refl hi))
theorem CmpR.gtInt {a b : Int} : CmpR D k .Gt (.int a) (.int b) (decide (b < a)) := by
  intro A hA G s v1 v2 Q E g0 hi ra rb hQ
  cases ra; cases rb
  exact gt_int (hQ G _ (Step.refl hi))
theorem CmpR.to {op : CmpOp} {a b : PyData} {r r' : Bool} (h : CmpR D k op a b r) (q : r = r') : CmpR D k op a b r' := q ▸ h
theorem CmpR.eqStr {x y : Str} : CmpR D k .Eq (.str x) (.str y) (decide (x = y)) := by
  intro A hA G s v1 v2 Q E g0 hi ra rb hQ
  cases ra; cases rb
  refine PySem.SeqAt.RcAt.str_str x _ y _ prog w E Q ?_
  rw [show (x == y) = decide (x = y) by cases h : decide (x = y) <;> simp_all]
  exact hQ G _ (Step.refl hi)
theorem CmpR.eqInt {x y : Int} : CmpR D k .Eq (.int x) (.int y) (decide (x = y)) := by
  refine (CmpR.eq (D := D) (k := k) rfl rfl (by simp [PyData.depth])).to ?_
  show (x == y) = decide (x = y)
  cases h : decide (x = y) <;> simp_all
theorem TruR.bool {b : Bool} : TruR D k (.bool b) b := by
  intro A hA G s v Q E g0 hi rv hQ
  cases rv
  exact wpAny_truthy_bool (hQ G _ (Step.refl hi))
theorem TruR.str {x : Str} (hz : x.length ≤ sizeLine) : TruR D k (.str x) ((x.length : Int) != 0) := by
  intro A hA G s v Q E g0 hi rv hQ
  cases rv
  exact PySem.P.truthy_str (by rw [sizeLine_eq] at hz; omega) (hQ G _ (Step.tok hi _))
theorem TruR.list {xs : List PyData} (hz : xs.length ≤ sizeLine) : TruR D k (.list xs) (!xs.isEmpty) := by
  intro A hA G s v Q E g0 hi rv hQ
  cases rv with
  | @list a o vs n _ e1 c1 z1 r1 =>
    refine wpAny_truthy_list ⟨o, hi _ _ e1, c1, n, z1⟩ (by rw [sizeLine_eq] at hz; rw [List.size_toArray, r1.length]; omega) ?_
    have e : vs.toArray.isEmpty = xs.isEmpty := by
      have := r1.length
      cases vs <;> cases xs <;> simp_all
    rw [e]
    exact hQ G _ (Step.tok hi _)
end
end Mine
namespace Mine
section
variable {prog : Program} {w : World} {D : Md prog w} {k : Nat} {env : Env} {V : Vars}

theorem Ev.neg {e : Expr} {pos : Pos} {i : Int} (h : Ev D k env V e (.int i)) : Ev D k env V (.UnaryOp .USub e pos) (.int (-i)) := by
  intro A hA G s Q E c hQ
  refine wpAny_UnaryOp (h A hA G s _ E c fun G1 s1 v t r => ?_)
  cases r
  refine PySem.P.neg_int ?_
  exact hQ _ _ _ (t.trans (Step.tok t.inn _)) (.int _ _)

/-! items -/
variable (D)
def GetR (k : Nat) (d1 d2 d : PyData) : Prop :=
  ∀ A, Room k A → ∀ G s a b Q E, In0 D G → Sub G s.heap → Rd prog w G a d1 → Rd prog w G b d2 → (∀ G' s' v, Step G s G' s' → Rd prog w G' v d → Q v s') → ItemOn (model prog w) A E a b Q s
variable {D}
theorem Ev.sub {value slice : Expr} {pos : Pos} {d1 d2 d : PyData} (h1 : Ev D k env V value d1) (h2 : Ev D k env V slice d2) (h : GetR D k d1 d2 d)
    (hs : ∀ o i, subscripted slice false o i = operate [o, i] (getItem o i) := by intro _ _; exact rfl) : Ev D k env V (.Subscript value slice pos) d := by
  intro A hA G s Q E e hQ
  refine Subscript_ (h1 A hA G s _ E e fun G1 s1 v1 t1 r1 => h2 A hA G1 s1 _ E (e.step t1) fun G2 s2 v2 t2 r2 => ?_)
  obtain ⟨T, id, hl, hT, hw⟩ := h A hA G2 s2 v1 v2 Q E ((In0.step e.g0 t1).step t2) t2.inn (r1.mono t2.le) r2 fun G3 s3 v t3 r3 => hQ _ _ _ ((t1.trans t2).trans t3) r3
  exact tail_any hT hl hw (hs _ _)
theorem GetR.list {xs : List PyData} {i : Int} {d : PyData} (h0 : 0 ≤ i) (h1 : i < 2 ^ 63) (h : xs[i.toNat]? = some d) : GetR D k (.list xs) (.int i) d := by
  intro A hA G s a b Q E g0 hi ra rb hQ
  cases rb
  cases ra with
  | @list a o vs n _ e1 c1 z1 r1 =>
    obtain ⟨v, hv, rv⟩ := r1.get h
    exact ⟨"list", _, slot_list_getitem.lookup, ⟨o, hi _ _ e1, c1⟩, wpAny_getItem_list ⟨o, hi _ _ e1, c1, n, z1⟩ h0 h1 (by simpa using hv) (hQ G s v (Step.refl hi) rv)⟩
theorem GetR.listNeg {xs : List PyData} {i : Int} {d : PyData} (h0 : i < 0) (h1 : -(xs.length : Int) ≤ i) (h2 : -2 ^ 63 ≤ i) (h : xs[(i + xs.length).toNat]? = some d) : GetR D k (.list xs) (.int i) d := by
  intro A hA G s a b Q E g0 hi ra rb hQ
  cases rb
  cases ra with
  | @list a o vs n _ e1 c1 z1 r1 =>
    obtain ⟨v, hv, rv⟩ := r1.get h
    have hl := r1.length
    exact ⟨"list", _, slot_list_getitem.lookup, ⟨o, hi _ _ e1, c1⟩, wpAny_getItem_list_neg ⟨o, hi _ _ e1, c1, n, z1⟩ h0 (by simp only [List.size_toArray]; omega) h2 (by simp only [List.size_toArray, hl]; simpa using hv) (hQ G s v (Step.refl hi) rv)⟩
theorem GetR.tuple {xs : List PyData} {i : Int} {d : PyData} (h0 : 0 ≤ i) (h1 : i < 2 ^ 63) (h : xs[i.toNat]? = some d) : GetR D k (.tuple xs) (.int i) d := by
  intro A hA G s a b Q E g0 hi ra rb hQ
  cases rb
  cases ra with
  | @tuple a o vs n _ e1 c1 z1 r1 =>
    obtain ⟨v, hv, rv⟩ := r1.get h
    have hlt : i.toNat < xs.length := (List.getElem?_eq_some_iff.mp h).1
    have hl := r1.length
    refine ⟨"tuple", _, slot_tuple_getitem.lookup, ⟨o, hi _ _ e1, c1⟩, ?_⟩
    exact getItem_tuple (j := i.toNat) ⟨o, hi _ _ e1, c1, n, z1⟩ (by omega) h1 (by
      unfold seqIndex?
      simp only [List.size_toArray, hl]
      have h3 : ¬ i < 0 := by omega
      have : (decide (0 ≤ i) && decide (i < (xs.length : Int))) = true := by simp; omega
      simp only [if_neg h3, this, if_true]) (by simpa using hv) (hQ G s v (Step.refl hi) rv)

/-! cuts of lists -/
variable (D)
def EvP (k : Nat) (env : Env) (V : Vars) (x : Option Expr) (i : Option Int) : Prop :=
  ∀ A, Room k A → ∀ G s Q E, Es D env V G s → (∀ G' s' v, Step G s G' s' → IsPart v i → Q v s') → wpAny (model prog w) A (evalPart x env) Q E s
variable {D}
theorem EvP.none : EvP D k env V Option.none Option.none := fun A hA G s Q E e hQ => wpAny_evalPart_none (hQ _ _ _ (Step.refl e.inn) .none)
theorem EvP.some {e : Expr} {i : Int} (h : Ev D k env V e (.int i)) : EvP D k env V (Option.some e) (Option.some i) := fun A hA G s Q E c hQ =>
  wpAny_evalPart_some (h A hA G s Q E c fun G' s' v t r => by cases r; exact hQ _ _ _ t (.int _ _))
theorem Ev.cutList {value : Expr} {lower upper : Option Expr} {p pos : Pos} {lo hi : Option Int} {xs ys : List PyData} (h : Ev D k env V value (.list xs)) (hlo : EvP D k env V lower lo) (hhi : EvP D k env V upper hi)
    (hz : xs.length ≤ sizeLine) (hy : ∀ (G : Gh) vs, RdAll prog w G vs xs → ∃ ws : List Value, slicePick vs.toArray lo hi Option.none = ws.toArray ∧ RdAll prog w G ws ys)
    (ht : ∀ o r, letTemporaryGo value o r = pure () := by intro _ _; exact rfl) :
    Ev D k env V (.Subscript value (.Slice lower upper Option.none p) pos) (.list ys) := by
  intro A hA G s Q E e hQ
  refine Subscript_Slice (h A hA G s _ E e fun G1 s1 v1 t1 r1 => ?_) ht
  refine wpAny_Slice (hlo A hA G1 s1 _ E (e.step t1) fun G2 s2 v2 t2 p2 => hhi A hA G2 s2 _ E (e.step (t1.trans t2)) fun G3 s3 v3 t3 p3 => wpAny_evalPart_none ?_)
  cases r1 with
  | @list a o vs n _ e1 c1 z1 r1 =>
    have t4 := (t1.trans t2).trans t3
    have t5 := t4.trans (Step.push t4.inn { cls := .type "slice", data := .fields #[v2, v3, Value.none] })
    have g1 := t5.inn _ _ (t3.le _ _ (t2.le _ _ e1))
    obtain ⟨ws, hw, rw'⟩ := hy _ vs (r1.mono (t2.le.trans t3.le))
    refine ⟨"list", _, slot_list_getitem.lookup, ⟨o, g1, c1⟩, ?_⟩
    refine wpAny_getItem_list_slice ⟨o, g1, c1, n, z1⟩ ⟨_, Heap.get?_push_size _ rfl, rfl, rfl⟩ p2 p3 .none (by simp) ?_ (by rw [List.size_toArray, r1.length]; exact hz)
    rw [hw]
    obtain ⟨t6, l⟩ := t5.made (listO ws 0)
    exact hQ _ _ _ t6 (.list (put_self _ _ _) rfl rfl (rw'.mono l))
theorem Ev.upto {value u : Expr} {p pos : Pos} {n : Nat} {xs : List PyData} (h : Ev D k env V value (.list xs)) (hu : Ev D k env V u (.int n)) (hz : xs.length ≤ sizeLine)
    (ht : ∀ o r, letTemporaryGo value o r = pure () := by intro _ _; exact rfl) : Ev D k env V (.Subscript value (.Slice Option.none (Option.some u) Option.none p) pos) (.list (xs.take n)) :=
  Ev.cutList h EvP.none (EvP.some hu) hz (fun G vs r => ⟨_, slicePick_upto' _ _, by simpa using r.take n⟩) ht
theorem Ev.from {value u : Expr} {p pos : Pos} {n : Nat} {xs : List PyData} (h : Ev D k env V value (.list xs)) (hu : Ev D k env V u (.int n)) (hz : xs.length ≤ sizeLine)
    (ht : ∀ o r, letTemporaryGo value o r = pure () := by intro _ _; exact rfl) : Ev D k env V (.Subscript value (.Slice (Option.some u) Option.none Option.none p) pos) (.list (xs.drop n)) :=
  Ev.cutList h (EvP.some hu) EvP.none hz (fun G vs r => ⟨_, slicePick_from' _ _, by simpa using r.drop n⟩) ht
theorem Ev.butLast {value u : Expr} {p pos : Pos} {xs : List PyData} (h : Ev D k env V value (.list xs)) (hu : Ev D k env V u (.int (-1))) (hz : xs.length ≤ sizeLine)
    (ht : ∀ o r, letTemporaryGo value o r = pure () := by intro _ _; exact rfl) : Ev D k env V (.Subscript value (.Slice Option.none (Option.some u) Option.none p) pos) (.list (xs.take (xs.length - 1))) :=
  Ev.cutList h EvP.none (EvP.some hu) hz (fun G vs r => ⟨_, slicePick_butLast _ 1 (Nat.le_refl _), by rw [List.size_toArray, r.length]; simpa using r.take (xs.length - 1)⟩) ht

/-! cuts of strs -/
theorem Ev.cutStr {value : Expr} {lower upper : Option Expr} {p pos : Pos} {lo hi : Option Int} {x : Str} (h : Ev D k env V value (.str x)) (hlo : EvP D k env V lower lo) (hhi : EvP D k env V upper hi)
    (hz : x.length ≤ sizeLine) (ht : ∀ o r, letTemporaryGo value o r = pure () := by intro _ _; exact rfl) :
    Ev D k env V (.Subscript value (.Slice lower upper Option.none p) pos) (.str (Txt.slice x lo hi)) := by
  intro A hA G s Q E e hQ
  refine Subscript_Slice (h A hA G s _ E e fun G1 s1 v1 t1 r1 => ?_) ht
  refine wpAny_Slice (hlo A hA G1 s1 _ E (e.step t1) fun G2 s2 v2 t2 p2 => hhi A hA G2 s2 _ E (e.step (t1.trans t2)) fun G3 s3 v3 t3 p3 => wpAny_evalPart_none ?_)
  have t4 := (t1.trans t2).trans t3
  have fin : ∀ h' t' tk, Kp s3.heap h' → Q (.str (Txt.slice x lo hi) t') { s3 with heap := h', toks := tk } := fun h' t' tk kp =>
    hQ _ _ _ (t4.trans ⟨⟨h', tk, rfl⟩, Le.refl _, t4.inn.kp kp, kp, fun _ _ q => .inl q⟩) (.str _ _)
  have kept : KeptH (fun h' => Kp s3.heap h') := fun h' ob q x o e => Heap.get?_push_of_some _ (q x o e)
  cases r1
  cases lo with
  | none =>
    cases p2
    cases hi with
    | none =>
      cases p3
      exact SBH.sliceItem_nn kept (Kp.refl _) (fun h' t' tk kp => fin h' t' tk kp) hz
    | some j =>
      cases p3
      exact SBH.sliceItem_ns kept (Kp.refl _) (fun h' t' tk kp => fin h' t' tk kp) hz
  | some i =>
    cases p2
    cases hi with
    | none =>
      cases p3
      exact SBH.sliceItem_sn kept (Kp.refl _) (fun h' t' tk kp => fin h' t' tk kp) hz
    | some j =>
      cases p3
      exact SBH.sliceItem_ss kept (Kp.refl _) (fun h' t' tk kp => fin h' t' tk kp) hz
end
end Mine
namespace Mine
section
variable {prog : Program} {w : World} {D : Md prog w} {k : Nat} {env : Env} {V : Vars}

/-! methods of a str with one argument -/
structure MethOk (env : Env) (o : Expr) (name : Str) (apos pos : Pos) (a : Expr) : Prop where
  h1 : attributeBase o name env (eval o env) = eval o env
  h3 : (apos.endLine == pos.line) = true
  h4 : backTo pos (starEach [a] env) = [(false, eval a env)]
theorem MethOk.form {env : Env} {o a : Expr} {name : Str} {apos pos : Pos} (m : MethOk env o name apos pos a) :
    ((((backTo pos (starEach [a] env)).all fun x => !x.fst) && (backToKw pos (keywordEach [] env)).all fun x => x.fst.isSome) && decide (([a].length + ([] : List Keyword).length + if ([] : List Keyword).isEmpty = true then 0 else 1) < 30)) = true := by
  rw [m.h4]; rfl
theorem Ev.strMeth {o a : Expr} {name : Str} {apos pos : Pos} {x : Str} {d1 d : PyData} (ho : Ev D k env V o (.str x)) (ha : Ev D k env V a d1)
    (hm : ∀ A, Room k A → ∀ G s t Q E, In0 D G → Sub G s.heap → (∀ Q' E', (∀ G' s' v, Step G s G' s' → Rd prog w G' v d1 → Q' v s') → wpAny (model prog w) A (eval a env) Q' E' s) →
      (∀ G' s' v, Step G s G' s' → Rd prog w G' v d → Q v s') → MethodOnS prog w A E name (.str x t) pos [(false, eval a env)] Q s)
    (m : MethOk env o name apos pos a) : Ev D k env V (.Call (.Attribute o name apos) [a] [] pos) d := by
  intro A hA G s Q E e hQ
  refine wpAny_Call_method_lateS m.h1 m.form m.h3 (ho A hA G s _ E e fun G1 s1 v t1 r => ?_)
  cases r
  rw [m.h4]
  exact hm A hA G1 s1 _ _ E (In0.step e.g0 t1) t1.inn (fun Q' E' q => ha A hA G1 s1 Q' E' (e.step t1) q) fun G2 s2 v t2 r2 => hQ _ _ _ (t1.trans t2) r2
theorem Ev.startswith {o a : Expr} {apos pos : Pos} {x y : Str} (ho : Ev D k env V o (.str x)) (ha : Ev D k env V a (.str y)) (m : MethOk env o "startswith" apos pos a := by exact ⟨rfl, rfl, rfl⟩) :
    Ev D k env V (.Call (.Attribute o "startswith" apos) [a] [] pos) (.bool (Txt.startswith x y)) :=
  Ev.strMeth ho ha (fun A hA G s t Q E g0 hi he hQ => SB.startswith (he _ _ fun G1 s1 v t1 r => by cases r; exact ⟨y, _, rfl, hQ _ _ _ t1 (.bool _)⟩)) m
theorem Ev.endswith {o a : Expr} {apos pos : Pos} {x y : Str} (ho : Ev D k env V o (.str x)) (ha : Ev D k env V a (.str y)) (m : MethOk env o "endswith" apos pos a := by exact ⟨rfl, rfl, rfl⟩) :
    Ev D k env V (.Call (.Attribute o "endswith" apos) [a] [] pos) (.bool (Txt.endswith x y)) :=
  Ev.strMeth ho ha (fun A hA G s t Q E g0 hi he hQ => SB.endswith (he _ _ fun G1 s1 v t1 r => by cases r; exact ⟨y, _, rfl, hQ _ _ _ t1 (.bool _)⟩)) m
theorem Ev.rfind {o a : Expr} {apos pos : Pos} {x y : Str} (ho : Ev D k env V o (.str x)) (ha : Ev D k env V a (.str y)) (m : MethOk env o "rfind" apos pos a := by exact ⟨rfl, rfl, rfl⟩) :
    Ev D k env V (.Call (.Attribute o "rfind" apos) [a] [] pos) (.int (Txt.rfind x y)) :=
  Ev.strMeth ho ha (fun A hA G s t Q E g0 hi he hQ => SB.rfind (he _ _ fun G1 s1 v t1 r => by cases r; exact ⟨y, _, rfl, hQ _ _ _ (t1.trans (Step.tok t1.inn _)) (.int _ _)⟩)) m
theorem Ev.rstrip {o a : Expr} {apos pos : Pos} {x y : Str} (ho : Ev D k env V o (.str x)) (ha : Ev D k env V a (.str y)) (hz : x.length ≤ sizeLine) (m : MethOk env o "rstrip" apos pos a := by exact ⟨rfl, rfl, rfl⟩) :
    Ev D k env V (.Call (.Attribute o "rstrip" apos) [a] [] pos) (.str (Txt.rstripChars x y)) :=
  Ev.strMeth ho ha (fun A hA G s t Q E g0 hi he hQ => SB.rstripChars (he _ _ fun G1 s1 v t1 r => by cases r; exact ⟨y, _, rfl, fun t' k' => hQ _ _ _ (t1.trans (Step.tok t1.inn _)) (.str _ _)⟩) hz) m
theorem strs_of_rd {G : Gh} : ∀ {vs : List Value} {texts : List Str}, RdAll prog w G vs (texts.map .str) → ∃ l : List (Str × Tok), vs = strValues l ∧ l.map (·.1) = texts
  | _, [], .nil => ⟨[], rfl, rfl⟩
  | _, y :: r, .cons (.str _ t) q => by
    obtain ⟨l, rfl, h⟩ := strs_of_rd q
    exact ⟨(y, t) :: l, rfl, by simp [h]⟩
theorem rd_of_strs {G : Gh} : ∀ (l : List (Str × Tok)), RdAll prog w G (strValues l) ((l.map (·.1)).map .str)
  | [] => .nil
  | (x, t) :: r => .cons (.str x t) (rd_of_strs r)
/-- a sum of lengths bounds join -/
theorem joinOk_of {sep : Str} {texts : List Str} (h : (texts.map fun x => x.length + sep.length).sum ≤ sizeLine) : JoinOk sep texts = true := by
  unfold JoinOk
  have e : ∀ (l : List Str) (n : Nat), l.foldl (· + ·.length + sep.length) n = n + (l.map fun x => x.length + sep.length).sum := by
    intro l
    induction l with
    | nil => intro n; simp
    | cons x r ih => intro n; rw [List.foldl_cons, ih, List.map_cons, List.sum_cons]; omega
  rw [List.foldl_toArray', e, Nat.zero_add] <;> first | rfl | skip
  have : ¬ (texts.map fun x => x.length + sep.length).sum > sizeLine := by omega
  simp [Builtin.Str.tooLong, this]
theorem Ev.join {o a : Expr} {apos pos : Pos} {x : Str} {texts : List Str} (ho : Ev D k env V o (.str x)) (ha : Ev D k env V a (.list (texts.map .str))) (hz : JoinOk x texts = true)
    (m : MethOk env o "join" apos pos a := by exact ⟨rfl, rfl, rfl⟩) : Ev D k env V (.Call (.Attribute o "join" apos) [a] [] pos) (.str (Txt.join x texts)) :=
  Ev.strMeth ho ha (fun A hA G s t Q E g0 hi he hQ => SB.join (he _ _ fun G1 s1 v t1 r => by
    cases r with
    | @list b o vs n _ e1 c1 z1 r1 =>
      obtain ⟨l, rfl, hl⟩ := strs_of_rd r1
      exact ⟨b, l, rfl, ⟨o, t1.inn _ _ e1, c1, n, z1⟩, texts, hl, hz, fun t' k' => hQ _ _ _ (t1.trans (Step.tok t1.inn _)) (.str _ _)⟩)) m
theorem call_split {A : Around} {E : Value → Shared → Prop} {s : Shared} {x y : Str} {t u : Tok} {Q : Value → Shared → Prop} (hy : (y.length == 0) = false) (hz : x.length ≤ sizeLine)
    (hz2 : (Builtin.Str.partsBetween x (Builtin.Str.occurrences x y 0 x.length (x.length + 1)) y.length).length ≤ sizeLine)
    (h : ∀ (l : List (Str × Tok)) (tk : Nat), l.map (·.1) = Txt.split x y → Q (.ref s.heap.objs.size) { s with heap := s.heap.push (listO (strValues l) 0), toks := tk }) :
    wpAny (model prog w) A (call (.builtin "str.split") [.str x t, .str y u]) Q E s := by
  cases h1 : (decide (x.length < y.length) || decide (Builtin.Str.strKind x < Builtin.Str.strKind y)) with
  | true => exact call_meets F.slot_str_split (typeIs_str _ _ _) F.entry_str_split (F.args_str_split_2 _ _) (meets_str_split_cannot_occur x y t u h1) (h [(x, t)] s.toks (by unfold Txt.split; rw [h1]; rfl))
  | false =>
    cases hf : (Builtin.Str.occurrences x y 0 x.length (x.length + 1)).isEmpty with
    | true => exact call_meets F.slot_str_split (typeIs_str _ _ _) F.entry_str_split (F.args_str_split_2 _ _) (meets_str_split_not_found x y t u h1 hy hf) (h [(x, t)] s.toks (by unfold Txt.split; rw [h1, hf]; rfl))
    | false =>
      refine call_meets F.slot_str_split (typeIs_str _ _ _) F.entry_str_split (F.args_str_split_2 _ _) (meets_str_split_sep x y t u h1 hy hf hz hz2) ?_
      rw [strsFrom_eq]
      exact h (numbered s.toks _) _ (by unfold Txt.split; rw [h1, hf]; exact numbered_texts _ _)
theorem Ev.split {o a : Expr} {apos pos : Pos} {x y : Str} (ho : Ev D k env V o (.str x)) (ha : Ev D k env V a (.str y)) (hy : (y.length == 0) = false) (hz : x.length ≤ sizeLine)
    (hz2 : (Builtin.Str.partsBetween x (Builtin.Str.occurrences x y 0 x.length (x.length + 1)) y.length).length ≤ sizeLine)
    (m : MethOk env o "split" apos pos a := by exact ⟨rfl, rfl, rfl⟩) : Ev D k env V (.Call (.Attribute o "split" apos) [a] [] pos) (.list ((Txt.split x y).map .str)) := by
  refine Ev.strMeth ho ha (fun A hA G s t Q E g0 hi he hQ => ⟨"str", _, F.plainAttrs_str, F.slot_str_split, F.type_str_split, typeIs_str _ _ _, (fun _ e => nomatch e), ?_⟩) m
  refine Calls.callWith_builtin rfl (Calls.evalArgs_plain (Calls.spliced_cons (he _ _ fun G1 s1 v t1 r => Calls.spliced_nil ?_)))
  cases r
  refine call_split hy hz hz2 fun l tk hl => ?_
  obtain ⟨t2, le⟩ := (t1.trans (Step.tok t1.inn tk)).made (listO (strValues l) 0)
  exact hQ _ _ _ t2 (.list (put_self _ _ _) rfl rfl (hl ▸ (rd_of_strs l)))
end
end Mine
namespace Mine
section
variable {prog : Program} {w : World} {D : Md prog w} {k : Nat} {env : Env} {V : Vars}

/-! values that are no data: functions, types -/
variable (D)
def EvV (k : Nat) (env : Env) (V : Vars) (e : Expr) (v : Value) : Prop :=
  ∀ A, Room k A → ∀ G s Q E, Es D env V G s → (∀ G' s', Step G s G' s' → Q v s') → wpAny (model prog w) A (eval e env) Q E s
variable {D}
theorem EvV.glob {x : Str} {pos : Pos} {v : Value} (ok : EnvOk env) (hk : env.kindOf x = some .globalImplicit) (hm : D.mg x = some v) (hd : (x == ("__debug__" : Str)) = false := by decide) : EvV D k env V (.Name x pos) v := by
  intro A hA G s Q E e hQ
  exact Calls.Name_function_global ok.fn hk (Calls.loadGlobal_global (by rw [ok.glob]; exact D.g.keeps e.base) hm (hQ _ _ (Step.refl e.inn))) hd
theorem EvV.boot {x : Str} {pos : Pos} {v : Value} (ok : EnvOk env) (hk : env.kindOf x = some .globalImplicit) (hm : D.mg x = none) (hb : bootBuiltins x = some v) (hn : x ≠ "__name__" := by decide) (hd : (x == ("__debug__" : Str)) = false := by decide) : EvV D k env V (.Name x pos) v := by
  intro A hA G s Q E e hQ
  exact Calls.Name_function_global ok.fn hk (Calls.loadGlobal_builtin (by rw [ok.glob]; exact D.g.keeps e.base) hm (by rw [ok.bi]; exact D.b.keeps e.base) ((D.bt x hn).trans hb) (hQ _ _ (Step.refl e.inn))) hd

/-- a name's call with plain arguments: a built-in function -/
theorem Ev.callB {x : Str} {np pos : Pos} {e : Expr} {rest : List Expr} {id : String} {ds : List PyData} {d : PyData} (hf : EvV D k env V (.Name x np) (.builtin id)) (ha : EvL D k env V (e :: rest) ds) (hc : CallTo D k (.builtin id) ds d)
    (he : starEach (e :: rest) env = (false, eval e env) :: starEach rest env := by exact rfl) (hp : ∀ pos, (backTo pos (starEach rest env)).any (·.1) = false := by intro _; exact rfl) : Ev D k env V (.Call (.Name x np) (e :: rest) [] pos) d := by
  intro A hA G s Q E c hQ
  refine wpAny_Call_ofName (hf A hA G s _ E c fun G1 s1 t1 => ?_)
  refine callWith_builtin1 (ha A pos hA G1 s1 _ E (c.step t1) fun G2 s2 vs t2 rs => ?_) he (hp _)
  exact hc A hA G2 s2 vs Q E ((In0.step c.g0 t1).step t2) t2.inn rs fun G3 s3 v t3 r3 => hQ _ _ _ ((t1.trans t2).trans t3) r3
/-- a name's call with plain arguments: an own def -/
theorem Ev.callF {x : Str} {np pos : Pos} {e : Expr} {rest : List Expr} {a : Addr} {o : Obj} {fd : FuncData} {ds : List PyData} {d : PyData} (hf : EvV D k env V (.Name x np) (.ref a)) (ho : D.H.get? a = some o) (hd : o.data = .func fd) (ha : EvL D k env V (e :: rest) ds) (hc : CallTo D k (.ref a) ds d)
    (he : starEach (e :: rest) env = (false, eval e env) :: starEach rest env := by exact rfl) : Ev D k env V (.Call (.Name x np) (e :: rest) [] pos) d := by
  intro A hA G s Q E c hQ
  refine wpAny_Call_ofName (hf A hA G s _ E c fun G1 s1 t1 => ?_)
  refine callWith_def (o := o) (fd := fd) hd (ha A pos hA G1 s1 _ E (c.step t1) fun G2 s2 vs t2 rs => ?_) he
  have c2 := (c.step t1).step t2
  exact ⟨c2.base _ _ ho, hc A hA G2 s2 vs Q E c2.g0 t2.inn rs fun G3 s3 v t3 r3 => hQ _ _ _ ((t1.trans t2).trans t3) r3⟩

theorem CallTo.lenList {xs : List PyData} (hz : xs.length ≤ sizeLine) : CallTo D k (.builtin "len") [.list xs] (.int xs.length) := by
  intro A hA G s vs Q E g0 hi rs hQ
  cases rs with
  | cons r rs =>
    cases rs
    cases r with
    | @list a o vs n _ e1 c1 z1 r1 =>
      have hl := r1.length
      refine PySem.Calls.call_len_list ⟨o, hi _ _ e1, c1, n, z1⟩ (by rw [sizeLine_eq] at hz; rw [List.size_toArray, hl]; omega) ?_
      rw [List.size_toArray, hl]
      exact hQ _ _ _ (Step.tok hi _) (.int _ _)
theorem CallTo.lenStr {x : Str} (hz : x.length ≤ sizeLine) : CallTo D k (.builtin "len") [.str x] (.int x.length) := by
  intro A hA G s vs Q E g0 hi rs hQ
  cases rs with
  | cons r rs =>
    cases rs
    cases r
    exact PySem.P.len_str (by rw [sizeLine_eq] at hz; omega) (hQ _ _ _ (Step.tok hi _) (.int _ _))
theorem CallTo.abs {i : Int} : CallTo D k (.builtin "abs") [.int i] (.int (if i < 0 then -i else i)) := by
  intro A hA G s vs Q E g0 hi rs hQ
  cases rs with
  | cons r rs =>
    cases rs
    cases r
    exact call_abs_int fun u tk => hQ _ _ _ (Step.tok hi _) (.int _ _)
/-- isinstance(e, bytes), e a str -/
theorem Tr.isBytes {e : Expr} {n1 n2 pos : Pos} {x : Str} (h : Ev D k env V e (.str x)) (hf : EvV D k env V (.Name "isinstance" n1) (.builtin "isinstance")) (hb : EvV D k env V (.Name "bytes" n2) (.type "bytes"))
    (he : starEach [e, .Name "bytes" n2] env = [(false, eval e env), (false, eval (.Name "bytes" n2) env)] := by exact rfl) :
    Tr D k env V (.Call (.Name "isinstance" n1) [e, .Name "bytes" n2] [] pos) false := by
  intro A hA G s Q E c hQ
  refine wpAny_isTrue_value ?_ (by rfl)
  refine wpAny_Call_ofName (hf A hA G s _ E c fun G1 s1 t1 => ?_)
  refine callWith_builtin1 ?_ he (by rfl)
  rw [he]
  refine Calls.spliced_cons (h A hA G1 s1 _ E (c.step t1) fun G2 s2 v t2 r => Calls.spliced_cons (hb A hA G2 s2 _ E ((c.step t1).step t2) fun G3 s3 t3 => Calls.spliced_nil ?_))
  cases r
  refine IsiPair.str_bytes ?_
  exact wpAny_truthy_bool (hQ _ _ (((t1.trans t2).trans t3).trans (Step.tok t3.inn _)))
end
end Mine
namespace Mine
inductive Fl where
  | next | brk | cont
  | ret (d : PyData)
inductive Own where
  | none
  | list (x : Str) (a : Addr) (xs : List PyData)
  | dict (x : Str) (a : Addr) (kvs : List (PyData × PyData))
def Own.addr : Own → Option Addr
  | .none => Option.none
  | .list _ a _ => some a
  | .dict _ a _ => some a
def Own.name : Own → Option Str
  | .none => Option.none
  | .list x _ _ => some x
  | .dict x _ _ => some x

section
variable {prog : Program} {w : World} (D : Md prog w)
inductive FlRd (prog : Program) (w : World) (G : Gh) : Flow → Fl → Prop
  | next : FlRd prog w G .next .next
  | brk : FlRd prog w G .brk .brk
  | cont : FlRd prog w G .cont .cont
  | ret {v : Value} {d : PyData} : Rd prog w G v d → FlRd prog w G (.ret v) (.ret d)

/-- the one thing that this frame may still turn -/
def Held (prog : Program) (w : World) (G : Gh) (h : Heap) : Own → Prop
  | .none => True
  | .list _ a xs => ∃ vs n, h.get? a = some (listO vs n) ∧ RdAll prog w G vs xs
  | .dict _ a kvs => (a == sysModules) = false ∧ ∃ kv, h.DictOf (strKind prog w) a kv ∧ RdKv prog w G kv kvs
structure OwnOk (env : Env) (ow : Own) (G : Gh) (s : Shared) : Prop where
  off : ∀ a, ow.addr = some a → G a = none ∧ a ≠ env.locals ∧ ∀ y c, env.cells.lookup y = some c → c ≠ a
  at_ : ∀ a x, ow.addr = some a → ow.name = some x → VarAt env s.heap x (.ref a)
  held : Held prog w G s.heap ow
structure Ss (env : Env) (V : Vars) (ow : Own) (G : Gh) (s : Shared) : Prop where
  es : Es D env V G s
  offL : G env.locals = none
  loc : ∃ m, s.heap.Ns env.locals m
  cel : ∀ x c, env.cells.lookup x = some c → G c = none ∧ c ≠ env.locals ∧ ∃ ov, s.heap.IsCell c ov
  inj : ∀ x y c, env.cells.lookup x = some c → env.cells.lookup y = some c → x = y
  own : OwnOk (prog := prog) (w := w) env ow G s
def Foot (env : Env) (ow : Own) (b : Addr) : Prop := b = env.locals ∨ (∃ x, env.cells.lookup x = some b) ∨ ow.addr = some b
structure SStep (env : Env) (ow : Own) (G : Gh) (s : Shared) (ow' : Own) (G' : Gh) (s' : Shared) : Prop where
  shp : ∃ h tk, s' = { s with heap := h, toks := tk }
  le : Le G G'
  kp : ∀ b o, ¬ Foot env ow b → s.heap.get? b = some o → s'.heap.get? b = some o
  live : ∀ b o, s.heap.get? b = some o → ∃ o', s'.heap.get? b = some o'
  new : ∀ b o, G' b = some o → G b = some o ∨ s.heap.get? b = none ∨ ow.addr = some b
  ownNew : ∀ a, ow'.addr = some a → ow.addr = some a ∨ s.heap.get? a = none
variable {D}
theorem SStep.trans {env : Env} {ow ow' ow'' : Own} {G G' G'' : Gh} {s s' s'' : Shared} (a : SStep env ow G s ow' G' s') (b : SStep env ow' G' s' ow'' G'' s'') : SStep env ow G s ow'' G'' s'' := by
  have dead : ∀ x, s'.heap.get? x = none → s.heap.get? x = none := fun x q => by
    cases z : s.heap.get? x with
    | none => rfl
    | some o => obtain ⟨o', e⟩ := a.live x o z; rw [e] at q; cases q
  refine ⟨?_, a.le.trans b.le, fun x o nf e => b.kp x o (fun f => ?_) (a.kp x o nf e), fun x o e => ?_, fun x o e => ?_, fun x e => ?_⟩
  · obtain ⟨h, tk, rfl⟩ := a.shp
    obtain ⟨h', tk', rfl⟩ := b.shp
    exact ⟨h', tk', rfl⟩
  · rcases f with f | f | f
    · exact nf (.inl f)
    · exact nf (.inr (.inl f))
    · rcases a.ownNew x f with q | q
      · exact nf (.inr (.inr q))
      · rw [q] at e; cases e
  · obtain ⟨o', e'⟩ := a.live x o e
    exact b.live x o' e'
  · rcases b.new x o e with q | q | q
    · exact a.new x o q
    · exact .inr (.inl (dead x q))
    · rcases a.ownNew x q with z | z
      · exact .inr (.inr z)
      · exact .inr (.inl z)
  · rcases b.ownNew x e with q | q
    · exact a.ownNew x q
    · exact .inr (dead x q)
theorem Step.ss {env : Env} {ow : Own} {G G' : Gh} {s s' : Shared} (a : Step G s G' s') : SStep env ow G s ow G' s' :=
  ⟨a.shp, a.le, fun b o _ e => a.kp b o e, fun b o e => ⟨o, a.kp b o e⟩, fun b o e => (a.new b o e).imp id .inl, fun _ e => .inl e⟩
theorem SStep.refl {env : Env} {ow : Own} {G : Gh} {s : Shared} : SStep env ow G s ow G s :=
  ⟨⟨s.heap, s.toks, rfl⟩, Le.refl _, fun _ _ _ e => e, fun _ o e => ⟨o, e⟩, fun _ _ e => .inl e, fun _ e => .inl e⟩
theorem Held.step {ow : Own} {G G' : Gh} {h h' : Heap} (q : Held prog w G h ow) (l : Le G G') (k : ∀ a o, ow.addr = some a → h.get? a = some o → h'.get? a = some o) : Held prog w G' h' ow := by
  cases ow with
  | none => trivial
  | list x a xs => obtain ⟨vs, n, e, r⟩ := q; exact ⟨vs, n, k _ _ rfl e, r.mono l⟩
  | dict x a kvs => obtain ⟨m, kv, ⟨o, es, ep, e, r1⟩, r⟩ := q; exact ⟨m, kv, ⟨o, es, ep, k _ _ rfl e, r1⟩, r.mono l⟩
theorem Step.stays {G G' : Gh} {s s' : Shared} (a : Step G s G' s') {b : Addr} {o : Obj} (h : G b = none) (e : s.heap.get? b = some o) : G' b = none := by
  cases z : G' b with
  | none => rfl
  | some o' =>
    rcases a.new b o' z with q | q
    · rw [h] at q; cases q
    · rw [e] at q; cases q
theorem Held.there {ow : Own} {G : Gh} {h : Heap} (q : Held prog w G h ow) {a : Addr} (e : ow.addr = some a) : ∃ o, h.get? a = some o := by
  cases ow with
  | none => cases e
  | list x b xs => cases e; obtain ⟨vs, n, z, _⟩ := q; exact ⟨_, z⟩
  | dict x b kvs => cases e; obtain ⟨m, kv, ⟨o, es, ep, z, _⟩, r⟩ := q; exact ⟨_, z⟩
theorem Ns.there {h : Heap} {a : Addr} {m : Str → Option Value} (n : h.Ns a m) : ∃ o, h.get? a = some o := let ⟨o, _, _, e, _⟩ := n; ⟨o, e⟩
theorem Ss.step {env : Env} {V : Vars} {ow : Own} {G G' : Gh} {s s' : Shared} (c : Ss D env V ow G s) (a : Step G s G' s') : Ss D env V ow G' s' := by
  obtain ⟨m, hm⟩ := c.loc
  obtain ⟨oL, eL⟩ := Ns.there hm
  refine ⟨c.es.step a, a.stays c.offL eL, ⟨m, hm.keeps a.kp⟩, fun x y e => ?_, c.inj, ?_, ?_, ?_⟩
  · obtain ⟨g, ne, ov, hc⟩ := c.cel x y e
    obtain ⟨o, eo, ed⟩ := hc
    exact ⟨a.stays g eo, ne, ov, o, a.kp _ _ eo, ed⟩
  · intro b e
    obtain ⟨g, ne, nc⟩ := c.own.off b e
    obtain ⟨o, eo⟩ := c.own.held.there e
    exact ⟨a.stays g eo, ne, nc⟩
  · exact fun b x e n => (c.own.at_ b x e n).kp a.kp
  · exact c.own.held.step a.le fun b o _ e => a.kp b o e

variable (D)
def EvS (k : Nat) (env : Env) (V : Vars) (ow : Own) (e : Expr) (d : PyData) : Prop :=
  ∀ A, Room k A → ∀ G s Q E, Ss D env V ow G s → (∀ G' s' v, Step G s G' s' → Rd prog w G' v d → Q v s') → wpAny (model prog w) A (eval e env) Q E s
def TrS (k : Nat) (env : Env) (V : Vars) (ow : Own) (e : Expr) (b : Bool) : Prop :=
  ∀ A, Room k A → ∀ G s Q E, Ss D env V ow G s → (∀ G' s', Step G s G' s' → Q b s') → wpAny (model prog w) A (isTrue e env (eval e env)) Q E s
def Ex (k : Nat) (env : Env) (V : Vars) (ow : Own) (sts : List Stmt) (R : Fl → Vars → Own → Prop) : Prop :=
  ∀ A, Room k A → ∀ G s Q E, Ss D env V ow G s → (∀ G' s' f fl V' ow', SStep env ow G s ow' G' s' → Ss D env V' ow' G' s' → FlRd prog w G' f fl → R fl V' ow' → Q f s') → wpAny (model prog w) A (execs sts env) Q E s
def Ex1 (k : Nat) (env : Env) (V : Vars) (ow : Own) (st : Stmt) (R : Fl → Vars → Own → Prop) : Prop :=
  ∀ A, Room k A → ∀ G s Q E, Ss D env V ow G s → (∀ G' s' f fl V' ow', SStep env ow G s ow' G' s' → Ss D env V' ow' G' s' → FlRd prog w G' f fl → R fl V' ow' → Q f s') → wpAny (model prog w) A (exec st env) Q E s
/-- what is wanted behind one statement, others following -/
def Then (k : Nat) (env : Env) (rest : List Stmt) (R : Fl → Vars → Own → Prop) (fl : Fl) (V : Vars) (ow : Own) : Prop :=
  match fl with
  | .next => Ex D k env V ow rest R
  | fl => R fl V ow
variable {D}
variable {k : Nat} {env : Env} {V : Vars} {ow : Own} {R : Fl → Vars → Own → Prop}
theorem EvS.of {e : Expr} {d : PyData} (h : Ev D k env V e d) : EvS D k env V ow e d := fun A hA G s Q E c hQ => h A hA G s Q E c.es hQ
theorem TrS.of {e : Expr} {b : Bool} (h : Tr D k env V e b) : TrS D k env V ow e b := fun A hA G s Q E c hQ => h A hA G s Q E c.es hQ
theorem EvS.to {e : Expr} {d d' : PyData} (h : EvS D k env V ow e d) (q : d = d') : EvS D k env V ow e d' := q ▸ h
theorem TrS.to {e : Expr} {d d' : Bool} (h : TrS D k env V ow e d) (q : d = d') : TrS D k env V ow e d' := q ▸ h

/-! what is held may be looked at: it is frozen for the while -/
theorem put_le {G : Gh} {a : Addr} {o : Obj} (h : G a = none) : Le G (put G a o) := fun b q e => by
  show (if b = a then some o else G b) = _
  rw [if_neg (fun z => by rw [z, h] at e; cases e)]; exact e
theorem Ss.frozen {G : Gh} {s : Shared} {x : Str} {a : Addr} {o : Obj} {d : PyData} (c : Ss D env V ow G s) (ea : ow.addr = some a) (ex : ow.name = some x) (eo : s.heap.get? a = some o) (r : Rd prog w (put G a o) (.ref a) d) :
    Es D env ((x, d) :: V) (put G a o) s := by
  have l := put_le (o := o) (c.own.off a ea).1
  refine ⟨fun b q e => l _ _ (c.es.g0 b q e), fun b q e => ?_, fun y d' e => ?_⟩
  · have e' : (if b = a then some o else G b) = some q := e
    by_cases hb : b = a
    · rw [if_pos hb] at e'; subst hb; rw [← e']; exact eo
    · rw [if_neg hb] at e'; exact c.es.inn _ _ e'
  · rw [List.lookup_cons] at e
    cases hy : y == x with
    | true =>
      rw [hy] at e
      cases e
      rw [eq_of_beq hy]
      exact ⟨_, c.own.at_ a x ea ex, r⟩
    | false =>
      rw [hy] at e
      obtain ⟨v, q1, q2⟩ := c.es.sees y d' e
      exact ⟨v, q1, q2.mono l⟩
theorem Step.thaw {G G2 : Gh} {s s2 : Shared} {a : Addr} {o : Obj} (h : G a = none) (eo : s.heap.get? a = some o) (t : Step (put G a o) s G2 s2) : Step G s (cut G2 a) s2 := by
  refine ⟨t.shp, fun b q e => ?_, fun b q e => ?_, t.kp, fun b q e => ?_⟩
  · have hb : b ≠ a := fun z => by rw [z, h] at e; cases e
    show (if b = a then none else G2 b) = _
    rw [if_neg hb]
    exact t.le _ _ (put_le h _ _ e)
  · have e' : (if b = a then none else G2 b) = some q := e
    by_cases hb : b = a
    · rw [if_pos hb] at e'; cases e'
    · rw [if_neg hb] at e'; exact t.inn _ _ e'
  · have e' : (if b = a then none else G2 b) = some q := e
    by_cases hb : b = a
    · rw [if_pos hb] at e'; cases e'
    · rw [if_neg hb] at e'
      rcases t.new b q e' with z | z
      · have z' : (if b = a then some o else G b) = some q := z
        rw [if_neg hb] at z'
        exact .inl z'
      · exact .inr z
theorem EvS.dict {x : Str} {a : Addr} {kvs : List (PyData × PyData)} {e : Expr} {d : PyData} (h : Ev D k env ((x, .dict kvs) :: V) e d) (hn : nd d = true) : EvS D k env V (.dict x a kvs) e d := by
  intro A hA G s Q E c hQ
  obtain ⟨hm, kv, ⟨o, es, ep, eo, xo, xd, xk, xp, xn⟩, r⟩ := c.own.held
  have g := (c.own.off a rfl).1
  have rr : Rd prog w (put G a o) (.ref a) (.dict kvs) := .dict (put_self _ _ _) ⟨es, ep, xo, xd, xk, xp, xn⟩ hm (r.mono (put_le g))
  refine h A hA _ s Q E (c.frozen rfl rfl eo rr) fun G2 s2 v t r2 => hQ _ _ _ (t.thaw g eo) ?_
  exact r2.cut (t.le _ _ (put_self _ _ _)) xo.1 hn
theorem TrS.dict {x : Str} {a : Addr} {kvs : List (PyData × PyData)} {e : Expr} {b : Bool} (h : Tr D k env ((x, .dict kvs) :: V) e b) : TrS D k env V (.dict x a kvs) e b := by
  intro A hA G s Q E c hQ
  obtain ⟨hm, kv, ⟨o, es, ep, eo, xo, xd, xk, xp, xn⟩, r⟩ := c.own.held
  have g := (c.own.off a rfl).1
  have rr : Rd prog w (put G a o) (.ref a) (.dict kvs) := .dict (put_self _ _ _) ⟨es, ep, xo, xd, xk, xp, xn⟩ hm (r.mono (put_le g))
  exact h A hA _ s Q E (c.frozen rfl rfl eo rr) fun G2 s2 t => hQ _ _ (t.thaw g eo)
theorem EvS.listI {x : Str} {a : Addr} {xs : List PyData} {e : Expr} {d : PyData} (h : Ev D k env ((x, .list xs) :: V) e d) (hn : imm d = true) : EvS D k env V (.list x a xs) e d := by
  intro A hA G s Q E c hQ
  obtain ⟨vs, n, eo, r⟩ := c.own.held
  have g := (c.own.off a rfl).1
  have rr : Rd prog w (put G a (listO vs n)) (.ref a) (.list xs) := .list (put_self _ _ _) rfl rfl (r.mono (put_le g))
  exact h A hA _ s Q E (c.frozen rfl rfl eo rr) fun G2 s2 v t r2 => hQ _ _ _ (t.thaw g eo) (r2.imm _ hn)
theorem TrS.list {x : Str} {a : Addr} {xs : List PyData} {e : Expr} {b : Bool} (h : Tr D k env ((x, .list xs) :: V) e b) : TrS D k env V (.list x a xs) e b := by
  intro A hA G s Q E c hQ
  obtain ⟨vs, n, eo, r⟩ := c.own.held
  have g := (c.own.off a rfl).1
  have rr : Rd prog w (put G a (listO vs n)) (.ref a) (.list xs) := .list (put_self _ _ _) rfl rfl (r.mono (put_le g))
  exact h A hA _ s Q E (c.frozen rfl rfl eo rr) fun G2 s2 t => hQ _ _ (t.thaw g eo)
/-- what is held may be given up for good -/
theorem Ex.freeze {x : Str} {a : Addr} {xs : List PyData} {sts : List Stmt} (h : Ex D k env ((x, .list xs) :: V) .none sts R) : Ex D k env V (.list x a xs) sts R := by
  intro A hA G s Q E c hQ
  obtain ⟨vs, n, eo, r⟩ := c.own.held
  obtain ⟨g, nL, nC⟩ := c.own.off a rfl
  have rr : Rd prog w (put G a (listO vs n)) (.ref a) (.list xs) := .list (put_self _ _ _) rfl rfl (r.mono (put_le g))
  have off : ∀ b, b ≠ a → put G a (listO vs n) b = G b := fun b hb => if_neg hb
  have c' : Ss D env ((x, .list xs) :: V) .none (put G a (listO vs n)) s := by
    refine ⟨c.frozen rfl rfl eo rr, (off _ (Ne.symm nL)).trans c.offL, c.loc, fun y b e => ?_, c.inj, ⟨fun _ e => (nomatch e), fun _ _ e => (nomatch e), trivial⟩⟩
    obtain ⟨q1, q2⟩ := c.cel y b e
    exact ⟨(off _ (nC y b e)).trans q1, q2⟩
  have st : SStep env (.list x a xs) G s .none (put G a (listO vs n)) s := ⟨⟨s.heap, s.toks, rfl⟩, put_le g, fun _ _ _ e => e, fun _ o e => ⟨o, e⟩, fun b o e => by
    by_cases hb : b = a
    · exact .inr (.inr (by rw [hb]; rfl))
    · rw [off b hb] at e; exact .inl e, fun _ e => nomatch e⟩
  exact h A hA _ s Q E c' fun G' s' f fl V' ow' t c2 fr hR => hQ _ _ _ _ _ _ (st.trans t) c2 fr hR
theorem Ex.freezeD {x : Str} {a : Addr} {kvs : List (PyData × PyData)} {sts : List Stmt} (h : Ex D k env ((x, .dict kvs) :: V) .none sts R) : Ex D k env V (.dict x a kvs) sts R := by
  intro A hA G s Q E c hQ
  obtain ⟨hm, kv, ⟨o, es, ep, eo, xo, xd, xk, xp, xn⟩, r⟩ := c.own.held
  obtain ⟨g, nL, nC⟩ := c.own.off a rfl
  have rr : Rd prog w (put G a o) (.ref a) (.dict kvs) := .dict (put_self _ _ _) ⟨es, ep, xo, xd, xk, xp, xn⟩ hm (r.mono (put_le g))
  have off : ∀ b, b ≠ a → put G a o b = G b := fun b hb => if_neg hb
  have c' : Ss D env ((x, .dict kvs) :: V) .none (put G a o) s := by
    refine ⟨c.frozen rfl rfl eo rr, (off _ (Ne.symm nL)).trans c.offL, c.loc, fun y b e => ?_, c.inj, ⟨fun _ e => (nomatch e), fun _ _ e => (nomatch e), trivial⟩⟩
    obtain ⟨q1, q2⟩ := c.cel y b e
    exact ⟨(off _ (nC y b e)).trans q1, q2⟩
  have st : SStep env (.dict x a kvs) G s .none (put G a o) s := ⟨⟨s.heap, s.toks, rfl⟩, put_le g, fun _ _ _ e => e, fun _ o e => ⟨o, e⟩, fun b o e => by
    by_cases hb : b = a
    · exact .inr (.inr (by rw [hb]; rfl))
    · rw [off b hb] at e; exact .inl e, fun _ e => nomatch e⟩
  exact h A hA _ s Q E c' fun G' s' f fl V' ow' t c2 fr hR => hQ _ _ _ _ _ _ (st.trans t) c2 fr hR

/-! sequences -/
theorem Ex.nil (h : R .next V ow) : Ex D k env V ow [] R := fun A hA G s Q E c hQ => wpAny_execs_nil (hQ _ _ _ _ _ _ SStep.refl c .next h)
theorem Ex.cons {st : Stmt} {rest : List Stmt} (h : Ex1 D k env V ow st (Then D k env rest R)) : Ex D k env V ow (st :: rest) R := by
  intro A hA G s Q E c hQ
  refine wpAny_execs_cons (h A hA G s _ E c fun G1 s1 f fl V1 ow1 t1 c1 fr hR => ?_)
  cases fr with
  | next => exact hR A hA G1 s1 Q E c1 fun G2 s2 f2 fl2 V2 ow2 t2 c2 fr2 hR2 => hQ _ _ _ _ _ _ (t1.trans t2) c2 fr2 hR2
  | brk => exact hQ _ _ _ _ _ _ t1 c1 .brk hR
  | cont => exact hQ _ _ _ _ _ _ t1 c1 .cont hR
  | ret r => exact hQ _ _ _ _ _ _ t1 c1 (.ret r) hR
theorem Ex.mono {sts : List Stmt} {R' : Fl → Vars → Own → Prop} (h : Ex D k env V ow sts R) (hr : ∀ fl V' ow', R fl V' ow' → R' fl V' ow') : Ex D k env V ow sts R' :=
  fun A hA G s Q E c hQ => h A hA G s Q E c fun G' s' f fl V' ow' t c' fr q => hQ _ _ _ _ _ _ t c' fr (hr _ _ _ q)
/-- fewer things known -/
theorem Es.weak {V' : Vars} {G : Gh} {s : Shared} (c : Es D env V G s) (h : ∀ x d, V'.lookup x = some d → V.lookup x = some d) : Es D env V' G s := ⟨c.g0, c.inn, fun x d e => c.sees x d (h x d e)⟩
theorem Ss.weak {V' : Vars} {G : Gh} {s : Shared} (c : Ss D env V ow G s) (h : ∀ x d, V'.lookup x = some d → V.lookup x = some d) : Ss D env V' ow G s := ⟨c.es.weak h, c.offL, c.loc, c.cel, c.inj, c.own⟩
theorem Ex.weak {V' : Vars} {sts : List Stmt} (h : Ex D k env V' ow sts R) (hv : ∀ x d, V'.lookup x = some d → V.lookup x = some d) : Ex D k env V ow sts R :=
  fun A hA G s Q E c hQ => h A hA G s Q E (c.weak hv) hQ
end
end Mine
namespace Mine
section
variable {prog : Program} {w : World} {D : Md prog w} {k : Nat} {env : Env} {V : Vars} {ow : Own} {R : Fl → Vars → Own → Prop}

def Name (env : Env) (x : Str) : Prop := (x == ("__debug__" : Str)) = false ∧ (env.kindOf x = some .local ∨ (env.kindOf x = some .cell ∧ ∃ c, env.cells.lookup x = some c))
structure Stored (env : Env) (s : Shared) (x : Str) (v : Value) (s' : Shared) : Prop where
  shp : ∃ h tk, s' = { s with heap := h, toks := tk }
  at_ : VarAt env s'.heap x v
  oth : ∀ y v', y ≠ x → VarAt env s.heap y v' → VarAt env s'.heap y v'
  kp : ∀ b o, b ≠ env.locals → (∀ y, env.cells.lookup y ≠ some b) → s.heap.get? b = some o → s'.heap.get? b = some o
  live : ∀ b o, s.heap.get? b = some o → ∃ o', s'.heap.get? b = some o'
  loc : ∃ m, s'.heap.Ns env.locals m
  cel : ∀ y c, env.cells.lookup y = some c → ∃ ov, s'.heap.IsCell c ov
theorem sameBut_live {a : Addr} {h h' : Heap} (s : Heap.SameBut a h h') {o' : Obj} (e : h'.get? a = some o') : ∀ b o, h.get? b = some o → ∃ q, h'.get? b = some q := fun b o z => by
  by_cases hb : b = a
  · exact ⟨o', hb ▸ e⟩
  · exact ⟨o, (s.2 b hb).trans z⟩
theorem store {A : Around} {G : Gh} {s : Shared} {x : Str} {v : Value} {Q : Unit → Shared → Prop} {E : Value → Shared → Prop} (ok : EnvOk env) (hx : Name env x) (c : Ss D env V ow G s)
    (h : ∀ s', Stored env s x v s' → Q () s') : wpAny (model prog w) A (storeName env x v) Q E s := by
  obtain ⟨hd, hx⟩ := hx
  obtain ⟨m, hm⟩ := c.loc
  rcases hx with hk | ⟨hk, cx, hc⟩
  · refine wpAny_storeName_local hk hm (fun h' hn hs => h _ ⟨⟨h', _, rfl⟩, ⟨hd, .inl ⟨hk, _, hn, if_pos rfl⟩⟩, fun y v' ne q => ?_, fun b o ne _ e => (hs.2 b ne).trans e, ?_, ⟨_, hn⟩, fun y b e => ?_⟩) (by rw [ok.fn]; rfl)
    · refine ⟨q.1, q.2.imp ?_ ?_⟩
      · rintro ⟨a, m', n', e⟩
        refine ⟨a, _, hn, ?_⟩
        show (if y = x then some v else m y) = _
        rw [if_neg ne]
        obtain ⟨o1, es1, ep1, g1, d1, _, f1⟩ := hm
        obtain ⟨o2, es2, ep2, g2, d2, _, f2⟩ := n'
        rw [g1] at g2; cases g2
        rw [d1] at d2; cases d2
        rw [← f1 y, f2 y]; exact e
      · rintro ⟨a, b, e, z⟩
        exact ⟨a, b, e, z.sameBut hs (c.cel y b e).2.1⟩
    · obtain ⟨o', e'⟩ := Ns.there hn
      exact sameBut_live hs e'
    · obtain ⟨_, ne, ov, z⟩ := c.cel y b e
      exact ⟨ov, z.sameBut hs ne⟩
  · obtain ⟨_, neL, ov, hv⟩ := c.cel x cx hc
    refine wpAny_storeName_cell ok.fn hk hc hv (fun h' hn hs => h _ ⟨⟨h', _, rfl⟩, ⟨hd, .inr ⟨hk, _, hc, hn⟩⟩, fun y v' ne q => ?_, fun b o _ nc e => (hs.2 b (fun z => nc x (z ▸ hc))).trans e, ?_, ⟨_, hm.sameBut hs (Ne.symm neL)⟩, fun y b e => ?_⟩)
    · refine ⟨q.1, q.2.imp ?_ ?_⟩
      · rintro ⟨a, m', n', e⟩
        exact ⟨a, m', n'.sameBut hs (Ne.symm neL), e⟩
      · rintro ⟨a, b, e, z⟩
        exact ⟨a, b, e, z.sameBut hs fun q => ne (c.inj y x cx (q ▸ e) hc)⟩
    · obtain ⟨o', e', _⟩ := hn
      exact sameBut_live hs e'
    · by_cases hb : b = cx
      · exact ⟨_, hb ▸ hn⟩
      · obtain ⟨_, _, ov', z⟩ := c.cel y b e
        exact ⟨ov', z.sameBut hs hb⟩
theorem Stored.sub {G : Gh} {s s' : Shared} {x : Str} {v : Value} (t : Stored env s x v s') (c : Ss D env V ow G s) : Sub G s'.heap := fun b o e => t.kp b o (fun q => by rw [q, c.offL] at e; cases e) (fun y q => by rw [(c.cel y b q).1] at e; cases e) (c.es.inn b o e)
theorem Stored.ss {G : Gh} {s s' : Shared} {x : Str} {v : Value} {d : PyData} (t : Stored env s x v s') (c : Ss D env V ow G s) (r : Rd prog w G v d) (hw : ow.name ≠ some x) :
    SStep env ow G s ow G s' ∧ Ss D env ((x, d) :: V) ow G s' := by
  refine ⟨⟨t.shp, Le.refl _, fun b o nf e => t.kp b o (fun q => nf (.inl q)) (fun y q => nf (.inr (.inl ⟨y, q⟩))) e, t.live, fun _ _ e => .inl e, fun _ e => .inl e⟩, ⟨c.es.g0, t.sub c, fun y d' e => ?_⟩, c.offL, t.loc, fun y b e => ⟨(c.cel y b e).1, (c.cel y b e).2.1, t.cel y b e⟩, c.inj, c.own.off, fun a y e1 e2 => ?_, ?_⟩
  · rw [List.lookup_cons] at e
    cases hy : y == x with
    | true =>
      rw [hy] at e
      cases e
      rw [eq_of_beq hy]
      exact ⟨v, t.at_, r⟩
    | false =>
      rw [hy] at e
      obtain ⟨v', q1, q2⟩ := c.es.sees y d' e
      exact ⟨v', t.oth y v' (fun z => by simp [z] at hy) q1, q2⟩
  · exact t.oth y _ (fun z => hw (by rw [e2, z])) (c.own.at_ a y e1 e2)
  · exact c.own.held.step (Le.refl _) fun a o e q => t.kp a o (c.own.off a e).2.1 (fun y z => (c.own.off a e).2.2 y a z rfl) q
theorem Ex1.assign {x : Str} {p pos : Pos} {e : Expr} {d : PyData} (ok : EnvOk env) (hx : Name env x) (h : EvS D k env V ow e d) (hR : R .next ((x, d) :: V) ow) (hw : ow.name ≠ some x := by decide)
    (hs : swapsWith e (some (.Name x p)) pos.line env = pure false := by exact rfl) : Ex1 D k env V ow (.Assign [.Name x p] e pos) R := by
  intro A hA G s Q E c hQ
  refine wpAny_Assign_Name (h A hA G s _ E c fun G1 s1 v t1 r1 => store ok hx (c.step t1) fun s2 t2 => ?_) hs
  obtain ⟨t3, c3⟩ := t2.ss (c.step t1) r1 hw
  exact hQ _ _ _ _ _ _ (t1.ss.trans t3) c3 .next hR
theorem Ex1.ret {e : Expr} {pos : Pos} {d : PyData} (h : EvS D k env V ow e d) (hR : R (.ret d) V ow) : Ex1 D k env V ow (.Return (some e) pos) R :=
  fun A hA G s Q E c hQ => wpAny_Return_some (h A hA G s _ E c fun G1 s1 v t1 r1 => hQ _ _ _ _ _ _ t1.ss (c.step t1) (.ret r1) hR)
theorem Ex1.ite {t : Expr} {b o : List Stmt} {pos : Pos} {c : Bool} (h : TrS D k env V ow t c) (ht : c = true → Ex D k env V ow b R) (hf : c = false → Ex D k env V ow o R) : Ex1 D k env V ow (.If t b o pos) R := by
  intro A hA G s Q E e hQ
  refine wpAny_If (h A hA G s _ E e fun G1 s1 t1 => ?_)
  cases c with
  | true => exact ht rfl A hA G1 s1 Q E (e.step t1) fun G2 s2 f fl V2 ow2 t2 c2 fr hr => hQ _ _ _ _ _ _ (t1.ss.trans t2) c2 fr hr
  | false => exact hf rfl A hA G1 s1 Q E (e.step t1) fun G2 s2 f fl V2 ow2 t2 c2 fr hr => hQ _ _ _ _ _ _ (t1.ss.trans t2) c2 fr hr
theorem Ex1.pass {pos : Pos} (hR : R .next V ow) : Ex1 D k env V ow (.Pass pos) R := fun A hA G s Q E c hQ => wpAny_Pass (hQ _ _ _ _ _ _ SStep.refl c .next hR)
theorem Ex1.brk {pos : Pos} (hR : R .brk V ow) : Ex1 D k env V ow (.Break pos) R := fun A hA G s Q E c hQ => wpAny_Break (hQ _ _ _ _ _ _ SStep.refl c .brk hR)
theorem Ex1.cont {pos : Pos} (hR : R .cont V ow) : Ex1 D k env V ow (.Continue pos) R := fun A hA G s Q E c hQ => wpAny_Continue (hQ _ _ _ _ _ _ SStep.refl c .cont hR)
/-- a try whose body does not raise -/
theorem Ex1.try_ {body : List Stmt} {h₀ : ExceptHandler} {hs : List ExceptHandler} {pos : Pos} (h : Ex D k env V ow body R) : Ex1 D k env V ow (.Try body (h₀ :: hs) [] [] pos) R := by
  intro A hA G s Q E c hQ
  refine wpAny_Try_except (h A hA G s _ _ c fun G1 s1 f fl V1 ow1 t1 c1 fr hR => ?_)
  have q := hQ _ _ _ _ _ _ t1 c1 fr hR
  cases f with
  | next => exact wpAny_execs_nil q
  | brk => exact q
  | cont => exact q
  | ret v => exact q

/-! loops -/
/-- what a turn of a loop must come to -/
def Turn (R : Fl → Vars → Own → Prop) (I : Vars → Own → Prop) (fl : Fl) (V : Vars) (ow : Own) : Prop :=
  match fl with
  | .next | .cont => I V ow
  | .brk => R .next V ow
  | .ret d => R (.ret d) V ow
theorem Ex1.whileL {test : Expr} {body : List Stmt} {pos : Pos} (I : Nat → Vars → Own → Prop)
    (turn : ∀ n V ow, I n V ow → ∃ c, TrS D k env V ow test c ∧ (c = false → R .next V ow) ∧ (c = true → Ex D k env V ow body (Turn R fun V' ow' => ∃ m, m < n ∧ I m V' ow'))) (n : Nat) (h0 : I n V ow) :
    Ex1 D k env V ow (.While test body [] pos) R := by
  intro A hA G s Q E c hQ
  refine wpAny_While (codeAny_whileLoop (fun n s1 => ∃ V1 ow1 G1, I n V1 ow1 ∧ SStep env ow G s ow1 G1 s1 ∧ Ss D env V1 ow1 G1 s1) ?_ n ⟨V, ow, G, h0, SStep.refl, c⟩)
  rintro n s1 ⟨V1, ow1, G1, hI, t1, c1⟩
  obtain ⟨b, hb, hF, hT⟩ := turn n V1 ow1 hI
  refine hb A hA G1 s1 _ _ c1 fun G2 s2 t2 => ?_
  cases b with
  | false =>
    exact wpAny_execs_nil (hQ _ _ _ _ _ _ (t1.trans t2.ss) (c1.step t2) .next (hF rfl))
  | true =>
    refine hT rfl A hA G2 s2 _ _ (c1.step t2) fun G3 s3 f fl V3 ow3 t3 c3 fr hR => ?_
    have t4 := (t1.trans t2.ss).trans t3
    cases fr with
    | next => obtain ⟨m, hm, hi⟩ := hR; exact ⟨m, hm, V3, ow3, G3, hi, t4, c3⟩
    | cont => obtain ⟨m, hm, hi⟩ := hR; exact ⟨m, hm, V3, ow3, G3, hi, t4, c3⟩
    | brk => exact hQ _ _ _ _ _ _ t4 c3 .next hR
    | ret r => exact hQ _ _ _ _ _ _ t4 c3 (.ret r) hR
end
end Mine
namespace Mine
section
variable {prog : Program} {w : World} {D : Md prog w} {k : Nat} {env : Env} {V : Vars} {ow : Own} {R : Fl → Vars → Own → Prop}

theorem Ss.but {G : Gh} {s : Shared} {h' : Heap} {tk : Nat} {wr : List Addr} (c : Ss D env V ow G s) (hk : ∀ b o, b ∉ wr → s.heap.get? b = some o → h'.get? b = some o) (hw : ∀ b ∈ wr, G b = none ∧ ¬ Foot env ow b) :
    Ss D env V ow G { s with heap := h', toks := tk } := by
  have nL : env.locals ∉ wr := fun q => (hw _ q).2 (.inl rfl)
  have nC : ∀ y b, env.cells.lookup y = some b → b ∉ wr := fun y b e q => (hw _ q).2 (.inr (.inl ⟨y, e⟩))
  have va : ∀ y v, VarAt env s.heap y v → VarAt env h' y v := fun y v q => by
    refine ⟨q.1, q.2.imp ?_ ?_⟩
    · rintro ⟨a, m, ⟨o, es, ep, e, r⟩, z⟩
      exact ⟨a, m, ⟨o, es, ep, hk _ _ nL e, r⟩, z⟩
    · rintro ⟨a, b, e, ⟨o, eo, ed⟩⟩
      exact ⟨a, b, e, ⟨o, hk _ _ (nC y b e) eo, ed⟩⟩
  refine ⟨⟨c.es.g0, fun b o e => hk b o (fun q => by rw [(hw b q).1] at e; cases e) (c.es.inn b o e), fun x d e => ?_⟩, c.offL, ?_, fun x b e => ?_, c.inj, c.own.off, fun a x e1 e2 => va x _ (c.own.at_ a x e1 e2), ?_⟩
  · obtain ⟨v, q1, q2⟩ := c.es.sees x d e
    exact ⟨v, va x v q1, q2⟩
  · obtain ⟨m, o, es, ep, e, r⟩ := c.loc
    exact ⟨m, o, es, ep, hk _ _ nL e, r⟩
  · obtain ⟨q1, q2, ov, o, eo, ed⟩ := c.cel x b e
    exact ⟨q1, q2, ov, o, hk _ _ (nC x b e) eo, ed⟩
  · exact c.own.held.step (Le.refl _) fun a o e q => hk a o (fun z => (hw a z).2 (.inr (.inr e))) q

/-- a loop over whatever walks; its items are fixed data -/
theorem for_walks {A : Around} {x : Str} {p : Pos} {body : List Stmt} {I : Addr} {fp wr : List Addr} {n : Nat} {P : Nat → Value → Prop} {St : Nat → Heap → Prop} {xs : Nat → PyData} {G : Gh} {s s2 : Shared} {Q : Result → Shared → Prop}
    (ok : EnvOk env) (hx : Name env x) (hA : Room k A) (W : Walks prog w A I fp wr n P St) (c : Ss D env V ow G s2) (st0 : St 0 s2.heap) (t0 : SStep env ow G s ow G s2)
    (hnew : ∀ b ∈ wr, s.heap.get? b = none) (hoff : ∀ b ∈ wr, G b = none) (hfp : ∀ b ∈ fp, ¬ Foot env ow b ∧ ∃ o, s2.heap.get? b = some o) (hP : ∀ i v, P i v → Rd prog w G v (xs i)) (hl : ∀ i h, St i h → ∀ b ∈ wr, ∃ o, h.get? b = some o)
    (J : Nat → Vars → Own → Prop) (h0 : J 0 V ow) (hname : ∀ i V ow, J i V ow → ow.name ≠ some x)
    (turn : ∀ i V ow, i < n → J i V ow → Ex D k env ((x, xs i) :: V) ow body (Turn R (J (i + 1)))) (fin : ∀ V ow, J n V ow → R .next V ow)
    (hQ : ∀ G' s' f fl V' ow', SStep env ow G s ow' G' s' → Ss D env V' ow' G' s' → FlRd prog w G' f fl → R fl V' ow' → Q (.ok f) s') :
    codeAny (model prog w) A (.forLoop (.Name x p) (.ref I) body [] env) Q s2 := by
  refine codeAny_forLoop (fun m s1 => ∃ i V1 ow1 G1, m = n - i ∧ i ≤ n ∧ J i V1 ow1 ∧ SStep env ow G s ow1 G1 s1 ∧ Ss D env V1 ow1 G1 s1 ∧ St i s1.heap ∧ (∀ b ∈ wr, G1 b = none) ∧ (∀ b ∈ fp, ¬ Foot env ow1 b ∧ ∃ o, s1.heap.get? b = some o)) ?_ n
    ⟨0, V, ow, G, rfl, Nat.zero_le _, h0, t0, c, st0, hoff, hfp⟩ (by intro _; rfl)
  rintro m s1 ⟨i, V1, ow1, G1, rfl, hi, hJ, t1, c1, st1, g1, f1⟩
  have wrOff : ∀ b ∈ wr, G1 b = none ∧ ¬ Foot env ow1 b := fun b q => ⟨g1 b q, (f1 b (W.sub b q)).1⟩
  -- what a step of the iterator keeps
  have next : ∀ h' tk, (∀ b o, b ∉ wr → s1.heap.get? b = some o → h'.get? b = some o) → SStep env ow G s ow1 G1 { s1 with heap := h', toks := tk } ∧ Ss D env V1 ow1 G1 { s1 with heap := h', toks := tk } := fun h' tk hk => by
    have nw : ∀ b o, s.heap.get? b = some o → b ∉ wr := fun b o e q => by rw [hnew b q] at e; cases e
    refine ⟨⟨?_, t1.le, fun b o nf e => hk b o (nw b o e) (t1.kp b o nf e), fun b o e => ?_, t1.new, t1.ownNew⟩, c1.but hk wrOff⟩
    · obtain ⟨h1, tk1, rfl⟩ := t1.shp
      exact ⟨h', tk, rfl⟩
    · obtain ⟨o', e'⟩ := t1.live b o e
      exact ⟨o', hk b o' (nw b o e) e'⟩
  by_cases hlt : i < n
  · refine W.item i s1 _ _ hlt st1 fun v h' tk hv st' hk => ?_
    obtain ⟨t2, c2⟩ := next h' tk hk
    refine wpAny_assign_Name (store ok hx c2 fun s3 t3 => ?_)
    have rv : Rd prog w G1 v (xs i) := (hP i v hv).mono t1.le
    obtain ⟨t4, c3⟩ := t3.ss c2 rv (hname i V1 ow1 hJ)
    have live2 : ∀ b ∈ fp, ∃ o, h'.get? b = some o := fun b q => by
      by_cases hb : b ∈ wr
      · exact hl _ _ st' b hb
      · obtain ⟨_, o, e⟩ := f1 b q
        exact ⟨o, hk b o hb e⟩
    have keep3 : ∀ b ∈ fp, ∀ o, h'.get? b = some o → s3.heap.get? b = some o := fun b q o e =>
      t3.kp b o (fun z => (f1 b q).1 (.inl z)) (fun y z => (f1 b q).1 (.inr (.inl ⟨y, z⟩))) e
    have st3 : St (i + 1) s3.heap := W.frame _ _ _ st' keep3
    refine turn i V1 ow1 hlt hJ A hA G1 s3 _ _ c3 fun G5 s5 f fl V5 ow5 t5 c5 fr hR => ?_
    have t6 := (t2.trans t4).trans t5
    have again : ∀ (hj : J (i + 1) V5 ow5), ∃ m, m < n - i ∧ ∃ i V1 ow1 G1, m = n - i ∧ i ≤ n ∧ J i V1 ow1 ∧ SStep env ow G s ow1 G1 s5 ∧ Ss D env V1 ow1 G1 s5 ∧ St i s5.heap ∧ (∀ b ∈ wr, G1 b = none) ∧ (∀ b ∈ fp, ¬ Foot env ow1 b ∧ ∃ o, s5.heap.get? b = some o) := fun hj => by
      refine ⟨n - (i + 1), by omega, i + 1, V5, ow5, G5, rfl, hlt, hj, t6, c5, W.frame _ _ _ st3 fun b q o e => t5.kp b o (f1 b q).1 e, fun b q => ?_, fun b q => ?_⟩
      · cases z : G5 b with
        | none => rfl
        | some o =>
          obtain ⟨o2, e2⟩ := live2 b (W.sub b q)
          rcases t5.new b o z with y | y | y
          · rw [(wrOff b q).1] at y; cases y
          · rw [keep3 b (W.sub b q) o2 e2] at y; cases y
          · exact absurd (.inr (.inr y)) (wrOff b q).2
      · obtain ⟨o2, e2⟩ := live2 b q
        refine ⟨fun z => ?_, o2, t5.kp b o2 (f1 b q).1 (keep3 b q o2 e2)⟩
        rcases z with z | z | z
        · exact (f1 b q).1 (.inl z)
        · exact (f1 b q).1 (.inr (.inl z))
        · rcases t5.ownNew b z with y | y
          · exact (f1 b q).1 (.inr (.inr y))
          · rw [keep3 b q o2 e2] at y; cases y
    cases fr with
    | next => exact again hR
    | cont => exact again hR
    | brk => exact hQ _ _ _ _ _ _ t6 c5 .next hR
    | ret r => exact hQ _ _ _ _ _ _ t6 c5 (.ret r) hR
  · have hin : i = n := by omega
    subst hin
    refine W.done s1 _ _ st1 fun h' tk hk => ?_
    obtain ⟨t2, c2⟩ := next h' tk hk
    exact wpAny_execs_nil (hQ _ _ _ _ _ _ t2 c2 .next (fin _ _ hJ))

theorem Ex1.forList {x : Str} {p pos : Pos} {iter : Expr} {body : List Stmt} {xs : List PyData} (ok : EnvOk env) (hx : Name env x) (h : EvS D k env V ow iter (.list xs))
    (J : Nat → Vars → Own → Prop) (h0 : J 0 V ow) (hname : ∀ i V ow, J i V ow → ow.name ≠ some x)
    (turn : ∀ i d V ow, xs[i]? = some d → J i V ow → Ex D k env ((x, d) :: V) ow body (Turn R (J (i + 1)))) (fin : ∀ V ow, J xs.length V ow → R .next V ow)
    (hs : ∀ x, foldedSetIterable iter env x = pure x := by intro _; exact rfl) : Ex1 D k env V ow (.For (.Name x p) iter body [] pos) R := by
  intro A hA G s Q E c hQ
  refine wpAny_For (h A hA G s _ E c fun G1 s1 v t1 r1 => ?_) hs
  cases r1 with
  | @list a o vs n _ e1 c1 z1 r1 =>
    have cc := c.step t1
    have hg := t1.inn _ _ e1
    refine wpAny_pyIter_list ⟨o, hg, c1, n, z1⟩ ?_
    have nI : ∀ b o, s1.heap.get? b = some o → b ≠ s1.heap.objs.size := fun b o e => Nat.ne_of_lt (Heap.lt_size e)
    have sI : s1.heap.get? s1.heap.objs.size = none := fresh_size (Kp.refl _)
    have t2 := Step.push t1.inn { cls := .type "list_iterator", data := .fields #[.ref a, .int 0 0] }
    have cc2 := cc.step t2
    have W := Walks.list (prog := prog) (w := w) hA.1 s1.heap.objs.size a (nI a o hg) vs.toArray
    have hlen : vs.toArray.size = xs.length := by simp [r1.length]
    rw [hlen] at W
    have offI : ¬ Foot env ow s1.heap.objs.size := fun z => by
      rcases z with z | ⟨y, z⟩ | z
      · obtain ⟨m, hm⟩ := cc.loc
        obtain ⟨o', e'⟩ := Ns.there hm
        exact nI _ _ e' z.symm
      · obtain ⟨_, _, ov, o', e', _⟩ := cc.cel y _ z
        exact nI _ _ e' rfl
      · obtain ⟨o', e'⟩ := cc.own.held.there z
        exact nI _ _ e' rfl
    have offG : ∀ b o', G1 b = some o' → ¬ Foot env ow b := fun b o' e z => by
      rcases z with z | ⟨y, z⟩ | z
      · rw [z, cc.offL] at e; cases e
      · rw [(cc.cel y b z).1] at e; cases e
      · rw [(cc.own.off b z).1] at e; cases e
    refine for_walks (s := s1) (xs := fun i => xs.getD i .none) ok hx hA W cc2 ⟨⟨_, Heap.get?_push_size _ rfl, rfl, rfl⟩, ⟨o, Heap.get?_push_of_some _ hg, c1, n, z1⟩⟩ t2.ss ?_ ?_ ?_ ?_ ?_ J h0 hname (fun i V ow hi hJ => turn i _ V ow (by simp [List.getD, hi]) hJ) fin (fun G' s' f fl V' ow' t c2 fr hr => hQ G' s' f fl V' ow' (t1.ss.trans t) c2 fr hr)
    · intro b hb
      rw [List.mem_singleton.mp hb]; exact sI
    · intro b hb
      rw [List.mem_singleton.mp hb]
      cases z : G1 s1.heap.objs.size with
      | none => rfl
      | some o' => exact absurd rfl (nI _ _ (t1.inn _ _ z))
    · intro b hb
      rcases List.mem_cons.mp hb with rfl | hb
      · exact ⟨offI, _, Heap.get?_push_size _ rfl⟩
      · rw [List.mem_singleton.mp hb]
        exact ⟨offG a o e1, o, Heap.get?_push_of_some _ hg⟩
    · intro i v hv
      obtain ⟨d, hd, rd⟩ := r1.get' (i := i) (v := v) (by simpa using hv)
      simpa [List.getD, hd] using rd
    · intro i h st b hb
      rw [List.mem_singleton.mp hb]
      obtain ⟨o', e', _⟩ := st.1
      exact ⟨o', e'⟩
end
end Mine
namespace Mine
section
variable {prog : Program} {w : World} {D : Md prog w} {k : Nat} {env : Env} {V : Vars} {ow : Own} {R : Fl → Vars → Own → Prop}

/-! a thing of one's own begins -/
theorem Ss.foot_live {G : Gh} {s : Shared} (c : Ss D env V ow G s) {b : Addr} (f : Foot env ow b) : ∃ o, s.heap.get? b = some o := by
  rcases f with z | ⟨y, z⟩ | z
  · obtain ⟨m, hm⟩ := c.loc
    exact z ▸ Ns.there hm
  · obtain ⟨_, _, ov, o', e', _⟩ := c.cel y _ z
    exact ⟨o', e'⟩
  · exact c.own.held.there z
theorem Ss.gain {G : Gh} {s s2 : Shared} {x : Str} {b : Addr} {own : Own} (ok : EnvOk env) (c : Ss D env V .none G s) (hb : G b = none) (hf : ¬ Foot env .none b) (ha : own.addr = some b) (hn : own.name = some x)
    (t : Stored env s x (.ref b) s2) (hv : V.lookup x = none) (held : Held prog w G s2.heap own) : Ss D env V own G s2 := by
  refine ⟨⟨c.es.g0, t.sub c, fun y d' e => ?_⟩, c.offL, t.loc, fun y z e => ⟨(c.cel y z e).1, (c.cel y z e).2.1, t.cel y z e⟩, c.inj, ?_, fun a y e1 e2 => ?_, held⟩
  · obtain ⟨v', q1, q2⟩ := c.es.sees y d' e
    exact ⟨v', t.oth y v' (fun z => by rw [z, hv] at e; cases e) q1, q2⟩
  · intro a e
    rw [ha] at e; cases e
    exact ⟨hb, fun z => hf (.inl z), fun y c' e z => hf (.inr (.inl ⟨y, z ▸ e⟩))⟩
  · rw [ha] at e1; cases e1
    rw [hn] at e2; cases e2
    exact t.at_
theorem Ex1.newList {x : Str} {p pos pos2 : Pos} (ok : EnvOk env) (hx : Name env x) (hv : V.lookup x = none) (hR : ∀ a, R .next V (.list x a [])) (hs : swapsWith (.List [] pos2) (some (.Name x p)) pos.line env = pure false := by exact rfl) :
    Ex1 D k env V .none (.Assign [.Name x p] (.List [] pos2) pos) R := by
  intro A hA G s Q E c hQ
  have t1 := Step.push c.es.inn (listO [] 0)
  have c1 := c.step t1
  have nb : ¬ Foot env .none s.heap.objs.size := fun f => by
    obtain ⟨o, e⟩ := c.foot_live f
    exact absurd (Heap.lt_size e) (Nat.lt_irrefl _)
  have gb : G s.heap.objs.size = none := by
    cases z : G s.heap.objs.size with
    | none => rfl
    | some o => exact absurd (Heap.lt_size (c.es.inn _ _ z)) (Nat.lt_irrefl _)
  refine wpAny_Assign_Name (wpAny_List (wpAny_items_nil ⟨Nat.zero_le _, store ok hx c1 fun s2 t2 => ?_⟩)) hs
  have held : Held prog w G s2.heap (.list x s.heap.objs.size []) := ⟨[], 0, t2.kp _ _ (fun z => nb (.inl z)) (fun y z => nb (.inr (.inl ⟨y, z⟩))) (Heap.get?_push_size _ rfl), .nil⟩
  have c2 := c1.gain ok gb nb rfl rfl t2 hv held
  refine hQ G s2 _ _ V (.list x s.heap.objs.size []) ⟨?_, Le.refl _, fun b o nf e => t2.kp b o (fun z => nf (.inl z)) (fun y z => nf (.inr (.inl ⟨y, z⟩))) (Heap.get?_push_of_some _ e), fun b o e => t2.live b o (Heap.get?_push_of_some _ e), fun b o e => .inl e, fun a e => ?_⟩ c2 .next (hR _)
  · obtain ⟨h, tk, e⟩ := t2.shp
    exact ⟨h, tk, e⟩
  · cases e
    exact .inr (fresh_size (Kp.refl _))
theorem Ex1.newDict0 {x : Str} {p pos pos2 : Pos} (ok : EnvOk env) (hx : Name env x) (hv : V.lookup x = none) (hR : ∀ a, R .next V (.dict x a [])) (hs : swapsWith (.Dict [] [] pos2) (some (.Name x p)) pos.line env = pure false := by exact rfl) :
    Ex1 D k env V .none (.Assign [.Name x p] (.Dict [] [] pos2) pos) R := by
  intro A hA G s Q E c hQ
  have t1 := Step.push c.es.inn { cls := .type "dict", data := .dict #[] }
  have c1 := c.step t1
  have nb : ¬ Foot env .none s.heap.objs.size := fun f => by
    obtain ⟨o, e⟩ := c.foot_live f
    exact absurd (Heap.lt_size e) (Nat.lt_irrefl _)
  have gb : G s.heap.objs.size = none := by
    cases z : G s.heap.objs.size with
    | none => rfl
    | some o => exact absurd (Heap.lt_size (c.es.inn _ _ z)) (Nat.lt_irrefl _)
  have sm : (s.heap.objs.size == sysModules) = false := by
    have := (D.g.keeps c.es.base).lt
    have h1 : s.heap.objs.size ≠ sysModules := fun z => by rw [z] at this; exact absurd this (by decide)
    simpa using h1
  refine wpAny_Assign_Name (wpAny_Dict_empty (store ok hx c1 fun s2 t2 => ?_)) hs
  have g2 := t2.kp _ _ (fun z => nb (.inl z)) (fun y z => nb (.inr (.inl ⟨y, z⟩))) (Heap.get?_push_size s.heap (o := { cls := .type "dict", data := .dict #[] }) rfl)
  have held : Held prog w G s2.heap (.dict x s.heap.objs.size []) := ⟨sm, [], ⟨_, #[], 0, g2, ⟨rfl, rfl, rfl⟩, rfl, fun _ he => by simp at he, .nil, List.nodup_nil⟩, .nil⟩
  have c2 := c1.gain ok gb nb rfl rfl t2 hv held
  refine hQ G s2 _ _ V (.dict x s.heap.objs.size []) ⟨?_, Le.refl _, fun b o nf e => t2.kp b o (fun z => nf (.inl z)) (fun y z => nf (.inr (.inl ⟨y, z⟩))) (Heap.get?_push_of_some _ e), fun b o e => t2.live b o (Heap.get?_push_of_some _ e), fun b o e => .inl e, fun a e => ?_⟩ c2 .next (hR _)
  · obtain ⟨h, tk, e⟩ := t2.shp
    exact ⟨h, tk, e⟩
  · cases e
    exact .inr (fresh_size (Kp.refl _))

/-! it is turned -/
/-- the held thing's object is written anew, all else stands -/
theorem Ss.turn {G : Gh} {s : Shared} {h' : Heap} {tk : Nat} {a : Addr} {ow' : Own} {o' : Obj} (c : Ss D env V ow G s) (ha : ow.addr = some a) (ha' : ow'.addr = some a) (hn : ow'.name = ow.name) (hs : Heap.SameBut a s.heap h')
    (e' : h'.get? a = some o') (held : Held prog w G h' ow') : SStep env ow G s ow' G { s with heap := h', toks := tk } ∧ Ss D env V ow' G { s with heap := h', toks := tk } := by
  obtain ⟨ga, nL, nC⟩ := c.own.off a ha
  have va : ∀ y v, VarAt env s.heap y v → VarAt env h' y v := fun y v q => by
    refine ⟨q.1, q.2.imp ?_ ?_⟩
    · rintro ⟨q1, m, q2, z⟩
      exact ⟨q1, m, q2.sameBut hs (Ne.symm nL), z⟩
    · rintro ⟨q1, b, e, z⟩
      exact ⟨q1, b, e, z.sameBut hs (nC y b e)⟩
  refine ⟨⟨⟨h', tk, rfl⟩, Le.refl _, fun b o nf e => (hs.2 b fun z => nf (.inr (.inr (z ▸ ha)))).trans e, sameBut_live hs e', fun _ _ e => .inl e, fun b e => .inl (by rw [ha'] at e; cases e; exact ha)⟩,
    ⟨c.es.g0, fun b o e => (hs.2 b fun z => by rw [z, ga] at e; cases e).trans (c.es.inn b o e), fun y d e => ?_⟩, c.offL, ?_, fun y b e => ?_, c.inj, ?_, fun b y e1 e2 => ?_, held⟩
  · obtain ⟨v, q1, q2⟩ := c.es.sees y d e
    exact ⟨v, va y v q1, q2⟩
  · obtain ⟨m, hm⟩ := c.loc
    exact ⟨m, hm.sameBut hs (Ne.symm nL)⟩
  · obtain ⟨q1, q2, ov, z⟩ := c.cel y b e
    exact ⟨q1, q2, ov, z.sameBut hs (nC y b e)⟩
  · intro b e
    rw [ha'] at e; cases e
    exact ⟨ga, nL, nC⟩
  · rw [ha'] at e1; cases e1
    exact va y _ (c.own.at_ a y ha (by rw [← hn]; exact e2))
theorem load {A : Around} {s : Shared} {x : Str} {v : Value} {p : Pos} {Q : Value → Shared → Prop} {E : Value → Shared → Prop} (ok : EnvOk env) (h : VarAt env s.heap x v) (hQ : Q v s) : wpAny (model prog w) A (eval (.Name x p) env) Q E s := by
  obtain ⟨hd, hv⟩ := h
  rcases hv with ⟨hk, m, hn, hm⟩ | ⟨hk, c, hc, hv⟩
  · exact wpAny_Name (wpAny_loadName_local ok.fn hk hn hm hQ) hd
  · exact wpAny_Name (wpAny_loadName_cell ok.fn hk hc hv hQ) hd
theorem Ex1.append {x : Str} {a : Addr} {xs : List PyData} {p apos cpos pos : Pos} {e : Expr} {d : PyData} (ok : EnvOk env) (h : EvS D k env V (.list x a xs) e d) (hz : xs.length ≤ sizeLine) (hR : R .next V (.list x a (xs ++ [d])))
    (h1 : attributeBase (.Name x p) "append" env (eval (.Name x p) env) = eval (.Name x p) env := by exact rfl) (h3 : (apos.endLine == cpos.line) = true := by exact rfl) (h4 : backTo cpos (starEach [e] env) = [(false, eval e env)] := by exact rfl)
    (hi : interactive env = false := by exact rfl) : Ex1 D k env V (.list x a xs) (.Expr (.Call (.Attribute (.Name x p) "append" apos) [e] [] cpos) pos) R := by
  intro A hA G s Q E c hQ
  refine wpAny_Expr_any (wpAny_Call_append h1 (by rw [h4]; rfl) h3 h4 (load ok (c.own.at_ a x rfl rfl) ?_)) hi (by rfl)
  obtain ⟨vs, n, eo, r⟩ := c.own.held
  refine ⟨a, vs.toArray, rfl, ⟨_, n, eo, rfl, rfl, rfl⟩, h A hA G s _ E c fun G1 s1 v t1 r1 => ?_⟩
  have c1 := c.step t1
  have hl := r.length
  refine wpAny_list_append_plain ⟨n, t1.kp _ _ eo⟩ (fun h' hp hs => ?_) (by rw [List.size_toArray, hl]; exact hz)
  obtain ⟨n', e'⟩ := hp
  have e2 : vs.toArray.push v = (vs ++ [v]).toArray := by simp
  rw [e2] at e'
  obtain ⟨t2, c2⟩ := c1.turn (ow' := .list x a (xs ++ [d])) (tk := s1.toks) rfl rfl rfl hs e' ⟨_, n', e', (r.mono t1.le).append (.cons r1 .nil)⟩
  exact hQ _ _ _ _ _ _ (t1.ss.trans t2) c2 .next hR
theorem Ex1.setItem {x key : Str} {a : Addr} {kvs : List (PyData × PyData)} {p pos' pos : Pos} {i e : Expr} {d : PyData} (ok : EnvOk env) (h : EvS D k env V (.dict x a kvs) e d) (hi : EvS D k env V (.dict x a kvs) i (.str key)) (hz : kvs.length ≤ sizeLine)
    (put : List (PyData × PyData)) (hput : ∀ (G : Gh) kv v, RdKv prog w G kv kvs → Rd prog w G v d → RdKv prog w G (stored kv key v) put) (hR : R .next V (.dict x a put))
    (hs : swapsWith e (some ((Expr.Name x p).Subscript i pos')) pos.line env = pure false := by exact rfl) : Ex1 D k env V (.dict x a kvs) (.Assign [.Subscript (.Name x p) i pos'] e pos) R := by
  intro A hA G s Q E c hQ
  refine wpAny_Assign_Subscript (h A hA G s _ E c fun G1 s1 v t1 r1 => ?_) hs
  have c1 := c.step t1
  refine load ok (c1.own.at_ a x rfl rfl) (hi A hA G1 s1 _ E c1 fun G2 s2 kv2 t2 r2 => ?_)
  have c2 := c1.step t2
  cases r2
  obtain ⟨sm, kv, hd, hr⟩ := c2.own.held
  have hl : kv.length = kvs.length := by
    have : ∀ {G : Gh} {kv : List (Str × Value)} {ds}, RdKv prog w G kv ds → kv.length = ds.length := by
      intro G kv
      induction kv with
      | nil => intro ds h; cases h; rfl
      | cons z r ih => intro ds h; cases h with | cons _ q => rw [List.length_cons, List.length_cons, ih q]
    exact this hr
  refine wpAny_setItem_pairs (strKind_is prog w key _) hd (fun h' hd' hs' => ?_) (by rw [hl]; exact hz)
  have hd2 := hd'
  obtain ⟨o, es, ep, eo, _⟩ := hd'
  obtain ⟨t3, c3⟩ := c2.turn (ow' := .dict x a put) (tk := s2.toks + 1) rfl rfl rfl hs' eo ⟨sm, _, hd2, hput _ _ _ hr (r1.mono t2.le)⟩
  exact hQ _ _ _ _ _ _ ((t1.ss.trans t2.ss).trans t3) c3 .next hR

theorem RdKv.length {G : Gh} : ∀ {kv : List (Str × Value)} {ds : List (PyData × PyData)}, RdKv prog w G kv ds → kv.length = ds.length
  | _, _, .nil => rfl
  | _, _, .cons _ r => by rw [List.length_cons, List.length_cons, r.length]
/-- xs.pop() as a statement of its own: the value is no object -/
theorem Ex1.popLast {x : Str} {a : Addr} {xs : List PyData} {y : PyData} {p apos cpos pos : Pos} (ok : EnvOk env) (hz : (xs ++ [y]).length ≤ sizeLine) (hR : R .next V (.list x a xs))
    (h1 : attributeBase (.Name x p) "pop" env (eval (.Name x p) env) = eval (.Name x p) env := by exact rfl) (h3 : (apos.endLine == cpos.line) = true := by exact rfl)
    (hi : interactive env = false := by exact rfl) : Ex1 D k env V (.list x a (xs ++ [y])) (.Expr (.Call (.Attribute (.Name x p) "pop" apos) [] [] cpos) pos) R := by
  intro A hA G s Q E c hQ
  refine wpAny_Expr_any (wpAny_Call_method_lateS h1 (by rfl) h3 (load ok (c.own.at_ a x rfl rfl) ?_)) hi (by rfl)
  obtain ⟨vs, n, eo, r⟩ := c.own.held
  obtain ⟨vs', v, rfl, r1, r2⟩ : ∃ vs' v, vs = vs' ++ [v] ∧ RdAll prog w G vs' xs ∧ Rd prog w G v y := by
    have : ∀ {xs : List PyData} {vs : List Value}, RdAll prog w G vs (xs ++ [y]) → ∃ vs' v, vs = vs' ++ [v] ∧ RdAll prog w G vs' xs ∧ Rd prog w G v y := by
      intro xs
      induction xs with
      | nil => intro vs h; cases h with | cons q z => cases z; exact ⟨[], _, rfl, .nil, q⟩
      | cons d xs ih =>
        intro vs h
        cases h with
        | cons q z =>
          obtain ⟨vs', v, rfl, a1, a2⟩ := ih z
          exact ⟨_ :: vs', v, rfl, .cons q a1, a2⟩
    exact this r
  refine ⟨"list", _, F.plainAttrs_list, F.slot_list_pop, F.type_list_pop, ⟨_, eo, rfl⟩, (fun b e => by cases e; exact ⟨_, eo, rfl⟩), ?_⟩
  refine Calls.callWith_builtin rfl (PyProof.Rows.evalArgs_none ?_)
  have hsz : (vs' ++ [v]).toArray.size = xs.length + 1 := by simp [r1.length]
  refine call_meets F.slot_list_pop ⟨_, eo, rfl⟩ F.entry_list_pop (F.args_list_pop_1 _) (PySem.MeetsSeq.list_pop_last a (vs' ++ [v]).toArray n v (by simp) (by rw [hsz]; simpa using hz)) ⟨eo, ?_⟩
  have e2 : ((vs' ++ [v]).toArray.eraseIdxIfInBounds ((vs' ++ [v]).toArray.size - 1)) = vs'.toArray := by
    apply Array.toList_inj.mp
    simp [List.eraseIdx_eq_take_drop_succ]
  have hs := Heap.SameBut.update s.heap a (Obj.mapSeq fun xs => xs.eraseIdxIfInBounds ((vs' ++ [v]).toArray.size - 1))
  obtain ⟨n', e'⟩ : ∃ n', (s.heap.update a (Obj.mapSeq fun xs => xs.eraseIdxIfInBounds ((vs' ++ [v]).toArray.size - 1))).get? a = some (listO vs' n') := by
    have q := get?_update_seq (c := "list") eo (fun xs => xs.eraseIdxIfInBounds ((vs' ++ [v]).toArray.size - 1))
    simp only [e2] at q
    exact ⟨_, q⟩
  obtain ⟨t2, c2⟩ := c.turn (ow' := .list x a xs) (tk := s.toks) rfl rfl rfl hs e' ⟨_, n', e', r1⟩
  exact hQ _ _ _ _ _ _ t2 c2 .next hR
/-- d.pop(key) as a statement of its own -/
theorem Ex1.popKey {x key : Str} {a : Addr} {kvs put : List (PyData × PyData)} {p apos cpos pos : Pos} {e : Expr} (ok : EnvOk env) (h : EvS D k env V (.dict x a kvs) e (.str key)) (hz : kvs.length ≤ sizeLine)
    (hin : ∀ (G : Gh) kv, RdKv prog w G kv kvs → (valueAt kv key).isSome = true) (hput : ∀ (G : Gh) kv, RdKv prog w G kv kvs → RdKv prog w G (without kv key) put) (hR : R .next V (.dict x a put))
    (h1 : attributeBase (.Name x p) "pop" env (eval (.Name x p) env) = eval (.Name x p) env := by exact rfl) (h3 : (apos.endLine == cpos.line) = true := by exact rfl) (h4 : backTo cpos (starEach [e] env) = [(false, eval e env)] := by exact rfl)
    (hi : interactive env = false := by exact rfl) : Ex1 D k env V (.dict x a kvs) (.Expr (.Call (.Attribute (.Name x p) "pop" apos) [e] [] cpos) pos) R := by
  intro A hA G s Q E c hQ
  refine wpAny_Expr_any (wpAny_Call_method_lateS h1 (by rw [h4]; rfl) h3 (load ok (c.own.at_ a x rfl rfl) ?_)) hi (by rfl)
  obtain ⟨sm0, kv0, ⟨o, es, ep, eo, xo, xr⟩, r⟩ := c.own.held
  rw [h4]
  refine ⟨"dict", _, F.plainAttrs_dict, F.slot_dict_pop, F.type_dict_pop, ⟨_, eo, xo.1⟩, (fun b e => by cases e; exact ⟨_, eo, xo.2.1⟩), ?_⟩
  refine Calls.callWith_builtin rfl (Calls.evalArgs_plain (Calls.spliced_cons (h A hA G s _ E c fun G1 s1 v t1 r1 => Calls.spliced_nil ?_)))
  have c1 := c.step t1
  cases r1
  obtain ⟨sm, kv, hd, hr⟩ := c1.own.held
  have hd0 := hd
  obtain ⟨o1, es1, ep1, eo1, xo1, _⟩ := hd0
  obtain ⟨v, hv⟩ := Option.isSome_iff_exists.mp (hin _ _ hr)
  show wpAny (model prog w) A (call (.builtin "dict.pop") [.ref a, .str key _]) _ E s1
  refine call_meetsIn F.slot_dict_pop ⟨_, eo1, xo1.1⟩ F.entry_dict_pop (F.args_dict_pop_2 _ _) (meets_dict_pop_there (strKind prog w) a (strKind_is prog w key _) [] (.inl rfl) rfl) ⟨kv, v, hd, by rw [hr.length]; exact hz, hv, fun h' hd' hs' => ?_⟩
  have hd2 := hd'
  obtain ⟨o2, es2, ep2, eo2, _⟩ := hd'
  obtain ⟨t3, c3⟩ := c1.turn (ow' := .dict x a put) (tk := s1.toks + 1) rfl rfl rfl hs' eo2 ⟨sm, _, hd2, hput _ _ hr⟩
  exact hQ _ _ _ _ _ _ (t1.ss.trans t3) c3 .next hR
end
end Mine
namespace Mine
section
variable {prog : Program} {w : World} {D : Md prog w} {k : Nat} {env : Env} {V : Vars} {ow : Own} {R : Fl → Vars → Own → Prop}

theorem bindL_other {kindOf : Str → Option NameKind} {y : Str} : ∀ (binds : List (Str × Value)) (m : Str → Option Value), y ∉ binds.map (·.1) → bindL kindOf binds m y = m y
  | [], _, _ => rfl
  | (n, v) :: r, m, h => by
    have hn : y ≠ n := fun q => h (by simp [q])
    have hr : y ∉ r.map (·.1) := fun q => h (by simp only [List.map_cons]; exact List.mem_cons_of_mem _ q)
    rw [bindL, bindL_other r _ hr]
    split
    · exact if_neg hn
    · rfl
theorem bindC_other {kindOf : Str → Option NameKind} {y : Str} : ∀ (binds : List (Str × Value)) (m : Str → Option Value), y ∉ binds.map (·.1) → bindC kindOf binds m y = m y
  | [], _, _ => rfl
  | (n, v) :: r, m, h => by
    have hn : y ≠ n := fun q => h (by simp [q])
    have hr : y ∉ r.map (·.1) := fun q => h (by simp only [List.map_cons]; exact List.mem_cons_of_mem _ q)
    rw [bindC, bindC_other r _ hr]
    split
    · rfl
    · exact if_neg hn
theorem bindL_get {kindOf : Str → Option NameKind} {y : Str} {v : Value} : ∀ (binds : List (Str × Value)) (m : Str → Option Value), (binds.map (·.1)).Nodup → (y, v) ∈ binds → kindOf y = some .local → bindL kindOf binds m y = some v
  | (n, u) :: r, m, nd, h, hk => by
    rw [List.map_cons, List.nodup_cons] at nd
    rcases List.mem_cons.mp h with h | h
    · cases h
      rw [bindL, bindL_other r _ nd.1, if_pos hk]
      exact if_pos rfl
    · rw [bindL]; exact bindL_get r _ nd.2 h hk
theorem bindC_get {kindOf : Str → Option NameKind} {y : Str} {v : Value} : ∀ (binds : List (Str × Value)) (m : Str → Option Value), (binds.map (·.1)).Nodup → (y, v) ∈ binds → kindOf y = some .cell → bindC kindOf binds m y = some v
  | (n, u) :: r, m, nd, h, hk => by
    rw [List.map_cons, List.nodup_cons] at nd
    rcases List.mem_cons.mp h with h | h
    · cases h
      rw [bindC, bindC_other r _ nd.1, if_neg (by rw [hk]; simp)]
      exact if_pos rfl
    · rw [bindC]; exact bindC_get r _ nd.2 h hk

/-- where a def stands -/
structure FnAt (D : Md prog w) (name : Str) (params : Arguments) (body : List Stmt) (scope : Scope) (a : Addr) (pm cd doc : Value) : Prop where
  mg : D.mg name = some (.ref a)
  obj : ∃ o, D.H.get? a = some o ∧ o.data = .func (Calls.docDef name params body scope pm cd doc)
  code : D.H.CodeRec cd name
abbrev fenv (name : Str) (params : Arguments) (body : List Stmt) (scope : Scope) (a L : Addr) (pm cd doc : Value) : Env := callEnvC (Calls.docDef name params body scope pm cd doc) L a
theorem fenv_ok {name : Str} {params : Arguments} {body : List Stmt} {scope : Scope} {a L : Addr} {pm cd doc : Value} (h : scope.kind = .function) : EnvOk (fenv name params body scope a L pm cd doc) := ⟨h, rfl, rfl⟩

/-- what is known at a def's start -/
theorem entry {name : Str} {params : Arguments} {body : List Stmt} {scope : Scope} {a : Addr} {pm cd doc : Value} {G : Gh} {s s₁ : Shared} {binds : List (Str × Value)}
    (x : InCallC s (fenv name params body scope a s.heap.objs.size pm cd doc).locals (bindL (fenv name params body scope a s.heap.objs.size pm cd doc).kindOf binds fun _ => none) (fenv name params body scope a s.heap.objs.size pm cd doc).cells
      (bindC (fenv name params body scope a s.heap.objs.size pm cd doc).kindOf binds fun _ => none) s₁)
    (g0 : In0 D G) (hi : Sub G s.heap) (hnd : (binds.map (·.1)).Nodup) (hname : ∀ b ∈ binds, Name (fenv name params body scope a s.heap.objs.size pm cd doc) b.1)
    (hcells : ((cellsFrom 0 scope.names []).map (·.1)).Nodup)
    (hV : ∀ y d, V.lookup y = some d → ∃ v, (y, v) ∈ binds ∧ Rd prog w G v d)
    (hown : ∀ b, ow.addr = some b → G b = none) (hown2 : ∀ b y, ow.addr = some b → ow.name = some y → (y, .ref b) ∈ binds) (held : Held prog w G s.heap ow) :
    Ss D (fenv name params body scope a s.heap.objs.size pm cd doc) V ow G s₁ := by
  have kp : Kp s.heap s₁.heap := x.toInCall.keep
  have gnew : ∀ b, s.heap.objs.size ≤ b → G b = none := fun b hb => by
    cases z : G b with
    | none => rfl
    | some o => exact absurd (Heap.lt_size (hi _ _ z)) (Nat.not_lt.mpr hb)
  have va : ∀ y v, (y, v) ∈ binds → VarAt (fenv name params body scope a s.heap.objs.size pm cd doc) s₁.heap y v := fun y v hm => by
    obtain ⟨h1, h2⟩ := hname _ hm
    refine ⟨h1, h2.imp ?_ ?_⟩
    · intro hk
      exact ⟨hk, _, x.toInCall.ns, bindL_get binds _ hnd hm hk⟩
    · rintro ⟨hk, c, hc⟩
      refine ⟨hk, c, hc, ?_⟩
      have := x.cell y c hc
      rw [bindC_get binds _ hnd hm hk] at this
      exact this
  have hcm : ∀ y c, (fenv name params body scope a s.heap.objs.size pm cd doc).cells.lookup y = some c → s.heap.objs.size < c := fun y c e => x.above y c (mem_of_lookup e)
  refine ⟨⟨g0, hi.kp kp, fun y d e => ?_⟩, gnew _ (Nat.le_refl _), ⟨_, x.toInCall.ns⟩, fun y c e => ⟨gnew _ (Nat.le_of_lt (hcm y c e)), Nat.ne_of_gt (hcm y c e), _, x.cell y c e⟩, fun y z c e1 e2 => ?_, ?_, fun b y e1 e2 => va _ _ (hown2 b y e1 e2), ?_⟩
  · obtain ⟨v, hm, r⟩ := hV y d e
    exact ⟨v, va y v hm, r⟩
  · have h1 := mem_of_lookup e1
    have h2 := mem_of_lookup e2
    have : ∀ (l : List (Str × Addr)), l.Pairwise (fun x y => x.2 ≠ y.2) → (y, c) ∈ l → (z, c) ∈ l → y = z := by
      intro l hp
      induction hp with
      | nil => intro h; cases h
      | cons hh _ ih =>
        intro m1 m2
        rcases List.mem_cons.mp m1 with m1 | m1
        · rcases List.mem_cons.mp m2 with m2 | m2
          · rw [← m1] at m2; exact (congrArg Prod.fst m2).symm
          · exact absurd (show _ = c from (congrArg Prod.snd m1).symm) (hh (z, c) m2)
        · rcases List.mem_cons.mp m2 with m2 | m2
          · exact absurd (show _ = c from (congrArg Prod.snd m2).symm) (hh (y, c) m1)
          · exact ih m1 m2
    exact this _ x.apart h1 h2
  · intro b e
    obtain ⟨o, eo⟩ := held.there e
    have hlt := Heap.lt_size eo
    exact ⟨hown b e, Nat.ne_of_lt hlt, fun y c e => Nat.ne_of_gt (Nat.lt_trans hlt (hcm y c e))⟩
  · exact held.step (Le.refl _) fun b o _ e => kp b o e
def Fl.val : Fl → PyData
  | .ret d => d
  | _ => .none
theorem zip_lookup {names : List Str} : ∀ {ds : List PyData} {vs : List Value} {G : Gh}, RdAll prog w G vs ds → ∀ y d, (names.zip ds).lookup y = some d → ∃ v, (y, v) ∈ names.zip vs ∧ Rd prog w G v d := by
  induction names with
  | nil => intro ds vs G _ y d h; simp at h
  | cons n r ih =>
    intro ds vs G h y d e
    cases h with
    | nil => simp at e
    | cons a q =>
      rw [List.zip_cons_cons, List.lookup_cons] at e
      cases hy : y == n with
      | true =>
        rw [hy] at e
        cases e
        exact ⟨_, by rw [List.zip_cons_cons, eq_of_beq hy]; exact List.mem_cons_self, a⟩
      | false =>
        rw [hy] at e
        obtain ⟨v, m, z⟩ := ih q y d e
        exact ⟨v, by rw [List.zip_cons_cons]; exact List.mem_cons_of_mem _ m, z⟩
theorem zip_fst {names : List Str} {vs : List Value} (h : names.length = vs.length) : (names.zip vs).map (·.1) = names := by
  induction names generalizing vs with
  | nil => rfl
  | cons n r ih =>
    cases vs with
    | nil => cases h
    | cons v vs => simp only [List.zip_cons_cons, List.map_cons]; rw [ih (by simpa using h)]
/-- the conditions on a def's head, all of them looks at the text -/
structure HeadOk (name : Str) (params : Arguments) (body : List Stmt) (scope : Scope) (names : List Str) : Prop where
  bind : ∀ pm cd doc vals, vals.length = names.length → bindArgs (Calls.docDef name params body scope pm cd doc) ⟨vals, []⟩ = pure (names.zip vals)
  nd : names.Nodup
  kinds : ∀ n ∈ names, (n == ("__debug__" : Str)) = false ∧ (scope.names.lookup n = some .local ∨ (scope.names.lookup n = some .cell ∧ ((cellsFrom 0 scope.names []).lookup n).isSome = true))
  cells : ((cellsFrom 0 scope.names []).map (·.1)).Nodup
  fn : scope.kind = .function
  co : scope.isCoroutine = false
  gen : scope.isGenerator = false
theorem cells_shift {names : List (Str × NameKind)} {n : Str} (m : Nat) : ((cellsFrom 0 names []).lookup n).isSome = true → ((cellsFrom m names []).lookup n).isSome = true := by
  have : ∀ (names : List (Str × NameKind)) (a b : Nat) (acc acc' : List (Str × Addr)), ((acc.lookup n).isSome = true → (acc'.lookup n).isSome = true) → ((cellsFrom a names acc).lookup n).isSome = true → ((cellsFrom b names acc').lookup n).isSome = true := by
    intro names
    induction names with
    | nil => intro a b acc acc' h; exact h
    | cons x r ih =>
      obtain ⟨y, kd⟩ := x
      intro a b acc acc' h
      unfold cellsFrom
      by_cases hk : (kd == NameKind.cell) = true
      · rw [if_pos hk, if_pos hk]
        refine ih _ _ _ _ ?_
        rw [List.lookup_cons, List.lookup_cons]
        cases n == y with
        | true => simp
        | false => exact h
      · rw [if_neg hk, if_neg hk]
        exact ih _ _ _ _ h
  exact this names 0 m [] [] id
theorem HeadOk.name {name : Str} {params : Arguments} {body : List Stmt} {scope : Scope} {names : List Str} (h : HeadOk name params body scope names) {n : Str} (hn : n ∈ names) (a L : Addr) (pm cd doc : Value) : Name (fenv name params body scope a L pm cd doc) n := by
  obtain ⟨h1, h2⟩ := h.kinds n hn
  refine ⟨h1, h2.imp id ?_⟩
  rintro ⟨q1, q2⟩
  exact ⟨q1, Option.isSome_iff_exists.mp (cells_shift (L + 1) q2)⟩
theorem FnAt.call {name : Str} {params : Arguments} {body : List Stmt} {scope : Scope} {a : Addr} {pm cd doc : Value} {names : List Str} {ds : List PyData} {d : PyData} (F : FnAt D name params body scope a pm cd doc) (H : HeadOk name params body scope names)
    (hlen : names.length = ds.length) (hb : ∀ L, Ex D k (fenv name params body scope a L pm cd doc) (names.zip ds) .none body fun fl _ _ => fl.val = d) : CallTo D (k + 1) (.ref a) ds d := by
  intro A hA G s vs Q E g0 hi rs hQ
  obtain ⟨o, ho, hd⟩ := F.obj
  have base : Kp D.H s.heap := fun b o q => hi _ _ (g0 b o q)
  have hl : names.length = vs.length := hlen.trans rs.length.symm
  refine wpAny_call (codeAny_call_cells (binds := names.zip vs) hA.depth (base _ _ ho) hd (D.nl.keeps base) (F.code.keeps base) rfl (H.bind pm cd doc vs hl.symm) rfl (fun b hb' => ?_) (fun s₁ x => ?_) H.co H.gen H.fn)
  · have hm : b.1 ∈ names := by
      have : b.1 ∈ (names.zip vs).map (·.1) := List.mem_map_of_mem hb'
      rwa [zip_fst hl] at this
    exact (H.kinds b.1 hm).2.imp id fun ⟨q1, q2⟩ => ⟨q1, cells_shift _ q2⟩
  · have c := entry (D := D) (V := names.zip ds) (ow := .none) x g0 hi (by rw [zip_fst hl]; exact H.nd) (fun b hb' => H.name (by
        have : b.1 ∈ (names.zip vs).map (·.1) := List.mem_map_of_mem hb'
        rwa [zip_fst hl] at this) _ _ _ _ _) H.cells (zip_lookup rs) (fun b e => nomatch e) (fun b y e => nomatch e) trivial
    obtain ⟨h1, tk1, e1, kp1⟩ := x.done
    refine wpAny_mono (hb _ _ (hA.deeper _) G s₁ (fun f s' => ∃ G', Step G s G' s' ∧ Rd prog w G' (match f with | .ret v => v | _ => .none) d) (fun _ _ => False) c fun G' s' f fl V' ow' t c' fr hR => ⟨G', ⟨?_, t.le, c'.es.inn, fun b o' e => t.kp b o' (fun f => ?_) (x.toInCall.keep _ _ e), fun b o' e => ?_⟩, ?_⟩) (fun f s' q => ?_) fun _ _ z => z.elim
    · obtain ⟨h2, tk2, e2⟩ := t.shp
      exact ⟨h2, tk2, by rw [e2, e1]⟩
    · have hlt := Heap.lt_size e
      rcases f with z | ⟨y, z⟩ | z
      · rw [z] at hlt; exact Nat.lt_irrefl _ hlt
      · exact Nat.lt_irrefl _ (Nat.lt_trans hlt (x.above y b (mem_of_lookup z)))
      · cases z
    · rcases t.new b o' e with z | z | z
      · exact .inl z
      · refine .inr ?_
        cases y : s.heap.get? b with
        | none => rfl
        | some o2 => rw [x.toInCall.keep _ _ y] at z; cases z
      · cases z
    · subst hR
      cases fr with
      | next => exact .none
      | brk => exact .none
      | cont => exact .none
      | ret r => exact r
    · obtain ⟨G', t, r⟩ := q
      exact hQ G' s' _ t r
end
end Mine
section
set_option maxRecDepth 100000
namespace Mine
def dName : Stmt → Str | .FunctionDef n .. => n | _ => Str.empty
def dParams : Stmt → Arguments | .FunctionDef _ a .. => a | _ => default
def dBody : Stmt → List Stmt | .FunctionDef _ _ b .. => b | _ => []
def dScope : Stmt → Scope | .FunctionDef _ _ _ _ _ _ sc .. => sc | _ => default
/-- the i-th statement of the text is a def, and stands so -/
abbrev Fn (D : Md prog w) (i : Nat) (a : Addr) (pm cd doc : Value) : Prop := FnAt D (dName (stm i)) (dParams (stm i)) (dBody (stm i)) (dScope (stm i)) a pm cd doc
abbrev Hd (i : Nat) (names : List Str) : Prop := HeadOk (dName (stm i)) (dParams (stm i)) (dBody (stm i)) (dScope (stm i)) names
abbrev fe (i : Nat) (a L : Addr) (pm cd doc : Value) : Env := fenv (dName (stm i)) (dParams (stm i)) (dBody (stm i)) (dScope (stm i)) a L pm cd doc

def Knows (V W : Vars) : Prop := ∀ x d, W.lookup x = some d → V.lookup x = some d
theorem Knows.nil {V : Vars} : Knows V [] := fun _ _ h => nomatch h
theorem Knows.cons {V W : Vars} {x : Str} {d : PyData} (h : V.lookup x = some d) (r : Knows V W) : Knows V ((x, d) :: W) := fun y e q => by
  rw [List.lookup_cons] at q
  cases hy : y == x with
  | true => rw [hy] at q; cases q; rw [eq_of_beq hy]; exact h
  | false => rw [hy] at q; exact r y e q
theorem Knows.refl (V : Vars) : Knows V V := fun _ _ h => h
theorem Knows.more {V W : Vars} (x : Str) (d : PyData) (h : Knows V W) : Knows ((x, d) :: V) ((x, d) :: W) := fun y e q => by
  rw [List.lookup_cons] at q ⊢
  cases hy : y == x with
  | true => rw [hy] at q; exact q
  | false => rw [hy] at q; exact h y e q
section
variable {prog : Program} {w : World} {D : Md prog w} {k : Nat}

theorem small {n : Nat} (h : n ≤ 10000000) : n ≤ sizeLine := by rw [sizeLine_eq]; omega
theorem CmpR.neStr {x y : Str} : CmpR D k .NotEq (.str x) (.str y) (!decide (x = y)) := by
  intro A hA G s v1 v2 Q E g0 hi ra rb hQ
  cases ra; cases rb
  refine PySem.P.ne_str ?_
  have : (x.cps.toList != y.cps.toList) = !decide (x = y) := by
    rw [bne, PySem.SeqAt.str_beq]
    cases h : decide (x = y) <;> simp_all
  rw [this]
  exact hQ G _ (Step.refl hi)
theorem hd22 : Hd 22 ["place", "pieces"] where
  bind := by intro pm cd doc vals h; match vals, h with | [v1, v2], _ => rfl
  nd := by decide +kernel
  kinds := by decide +kernel
  cells := by decide +kernel
  fn := by rfl
  co := by rfl
  gen := by rfl

def downS (place : List Str) : List Str → List Str
  | [] => place
  | p :: r => downS (if p = ".." then place.take (place.length - 1) else if p ≠ "" ∧ p ≠ "." then place ++ [p] else place) r

set_option maxHeartbeats 1000000 in
theorem down_call {a : Addr} {pm cd doc : Value} (F : Fn D 22 a pm cd doc) (place pieces : List Str) (hz : place.length + pieces.length ≤ 1000) :
    CallTo D (k + 1) (.ref a) [.list (place.map .str), .list (pieces.map .str)] (.list ((downS place pieces).map .str)) := by
  refine F.call hd22 rfl fun L => ?_
  have ok : EnvOk (fe 22 a L pm cd doc) := fenv_ok hd22.fn
  refine Ex.cons (Ex1.forList (xs := pieces.map .str) ok (by exact ⟨rfl, .inl rfl⟩) (EvS.of (Ev.name ok rfl))
    (fun i V ow => ow = .none ∧ ∃ pl, Knows V [("place", .list (pl.map .str))] ∧ downS pl (pieces.drop i) = downS place pieces ∧ pl.length ≤ place.length + i) ⟨rfl, place, .cons rfl .nil, rfl, Nat.le_refl _⟩ (fun i V ow h => by rw [h.1]; decide) ?_ ?_)
  · rintro i d V ow hd ⟨rfl, pl, hk, hs, hl⟩
    obtain ⟨p, hp, rfl⟩ : ∃ p, pieces[i]? = some p ∧ d = .str p := by
      rw [List.getElem?_map] at hd
      cases h : pieces[i]? with
      | none => rw [h] at hd; cases hd
      | some p => rw [h] at hd; exact ⟨p, rfl, by simpa using hd.symm⟩
    have hi : i < pieces.length := (List.getElem?_eq_some_iff.mp hp).1
    have hdrop : pieces.drop i = p :: pieces.drop (i + 1) := by
      rw [List.drop_eq_getElem_cons hi]; congr 1; exact Option.some.inj ((List.getElem?_eq_getElem hi).symm.trans hp)
    rw [hdrop, downS] at hs
    refine Ex.weak (V' := ("piece", .str p) :: [("place", .list (pl.map .str))]) ?_ (Knows.more _ _ hk)
    refine Ex.cons (Ex1.ite (TrS.of (Tr.cmp (Ev.name ok rfl) Ev.cstr CmpR.eqStr)) (fun hc => ?_) (fun hc => ?_))
    · have hc := of_decide_eq_true hc
      rw [if_pos hc] at hs
      refine Ex.cons (Ex1.assign ok (by exact ⟨rfl, .inl rfl⟩) (EvS.of ((Ev.butLast (Ev.name ok rfl) (Ev.neg Ev.cint) (small (by rw [List.length_map]; omega))).to (d' := .list ((pl.take (pl.length - 1)).map .str)) (by rw [List.length_map, List.map_take]))) ?_)
      refine Ex.nil (Ex.nil ⟨rfl, _, .cons rfl .nil, hs, by simp only [List.length_take]; omega⟩)
    · have hc := of_decide_eq_false hc
      rw [if_neg hc] at hs
      refine Ex.cons (Ex1.ite (c := decide (p ≠ "" ∧ p ≠ ".")) (TrS.of (Tr.to (Tr.and (TrAnd.cons (Tr.cmp (Ev.name ok rfl) Ev.cstr CmpR.neStr) fun _ => TrAnd.cons (Tr.cmp (Ev.name ok rfl) Ev.cstr CmpR.neStr) fun _ => TrAnd.nil)) (by simp [Bool.decide_and]))) (fun hc2 => ?_) (fun hc2 => ?_))
      · rw [if_pos (of_decide_eq_true hc2)] at hs
        refine Ex.cons (Ex1.assign ok (by exact ⟨rfl, .inl rfl⟩) (EvS.of ((Ev.bin (Ev.name ok rfl) (Ev.list (EvL.cons (Ev.name ok rfl) EvL.nil) (small (by simp))) (BinR.addList (small (by simp; omega)))).to (d' := .list ((pl ++ [p]).map .str)) (by simp))) ?_)
        refine Ex.nil (Ex.nil (Ex.nil ⟨rfl, _, .cons rfl .nil, hs, by simp only [List.length_append, List.length_singleton]; omega⟩))
      · rw [if_neg (of_decide_eq_false hc2)] at hs
        refine Ex.nil (Ex.nil (Ex.nil ⟨rfl, _, .cons rfl .nil, hs, by omega⟩))
  · rintro V ow ⟨rfl, pl, hk, hs, hl⟩
    rw [List.length_map, List.drop_length, downS] at hs
    refine Ex.weak (V' := [("place", .list (pl.map .str))]) ?_ hk
    exact Ex.cons (Ex1.ret (EvS.of (Ev.name ok rfl)) (by rw [hs]; rfl))
end
end Mine
end
section
set_option maxRecDepth 100000
namespace Mine
section
variable {prog : Program} {w : World} {A : Around} {E : Value → Shared → Prop} {s : Shared}
theorem kind_issub_nested : builtinKind "issubclass.nested" = none := by decide +kernel
theorem plain_issub_nested : plainId "issubclass.nested" = true := by decide +kernel
theorem args_issub_nested (a b c : Value) : argsOk "issubclass.nested" ⟨[a, b, c], []⟩ := by unfold argsOk; kernel_rfl
theorem issub_nested_self {dep : Int} {tk : Tok} {Q : Fin → Shared → Prop} (hq : Q (.done (.ret (.bool true))) s) :
    wpAny (model prog w) A (Builtin.«issubclass.nested» ⟨[.type "str", .type "str", .int dep tk], []⟩) Q E s := by
  have h1 : typeOf (.type "str") = pure (.type "type") := F.isi_meta_str
  have h2 : isSubtype (.type "str") (.type "str") = pure true := F.sub_str_str
  repeat (any_goals (first | assumption | (rw [if_pos h1]) | (rw [h2]) | wp_step))
theorem issub_nested_tup {tp : Addr} {tk : Tok} {cs r : List Value} {Q : Fin → Shared → Prop} (htp : s.heap.get? tp = some { cls := .type "tuple", data := .seq cs.toArray }) (hcs : cs = .type "str" :: r)
    (hq : Q (.done (.ret (.bool true))) s) :
    wpAny (model prog w) A (Builtin.«issubclass.nested» ⟨[.type "str", .ref tp, .int 0 tk], []⟩) Q E s := by
  obtain ⟨h, g, d, t, os⟩ := s
  have hT2 : (⟨h, g, d, t, os⟩ : Shared).TypeIs (.ref tp) "tuple" := ⟨_, htp, rfl⟩
  have f1 := F.isi_sub_tuple
  repeat (any_goals (first | assumption | wp_step))
  refine wpAny_arrayLoop ?_
  simp only [Option.getD_some, List.toList_toArray]
  subst hcs
  rw [List.forIn_cons]
  refine wpAny_bind (wpAny_bind (call_function_meets kind_issub_nested plain_issub_nested F.entry_issubclass_nested (args_issub_nested _ _ _) (S := fun _ R s => R (.ok (.ret (.bool true))) s) (fun prog w A R s hs => issub_nested_self hs) ?_))
  show wpAny _ _ (truthy (.bool true) >>= _) _ _ _
  refine wpAny_bind (m := truthy (.bool true)) (wpAny_pure ?_)
  refine wpAny_bind (wpAny_pure (wpAny_pure (wpAny_pure ?_)))
  repeat (any_goals (first | assumption | wp_step))
theorem call_issub {tp : Addr} {c : Value} {Q : Value → Shared → Prop} (htp : s.heap.get? tp = some { cls := .type "tuple", data := .seq [.type "str", c].toArray }) (hq : Q (.bool true) s) :
    wpAny (model prog w) A (call (.builtin "issubclass") [.type "str", .ref tp]) Q E s :=
  call_issubclass (S := fun _ R s => s.heap.get? tp = some { cls := .type "tuple", data := .seq [.type "str", c].toArray } ∧ R (.ok (.ret (.bool true))) s)
    (fun prog w A R s hs => issubclass_outer (issub_nested_tup hs.1 rfl hs.2)) ⟨htp, hq⟩
end
end Mine
end
section
set_option maxRecDepth 100000
namespace Mine
section
variable {prog : Program} {w : World} {D : Md prog w} {k : Nat} {env : Env} {V : Vars} {ow : Own} {R : Fl → Vars → Own → Prop}
/-- a value that is no data is stored -/
theorem Stored.raw {G : Gh} {s s' : Shared} {x : Str} {v : Value} (t : Stored env s x v s') (c : Ss D env V ow G s) (hv : V.lookup x = none) (hw : ow.name ≠ some x) :
    SStep env ow G s ow G s' ∧ Ss D env V ow G s' := by
  obtain ⟨a, b⟩ : SStep env ow G s ow G s' ∧ Sub G s'.heap := ⟨⟨t.shp, Le.refl _, fun b o nf e => t.kp b o (fun q => nf (.inl q)) (fun y q => nf (.inr (.inl ⟨y, q⟩))) e, t.live, fun _ _ e => .inl e, fun _ e => .inl e⟩, t.sub c⟩
  refine ⟨a, ⟨c.es.g0, b, fun y d' e => ?_⟩, c.offL, t.loc, fun y b e => ⟨(c.cel y b e).1, (c.cel y b e).2.1, t.cel y b e⟩, c.inj, c.own.off, fun a y e1 e2 => ?_, ?_⟩
  · obtain ⟨v', q1, q2⟩ := c.es.sees y d' e
    exact ⟨v', t.oth y v' (fun z => by rw [z, hv] at e; cases e) q1, q2⟩
  · exact t.oth y _ (fun z => hw (by rw [e2, z])) (c.own.at_ a y e1 e2)
  · exact c.own.held.step (Le.refl _) fun a o e q => t.kp a o (c.own.off a e).2.1 (fun y z => (c.own.off a e).2.2 y a z rfl) q

/-- the built-in names that the text's defs ask are not bound at its top -/
def Free (D : Md prog w) (xs : List Str) : Prop := ∀ x ∈ xs, D.mg x = none
abbrev bootNames : List Str := ["type", "issubclass", "str", "bytes", "isinstance", "tuple", "map", "min", "max", "enumerate", "len", "abs", "sorted"]

theorem hd9 : Hd 9 ["path"] where
  bind := by intro pm cd doc vals h; match vals, h with | [v1], _ => rfl
  nd := by decide +kernel
  kinds := by decide +kernel
  cells := by decide +kernel
  fn := by rfl
  co := by rfl
  gen := by rfl
set_option maxHeartbeats 1000000 in
theorem fspath_call {a : Addr} {pm cd doc : Value} (F : Fn D 9 a pm cd doc) (Fr : Free D bootNames) (x : Str) : CallTo D (k + 1) (.ref a) [.str x] (.str x) := by
  refine F.call hd9 rfl fun L => ?_
  have ok : EnvOk (fe 9 a L pm cd doc) := fenv_ok hd9.fn
  intro A hA G s Q E c hQ
  refine wpAny_execs_cons (wpAny_Assign_Name ?_)
  refine wpAny_Call_ofName ((EvV.boot (V := [("path", .str x)]) ok rfl (Fr _ (by decide)) Pv.boot_type) A hA G s _ E c.es fun G1 s1 t1 => ?_)
  refine Pv.callWith_type1 ?_ rfl rfl
  refine args_cons (Ev.name (V := [("path", .str x)]) ok rfl A hA G1 s1 _ E (c.es.step t1) fun G2 s2 v t2 r => args_nil ?_)
  cases r
  refine call_type_of (Tx := "str") rfl (by decide) ?_
  have t3 := t1.trans t2
  have c3 := c.step t3
  refine store ok (by exact ⟨rfl, .inl rfl⟩) c3 fun s4 t4 => ?_
  obtain ⟨u4, c4⟩ := t4.raw c3 rfl (by decide)
  refine wpAny_execs_cons (wpAny_If (wpAny_isTrue_value ?_ (by rfl)))
  refine wpAny_Call_ofName ((EvV.boot (V := [("path", .str x)]) ok rfl (Fr _ (by decide)) PyProof.Rows.Boot.«issubclass») A hA G2 s4 _ E c4.es fun G5 s5 t5 => ?_)
  refine callWith_builtin1 ?_ rfl rfl
  refine args_cons (load ok (t4.at_.kp t5.kp) ?_)
  refine args_cons (wpAny_Tuple ?_)
  refine args_cons ((EvV.boot (V := [("path", .str x)]) ok rfl (Fr _ (by decide)) Pv.boot_str) A hA G5 s5 _ E (c4.es.step t5) fun G6 s6 t6 => ?_)
  refine args_cons ((EvV.boot (V := [("path", .str x)]) ok rfl (Fr _ (by decide)) PyProof.Rows.Boot.«bytes») A hA G6 s6 _ E ((c4.es.step t5).step t6) fun G7 s7 t7 => args_nil ⟨small (by simp), args_nil ?_⟩)
  have t8 := ((t5.trans t6).trans t7)
  have t9 := t8.trans (Step.push t8.inn (tupO [.type "str", .type "bytes"] 0))
  refine call_issub (c := .type "bytes") (Heap.get?_push_size _ rfl) (wpAny_truthy_bool ?_)
  show wpAny (model prog w) A (execs _ _) _ E _
  have c9 := c4.step t9
  refine wpAny_execs_cons (wpAny_Return_some (Ev.name (V := [("path", .str x)]) ok rfl A hA _ _ _ E c9.es fun G10 s10 v t10 r => ?_))
  exact hQ _ _ _ _ _ _ (t3.ss.trans (u4.trans (t9.ss.trans t10.ss))) (c9.step t10) (.ret r) rfl
end
end Mine
end
section
set_option maxRecDepth 100000
namespace Mine
abbrev textDefs : List Nat := [9, 13, 14, 15, 16, 17, 18, 19, 21, 22, 23, 24, 25, 26, 27]
structure Text (D : Md prog w) where
  at_ : Nat → Addr
  pm : Nat → Value
  cd : Nat → Value
  doc : Nat → Value
  fn : ∀ i ∈ textDefs, Fn D i (at_ i) (pm i) (cd i) (doc i)
  free : Free D bootNames
section
variable {prog : Program} {w : World} {D : Md prog w} {k : Nat} {env : Env} {V : Vars} {ow : Own} {R : Fl → Vars → Own → Prop}
theorem Ev.callT {x : Str} {np pos : Pos} {e : Expr} {rest : List Expr} {ds : List PyData} {d : PyData} (T : Text D) (i : Nat) (ok : EnvOk env) (ha : EvL D k env V (e :: rest) ds) (hc : CallTo D k (.ref (T.at_ i)) ds d)
    (hi : i ∈ textDefs := by decide) (hx : dName (stm i) = x := by exact rfl) (hk : env.kindOf x = some .globalImplicit := by exact rfl) (hd : (x == ("__debug__" : Str)) = false := by decide)
    (he : starEach (e :: rest) env = (false, eval e env) :: starEach rest env := by exact rfl) : Ev D k env V (.Call (.Name x np) (e :: rest) [] pos) d := by
  subst hx
  obtain ⟨o, ho, hdat⟩ := (T.fn i hi).obj
  exact Ev.callF (EvV.glob ok hk (T.fn i hi).mg hd) ho hdat ha hc he
theorem fspath (T : Text D) (x : Str) : CallTo D (k + 1) (.ref (T.at_ 9)) [.str x] (.str x) := fspath_call (T.fn 9 (by decide)) T.free x
theorem CallTo.le {f : Value} {ds : List PyData} {d : PyData} {j : Nat} (h : CallTo D j f ds d) (hj : j ≤ k) : CallTo D k f ds d := fun A hA => h A (hA.le hj)

theorem hd13 : Hd 13 ["path"] where
  bind := by intro pm cd doc vals h; match vals, h with | [v1], _ => rfl
  nd := by decide +kernel
  kinds := by decide +kernel
  cells := by decide +kernel
  fn := by rfl
  co := by rfl
  gen := by rfl
theorem getSep (T : Text D) (x : Str) : CallTo D (k + 1) (.ref (T.at_ 13)) [.str x] (.str "/") := by
  refine (T.fn 13 (by decide)).call hd13 rfl fun L => ?_
  have ok : EnvOk (fe 13 (T.at_ 13) L (T.pm 13) (T.cd 13) (T.doc 13)) := fenv_ok hd13.fn
  refine Ex.cons (Ex1.ite (TrS.of (Tr.isBytes (x := x) (Ev.name ok rfl) (EvV.boot ok rfl (T.free _ (by decide)) PyProof.Rows.Boot.«isinstance») (EvV.boot ok rfl (T.free _ (by decide)) PyProof.Rows.Boot.«bytes») rfl)) (fun h => nomatch h) fun _ => ?_)
  exact Ex.cons (Ex1.ret (EvS.of Ev.cstr) rfl)
end
end Mine
end
section
set_option maxRecDepth 100000
namespace Mine
section
variable {prog : Program} {w : World} {D : Md prog w} {k : Nat} {env : Env} {V : Vars} {ow : Own} {R : Fl → Vars → Own → Prop}
theorem BinR.addInt {a b : Int} : BinR D k .Add (.int a) (.int b) (.int (a + b)) := by
  intro A hA G s v1 v2 Q E g0 hi ra rb hQ
  cases ra; cases rb
  exact wpAny_add_int (hQ _ _ _ (Step.tok hi _) (.int _ _))
theorem BinR.mulStr {x : Str} {n : Int} (h : MulOk x n) : BinR D k .Mult (.str x) (.int n) (.str (Txt.mul x n)) := by
  intro A hA G s v1 v2 Q E g0 hi ra rb hQ
  cases ra; cases rb
  exact SB.mul h fun t' tk => hQ _ _ _ (Step.tok hi _) (.str _ _)

def cutAt (x : Str) : Int := Txt.rfind x "/" + 1
def headOf (x : Str) : Str := Txt.slice x none (some (cutAt x))
def headCut (x : Str) : Str := if (headOf x).length ≠ 0 ∧ headOf x ≠ Txt.mul "/" (headOf x).length then Txt.rstripChars (headOf x) "/" else headOf x
theorem headOf_le (x : Str) : (headOf x).length ≤ x.length := Txt.slice_le x _ _
theorem mulOk_slash {n : Nat} (h : n ≤ 1000000) : MulOk "/" n :=
  mulOk_of 1 1000000 (by decide +kernel) (by omega) (by omega) (by decide) (by decide)
theorem bne0 (n : Nat) : ((n : Int) != 0) = decide (n ≠ 0) := by
  cases n with
  | zero => rfl
  | succ n => rw [decide_eq_true (Nat.succ_ne_zero n)]; exact bne_iff_ne.mpr (by omega)

theorem hd17 : Hd 17 ["p"] where
  bind := by intro pm cd doc vals h; match vals, h with | [v1], _ => rfl
  nd := by decide +kernel
  kinds := by decide +kernel
  cells := by decide +kernel
  fn := by rfl
  co := by rfl
  gen := by rfl
theorem dirname (T : Text D) (x : Str) (hz : x.length ≤ 1000000) : CallTo D (k + 2) (.ref (T.at_ 17)) [.str x] (.str (headCut x)) := by
  refine (T.fn 17 (by decide)).call hd17 rfl fun L => ?_
  have ok : EnvOk (fe 17 (T.at_ 17) L (T.pm 17) (T.cd 17) (T.doc 17)) := fenv_ok hd17.fn
  refine Ex.cons (Ex1.assign ok (by exact ⟨rfl, .inl rfl⟩) (EvS.of (Ev.callT T 9 ok (EvL.cons (Ev.name ok rfl) EvL.nil) (fspath T x))) ?_)
  refine Ex.cons (Ex1.assign ok (by exact ⟨rfl, .inl rfl⟩) (EvS.of (Ev.callT T 13 ok (EvL.cons (Ev.name ok rfl) EvL.nil) (getSep T x))) ?_)
  refine Ex.cons (Ex1.assign ok (by exact ⟨rfl, .inl rfl⟩) (EvS.of (Ev.bin (Ev.rfind (Ev.name ok rfl) (Ev.name ok rfl)) Ev.cint BinR.addInt)) ?_)
  refine Ex.cons (Ex1.assign ok (by exact ⟨rfl, .inl rfl⟩) (EvS.of (Ev.cutStr (Ev.name ok rfl) EvP.none (EvP.some (Ev.name ok rfl)) (small (by omega)))) ?_)
  have hl := headOf_le x
  refine Ex.cons (Ex1.ite (c := decide ((headOf x).length ≠ 0 ∧ headOf x ≠ Txt.mul "/" (headOf x).length)) (TrS.of (Tr.to (Tr.and (TrAnd.cons (Tr.val (Ev.name ok rfl) (TruR.str (small (by show (headOf x).length ≤ _; omega))) rfl) fun _ => TrAnd.cons (Tr.cmp (Ev.name ok rfl)
    (Ev.bin (Ev.name ok rfl) (Ev.callB (EvV.boot ok rfl (T.free _ (by decide)) PyProof.Rows.Boot.«len») (EvL.cons (Ev.name ok rfl) EvL.nil) (CallTo.lenStr (small (by show (headOf x).length ≤ _; omega)))) (BinR.mulStr (mulOk_slash (by show (headOf x).length ≤ _; omega)))) CmpR.neStr) fun _ => TrAnd.nil)) ?_)) (fun h => ?_) (fun h => ?_))
  · show (((headOf x).length : Int) != 0 && (!decide (headOf x = Txt.mul "/" (headOf x).length) && true)) = _
    rw [bne0, Bool.and_true, ← decide_not, ← Bool.decide_and]
  · refine Ex.cons (Ex1.assign ok (by exact ⟨rfl, .inl rfl⟩) (EvS.of (Ev.rstrip (Ev.name ok rfl) (Ev.name ok rfl) (small (by show (headOf x).length ≤ _; omega)))) ?_)
    refine Ex.nil (Ex.cons (Ex1.ret (EvS.of (Ev.name ok rfl)) ?_))
    show PyData.str _ = _
    rw [headCut, if_pos (of_decide_eq_true h)]; rfl
  · refine Ex.nil (Ex.cons (Ex1.ret (EvS.of (Ev.name ok rfl)) ?_))
    show PyData.str _ = _
    rw [headCut, if_neg (of_decide_eq_false h)]; rfl
end
end Mine
end
section
set_option maxRecDepth 100000
namespace Mine
section
variable {prog : Program} {w : World} {D : Md prog w} {k : Nat} {env : Env} {V : Vars} {ow : Own} {R : Fl → Vars → Own → Prop}

/-! several names at once -/
inductive Sets (env : Env) : List Str → List (Value → Sem Unit) → Prop
  | nil : Sets env [] []
  | name {x : Str} {p : Pos} {xs : List Str} {ts : List (Value → Sem Unit)} : Sets env xs ts → Sets env (x :: xs) (assign (.Name x p) env :: ts)
  | bind {x : Str} {xs : List Str} {ts : List (Value → Sem Unit)} : Sets env xs ts → Sets env (x :: xs) (bindName env x :: ts)
def adds : List Str → List PyData → Vars → Vars
  | x :: xs, d :: ds, V => adds xs ds ((x, d) :: V)
  | _, _, V => V
theorem storeAll {A : Around} {Q : Unit → Shared → Prop} {E : Value → Shared → Prop} (ok : EnvOk env) {xs : List Str} {ts : List (Value → Sem Unit)} (T : Sets env xs ts) : ∀ {V : Vars} {G : Gh} {s : Shared} {vs : List Value} {ds : List PyData},
    (∀ x ∈ xs, Name env x) → (∀ x ∈ xs, ow.name ≠ some x) → Ss D env V ow G s → RdAll prog w G vs ds → xs.length = ds.length →
    (∀ s', SStep env ow G s ow G s' → Ss D env (adds xs ds V) ow G s' → Q () s') → wpAny (model prog w) A (assignInOrder ts vs) Q E s := by
  induction T with
  | nil =>
    intro V G s vs ds _ _ c r hl hQ
    cases r with
    | nil => exact assignInOrder_nil (hQ s SStep.refl c)
    | cons _ _ => cases hl
  | @name x p xs ts T ih =>
    intro V G s vs ds hx hw c r hl hQ
    cases r with
    | nil => cases hl
    | cons a r =>
      refine assignInOrder_cons (wpAny_assign_Name (store ok (hx x List.mem_cons_self) c fun s2 t2 => ?_))
      obtain ⟨t3, c3⟩ := t2.ss c a (hw x List.mem_cons_self)
      exact ih (fun y hy => hx y (List.mem_cons_of_mem _ hy)) (fun y hy => hw y (List.mem_cons_of_mem _ hy)) c3 r (by simpa using hl) fun s' t c' => hQ s' (t3.trans t) c'
  | @bind x xs ts T ih =>
    intro V G s vs ds hx hw c r hl hQ
    cases r with
    | nil => cases hl
    | cons a r =>
      refine assignInOrder_cons (wpAny_bindName (store ok (hx x List.mem_cons_self) c fun s2 t2 => ?_))
      obtain ⟨t3, c3⟩ := t2.ss c a (hw x List.mem_cons_self)
      exact ih (fun y hy => hx y (List.mem_cons_of_mem _ hy)) (fun y hy => hw y (List.mem_cons_of_mem _ hy)) c3 r (by simpa using hl) fun s' t c' => hQ s' (t3.trans t) c'
theorem Step.extBut {G : Gh} {s : Shared} (h : Sub G s.heap) {h' : Heap} (e : Heap.ExtBut s.heap.objs.size s.heap h') : Step G s G { s with heap := h' } :=
  have kp : Kp s.heap h' := fun b o q => e b o (Nat.ne_of_lt (Heap.lt_size q)) q
  ⟨⟨h', s.toks, rfl⟩, Le.refl _, h.kp kp, kp, fun _ _ q => .inl q⟩
theorem RdAll.reverse {G : Gh} {vs : List Value} {ds : List PyData} (h : RdAll prog w G vs ds) : RdAll prog w G vs.reverse ds.reverse := by
  have : ∀ {ds : List PyData} {vs : List Value}, RdAll prog w G vs ds → RdAll prog w G vs.reverse ds.reverse := by
    intro ds
    induction ds with
    | nil => intro vs h; cases h; exact .nil
    | cons d ds ih =>
      intro vs h
      cases h with
      | cons a r => rw [List.reverse_cons, List.reverse_cons]; exact (ih r).append (.cons a .nil)
  exact this h
/-- a, b = e -/
theorem Ex1.assignT {xs : List Str} {elts : List Expr} {j tpos pos} {e : Expr} {ds : List PyData} (ok : EnvOk env) (hx : ∀ x ∈ xs, Name env x) (h : EvS D k env V ow e (.tuple ds)) (hl : xs.length = ds.length) (hR : R .next (adds xs ds V) ow)
    (hT : Sets env xs ((assignEach elts env).map (·.2))) (hl2 : (assignEach elts env).length = xs.length := by exact rfl) (hw : ∀ x ∈ xs, ow.name ≠ some x := by decide)
    (hstar : (assignEach elts env).findIdx? (·.1) = none := by exact rfl)
    (hs : swapsWithSole [.Tuple elts j tpos] e pos.line env = pure false := by exact rfl) (hsw : swappedStores [.Tuple elts j tpos] e env = pure none := by exact rfl) : Ex1 D k env V ow (.Assign [.Tuple elts j tpos] e pos) R := by
  intro A hA G s Q E c hQ
  refine Assign_Tuple (h A hA G s _ E c fun G1 s1 v t1 r1 => ?_) hs hsw
  cases r1 with
  | @tuple a o vs n _ e1 c1 z1 r1 =>
    refine wpAny_assign_Tuple hA.1 ⟨o, t1.inn _ _ e1, c1, n, z1⟩ (by rw [List.size_toArray, r1.length]; exact hl2.trans hl) hstar fun h' he => ?_
    have t2 := t1.trans (Step.extBut t1.inn he)
    refine storeAll ok hT hx hw (c.step t2) (by simpa using r1) hl fun s' t3 c3 => ?_
    exact hQ _ _ _ _ _ _ (t2.ss.trans t3) c3 .next hR
/-- a, b = (e1, e2): stored from the right -/
theorem Ex1.assignSwap {xs : List Str} {elts : List Expr} {j tpos pos} {e : Expr} {ds : List PyData} (ok : EnvOk env) (hx : ∀ x ∈ xs, Name env x) (h : EvS D k env V ow e (.tuple ds)) (hl : xs.length = ds.length) (hR : R .next (adds xs.reverse ds.reverse V) ow)
    (hT : Sets env xs.reverse (xs.reverse.map fun n => bindName env n)) (hsw : swappedStores [.Tuple elts j tpos] e env = pure (some xs)) (hw : ∀ x ∈ xs, ow.name ≠ some x := by decide)
    (hs : swapsWithSole [.Tuple elts j tpos] e pos.line env = pure false := by exact rfl) : Ex1 D k env V ow (.Assign [.Tuple elts j tpos] e pos) R := by
  intro A hA G s Q E c hQ
  refine Assign_Tuple_swapped (h A hA G s _ E c fun G1 s1 v t1 r1 => ?_) hs hsw
  cases r1 with
  | @tuple a o vs n _ e1 c1 z1 r1 =>
    have hlen : xs.length = vs.toArray.size := by rw [List.size_toArray, r1.length]; exact hl
    rw [hlen]
    refine wpAny_unpackItems_tuple hA.1 ⟨o, t1.inn _ _ e1, c1, n, z1⟩ fun h' he => ?_
    have t2 := t1.trans (Step.extBut t1.inn he)
    refine storeAll ok hT (fun x hm => hx x (List.mem_reverse.mp hm)) (fun x hm => hw x (List.mem_reverse.mp hm)) (c.step t2) (by simpa using r1.reverse) (by simpa using hl) fun s' t3 c3 => ?_
    exact hQ _ _ _ _ _ _ (t2.ss.trans t3) c3 .next hR

/-! x += e -/
variable (D)
def InR (k : Nat) (op : Operator) (d1 d2 d : PyData) : Prop :=
  ∀ A, Room k A → ∀ G s a b Q E, In0 D G → Sub G s.heap → Rd prog w G a d1 → Rd prog w G b d2 → (∀ G' s' v, Step G s G' s' → Rd prog w G' v d → Q v s') → wpAny (model prog w) A (inplaceOp op a b) Q E s
variable {D}
theorem InR.addStr {x y : Str} (hz : x.length + y.length ≤ sizeLine) : InR D k .Add (.str x) (.str y) (.str (x ++ y)) := by
  intro A hA G s a b Q E g0 hi ra rb hQ
  cases ra; cases rb
  exact SB.iadd (fun t' tk => hQ G _ _ (Step.tok hi tk) (.str _ _)) hz
theorem InR.addInt {x y : Int} : InR D k .Add (.int x) (.int y) (.int (x + y)) := by
  intro A hA G s a b Q E g0 hi ra rb hQ
  cases ra; cases rb
  exact wpAny_iadd_int (hQ _ _ _ (Step.tok hi _) (.int _ _))
theorem loadN {A : Around} {s : Shared} {x : Str} {v : Value} {Q : Value → Shared → Prop} {E : Value → Shared → Prop} (ok : EnvOk env) (h : VarAt env s.heap x v) (hQ : Q v s) : wpAny (model prog w) A (loadName env x) Q E s := by
  obtain ⟨hd, hv⟩ := h
  rcases hv with ⟨hk, m, hn, hm⟩ | ⟨hk, c, hc, hv⟩
  · exact wpAny_loadName_local ok.fn hk hn hm hQ
  · exact wpAny_loadName_cell ok.fn hk hc hv hQ
theorem Ex1.aug {x : Str} {p pos : Pos} {op : Operator} {e : Expr} {d1 d2 d : PyData} (ok : EnvOk env) (hx : Name env x) (hv : V.lookup x = some d1) (h : Ev D k env V e d2) (ho : InR D k op d1 d2 d) (hR : R .next ((x, d) :: V) ow) (hw : ow.name ≠ some x := by decide) :
    Ex1 D k env V ow (.AugAssign (.Name x p) op e pos) R := by
  intro A hA G s Q E c hQ
  obtain ⟨v0, q1, r0⟩ := c.es.sees x d1 hv
  refine wpAny_AugAssign_Name (loadN ok q1 (h A hA G s _ E c.es fun G1 s1 v1 t1 r1 => ?_))
  refine ho A hA G1 s1 _ _ _ E (In0.step c.es.g0 t1) t1.inn (r0.mono t1.le) r1 fun G2 s2 v2 t2 r2 => store ok hx (c.step (t1.trans t2)) fun s3 t3 => ?_
  obtain ⟨t4, c4⟩ := t3.ss (c.step (t1.trans t2)) r2 hw
  exact hQ _ _ _ _ _ _ ((t1.trans t2).ss.trans t4) c4 .next hR
end
end Mine
end
section
set_option maxRecDepth 100000
namespace Mine
section
variable {prog : Program} {w : World} {D : Md prog w} {k : Nat} {env : Env} {V : Vars} {ow : Own} {R : Fl → Vars → Own → Prop}
theorem all0 {P : Str → Prop} : ∀ y ∈ ([] : List Str), P y := fun _ h => nomatch h
theorem allC {P : Str → Prop} {x : Str} {xs : List Str} (h : P x) (r : ∀ y ∈ xs, P y) : ∀ y ∈ x :: xs, P y := fun y hy => by
  rcases List.mem_cons.mp hy with rfl | hy
  · exact h
  · exact r y hy

/-! what may be walked over -/
def Itr (D : Md prog w) (d : PyData) (xs : List PyData) : Prop :=
  ∀ A, A.handled = none → ∀ G s v Q E, In0 D G → Sub G s.heap → Rd prog w G v d →
   (∀ o c St, o.isFreed = false → (∃ oc, G c = some oc) → (∀ A', A'.handled = none → Walks prog w A' s.heap.objs.size [s.heap.objs.size, c] [s.heap.objs.size] xs.length (fun i v => ∃ d, xs[i]? = some d ∧ Rd prog w G v d) St) →
      St 0 (s.heap.push o) → (∀ i h, St i h → ∃ o, h.get? s.heap.objs.size = some o) → Q (.ref s.heap.objs.size) { s with heap := s.heap.push o }) → wpAny (model prog w) A (pyIter v) Q E s
theorem ne_size {h : Heap} {a : Addr} {o : Obj} (e : h.get? a = some o) : a ≠ h.objs.size := Nat.ne_of_lt (Heap.lt_size e)
theorem Itr.list {xs : List PyData} : Itr D (.list xs) xs := by
  intro A hA G s v Q E g0 hi r hQ
  cases r with
  | @list a o vs n _ e1 c1 z1 r1 =>
    have hg := hi _ _ e1
    refine wpAny_pyIter_list ⟨o, hg, c1, n, z1⟩ ?_
    refine hQ _ a (fun i h => h.IsListIter s.heap.objs.size a i ∧ h.IsList a vs.toArray) rfl ⟨o, e1⟩ (fun A' hA' => ?_) ⟨⟨_, Heap.get?_push_size _ rfl, rfl, rfl⟩, ⟨o, Heap.get?_push_of_some _ hg, c1, n, z1⟩⟩ fun i h st => ⟨_, st.1.choose_spec.1⟩
    have W := (Walks.list (prog := prog) (w := w) hA' s.heap.objs.size a (ne_size hg) vs.toArray).weaken (P' := fun i v => ∃ d, xs[i]? = some d ∧ Rd prog w G v d) fun i v hv => r1.get' (by simpa using hv)
    have hlen : vs.toArray.size = xs.length := by simp [r1.length]
    rw [hlen] at W
    exact W
theorem Itr.tuple {xs : List PyData} : Itr D (.tuple xs) xs := by
  intro A hA G s v Q E g0 hi r hQ
  cases r with
  | @tuple a o vs n _ e1 c1 z1 r1 =>
    have hg := hi _ _ e1
    refine wpAny_pyIter_tuple ⟨o, hg, c1, n, z1⟩ ?_
    refine hQ _ a (fun i h => h.IsTupleIter s.heap.objs.size a i ∧ h.IsTuple a vs.toArray) rfl ⟨o, e1⟩ (fun A' hA' => ?_) ⟨⟨_, Heap.get?_push_size _ rfl, rfl, rfl⟩, ⟨o, Heap.get?_push_of_some _ hg, c1, n, z1⟩⟩ fun i h st => ⟨_, st.1.choose_spec.1⟩
    have W := (Walks.tuple (prog := prog) (w := w) hA' s.heap.objs.size a (ne_size hg) vs.toArray).weaken (P' := fun i v => ∃ d, xs[i]? = some d ∧ Rd prog w G v d) fun i v hv => r1.get' (by simpa using hv)
    have hlen : vs.toArray.size = xs.length := by simp [r1.length]
    rw [hlen] at W
    exact W
theorem RdKv.key {G : Gh} : ∀ {kv : List (Str × Value)} {ds : List (PyData × PyData)}, RdKv prog w G kv ds → ∀ {i : Nat} {x : Str} {v : Value}, kv[i]? = some (x, v) → ∃ d, ds[i]? = some (.str x, d) ∧ Rd prog w G v d
  | _, _, .nil, i, x, v, h => by simp at h
  | _, _, .cons (d := d) a r, 0, x, v, h => by
    simp only [List.getElem?_cons_zero, Option.some.injEq, Prod.mk.injEq] at h
    obtain ⟨rfl, rfl⟩ := h
    exact ⟨d, rfl, a⟩
  | _, _, .cons a r, i + 1, x, v, h => by
    rw [List.getElem?_cons_succ] at h
    obtain ⟨d, e, q⟩ := r.key h
    exact ⟨d, by rw [List.getElem?_cons_succ]; exact e, q⟩
theorem Itr.keys {kvs : List (PyData × PyData)} : Itr D (.dict kvs) (kvs.map (·.1)) := by
  intro A hA G s v Q E g0 hi r hQ
  cases r with
  | @dict a o kv _ e1 c1 z1 r1 =>
    have hg := hi _ _ e1
    obtain ⟨ep, hat⟩ := (Heap.dictOf_iff.mpr ⟨o, hg, c1⟩ : s.heap.DictOf (strKind prog w) a kv).dictAt
    refine wpAny_pyIter_dict z1 hat ?_
    refine hQ _ a (fun i h => h.IsKeyIter s.heap.objs.size a i kv.length ep ∧ h.DictAt (strKind prog w) a kv ep) rfl ⟨o, e1⟩ (fun A' hA' => ?_) ⟨⟨_, Heap.get?_push_size _ rfl, rfl, rfl⟩, hat.push _⟩ fun i h st => ⟨_, st.1.choose_spec.1⟩
    have W := (Walks.dictKeys (knd := strKind prog w) (prog := prog) (w := w) hA' s.heap.objs.size a (ne_size hg) kv ep).weaken (P' := fun i v => ∃ d, (kvs.map (·.1))[i]? = some d ∧ Rd prog w G v d) fun i v hv => by
      obtain ⟨x, y, hx, hk⟩ := hv
      obtain ⟨d, hd, _⟩ := r1.key hx
      obtain ⟨t, rfl⟩ := Value.isStrOf_shape hk
      exact ⟨.str x, by rw [List.getElem?_map, hd]; rfl, .str x t⟩
    have hlen : kv.length = (kvs.map (·.1)).length := by rw [List.length_map, RdKv.length r1]
    rw [hlen] at W
    rw [hlen]
    exact W

/-! a comprehension over one thing -/
/-- the conditions behind `if` -/
def Tests (D : Md prog w) (k : Nat) (env : Env) (V : Vars) (ifs : List Expr) (b : Bool) : Prop :=
  ∀ A, Room k A → ∀ G s Q E, Es D env V G s → (∀ G' s', Step G s G' s' → Q b s') →
    wpAny (model prog w) A (forIn ifs true fun c r => if r = true then do let ok ← isTrue c env (eval c env); pure (ForInStep.yield ok) else pure (ForInStep.yield r)) Q E s
theorem Tests.nil : Tests D k env V [] true := fun A hA G s Q E e hQ => wpAny_tests_nil (hQ _ _ (Step.refl e.inn))
theorem Tests.one {c : Expr} {b : Bool} (h : Tr D k env V c b) : Tests D k env V [c] b := fun A hA G s Q E e hQ => wpAny_tests_one (h A hA G s Q E e hQ)
/-- a comprehension's head, all of them looks at the text -/
structure CompOk (env : Env) (scope : Scope) (x : Str) (V V' : Vars) (cl : List (Str × Addr)) : Prop where
  clos : closureFor scope env = pure cl
  cell : ∀ y ∈ scope.names, y.2 ≠ .cell
  kind : scope.kind = .function
  names : ∀ y ∈ scope.names, y.2 = .local → scope.names.lookup y.1 = some .local
  xl : scope.names.lookup x = some .local
  dbg : (x == ("__debug__" : Str)) = false
  got : ∀ y d, V'.lookup y = some d → V.lookup y = some d ∧ env.kindOf y = some .cell ∧ (compEnvC scope cl 0 env).kindOf y = some .cell ∧ cl.lookup y = env.cells.lookup y
theorem CompOk.envOk {scope : Scope} {x : Str} {V V' : Vars} {cl : List (Str × Addr)} (h : CompOk env scope x V V' cl) (ok : EnvOk env) (C : Addr) : EnvOk (compEnvC scope cl C env) := ⟨h.kind, ok.glob, ok.bi⟩
theorem VarAt.cells {scope : Scope} {x y : Str} {V V' : Vars} {cl : List (Str × Addr)} {h : Heap} {v : Value} {d : PyData} (H : CompOk env scope x V V' cl) (C : Addr) (hy : V'.lookup y = some d) (q : VarAt env h y v) :
    ∃ c, (y == ("__debug__" : Str)) = false ∧ (compEnvC scope cl C env).kindOf y = some .cell ∧ (compEnvC scope cl C env).cells.lookup y = some c ∧ h.IsCell c (some v) := by
  obtain ⟨_, h1, h2, h3⟩ := H.got y d hy
  rcases q.2 with ⟨z, _⟩ | ⟨_, c, hc, hv⟩
  · rw [h1] at z; cases z
  · exact ⟨c, q.1, h2, h3.trans hc, hv⟩

theorem comp_core {A : Around} {α : Type} {xs : List α} {enc : α → PyData} {p : α → Bool} {f : α → PyData} {elt iter : Expr} {x : Str} {px : Pos} {ifs : List Expr} {scope : Scope} {cl : List (Str × Addr)} {pos : Pos} {V' : Vars} {E : Value → Shared → Prop}
    {s s₂ : Shared} {I c : Addr} {oc : Obj} {St : Nat → Heap → Prop} {G : Gh} {RR : Value → Addr → Result → Shared → Prop} (H : CompOk env scope x V V' cl)
    (hA : Room k A) (W : Walks prog w A I [I, c] [I] xs.length (fun i v => ∃ d, (xs.map enc)[i]? = some d ∧ Rd prog w G v d) St) (hsz : xs.length ≤ sizeLine)
    (e0 : Es D env V G s) (t0 : Step G s G s₂) (hI : s.heap.get? I = none) (hI2 : I < s₂.heap.objs.size) (hc : G c = some oc) (hst : St 0 s₂.heap) (hIl : ∀ i h, St i h → ∃ o, h.get? I = some o)
    (hT : ∀ C a, a ∈ xs → Tests D k (compEnvC scope cl C env) ((x, enc a) :: V') ifs (p a)) (hE : ∀ C a, a ∈ xs → p a = true → Ev D k (compEnvC scope cl C env) ((x, enc a) :: V') elt (f a))
    (hRR : ∀ Dd C G' s' m' vs n, s₂.heap.get? Dd = none → s₂.heap.get? C = none → Dd ≠ C → G' C = none → s'.heap.Ns C m' → s'.heap.get? Dd = some (listO vs n) → RdAll prog w G' vs ((xs.filter p).map f) → Step G s G' s' → RR (.ref Dd) C (.ok .next) s') :
    wpAny (model prog w) A (newList []) (fun acc s₃ => wpAny (model prog w) A (newFunctionEnv scope env.globals cl [] env.qual none .none (some env)) (fun cenv s₄ =>
      codeAny (model prog w) A (.compStart (.ListComp elt [⟨.Name x px, iter, ifs, 0⟩] scope pos) 0 (.ref I) acc { cenv with scope := relabel scope env }) (RR acc cenv.locals) s₄) E s₃) E s₂ := by
  refine wpAny_newObj_type (wpAny_newFunctionEnv H.cell (by intro y hy; simp at hy) (fun h₁ hns₁ hsb₁ => ?_) H.kind)
  dsimp only at hns₁ hsb₁ ⊢
  generalize hH2 : s₂.heap.push { cls := .type "list", dict := none, data := .seq ([] : List Value).toArray } = H2 at hns₁ hsb₁ ⊢
  have hC : H2.objs.size = s₂.heap.objs.size + 1 := by rw [← hH2, Heap.size_push]
  have hDC : s₂.heap.objs.size ≠ H2.objs.size := by rw [hC]; exact Nat.ne_of_lt (Nat.lt_succ_self _)
  have fresh : ∀ a, s₂.heap.objs.size ≤ a → s₂.heap.get? a = none := fun a ha => by
    cases e : s₂.heap.get? a with
    | none => rfl
    | some o' => exact absurd (Heap.lt_size e) (Nat.not_lt.mpr ha)
  have old : ∀ b o, s₂.heap.get? b = some o → h₁.get? b = some o := fun b o e => hsb₁.extBut b o (by have := Heap.lt_size e; rw [hC]; exact Nat.ne_of_lt (Nat.lt_succ_of_lt this)) (Heap.get?_push_of_some _ (hH2 ▸ Heap.get?_push_of_some _ e))
  have acc₁ : h₁.get? s₂.heap.objs.size = some (listO [] 0) := hsb₁.extBut _ _ hDC (Heap.get?_push_of_some _ (hH2 ▸ Heap.get?_push_size _ rfl))
  generalize hDd : s₂.heap.objs.size = Dd at acc₁ hDC ⊢
  generalize hCc : H2.objs.size = C at hns₁ hDC ⊢
  have fD : s₂.heap.get? Dd = none := fresh _ (Nat.le_of_eq hDd)
  have fC : s₂.heap.get? C = none := fresh _ (by rw [← hCc, hC]; exact Nat.le_succ _)
  have live : ∀ {b o}, s₂.heap.get? b = some o → b ≠ Dd ∧ b ≠ C := fun e => ⟨fun z => (by rw [z, fD] at e; cases e), fun z => (by rw [z, fC] at e; cases e)⟩
  have back : ∀ b, s₂.heap.get? b = none → s.heap.get? b = none := fun b q => by
    cases z : s.heap.get? b with
    | none => rfl
    | some o => rw [t0.kp _ _ z] at q; cases q
  have gone : ∀ {b o}, G b = some o → b ≠ Dd ∧ b ≠ C ∧ b ≠ I := fun {b o} e => ⟨(live (t0.inn _ _ e)).1, (live (t0.inn _ _ e)).2, fun z => (by rw [z] at e; rw [e0.inn _ _ e] at hI; cases hI)⟩
  have hIlive : I ≠ Dd ∧ I ≠ C := ⟨by rw [← hDd]; exact Nat.ne_of_lt hI2, by rw [← hCc, hC]; exact Nat.ne_of_lt (Nat.lt_succ_of_lt hI2)⟩
  have loop : ∀ s₃ : Shared, s₃ = { s₂ with heap := h₁, toks := s₂.toks + ([] : List (Str × Value)).length } →
      codeAny (model prog w) A (.compLoop (.ListComp elt [⟨.Name x px, iter, ifs, 0⟩] scope pos) 0 (.ref I) (.ref Dd) (compEnvC scope cl C env)) (RR (.ref Dd) C) s₃ := by
    rintro s₃ rfl
    refine codeAny_compLoop_tests
      (fun m s1 => ∃ i G1 vs n mm, m = xs.length - i ∧ i ≤ xs.length ∧ Step G s G1 s1 ∧ G1 Dd = none ∧ G1 C = none ∧ G1 I = none ∧ St i s1.heap ∧ s1.heap.Ns C mm ∧ s1.heap.get? Dd = some (listO vs n) ∧ RdAll prog w G1 vs (((xs.take i).filter p).map f) ∧ ∃ oI, s1.heap.get? I = some oI) ?_ xs.length
      ⟨0, G, [], 0, _, rfl, Nat.zero_le _, ?_, ?_, ?_, ?_, ?_, hns₁, acc₁, .nil, ?_⟩
    · rintro m s1 ⟨i, G1, vs, n, mm, rfl, hi, t1, gD, gC, gI, st1, ns1, acc1, r1, oI, hoI⟩
      by_cases hlt : i < xs.length
      · refine W.item i s1 _ _ hlt st1 fun v h' tk hv st' hk => ?_
        obtain ⟨d, hd, rd⟩ := hv
        obtain ⟨a, ha, rfl⟩ : ∃ a, xs[i]? = some a ∧ enc a = d := by
          rw [List.getElem?_map] at hd
          cases h : xs[i]? with
          | none => rw [h] at hd; cases hd
          | some a => rw [h] at hd; exact ⟨a, rfl, by simpa using hd⟩
        have hmem : a ∈ xs := List.mem_of_getElem? ha
        have notI : ∀ {b o}, s.heap.get? b = some o → b ∉ [I] := fun {b o} e z => by rw [List.mem_singleton.mp z, hI] at e; cases e
        -- the iterator has moved
        have t2 : Step G s G1 { s1 with heap := h', toks := tk } := by
          obtain ⟨h0, tk0, e0⟩ := t1.shp
          refine ⟨⟨h', tk, by rw [e0]⟩, t1.le, fun b o e => hk b o (fun z => by rw [List.mem_singleton.mp z, gI] at e; cases e) (t1.inn b o e), fun b o e => hk b o (notI e) (t1.kp b o e), t1.new⟩
        have ns2 : h'.Ns C mm := by
          obtain ⟨o, es, ep, e, r⟩ := ns1
          exact ⟨o, es, ep, hk _ _ (fun z => hIlive.2 (List.mem_singleton.mp z).symm) e, r⟩
        refine wpAny_assign_Name (wpAny_storeName_local (lookup_relabel_local H.xl) ns2 (fun h₃ hn₃ hs₃ => ?_) (by simp [compEnvC, relabel, H.kind]))
        have hs₃ : Heap.SameBut C h' h₃ := hs₃
        have hn₃ : h₃.Ns C _ := hn₃
        have t3 : Step G s G1 { s1 with heap := h₃, toks := tk + 1 } := by
          obtain ⟨h0, tk0, e0⟩ := t2.shp
          exact ⟨⟨h₃, tk + 1, by rw [show s1 = _ from t1.shp.choose_spec.choose_spec]⟩, t2.le, fun b o e => (hs₃.2 b (fun z => by rw [z, gC] at e; cases e)).trans (t2.inn b o e), fun b o e => (hs₃.2 b (live (t0.kp _ _ e)).2).trans (t2.kp b o e), t2.new⟩
        have acc3 : h₃.get? Dd = some (listO vs n) := (hs₃.2 _ hDC).trans (hk _ _ (fun z => hIlive.1 (List.mem_singleton.mp z).symm) acc1)
        have st3 : St (i + 1) h₃ := W.frame _ _ _ st' fun b hb o e => by
          refine (hs₃.2 b fun z => ?_).trans e
          rcases List.mem_cons.mp hb with y | y
          · exact hIlive.2 (y ▸ z)
          · exact (gone hc).2.1 (List.mem_singleton.mp y ▸ z)
        obtain ⟨oI', hoI'⟩ : ∃ o, h₃.get? I = some o := hIl _ _ st3
        have es3 : Es D (compEnvC scope cl C env) ((x, enc a) :: V') G1 { s1 with heap := h₃, toks := tk + 1 } := by
          refine ⟨fun b o e => t3.le _ _ (e0.g0 b o e), t3.inn, fun y d' e => ?_⟩
          rw [List.lookup_cons] at e
          cases hy : y == x with
          | true =>
            rw [hy] at e
            cases e
            rw [eq_of_beq hy]
            exact ⟨v, ⟨H.dbg, .inl ⟨lookup_relabel_local H.xl, _, hn₃, if_pos rfl⟩⟩, rd.mono t3.le⟩
          | false =>
            rw [hy] at e
            obtain ⟨v', q1, q2⟩ := e0.sees y d' (H.got y d' e).1
            obtain ⟨c', z1, z2, z3, z4⟩ := q1.cells H C e
            exact ⟨v', ⟨z1, .inr ⟨z2, c', z3, z4.keeps t3.kp⟩⟩, q2.mono t3.le⟩
        have hdrop : (xs.take (i + 1)).filter p = (xs.take i).filter p ++ (if p a then [a] else []) := take_succ_filter p xs i a ha
        refine hT C a hmem A hA G1 _ _ _ es3 fun G4 s4 t4 => ?_
        have up : ∀ {b : Addr} {o : Obj}, G1 b = none → h₃.get? b = some o → G4 b = none := fun g e => t4.stays (s := { s1 with heap := h₃, toks := tk + 1 }) g e
        have ns3' := hn₃
        obtain ⟨oC, esC, epC, hoC, _⟩ := ns3'
        have st4 : St (i + 1) s4.heap := W.frame _ _ _ st3 fun b hb o e => t4.kp _ _ e
        cases hp : p a with
        | false =>
          simp only [Bool.false_eq_true, if_false]
          refine ⟨xs.length - (i + 1), by omega, i + 1, G4, vs, n, _, rfl, hlt, t3.trans t4, up gD acc3, up gC hoC, up gI hoI', st4, hn₃.keeps t4.kp, t4.kp _ _ acc3, ?_, _, t4.kp _ _ hoI'⟩
          rw [hdrop, hp]
          simpa using r1.mono t4.le
        | true =>
          simp only [if_true]
          refine hE C a hmem hp A hA G4 s4 _ _ (es3.step t4) fun G5 s5 v5 t5 r5 => ?_
          have t6 := t4.trans t5
          have up : ∀ {b : Addr} {o : Obj}, G1 b = none → h₃.get? b = some o → G5 b = none := fun g e => t6.stays (s := { s1 with heap := h₃, toks := tk + 1 }) g e
          have hl := r1.length
          have hys : vs.toArray.size ≤ sizeLine := by
            rw [List.size_toArray, hl, List.length_map]
            have e2 := List.length_filter_le p (xs.take i)
            have e3 := List.length_take_le i xs
            omega
          refine wpAny_list_append_plain ⟨n, t6.kp _ _ acc3⟩ (fun h₇ hp₇ hs₇ => ?_) hys
          obtain ⟨n', e'⟩ := hp₇
          have e2 : vs.toArray.push v5 = (vs ++ [v5]).toArray := by simp
          rw [e2] at e'
          have gD5 := up gD acc3
          refine ⟨xs.length - (i + 1), by omega, i + 1, G5, vs ++ [v5], n', _, rfl, hlt, ?_, gD5, up gC hoC, up gI hoI', ?_, (hn₃.keeps t6.kp).sameBut hs₇ (Ne.symm hDC), e', ?_, oI', (hs₇.2 _ hIlive.1).trans (t6.kp _ _ hoI')⟩
          · have t7 := t3.trans t6
            obtain ⟨h0, tk0, e0⟩ := t7.shp
            exact ⟨⟨h₇, s5.toks, by rw [e0]⟩, t7.le, fun b o e => (hs₇.2 b (fun z => by rw [z, gD5] at e; cases e)).trans (t7.inn b o e), fun b o e => (hs₇.2 b (live (t0.kp _ _ e)).1).trans (t7.kp b o e), t7.new⟩
          · refine W.frame _ _ _ st3 fun b hb o e => (hs₇.2 b fun z => ?_).trans (t6.kp _ _ e)
            rcases List.mem_cons.mp hb with y | y
            · exact hIlive.1 (y ▸ z)
            · exact (gone hc).1 (List.mem_singleton.mp y ▸ z)
          · rw [hdrop, hp]
            simp only [if_true, List.map_append, List.map_cons, List.map_nil]
            exact (r1.mono t6.le).append (.cons r5 .nil)
      · have hin : i = xs.length := by omega
        subst hin
        refine W.done s1 _ _ st1 fun h' tk hk => ?_
        have notI : ∀ {b o}, s.heap.get? b = some o → b ∉ [I] := fun {b o} e z => by rw [List.mem_singleton.mp z, hI] at e; cases e
        have t2 : Step G s G1 { s1 with heap := h', toks := tk } := by
          obtain ⟨h0, tk0, e0⟩ := t1.shp
          refine ⟨⟨h', tk, by rw [e0]⟩, t1.le, fun b o e => hk b o (fun z => by rw [List.mem_singleton.mp z, gI] at e; cases e) (t1.inn b o e), fun b o e => hk b o (notI e) (t1.kp b o e), t1.new⟩
        refine hRR Dd C G1 _ mm vs n fD fC hDC gC ?_ (hk _ _ (fun z => hIlive.1 (List.mem_singleton.mp z).symm) acc1) (by rw [List.take_length] at r1; exact r1) t2
        obtain ⟨o, es, ep, e, r⟩ := ns1
        exact ⟨o, es, ep, hk _ _ (fun z => hIlive.2 (List.mem_singleton.mp z).symm) e, r⟩
    · obtain ⟨h0, tk0, e0'⟩ := t0.shp
      exact ⟨⟨h₁, _, by rw [e0']⟩, Le.refl _, fun b o e => old _ _ (t0.inn _ _ e), fun b o e => old _ _ (t0.kp _ _ e), fun _ _ e => .inl e⟩
    · cases z : G Dd with
      | none => rfl
      | some o => exact absurd rfl (gone z).1
    · cases z : G C with
      | none => rfl
      | some o => exact absurd rfl (gone z).2.1
    · cases z : G I with
      | none => rfl
      | some o => exact absurd rfl (gone z).2.2
    · exact W.frame _ _ _ hst fun b hb o e => old b o e
    · exact hIl 0 _ (W.frame _ _ _ hst fun b hb o e => old b o e)
  exact codeAny_compStart_list (loop _ rfl) (W.self 0 _ _ _ (W.frame _ _ _ hst fun b hb o e => old b o e) (loop _ rfl))

theorem Ev.comp {α : Type} {xs : List α} {enc : α → PyData} {p : α → Bool} {f : α → PyData} {elt iter : Expr} {x : Str} {px : Pos} {ifs : List Expr} {scope : Scope} {cl : List (Str × Addr)} {pos : Pos} {V' : Vars} {d : PyData}
    (H : CompOk env scope x V V' cl) (h : Ev D k env V iter d) (hit : Itr D d (xs.map enc)) (hsz : xs.length ≤ sizeLine)
    (hT : ∀ C a, a ∈ xs → Tests D k (compEnvC scope cl C env) ((x, enc a) :: V') ifs (p a)) (hE : ∀ C a, a ∈ xs → p a = true → Ev D k (compEnvC scope cl C env) ((x, enc a) :: V') elt (f a))
    (hs : ∀ x, foldedSetIterable iter env x = pure x := by intro _; exact rfl) :
    Ev D k env V (.ListComp elt [⟨.Name x px, iter, ifs, 0⟩] scope pos) (.list ((xs.filter p).map f)) := by
  intro A hA G s Q E e hQ
  rw [eval_ListComp]
  refine wpAny_comprehension_free (use := none) rfl hs H.clos H.kind H.names (h A hA G s _ E e fun G1 s1 v t1 r1 => ?_)
  have e1 := e.step t1
  refine hit A hA.1 G1 s1 v _ E (In0.step e.g0 t1) t1.inn r1 fun o c St hof hc W st0 hIl => ?_
  obtain ⟨oc, hc⟩ := hc
  have W := W A hA.1
  rw [List.length_map] at W
  refine comp_core (RR := fun acc C => compPost (model prog w) A E none Q acc C) H hA W hsz e1 (Step.push e1.inn o) (fresh_size (Kp.refl _)) (by rw [Heap.size_push]; exact Nat.lt_succ_self _) hc st0 hIl hT hE ?_
  intro Dd C G' s' m' vs n fD fC hDC gC hn hacc rs t2
  refine ⟨m', hn, fun h'' hs'' => ?_⟩
  have hacc2 := (hs''.2 _ hDC).trans hacc
  have bk : ∀ b, (s1.heap.push o).get? b = none → s.heap.get? b = none := fun b q => by
    cases z : s.heap.get? b with
    | none => rfl
    | some o' => rw [Heap.get?_push_of_some _ (t1.kp _ _ z)] at q; cases q
  have t3 : Step G s G' { s' with heap := h'' } := by
    have t4 := t1.trans t2
    obtain ⟨h0, tk0, e0⟩ := t4.shp
    exact ⟨⟨h'', s'.toks, by rw [e0]⟩, t4.le, fun b o e => (hs''.2 b (fun z => by rw [z, gC] at e; cases e)).trans (t4.inn b o e), fun b o' e => (hs''.2 b (fun z => by rw [z, bk C fC] at e; cases e)).trans (t4.kp b o' e), t4.new⟩
  have t5 := t3.freeze hacc2 (bk Dd fD)
  exact hQ _ _ _ t5 (.list (put_self _ _ _) rfl rfl (rs.mono (t3.le_put hacc2)))
end
end Mine
end
section
set_option maxRecDepth 100000
namespace Mine
section
variable {prog : Program} {w : World} {D : Md prog w} {k : Nat} {env : Env} {V : Vars} {ow : Own} {R : Fl → Vars → Own → Prop}
variable (D)
/-- a comprehension whose list is used while its own names still stand -/
def CompU (k : Nat) (env : Env) (V : Vars) (elt iter : Expr) (x : Str) (px : Pos) (ifs : List Expr) (scope : Scope) (pos : Pos) (d : PyData) : Prop :=
  ∀ A, Room k A → ∀ p2 G s (u : Value → Sem Unit) (Q : Shared → Prop) E, Es D env V G s →
    (∀ G' s' v C m, Step G s G' s' → Rd prog w G' v d → G' C = none → s.heap.get? C = none → s'.heap.Ns C m → wpAny (model prog w) A (u v) (fun _ s'' => ∃ m, s''.heap.Ns C m ∧ ∀ h', Heap.SameBut C s''.heap h' → Q { s'' with heap := h' }) E s') →
    wpAny (model prog w) A (comprehension (.ListComp elt [⟨.Name x px, iter, ifs, 0⟩] scope pos) scope env p2 (newList []) false (eval iter env) (some u)) (fun _ s' => Q s') E s
variable {D}
theorem CompU.mk {α : Type} {xs : List α} {enc : α → PyData} {p : α → Bool} {f : α → PyData} {elt iter : Expr} {x : Str} {px : Pos} {ifs : List Expr} {scope : Scope} {cl : List (Str × Addr)} {pos : Pos} {V' : Vars} {d : PyData}
    (H : CompOk env scope x V V' cl) (h : Ev D k env V iter d) (hit : Itr D d (xs.map enc)) (hsz : xs.length ≤ sizeLine)
    (hT : ∀ C a, a ∈ xs → Tests D k (compEnvC scope cl C env) ((x, enc a) :: V') ifs (p a)) (hE : ∀ C a, a ∈ xs → p a = true → Ev D k (compEnvC scope cl C env) ((x, enc a) :: V') elt (f a))
    (hs : ∀ x, foldedSetIterable iter env x = pure x := by intro _; exact rfl) :
    CompU D k env V elt iter x px ifs scope pos (.list ((xs.filter p).map f)) := by
  intro A hA p2 G s u Q E e hQ
  refine wpAny_comprehension_free (use := some u) (Q := fun _ s' => Q s') rfl hs H.clos H.kind H.names (h A hA G s _ E e fun G1 s1 v t1 r1 => ?_)
  have e1 := e.step t1
  refine hit A hA.1 G1 s1 v _ E (In0.step e.g0 t1) t1.inn r1 fun o c St hof hc W st0 hIl => ?_
  obtain ⟨oc, hc⟩ := hc
  have W := W A hA.1
  rw [List.length_map] at W
  refine comp_core (RR := fun acc C => compPost (model prog w) A E (some u) (fun _ s' => Q s') acc C) H hA W hsz e1 (Step.push e1.inn o) (fresh_size (Kp.refl _)) (by rw [Heap.size_push]; exact Nat.lt_succ_self _) hc st0 hIl hT hE ?_
  intro Dd C G' s' m' vs n fD fC hDC gC hn hacc rs t2
  have bk : ∀ b, (s1.heap.push o).get? b = none → s.heap.get? b = none := fun b q => by
    cases z : s.heap.get? b with
    | none => rfl
    | some o' => rw [Heap.get?_push_of_some _ (t1.kp _ _ z)] at q; cases q
  have t4 := t1.trans t2
  have t5 := t4.freeze hacc (bk Dd fD)
  exact hQ _ _ _ C m' t5 (.list (put_self _ _ _) rfl rfl (rs.mono (t4.le_put hacc))) ((if_neg (Ne.symm hDC)).trans gC) (bk C fC) hn
theorem Ss.used {A : Around} {G G' : Gh} {s s' : Shared} {y : Str} {v : Value} {C : Addr} {m : Str → Option Value} {d : PyData} {E : Value → Shared → Prop} {Q : Shared → Prop} {py : Pos} (ok : EnvOk env) (hy : Name env y) (hw : ow.name ≠ some y) (c : Ss D env V ow G s) (t : Step G s G' s') (r : Rd prog w G' v d) (gC : G' C = none) (fC : s.heap.get? C = none)
    (hn : s'.heap.Ns C m) (hQ : ∀ s'', SStep env ow G s ow G' s'' → Ss D env ((y, d) :: V) ow G' s'' → Q s'') :
    wpAny (model prog w) A (assign (.Name y py) env v) (fun _ s'' => ∃ m, s''.heap.Ns C m ∧ ∀ h', Heap.SameBut C s''.heap h' → Q { s'' with heap := h' }) E s' := by
  have c' := c.step t
  have nC : ¬ Foot env ow C := fun f => by
    obtain ⟨o, e⟩ := c.foot_live f
    rw [fC] at e; cases e
  refine wpAny_assign_Name (store ok hy c' fun s2 t2 => ?_)
  obtain ⟨t3, c3⟩ := t2.ss c' r hw
  obtain ⟨oC, esC, epC, eC, rC⟩ := hn
  refine ⟨m, ⟨oC, esC, epC, t2.kp _ _ (fun z => nC (.inl z)) (fun y z => nC (.inr (.inl ⟨y, z⟩))) eC, rC⟩, fun h' hs => ?_⟩
  have t4 := t.ss.trans t3
  refine hQ _ ⟨?_, t4.le, fun b o nf e => (hs.2 b fun z => by rw [z, fC] at e; cases e).trans (t4.kp b o nf e), fun b o e => ?_, t4.new, t4.ownNew⟩ (c3.but (wr := [C]) (tk := s2.toks) (fun b o hb e => (hs.2 b fun z => hb (List.mem_singleton.mpr z)).trans e) fun b hb => by rw [List.mem_singleton.mp hb]; exact ⟨gC, nC⟩)
  · obtain ⟨h0, tk, e0⟩ := t4.shp
    exact ⟨h', tk, by rw [e0]⟩
  · obtain ⟨o', e'⟩ := t4.live b o e
    exact ⟨o', (hs.2 b fun z => by rw [z, fC] at e; cases e).trans e'⟩
section
variable {elt iter : Expr} {x y : Str} {px py : Pos} {ifs : List Expr} {scope : Scope} {pos spos : Pos} {d : PyData}
theorem assign_used {A : Around} {E : Value → Shared → Prop} {s : Shared} {Q : Flow → Shared → Prop} (hsw : swapsWith (.ListComp elt [⟨.Name x px, iter, ifs, 0⟩] scope pos) (some (.Name y py)) spos.line env = pure true)
    (h : ∀ p2, wpAny (model prog w) A (comprehension (.ListComp elt [⟨.Name x px, iter, ifs, 0⟩] scope pos) scope env p2 (newList []) false (eval iter env) (some (assign (.Name y py) env))) (fun _ s' => Q .next s') E s) :
    wpAny (model prog w) A (exec (.Assign [.Name y py] (.ListComp elt [⟨.Name x px, iter, ifs, 0⟩] scope pos) spos) env) Q E s := by
  rw [exec_Assign_Name_used _ _ _ _ hsw]
  refine wpAny_bind (wpAny_standAt (wpAny_bind ?_))
  show wpAny _ A (do let _ ← comprehension (.ListComp elt [⟨.Name x px, iter, ifs, 0⟩] scope pos) scope env _ (newList []) false (eval iter env) (some (assign (.Name y py) env))) _ _ s
  exact wpAny_bind (wpAny_mono (h _) (fun _ s' hq => wpAny_pure (wpAny_pure hq)) fun _ _ e => e)
/-- y = [..], the short road -/
theorem Ex1.assignComp (ok : EnvOk env) (hy : Name env y) (h : CompU D k env V elt iter x px ifs scope pos d) (hR : R .next ((y, d) :: V) ow) (hw : ow.name ≠ some y := by decide)
    (hsw : swapsWith (.ListComp elt [⟨.Name x px, iter, ifs, 0⟩] scope pos) (some (.Name y py)) spos.line env = pure true := by exact rfl) :
    Ex1 D k env V ow (.Assign [.Name y py] (.ListComp elt [⟨.Name x px, iter, ifs, 0⟩] scope pos) spos) R := by
  intro A hA G s Q E c hQ
  refine assign_used hsw fun p2 => h A hA p2 G s _ (fun s' => Q .next s') E c.es fun G' s' v C m t r gC fC hn => c.used ok hy hw t r gC fC hn fun s'' t2 c2 => hQ _ _ _ _ _ _ t2 c2 .next hR
/-- the same, a dict of one's own looked at meanwhile -/
theorem Ex1.assignCompD {z : Str} {a : Addr} {kvs : List (PyData × PyData)} (ok : EnvOk env) (hy : Name env y) (h : CompU D k env ((z, .dict kvs) :: V) elt iter x px ifs scope pos d) (hnd : nd d = true) (hR : R .next ((y, d) :: V) (.dict z a kvs)) (hw : z ≠ y := by decide)
    (hsw : swapsWith (.ListComp elt [⟨.Name x px, iter, ifs, 0⟩] scope pos) (some (.Name y py)) spos.line env = pure true := by exact rfl) :
    Ex1 D k env V (.dict z a kvs) (.Assign [.Name y py] (.ListComp elt [⟨.Name x px, iter, ifs, 0⟩] scope pos) spos) R := by
  intro A hA G s Q E c hQ
  obtain ⟨hm, kv, ⟨o, es, ep, eo, xo, xd, xk, xp, xn⟩, r⟩ := c.own.held
  have g := (c.own.off a rfl).1
  have rr : Rd prog w (put G a o) (.ref a) (.dict kvs) := .dict (put_self _ _ _) ⟨es, ep, xo, xd, xk, xp, xn⟩ hm (r.mono (put_le g))
  refine assign_used hsw fun p2 => h A hA p2 _ s _ (fun s' => Q .next s') E (c.frozen rfl rfl eo rr) fun G2 s' v C m t r2 gC fC hn => ?_
  refine c.used (ow := .dict z a kvs) ok hy (fun e => hw (by cases e; rfl)) (t.thaw g eo) (r2.cut (t.le _ _ (put_self _ _ _)) xo.1 hnd) ?_ fC hn fun s'' t2 c2 => hQ _ _ _ _ _ _ t2 c2 .next hR
  show (if C = a then none else G2 C) = none
  split
  · rfl
  · exact gC
end

/-! for over anything that may be walked -/
theorem Ex1.forItr {x : Str} {p pos : Pos} {iter : Expr} {body : List Stmt} {d0 : PyData} {xs : List PyData} (ok : EnvOk env) (hx : Name env x) (h : EvS D k env V ow iter d0) (hit : Itr D d0 xs)
    (J : Nat → Vars → Own → Prop) (h0 : J 0 V ow) (hname : ∀ i V ow, J i V ow → ow.name ≠ some x)
    (turn : ∀ i d V ow, xs[i]? = some d → J i V ow → Ex D k env ((x, d) :: V) ow body (Turn R (J (i + 1)))) (fin : ∀ V ow, J xs.length V ow → R .next V ow)
    (hs : ∀ x, foldedSetIterable iter env x = pure x := by intro _; exact rfl) : Ex1 D k env V ow (.For (.Name x p) iter body [] pos) R := by
  intro A hA G s Q E c hQ
  refine wpAny_For (h A hA G s _ E c fun G1 s1 v t1 r1 => ?_) hs
  have cc := c.step t1
  refine hit A hA.1 G1 s1 v _ E cc.es.g0 t1.inn r1 fun o c0 St hof hc W st0 hIl => ?_
  obtain ⟨oc, hc⟩ := hc
  have t2 := Step.push t1.inn o
  have cc2 := cc.step t2
  have nI : ∀ b o, s1.heap.get? b = some o → b ≠ s1.heap.objs.size := fun b o e => Nat.ne_of_lt (Heap.lt_size e)
  have sI : s1.heap.get? s1.heap.objs.size = none := fresh_size (Kp.refl _)
  have offI : ¬ Foot env ow s1.heap.objs.size := fun z => by
    obtain ⟨o', e'⟩ := cc.foot_live z
    exact nI _ _ e' rfl
  have offG : ∀ b o', G1 b = some o' → ¬ Foot env ow b := fun b o' e z => by
    rcases z with z | ⟨y, z⟩ | z
    · rw [z, cc.offL] at e; cases e
    · rw [(cc.cel y b z).1] at e; cases e
    · rw [(cc.own.off b z).1] at e; cases e
  refine for_walks (s := s1) (xs := fun i => xs.getD i .none) ok hx hA (W _ hA.1) cc2 st0 t2.ss ?_ ?_ ?_ ?_ ?_ J h0 hname (fun i V ow hi hJ => turn i _ V ow (by simp [List.getD, hi]) hJ) fin (fun G' s' f fl V' ow' t c2 fr hr => hQ G' s' f fl V' ow' (t1.ss.trans t) c2 fr hr)
  · intro b hb
    rw [List.mem_singleton.mp hb]; exact sI
  · intro b hb
    rw [List.mem_singleton.mp hb]
    cases z : G1 s1.heap.objs.size with
    | none => rfl
    | some o' => exact absurd rfl (nI _ _ (t1.inn _ _ z))
  · intro b hb
    rcases List.mem_cons.mp hb with rfl | hb
    · exact ⟨offI, _, Heap.get?_push_size _ hof⟩
    · rw [List.mem_singleton.mp hb]
      exact ⟨offG c0 oc hc, oc, Heap.get?_push_of_some _ (t1.inn _ _ hc)⟩
  · rintro i v ⟨d, hd, rd⟩
    simpa [List.getD, hd] using rd
  · intro i h st b hb
    rw [List.mem_singleton.mp hb]
    exact hIl i h st
end
end Mine
end
section
set_option maxRecDepth 100000
namespace Mine
section
variable {prog : Program} {w : World} {D : Md prog w} {k : Nat} {env : Env} {V : Vars} {ow : Own} {R : Fl → Vars → Own → Prop}
/-- a def's head with one name and the rest as a tuple -/
structure HeadV (name : Str) (params : Arguments) (body : List Stmt) (scope : Scope) (n0 n1 : Str) : Prop where
  bind : ∀ pm cd doc v vs, bindArgs (Calls.docDef name params body scope pm cd doc) ⟨v :: vs, []⟩ = (do let t ← newTuple vs; pure [(n0, v), (n1, t)])
  nd : [n0, n1].Nodup
  kinds : ∀ n ∈ [n0, n1], (n == ("__debug__" : Str)) = false ∧ (scope.names.lookup n = some .local ∨ (scope.names.lookup n = some .cell ∧ ((cellsFrom 0 scope.names []).lookup n).isSome = true))
  cells : ((cellsFrom 0 scope.names []).map (·.1)).Nodup
  fn : scope.kind = .function
  co : scope.isCoroutine = false
  gen : scope.isGenerator = false
theorem FnAt.callV {name : Str} {params : Arguments} {body : List Stmt} {scope : Scope} {a : Addr} {pm cd doc : Value} {n0 n1 : Str} {d0 : PyData} {ds : List PyData} {d : PyData} (F : FnAt D name params body scope a pm cd doc) (H : HeadV name params body scope n0 n1)
    (hz : ds.length ≤ sizeLine) (hb : ∀ L, Ex D k (fenv name params body scope a L pm cd doc) [(n0, d0), (n1, .tuple ds)] .none body fun fl _ _ => fl.val = d) : CallTo D (k + 1) (.ref a) (d0 :: ds) d := by
  intro A hA G s vs Q E g0 hi rs hQ
  obtain ⟨o, ho, hd⟩ := F.obj
  have base : Kp D.H s.heap := fun b o q => hi _ _ (g0 b o q)
  cases rs with
  | @cons v vs _ _ r0 rs =>
  have hl := rs.length
  refine wpAny_call (codeAny_call_function (body := body) hA.depth (base _ _ ho) hd H.co H.gen rfl (F.code.keeps base) ?_)
  rw [H.bind]
  refine wpAny_bind (wpAny_newTuple (wpAny_pure ?_) (by rw [hl]; exact hz))
  have tM := (Step.refl (s := s) hi).made (tupO vs 0)
  obtain ⟨t1, l1⟩ := tM
  generalize hG1 : put G s.heap.objs.size (tupO vs 0) = G1 at t1 l1
  have ht : G1 s.heap.objs.size = some (tupO vs 0) := by rw [← hG1]; exact put_self _ _ _
  generalize hs1 : ({ s with heap := s.heap.push (tupO vs 0) } : Shared) = s1 at t1
  generalize hT : s.heap.objs.size = Tp at ht
  have kinds : ∀ b ∈ [(n0, v), (n1, Value.ref Tp)], b.1 ∈ [n0, n1] := fun b hb => by
    rcases List.mem_cons.mp hb with rfl | hb
    · exact List.mem_cons_self
    · rw [List.mem_singleton.mp hb]; exact List.mem_cons_of_mem _ List.mem_cons_self
  have HH : HeadOk name params body scope [n0, n1] → True := fun _ => trivial
  refine wpAny_newFunctionEnv_cells H.fn (fun b hb' => (H.kinds b.1 (kinds b hb')).2.imp id fun ⟨q1, q2⟩ => ⟨q1, cells_shift _ q2⟩) fun env he s₂ x => ?_
  subst he
  refine ⟨D.nl.keeps ((base.trans t1.kp).trans x.toInCall.keep), codeAny_func ?_⟩
  have x : InCallC s1 (fenv name params body scope a s1.heap.objs.size pm cd doc).locals (bindL (fenv name params body scope a s1.heap.objs.size pm cd doc).kindOf [(n0, v), (n1, Value.ref Tp)] fun _ => none) (fenv name params body scope a s1.heap.objs.size pm cd doc).cells
      (bindC (fenv name params body scope a s1.heap.objs.size pm cd doc).kindOf [(n0, v), (n1, Value.ref Tp)] fun _ => none) s₂ := x
  have c := entry (D := D) (V := [(n0, d0), (n1, .tuple ds)]) (ow := .none) x (In0.step g0 t1) t1.inn H.nd (fun b hb' => by
      obtain ⟨h1, h2⟩ := H.kinds b.1 (kinds b hb')
      refine ⟨h1, h2.imp id ?_⟩
      rintro ⟨q1, q2⟩
      exact ⟨q1, Option.isSome_iff_exists.mp (cells_shift _ q2)⟩) H.cells (fun y d e => by
      rw [List.lookup_cons] at e
      cases hy : y == n0 with
      | true => rw [hy] at e; cases e; exact ⟨v, by rw [eq_of_beq hy]; exact List.mem_cons_self, r0.mono l1⟩
      | false =>
        rw [hy] at e
        dsimp only at e
        rw [List.lookup_cons] at e
        cases hy2 : y == n1 with
        | true => rw [hy2] at e; cases e; exact ⟨.ref Tp, by rw [eq_of_beq hy2]; exact List.mem_cons_of_mem _ List.mem_cons_self, .tuple ht rfl rfl (rs.mono l1)⟩
        | false => rw [hy2] at e; cases e) (fun b e => nomatch e) (fun b y e => nomatch e) trivial
  obtain ⟨h1, tk1, e1, kp1⟩ := x.done
  refine wpAny_mono (hb _ _ (hA.deeper _) G1 s₂ (fun f s' => ∃ G', Step G s G' s' ∧ Rd prog w G' (match f with | .ret v => v | _ => .none) d) (fun _ _ => False) c fun G' s' f fl V' ow' t c' fr hR => ⟨G', t1.trans ⟨?_, t.le, c'.es.inn, fun b o' e => t.kp b o' (fun f => ?_) (x.toInCall.keep _ _ e), fun b o' e => ?_⟩, ?_⟩) (fun f s' q => ?_) fun _ _ z => z.elim
  · obtain ⟨h2, tk2, e2⟩ := t.shp
    exact ⟨h2, tk2, by rw [e2, e1]⟩
  · have hlt := Heap.lt_size e
    rcases f with z | ⟨y, z⟩ | z
    · rw [z] at hlt; exact Nat.lt_irrefl _ hlt
    · exact Nat.lt_irrefl _ (Nat.lt_trans hlt (x.above y b (mem_of_lookup z)))
    · cases z
  · rcases t.new b o' e with z | z | z
    · exact .inl z
    · refine .inr ?_
      cases y : s1.heap.get? b with
      | none => rfl
      | some o2 => rw [x.toInCall.keep _ _ y] at z; cases z
    · cases z
  · subst hR
    cases fr with
    | next => exact .none
    | brk => exact .none
    | cont => exact .none
    | ret r => exact r
  · obtain ⟨G', t, r⟩ := q
    exact hQ G' s' _ t r

/-- *xs among the arguments, xs a list -/
theorem EvL.star {e : Expr} {p : Pos} {rest : List Expr} {xs ds : List PyData} (h : Ev D k env V e (.list xs)) (hr : EvL D k env V rest ds) (hz : xs.length ≤ sizeLine)
    (he : starEach (.Starred e p :: rest) env = (true, eval e env) :: starEach rest env := by exact rfl) : EvL D k env V (.Starred e p :: rest) (xs ++ ds) := by
  intro A pos hA G s Q E c hQ
  refine PySem.W.items_star (h A hA G s _ E c fun G1 s1 v t1 r1 => ?_) he
  cases r1 with
  | @list a o vs n _ e1 c1 z1 r1 =>
    have hg := t1.inn _ _ e1
    have hT' : s1.TypeIs (.ref a) "list" := ⟨o, hg, c1⟩
    unfold StarOf notIterableAtAll
    refine wpAny_bind (wpAny_specialOf hT' PySem.F.slot_list_iter.lookup (wpAny_pure ⟨rfl, ?_⟩))
    refine wpAny_collect_seq a (.inl rfl) hg c1 z1 (fun h' hk => ?_) (by rw [List.size_toArray, r1.length]; exact hz)
    have t2 : Step G1 s1 G1 { s1 with heap := h' } := ⟨⟨h', s1.toks, rfl⟩, Le.refl _, t1.inn.kp hk, hk, fun _ _ e => .inl e⟩
    refine hr A pos hA G1 _ _ E ((c.step t1).step t2) fun G3 s3 ws t3 r3 => ?_
    exact hQ _ _ _ ((t1.trans t2).trans t3) (by simpa using (r1.mono t3.le).append r3)
end
end Mine
end
section
set_option maxRecDepth 100000
namespace Mine
section
variable {prog : Program} {w : World} {D : Md prog w} {k : Nat} {env : Env} {V : Vars} {ow : Own} {R : Fl → Vars → Own → Prop}
def tailOf (x : Str) : Str := Txt.slice x (some (cutAt x)) none
theorem hd15 : Hd 15 ["p"] where
  bind := by intro pm cd doc vals h; match vals, h with | [v1], _ => rfl
  nd := by decide +kernel
  kinds := by decide +kernel
  cells := by decide +kernel
  fn := by rfl
  co := by rfl
  gen := by rfl
theorem split_ (T : Text D) (x : Str) (hz : x.length ≤ 1000000) : CallTo D (k + 2) (.ref (T.at_ 15)) [.str x] (.tuple [.str (headCut x), .str (tailOf x)]) := by
  refine (T.fn 15 (by decide)).call hd15 rfl fun L => ?_
  have ok : EnvOk (fe 15 (T.at_ 15) L (T.pm 15) (T.cd 15) (T.doc 15)) := fenv_ok hd15.fn
  refine Ex.cons (Ex1.assign ok (by exact ⟨rfl, .inl rfl⟩) (EvS.of (Ev.callT T 9 ok (EvL.cons (Ev.name ok rfl) EvL.nil) (fspath T x))) ?_)
  refine Ex.cons (Ex1.assign ok (by exact ⟨rfl, .inl rfl⟩) (EvS.of (Ev.callT T 13 ok (EvL.cons (Ev.name ok rfl) EvL.nil) (getSep T x))) ?_)
  refine Ex.cons (Ex1.assign ok (by exact ⟨rfl, .inl rfl⟩) (EvS.of (Ev.bin (Ev.rfind (Ev.name ok rfl) (Ev.name ok rfl)) Ev.cint BinR.addInt)) ?_)
  refine Ex.cons (Ex1.assignSwap (xs := ["head", "tail"]) ok (by exact allC ⟨rfl, .inl rfl⟩ (allC ⟨rfl, .inl rfl⟩ all0)) (EvS.of (Ev.tuple (EvL.cons (Ev.cutStr (Ev.name ok rfl) EvP.none (EvP.some (Ev.name ok rfl)) (small (by omega))) (EvL.cons (Ev.cutStr (Ev.name ok rfl) (EvP.some (Ev.name ok rfl)) EvP.none (small (by omega))) EvL.nil)) (small (by simp)))) rfl ?_ (.bind (.bind .nil)) (by exact rfl))
  have hl := headOf_le x
  refine Ex.cons (Ex1.ite (c := decide ((headOf x).length ≠ 0 ∧ headOf x ≠ Txt.mul "/" (headOf x).length)) (TrS.of (Tr.to (Tr.and (TrAnd.cons (Tr.val (Ev.name ok rfl) (TruR.str (small (by show (headOf x).length ≤ _; omega))) rfl) fun _ => TrAnd.cons (Tr.cmp (Ev.name ok rfl)
    (Ev.bin (Ev.name ok rfl) (Ev.callB (EvV.boot ok rfl (T.free _ (by decide)) PyProof.Rows.Boot.«len») (EvL.cons (Ev.name ok rfl) EvL.nil) (CallTo.lenStr (small (by show (headOf x).length ≤ _; omega)))) (BinR.mulStr (mulOk_slash (by show (headOf x).length ≤ _; omega)))) CmpR.neStr) fun _ => TrAnd.nil)) ?_)) (fun h => ?_) (fun h => ?_))
  · show (((headOf x).length : Int) != 0 && (!decide (headOf x = Txt.mul "/" (headOf x).length) && true)) = _
    rw [bne0, Bool.and_true, ← decide_not, ← Bool.decide_and]
  · refine Ex.cons (Ex1.assign ok (by exact ⟨rfl, .inl rfl⟩) (EvS.of (Ev.rstrip (Ev.name ok rfl) (Ev.name ok rfl) (small (by show (headOf x).length ≤ _; omega)))) ?_)
    refine Ex.nil (Ex.cons (Ex1.ret (EvS.of (Ev.tuple (EvL.cons (Ev.name ok rfl) (EvL.cons (Ev.name ok rfl) EvL.nil)) (small (by simp)))) ?_))
    show PyData.tuple [.str _, .str _] = _
    rw [headCut, if_pos (of_decide_eq_true h)]; rfl
  · refine Ex.nil (Ex.cons (Ex1.ret (EvS.of (Ev.tuple (EvL.cons (Ev.name ok rfl) (EvL.cons (Ev.name ok rfl) EvL.nil)) (small (by simp)))) ?_))
    show PyData.tuple [.str _, .str _] = _
    rw [headCut, if_neg (of_decide_eq_false h)]; rfl

theorem hd16 : Hd 16 ["p"] where
  bind := by intro pm cd doc vals h; match vals, h with | [v1], _ => rfl
  nd := by decide +kernel
  kinds := by decide +kernel
  cells := by decide +kernel
  fn := by rfl
  co := by rfl
  gen := by rfl
def rootOf (p : Str) : Str × Str :=
  if Txt.slice p none (some 1) ≠ "/" then ("", p)
  else if Txt.slice p (some 1) (some 2) ≠ "/" ∨ Txt.slice p (some 2) (some 3) = "/" then ("/", Txt.slice p (some 1) none)
  else (Txt.slice p none (some 2), Txt.slice p (some 2) none)
theorem splitroot (T : Text D) (x : Str) (hz : x.length ≤ 1000000) : CallTo D (k + 2) (.ref (T.at_ 16)) [.str x] (.tuple [.str "", .str (rootOf x).1, .str (rootOf x).2]) := by
  refine (T.fn 16 (by decide)).call hd16 rfl fun L => ?_
  have ok : EnvOk (fe 16 (T.at_ 16) L (T.pm 16) (T.cd 16) (T.doc 16)) := fenv_ok hd16.fn
  refine Ex.cons (Ex1.assign ok (by exact ⟨rfl, .inl rfl⟩) (EvS.of (Ev.callT T 9 ok (EvL.cons (Ev.name ok rfl) EvL.nil) (fspath T x))) ?_)
  refine Ex.cons (Ex1.ite (TrS.of (Tr.isBytes (x := x) (Ev.name ok rfl) (EvV.boot ok rfl (T.free _ (by decide)) PyProof.Rows.Boot.«isinstance») (EvV.boot ok rfl (T.free _ (by decide)) PyProof.Rows.Boot.«bytes») rfl)) (fun h => nomatch h) fun _ => ?_)
  refine Ex.cons (Ex1.assign ok (by exact ⟨rfl, .inl rfl⟩) (EvS.of Ev.cstr) ?_)
  refine Ex.cons (Ex1.assign ok (by exact ⟨rfl, .inl rfl⟩) (EvS.of Ev.cstr) (Ex.nil ?_))
  have cut : ∀ {lo hi : Option Expr} {l h : Option Int} {p q : Pos}, EvP D k _ _ lo l → EvP D k _ _ hi h → Ev D k (fe 16 (T.at_ 16) L (T.pm 16) (T.cd 16) (T.doc 16)) [("empty", .str ""), ("sep", .str "/"), ("p", .str x), ("p", .str x)] (.Subscript (.Name "p" p) (.Slice lo hi Option.none q) p) (.str (Txt.slice x l h)) := fun h1 h2 => Ev.cutStr (Ev.name ok rfl) h1 h2 (small (by omega))
  refine Ex.cons (Ex1.ite (TrS.of (Tr.cmp (Ev.cutStr (x := x) (Ev.name ok rfl) EvP.none (EvP.some Ev.cint) (small (by omega))) (Ev.name ok rfl) CmpR.neStr)) (fun h => ?_) (fun h => ?_))
  · have h : ¬ _ := of_decide_eq_false (by simpa using h)
    refine Ex.cons (Ex1.ret (EvS.of (Ev.tuple (EvL.cons (Ev.name ok rfl) (EvL.cons (Ev.name ok rfl) (EvL.cons (Ev.name ok rfl) EvL.nil))) (small (by simp)))) ?_)
    show PyData.tuple [.str _, .str _, .str _] = _
    rw [rootOf, if_pos h]
  · have h : _ = _ := of_decide_eq_true (by simpa using h)
    refine Ex.cons (Ex1.ite (c := decide (Txt.slice x (some 1) (some 2) ≠ "/" ∨ Txt.slice x (some 2) (some 3) = "/")) (TrS.of (Tr.to (Tr.or (TrOr.cons (Tr.cmp (Ev.cutStr (x := x) (Ev.name ok rfl) (EvP.some Ev.cint) (EvP.some Ev.cint) (small (by omega))) (Ev.name ok rfl) CmpR.neStr) fun _ => TrOr.cons (Tr.cmp (Ev.cutStr (x := x) (Ev.name ok rfl) (EvP.some Ev.cint) (EvP.some Ev.cint) (small (by omega))) (Ev.name ok rfl) CmpR.eqStr) fun _ => TrOr.nil)) ?_)) (fun h2 => ?_) (fun h2 => ?_))
    · rw [Bool.or_false, ← decide_not, ← Bool.decide_or]
    · refine Ex.cons (Ex1.ret (EvS.of (Ev.tuple (EvL.cons (Ev.name ok rfl) (EvL.cons (Ev.name ok rfl) (EvL.cons (Ev.cutStr (x := x) (Ev.name ok rfl) (EvP.some Ev.cint) EvP.none (small (by omega))) EvL.nil))) (small (by simp)))) ?_)
      show PyData.tuple [.str _, .str _, .str _] = _
      rw [rootOf, if_neg (not_not_intro h), if_pos (of_decide_eq_true h2)]
    · refine Ex.cons (Ex1.ret (EvS.of (Ev.tuple (EvL.cons (Ev.name ok rfl) (EvL.cons (Ev.cutStr (x := x) (Ev.name ok rfl) EvP.none (EvP.some Ev.cint) (small (by omega))) (EvL.cons (Ev.cutStr (x := x) (Ev.name ok rfl) (EvP.some Ev.cint) EvP.none (small (by omega))) EvL.nil))) (small (by simp)))) ?_)
      show PyData.tuple [.str _, .str _, .str _] = _
      rw [rootOf, if_neg (not_not_intro h), if_neg (of_decide_eq_false h2)]
end
end Mine
end
section
set_option maxRecDepth 100000
namespace Mine
section
variable {prog : Program} {w : World} {D : Md prog w} {k : Nat} {env : Env} {V : Vars} {ow : Own} {R : Fl → Vars → Own → Prop}
theorem hd14 : HeadV (dName (stm 14)) (dParams (stm 14)) (dBody (stm 14)) (dScope (stm 14)) "a" "p" where
  bind := by
    intro pm cd doc v vs
    match vs with
    | [] => rfl
    | [_] => rfl
    | _ :: _ :: _ => rfl
  nd := by decide +kernel
  kinds := by decide +kernel
  cells := by decide +kernel
  fn := by rfl
  co := by rfl
  gen := by rfl
def join1 (path b : Str) : Str := if Txt.startswith b "/" = true ∨ path.length = 0 then b else if Txt.endswith path "/" = true then path ++ b else path ++ ("/" ++ b)
def joinS (path : Str) : List Str → Str
  | [] => path
  | b :: r => joinS (join1 path b) r
theorem mapGet {xs : List Str} {i : Nat} {d : PyData} (h : (xs.map PyData.str)[i]? = some d) : ∃ p, xs[i]? = some p ∧ d = .str p ∧ i < xs.length ∧ xs.drop i = p :: xs.drop (i + 1) := by
  rw [List.getElem?_map] at h
  cases e : xs[i]? with
  | none => rw [e] at h; cases h
  | some p =>
    rw [e] at h
    have hi : i < xs.length := (List.getElem?_eq_some_iff.mp e).1
    refine ⟨p, rfl, by simpa using h.symm, hi, ?_⟩
    rw [List.drop_eq_getElem_cons hi]; congr 1; exact Option.some.inj ((List.getElem?_eq_getElem hi).symm.trans e)
def lens (xs : List Str) : Nat := (xs.map fun x => x.length + 1).sum
theorem str_len_app (x y : Str) : (x ++ y).length = x.length + y.length := by first | exact Str.length_append x y | simp
theorem join1_len (path b : Str) : (join1 path b).length ≤ path.length + (b.length + 1) := by
  unfold join1
  split
  · omega
  · split
    · rw [str_len_app]; omega
    · rw [str_len_app, str_len_app]; have : ("/" : Str).length = 1 := by decide +kernel
      omega
set_option maxHeartbeats 1000000 in
theorem join_ (T : Text D) (a : Str) (ps : List Str) (hz : a.length + lens ps ≤ 1000000) (hz2 : ps.length ≤ 1000000) : CallTo D (k + 2) (.ref (T.at_ 14)) (.str a :: ps.map .str) (.str (joinS a ps)) := by
  refine (T.fn 14 (by decide)).callV hd14 (small (by rw [List.length_map]; omega)) fun L => ?_
  have ok : EnvOk (fe 14 (T.at_ 14) L (T.pm 14) (T.cd 14) (T.doc 14)) := fenv_ok hd14.fn
  refine Ex.cons (Ex1.assign ok (by exact ⟨rfl, .inl rfl⟩) (EvS.of (Ev.callT T 9 ok (EvL.cons (Ev.name ok rfl) EvL.nil) (fspath T a))) ?_)
  refine Ex.cons (Ex1.assign ok (by exact ⟨rfl, .inl rfl⟩) (EvS.of (Ev.callT T 13 ok (EvL.cons (Ev.name ok rfl) EvL.nil) (getSep T a))) ?_)
  refine Ex.cons (Ex1.assign ok (by exact ⟨rfl, .inl rfl⟩) (EvS.of (Ev.name ok rfl)) ?_)
  refine Ex.cons (Ex1.try_ (Ex.cons (Ex1.forItr (xs := ps.map .str) ok (by exact ⟨rfl, .inl rfl⟩) (EvS.of (Ev.name ok rfl)) Itr.tuple
    (fun i V ow => ow = .none ∧ ∃ pl : Str, Knows V [("path", .str pl), ("sep", .str "/")] ∧ joinS pl (ps.drop i) = joinS a ps ∧ pl.length + lens (ps.drop i) ≤ 1000000) ⟨rfl, a, .cons rfl (.cons rfl .nil), rfl, hz⟩ (fun i V ow h => by rw [h.1]; decide) ?_ ?_)))
  · rintro i d V ow hd ⟨rfl, pl, hk, hs, hl⟩
    obtain ⟨b, hp, rfl, hi, hdrop⟩ := mapGet hd
    rw [hdrop] at hs hl
    have hl2 : pl.length + ((b.length + 1) + lens (ps.drop (i + 1))) ≤ 1000000 := hl
    have hl3 := join1_len pl b
    refine Ex.weak (V' := ("b", .str b) :: [("path", .str pl), ("sep", .str "/")]) ?_ (Knows.more _ _ hk)
    refine Ex.cons (Ex1.assign ok (by exact ⟨rfl, .inl rfl⟩) (EvS.of (Ev.callT T 9 ok (EvL.cons (Ev.name ok rfl) EvL.nil) (fspath T b))) ?_)
    refine Ex.cons (Ex1.ite (c := decide (Txt.startswith b "/" = true ∨ pl.length = 0)) (TrS.of (Tr.to (Tr.or (TrOr.cons (Tr.val (Ev.startswith (Ev.name ok rfl) (Ev.name ok rfl)) TruR.bool rfl) fun _ => TrOr.cons (Tr.not (Tr.val (Ev.name (d := .str pl) ok rfl) (TruR.str (small (by omega))) rfl)) fun _ => TrOr.nil)) ?_)) (fun hc => ?_) (fun hc => ?_))
    · rw [bne0, Bool.or_false, ← decide_not, Bool.decide_or, Bool.decide_eq_true]; congr 1; simp
    · have hc := of_decide_eq_true hc
      have e : join1 pl b = b := if_pos hc
      refine Ex.cons (Ex1.assign ok (by exact ⟨rfl, .inl rfl⟩) (EvS.of (Ev.name ok rfl)) (Ex.nil (Ex.nil ⟨rfl, b, .cons rfl (.cons rfl .nil), ?_, by omega⟩)))
      rw [← hs, joinS, e]
    · have hc := of_decide_eq_false hc
      refine Ex.cons (Ex1.ite (TrS.of (Tr.val (Ev.endswith (Ev.name ok rfl) (Ev.name ok rfl)) TruR.bool rfl)) (fun hc2 => ?_) (fun hc2 => ?_))
      · have e : join1 pl b = pl ++ b := (if_neg hc).trans (if_pos hc2)
        rw [e] at hl3
        refine Ex.cons (Ex1.aug ok (by exact ⟨rfl, .inl rfl⟩) rfl (Ev.name ok rfl) (InR.addStr (small (by omega))) (Ex.nil (Ex.nil (Ex.nil ⟨rfl, pl ++ b, .cons rfl (.cons rfl .nil), ?_, by omega⟩))))
        rw [← hs, joinS, e]
      · have e : join1 pl b = pl ++ ("/" ++ b) := (if_neg hc).trans (if_neg (by rw [hc2]; simp))
        have l1 : ("/" : Str).length = 1 := by decide +kernel
        have l2 := str_len_app "/" b
        rw [e] at hl3
        refine Ex.cons (Ex1.aug ok (by exact ⟨rfl, .inl rfl⟩) rfl (Ev.bin (Ev.name ok rfl) (Ev.name ok rfl) (BinR.addStr (small (by omega)))) (InR.addStr (small (by rw [l2]; omega))) (Ex.nil (Ex.nil (Ex.nil ⟨rfl, pl ++ ("/" ++ b), .cons rfl (.cons rfl .nil), ?_, by omega⟩))))
        rw [← hs, joinS, e]
  · rintro V ow ⟨rfl, pl, hk, hs, hl⟩
    refine Ex.nil ?_
    rw [List.length_map, List.drop_length, joinS] at hs
    refine Ex.weak (V' := [("path", .str pl), ("sep", .str "/")]) ?_ hk
    exact Ex.cons (Ex1.ret (EvS.of (Ev.name ok rfl)) (by rw [hs]; rfl))
end
end Mine
end
section
set_option maxRecDepth 100000
namespace Mine
section
variable {prog : Program} {w : World} {D : Md prog w} {k : Nat} {env : Env} {V : Vars} {ow : Own} {R : Fl → Vars → Own → Prop}
theorem hd18 : Hd 18 ["path"] where
  bind := by intro pm cd doc vals h; match vals, h with | [v1], _ => rfl
  nd := by decide +kernel
  kinds := by decide +kernel
  cells := by decide +kernel
  fn := by rfl
  co := by rfl
  gen := by rfl
def norm1 (abs : Str) (acc : List Str) (c : Str) : List Str :=
  if c.length = 0 ∨ c = "." then acc
  else if c ≠ ".." ∨ (abs.length = 0 ∧ acc = []) ∨ (acc ≠ [] ∧ acc.getLast?.getD "" = "..") then acc ++ [c]
  else acc.take (acc.length - 1)
def normS (x : Str) : Str :=
  if x.length = 0 then "."
  else
    let cs := (Txt.split (rootOf x).2 "/").foldl (norm1 (rootOf x).1) []
    let p := (rootOf x).1 ++ Txt.join "/" cs
    if p.length = 0 then "." else p
theorem norm1_lens (abs : Str) (acc : List Str) (c : Str) : lens (norm1 abs acc c) ≤ lens acc + (c.length + 1) ∧ (norm1 abs acc c).length ≤ acc.length + 1 := by
  unfold norm1
  split
  · exact ⟨by omega, by omega⟩
  · split
    · constructor
      · unfold lens; rw [List.map_append, List.sum_append]; simp
      · simp
    · constructor
      · have : lens (acc.take (acc.length - 1)) ≤ lens acc := by
          have h : acc = acc.take (acc.length - 1) ++ acc.drop (acc.length - 1) := (List.take_append_drop _ _).symm
          conv => rhs; rw [h]
          unfold lens; rw [List.map_append, List.sum_append]; omega
        omega
      · rw [List.length_take]; omega
theorem lens_split (x : Str) : lens (Txt.split x "/") ≤ x.length + 1 := by
  have h := split_weight x "/" (by decide +kernel)
  have e : ∀ l : List Str, lens l = (l.map (·.length)).sum + l.length := by
    intro l
    induction l with
    | nil => rfl
    | cons a r ih => unfold lens at ih ⊢; rw [List.map_cons, List.sum_cons, ih, List.map_cons, List.sum_cons, List.length_cons]; omega
  rw [e]; omega
theorem rootOf_le (x : Str) : (rootOf x).2.length ≤ x.length ∧ (rootOf x).1.length ≤ x.length + 2 := by
  unfold rootOf
  split
  · exact ⟨Nat.le_refl _, by show ("" : Str).length ≤ _; have : ("" : Str).length = 0 := by decide +kernel
                             omega⟩
  · split
    · exact ⟨Txt.slice_le x _ _, by show ("/" : Str).length ≤ _; have : ("/" : Str).length = 1 := by decide +kernel
                                    omega⟩
    · exact ⟨Txt.slice_le x _ _, by have := Txt.slice_le x none (some 2); show (Txt.slice x none (some 2)).length ≤ _; omega⟩
theorem lens_joinOk {l : List Str} (h : lens l ≤ 10000000) : JoinOk "/" l = true := by
  refine joinOk_of ?_
  have : ("/" : Str).length = 1 := by decide +kernel
  rw [this]
  exact small h
theorem last_get {α : Type} {l : List α} (h : l ≠ []) : l[((-1 : Int) + l.length).toNat]? = l.getLast? := by
  rw [List.getLast?_eq_getElem?]
  congr 1
  have := List.length_pos_iff.mpr h
  omega
theorem split_parts (x : Str) : (Builtin.Str.partsBetween x (Builtin.Str.occurrences x "/" 0 x.length (x.length + 1)) ("/" : Str).length).length ≤ x.length + 2 := by
  rw [len_partsBetween]
  have := StrLaws.occ_length_le x "/" 0 x.length (x.length + 1)
  omega
theorem decide_emp {α : Type} (l : List α) : (!l.isEmpty) = decide (l ≠ []) := by cases l <;> simp
theorem lens_len (l : List Str) : l.length ≤ lens l := by
  induction l with
  | nil => exact Nat.le_refl _
  | cons a r ih => unfold lens at ih ⊢; rw [List.map_cons, List.sum_cons, List.length_cons]; omega
theorem joinLen (l : List Str) : (Txt.join "/" l).length ≤ lens l := by
  show (Builtin.Str.glued "/" l).length ≤ _
  rw [StrLaws.glued_eq_join]
  cases l with
  | nil => exact Nat.le_refl _
  | cons a r =>
    have e : ∀ l : List Str, lens l = (l.map (·.length)).sum + l.length := by
      intro l
      induction l with
      | nil => rfl
      | cons a r ih => unfold lens at ih ⊢; rw [List.map_cons, List.sum_cons, ih, List.map_cons, List.sum_cons, List.length_cons]; omega
    have h1 : ("/" : Str).length = 1 := by decide +kernel
    rw [len_join_cons, e, h1, List.length_cons]
    omega
theorem decide_empS (l : List Str) : (!(l.map PyData.str).isEmpty) = decide (l ≠ []) := by cases l <;> simp
theorem nameNe {x y : Str} {a : Addr} {xs : List PyData} (h : x ≠ y) : (Own.list x a xs).name ≠ some y := fun e => h (Option.some.inj e)
theorem TrAnd.to {es : List Expr} {b c : Bool} (h : TrAnd D k env V es b) (q : b = c) : TrAnd D k env V es c := q ▸ h
theorem lastLen {acc : List Str} (hb : (!(acc.map PyData.str).isEmpty) = true) : -((acc.map PyData.str).length : Int) ≤ -1 := by
  cases acc with
  | nil => cases hb
  | cons a r => rw [List.length_map, List.length_cons]; omega
theorem lastStr {acc : List Str} (hb : (!(acc.map PyData.str).isEmpty) = true) : (acc.map PyData.str)[((-1 : Int) + (acc.map PyData.str).length).toNat]? = some (.str (acc.getLast?.getD "")) := by
  have h : acc ≠ [] := by rintro rfl; cases hb
  rw [List.length_map, List.getElem?_map, last_get h]
  cases e : acc.getLast? with
  | none => exact absurd (List.getLast?_eq_none_iff.mp e) h
  | some y => rfl
set_option maxHeartbeats 2000000 in
theorem normpath (T : Text D) (x : Str) (hz : x.length ≤ 1000000) : CallTo D (k + 3) (.ref (T.at_ 18)) [.str x] (.str (normS x)) := by
  refine (T.fn 18 (by decide)).call hd18 rfl fun L => ?_
  have ok : EnvOk (fe 18 (T.at_ 18) L (T.pm 18) (T.cd 18) (T.doc 18)) := fenv_ok hd18.fn
  obtain ⟨hr2, hr1⟩ := rootOf_le x
  have hls := lens_split (rootOf x).2
  refine Ex.cons (Ex1.assign ok (by exact ⟨rfl, .inl rfl⟩) (EvS.of (Ev.callT T 9 ok (EvL.cons (Ev.name ok rfl) EvL.nil) (fspath T x))) ?_)
  refine Ex.cons (Ex1.ite (TrS.of (Tr.isBytes (x := x) (Ev.name ok rfl) (EvV.boot ok rfl (T.free _ (by decide)) PyProof.Rows.Boot.«isinstance») (EvV.boot ok rfl (T.free _ (by decide)) PyProof.Rows.Boot.«bytes») rfl)) (fun h => nomatch h) fun _ => ?_)
  refine Ex.cons (Ex1.assign ok (by exact ⟨rfl, .inl rfl⟩) (EvS.of Ev.cstr) ?_)
  refine Ex.cons (Ex1.assign ok (by exact ⟨rfl, .inl rfl⟩) (EvS.of Ev.cstr) ?_)
  refine Ex.cons (Ex1.assign ok (by exact ⟨rfl, .inl rfl⟩) (EvS.of Ev.cstr) (Ex.nil ?_))
  refine Ex.cons (Ex1.ite (TrS.of (Tr.not (Tr.val (Ev.name (d := .str x) ok rfl) (TruR.str (small (by omega))) rfl))) (fun h => ?_) (fun h => ?_))
  · rw [bne0] at h
    have h : x.length = 0 := by simpa using h
    refine Ex.cons (Ex1.ret (EvS.of (Ev.name ok rfl)) ?_)
    rw [normS, if_pos h]; rfl
  rw [bne0] at h
  have hne : ¬ x.length = 0 := by simpa using h
  refine Ex.nil ?_
  refine Ex.cons (Ex1.assignT (xs := ["_", "initial_slashes", "path"]) ok (by exact allC ⟨rfl, .inl rfl⟩ (allC ⟨rfl, .inl rfl⟩ (allC ⟨rfl, .inl rfl⟩ all0))) (EvS.of (Ev.callT T 16 ok (EvL.cons (Ev.name ok rfl) EvL.nil) (splitroot T x hz))) rfl ?_ (.name (.name (.name .nil))))
  refine Ex.cons (Ex1.assign ok (by exact ⟨rfl, .inl rfl⟩) (EvS.of (Ev.split (x := (rootOf x).2) (y := "/") (Ev.name ok rfl) (Ev.name ok rfl) (by decide +kernel) (small (by omega)) (small (by have := split_parts (rootOf x).2; omega)))) ?_)
  refine Ex.weak (V' := [("comps", .list ((Txt.split (rootOf x).2 "/").map .str)), ("initial_slashes", .str (rootOf x).1), ("sep", .str "/"), ("dot", .str "."), ("dotdot", .str "..")]) ?_ (Knows.cons rfl (.cons rfl (.cons rfl (.cons rfl (.cons rfl .nil)))))
  refine Ex.cons (Ex1.newList ok (by exact ⟨rfl, .inl rfl⟩) rfl fun a => ?_)
  generalize hcs : Txt.split (rootOf x).2 "/" = cs at hls ⊢
  refine Ex.cons (Ex1.forItr (xs := cs.map .str) ok (by exact ⟨rfl, .inl rfl⟩) (EvS.of (Ev.name ok rfl)) Itr.list
    (fun i V ow => Knows V [("initial_slashes", .str (rootOf x).1), ("sep", .str "/"), ("dot", .str "."), ("dotdot", .str "..")] ∧ ∃ acc : List Str, ow = .list "new_comps" a (acc.map .str) ∧ (cs.drop i).foldl (norm1 (rootOf x).1) acc = cs.foldl (norm1 (rootOf x).1) [] ∧ lens acc + lens (cs.drop i) ≤ x.length + 1)
    ⟨.cons rfl (.cons rfl (.cons rfl (.cons rfl .nil))), [], rfl, rfl, by show 0 + lens cs ≤ _; omega⟩ (fun i V ow h => by obtain ⟨_, acc, h, _⟩ := h; rw [h]; exact nameNe (by decide)) ?_ ?_)
  · rintro i d V ow hd ⟨hk, acc, rfl, hs, hl⟩
    obtain ⟨c, hp, rfl, hi, hdrop⟩ := mapGet hd
    rw [hdrop] at hs hl
    have hl2 : lens acc + ((c.length + 1) + lens (cs.drop (i + 1))) ≤ x.length + 1 := hl
    have hl3 := (norm1_lens (rootOf x).1 acc c).1
    have hla := lens_len acc
    rw [List.foldl_cons] at hs
    refine Ex.weak (V' := ("comp", .str c) :: [("initial_slashes", .str (rootOf x).1), ("sep", .str "/"), ("dot", .str "."), ("dotdot", .str "..")]) ?_ (Knows.more _ _ hk)
    have kn : Knows [("comp", PyData.str c), ("initial_slashes", .str (rootOf x).1), ("sep", .str "/"), ("dot", .str "."), ("dotdot", .str "..")] [("initial_slashes", .str (rootOf x).1), ("sep", .str "/"), ("dot", .str "."), ("dotdot", .str "..")] := .cons rfl (.cons rfl (.cons rfl (.cons rfl .nil)))
    refine Ex.cons (Ex1.ite (c := decide (c.length = 0 ∨ c = ".")) (TrS.of (Tr.to (Tr.or (TrOr.cons (Tr.not (Tr.val (Ev.name (d := .str c) ok rfl) (TruR.str (small (by omega))) rfl)) fun _ => TrOr.cons (Tr.cmp (Ev.name ok rfl) (Ev.name ok rfl) CmpR.eqStr) fun _ => TrOr.nil)) ?_)) (fun hc => ?_) (fun hc => ?_))
    · rw [bne0, Bool.or_false, ← decide_not, Bool.decide_or]; congr 1; simp
    · have hc := of_decide_eq_true hc
      have e : norm1 (rootOf x).1 acc c = acc := if_pos hc
      rw [e] at hs
      exact Ex.cons (Ex1.cont ⟨kn, acc, rfl, hs, by omega⟩)
    · have hc := of_decide_eq_false hc
      refine Ex.nil ?_
      refine Ex.cons (Ex1.ite (c := decide (c ≠ ".." ∨ ((rootOf x).1.length = 0 ∧ acc = []) ∨ (acc ≠ [] ∧ acc.getLast?.getD "" = ".."))) (TrS.list (Tr.to (Tr.or (TrOr.cons (Tr.cmp (Ev.name ok rfl) (Ev.name ok rfl) CmpR.neStr) fun _ =>
        TrOr.cons (Tr.and (TrAnd.cons (Tr.not (Tr.val (Ev.name (d := .str (rootOf x).1) ok rfl) (TruR.str (small (by omega))) rfl)) fun _ => TrAnd.cons (Tr.not (Tr.val (Ev.name (d := .list (acc.map .str)) ok rfl) (TruR.list (small (by rw [List.length_map]; omega))) rfl)) fun _ => TrAnd.nil)) fun _ =>
        TrOr.cons (b := decide (acc ≠ [] ∧ acc.getLast?.getD "" = "..")) (Tr.to (Tr.and (TrAnd.cons (c := decide (acc.getLast?.getD "" = "..")) (Tr.val (Ev.name (d := .list (acc.map .str)) ok rfl) (TruR.list (small (by rw [List.length_map]; omega))) rfl) fun hb => TrAnd.to (TrAnd.cons (Tr.cmp (Ev.sub (Ev.name (d := .list (acc.map .str)) ok rfl) (Ev.neg Ev.cint) (GetR.listNeg (by decide) (lastLen hb) (by decide) (lastStr hb))) (Ev.name ok rfl) CmpR.eqStr) fun _ => TrAnd.nil) (Bool.and_true _))) ?_) fun _ => TrOr.nil)) ?_)) (fun hc2 => ?_) (fun hc2 => ?_))
      · rw [decide_empS, ← Bool.decide_and]
      · rw [decide_empS, bne0]; by_cases h1 : c = ".." <;> by_cases h2 : (rootOf x).1.length = 0 <;> by_cases h3 : acc = [] <;> by_cases h4 : acc.getLast?.getD "" = ".." <;> simp_all
      · have hc2 := of_decide_eq_true hc2
        have e : norm1 (rootOf x).1 acc c = acc ++ [c] := (if_neg hc).trans (if_pos hc2)
        rw [e] at hs hl3
        refine Ex.cons (Ex1.append ok (EvS.of (Ev.name ok rfl)) (small (by rw [List.length_map]; omega)) (Ex.nil (Ex.nil ⟨kn, acc ++ [c], by simp, hs, by omega⟩)))
      · have hc2 := of_decide_eq_false hc2
        have e : norm1 (rootOf x).1 acc c = acc.take (acc.length - 1) := (if_neg hc).trans (if_neg hc2)
        rw [e] at hs hl3
        refine Ex.cons (Ex1.ite (TrS.list (Tr.val (Ev.name (d := .list (acc.map .str)) ok rfl) (TruR.list (small (by rw [List.length_map]; omega))) rfl)) (fun hb => ?_) (fun hb => ?_))
        · obtain ⟨l, y, rfl⟩ : ∃ l y, acc = l ++ [y] := by
            have h : acc ≠ [] := by rintro rfl; cases hb
            exact ⟨acc.dropLast, acc.getLast h, (List.dropLast_concat_getLast h).symm⟩
          have e2 : (l ++ [y]).take ((l ++ [y]).length - 1) = l := by simp
          rw [e2] at hs hl3
          rw [List.map_append]
          refine Ex.cons (Ex1.popLast ok (small (by simp only [List.length_append, List.length_map, List.length_cons, List.length_nil] at hla ⊢; omega)) (Ex.nil (Ex.nil (Ex.nil ⟨kn, l, rfl, hs, by omega⟩))))
        · have e2 : acc = [] := by
            cases acc with
            | nil => rfl
            | cons a r => cases hb
          subst e2
          exact Ex.nil (Ex.nil (Ex.nil ⟨kn, [], rfl, hs, by omega⟩))
  · rintro V ow ⟨hk, acc, rfl, hs, hl⟩
    rw [List.length_map, List.drop_length, List.foldl_nil] at hs
    refine Ex.freeze ?_
    have hl : lens acc ≤ x.length + 1 := by omega
    have hj := joinLen acc
    have hn : normS x = if ((rootOf x).1 ++ Txt.join "/" acc).length = 0 then ("." : Str) else (rootOf x).1 ++ Txt.join "/" acc := by
      rw [normS, if_neg hne, hcs, ← hs]
    have hal := str_len_app (rootOf x).1 (Txt.join "/" acc)
    refine Ex.weak (V' := [("new_comps", .list (acc.map .str)), ("initial_slashes", .str (rootOf x).1), ("sep", .str "/"), ("dot", .str ".")]) ?_ (Knows.cons rfl (.cons (hk "initial_slashes" _ rfl) (.cons (hk "sep" _ rfl) (.cons (hk "dot" _ rfl) .nil))))
    refine Ex.cons (Ex1.assign ok (by exact ⟨rfl, .inl rfl⟩) (EvS.of (Ev.name ok rfl)) ?_)
    refine Ex.cons (Ex1.assign ok (by exact ⟨rfl, .inl rfl⟩) (EvS.of (Ev.bin (Ev.name ok rfl) (Ev.join (Ev.name ok rfl) (Ev.name ok rfl) (lens_joinOk (by omega))) (BinR.addStr (small (by omega))))) ?_)
    refine Ex.cons (Ex1.ret (EvS.of (Ev.or2 (d := .str (normS x)) (Ev.name ok rfl) (TruR.str (small (by rw [hal]; omega))) (fun h => ?_) (fun h => ?_))) rfl)
    · rw [bne0] at h
      rw [hn, if_neg (of_decide_eq_true h)]
    · rw [bne0] at h
      have h : _ = _ := of_decide_eq_true (by simpa using h)
      rw [hn, if_pos h]
      exact Ev.name ok rfl
end
end Mine
end
section
set_option maxRecDepth 100000
namespace Mine
namespace Mf
open PySem
theorem slot_next : Slot "map" "__next__" "map.__next__" :=
  .of (owner := "map") (n := "__next__") (by rw [typeLookup_type, builtinLookup_eq_fast]; kernel_rfl) (by decide +kernel) (by decide +kernel) (by decide +kernel)
    (by first | exact .inl (by decide +kernel) | exact .inr (by decide +kernel)) (by rw [isSubtype_type]; kernel_rfl)
theorem slot_iter : Slot "map" "__iter__" "map.__iter__" :=
  .of (owner := "map") (n := "__iter__") (by rw [typeLookup_type, builtinLookup_eq_fast]; kernel_rfl) (by decide +kernel) (by decide +kernel) (by decide +kernel)
    (by first | exact .inl (by decide +kernel) | exact .inr (by decide +kernel)) (by rw [isSubtype_type]; kernel_rfl)
theorem slot_init : Slot "map" "__init__" "object.__init__" :=
  .of (owner := "object") (n := "__init__") (by rw [typeLookup_type, builtinLookup_eq_fast]; kernel_rfl) (by decide +kernel) (by decide +kernel) (by decide +kernel)
    (by first | exact .inl (by decide +kernel) | exact .inr (by decide +kernel)) (by rw [isSubtype_type]; kernel_rfl)
theorem owner_map : Manifest.owners.lookup (String.ofList ['p', 'a', 'm'].reverse) = some Manifest.sig_map := by kernel_rfl
theorem entry_next : entryFor table "map.__next__" = some Builtin.«map.__next__» := entryFor_of_tree (by kernel_rfl)
theorem args_next (a : Value) : argsOk "map.__next__" ⟨[a], []⟩ := by
  unfold argsOk; rw [signature?_of (id := "map.__next__") (n := ['_', '_', 't', 'x', 'e', 'n', '_', '_']) (o := ['p', 'a', 'm']) (by kernel_rfl) owner_map]; kernel_rfl
theorem args_iter (a : Value) : argsOk "map.__iter__" ⟨[a], []⟩ := by
  unfold argsOk; rw [signature?_of (id := "map.__iter__") (n := ['_', '_', 'r', 'e', 't', 'i', '_', '_']) (o := ['p', 'a', 'm']) (by kernel_rfl) owner_map]; kernel_rfl
theorem entry_iter : entryFor table "map.__iter__" = some Builtin.«dict_keyiterator.__iter__» :=
  entryFor_alias (id' := "dict_keyiterator.__iter__") (by kernel_rfl) (by first | rfl | decide +kernel | (unfold String.splitOn; simp +decide [String.splitOnAux])) (by decide +kernel) (by kernel_rfl)
theorem mro : mroOf (.type "map") = pure [.type "map", .type "object"] := by rw [mroOf_type]; kernel_rfl
theorem look_new : typeLookup (.type "map") "__new__" = pure (some (.builtin "map.__new__")) := by rw [typeLookup_type, builtinLookup_eq_fast]; kernel_rfl
theorem called : TypeCalled "map" "map.__new__" "object.__init__" :=
  ⟨by decide +kernel, by decide +kernel, ⟨_, _, mro⟩, madeBy_type mro look_new (by decide +kernel), by decide +kernel, by rw [isSubtype_type]; kernel_rfl, slot_init⟩
theorem typeCall2 (a b : Value) : checkTypeCall "map" ⟨[a, b], []⟩ = pure () := by kernel_rfl
theorem newCall2 (a b : Value) : checkBuiltinCall "map.__new__" ⟨[.type "map", a, b], []⟩ = pure () := by kernel_rfl
theorem entry_new : entryFor table "map.__new__" = some Builtin.«map.__new__» := entryFor_of_tree (by kernel_rfl)
theorem sub : isSubtype (.type "map") (.type "map") = pure true := by rw [isSubtype_type]; kernel_rfl
theorem no_len : typeLookup (.type "map") "__len__" = pure none := by rw [typeLookup_type, builtinLookup_eq_fast]; kernel_rfl
theorem no_hint : typeLookup (.type "map") "__length_hint__" = pure none := by rw [typeLookup_type, builtinLookup_eq_fast]; kernel_rfl
end Mf
abbrev mapO (tp : Addr) (f : Value) : Obj := { cls := .type "map", data := .fields #[.ref tp, f] }
theorem meets_map_new (f : Value) (l : Addr) (items : Array Value) (n : Nat) (dct : Option Addr) (sl : Array (Option Value)) :
    Meets (Builtin.«map.__new__» ⟨[.type "map", f, .ref l], []⟩) (fun _ R s => s.heap.get? l = some { cls := .type "list", dict := dct, data := .seq items n, slots := sl } ∧
      R (.ok (.ret (.ref (s.heap.objs.size + 2)))) { s with heap := ((s.heap.push { cls := .type "list_iterator", data := .fields #[.ref l, .int 0 0] }).push (tupO [.ref s.heap.objs.size] 0)).push (mapO (s.heap.objs.size + 1) f) }) :=
  .of_wp fun prog w A R s h => by
    obtain ⟨hp, g, d, tk, os⟩ := s; obtain ⟨hl, h⟩ := h
    have hsub := Mf.sub
    have hL : Heap.IsList (Shared.heap ⟨hp, g, d, tk, os⟩) l items := ⟨_, hl, rfl, n, rfl⟩
    wp_walk using wpAny_pyIter_list hL
    refine ⟨_, rfl, ?_⟩
    rw [Heap.size_push, Heap.size_push]
    exact h
section
variable {prog : Program} {w : World} {D : Md prog w} {k : Nat} {env : Env} {V : Vars} {ow : Own} {R : Fl → Vars → Own → Prop}

/-! collecting what an iterator of a foreign type gives -/
theorem collect_walk {A : Around} {E : Value → Shared → Prop} {s : Shared} {I : Addr} {fp wr : List Addr} {n : Nat} {P : Nat → Value → Prop} {St : Nat → Heap → Prop} {T : String} {Q : List Value → Shared → Prop} (W : Walks prog w A.in1 I fp wr n P St)
    (hT : ∀ i (s : Shared), St i s.heap → s.TypeIs (.ref I) T) (n1 : typeLookup (.type T) "__len__" = pure none) (n2 : typeLookup (.type T) "__length_hint__" = pure none) (h2 : (Value.type T == Value.type "list") = false) (h3 : (Value.type T == Value.type "tuple") = false)
    (hst : St 0 s.heap) (hfp : ∀ b ∈ fp, b < s.heap.objs.size) (hI : I ∈ fp)
    (hQ : ∀ s' acc, (∃ h' tk, s' = { s with heap := h', toks := tk }) → (∀ b o, b ∉ wr → s.heap.get? b = some o → s'.heap.get? b = some o) → ItemsOf P acc n → Q acc.toList s') (hn : n ≤ sizeLine) : wpAny (model prog w) A (collect (.ref I)) Q E s := by
  have hSf : s.heap.objs.size ∉ fp := fun hm => Nat.lt_irrefl _ (hfp _ hm)
  have hSI : s.heap.objs.size ≠ I := fun e => hSf (e ▸ hI)
  unfold collect
  refine wpAny_bind (wpAny_runValue (codeAny_builtin PySem.F.entry_proto_collect ?_))
  rw [Around.under_plainId PySem.F.plain_proto_collect _]
  show wpAny _ A.in1 (newList [] >>= fun l => again (.builtin "list.__iadd__" ⟨[l, .ref I], []⟩)) _ _ s
  refine wpAny_bind (wpAny_newObj_type ?_)
  refine wpAny_pure ⟨plainId_quiet PySem.F.plain_list_iadd _, codeAny_builtin PySem.F.entry_list_iadd ?_⟩
  rw [Around.under_plainId PySem.F.plain_list_iadd _]
  have hst1 := W.frame 0 s.heap (s.heap.push (listO [] 0)) hst fun b _ o e => Heap.get?_push_of_some _ e
  show wpAny _ A.in1 (Builtin.List.listExtendWith (.ref s.heap.objs.size) (.ref I) (.ref s.heap.objs.size)) _ _ _
  unfold Builtin.List.listExtendWith
  refine wpAny_bind (wpAny_typeOf (hT 0 _ hst1) ?_)
  have h1 : Builtin.List.listSameRef (.ref s.heap.objs.size) (.ref I) = false := by simp [Builtin.List.listSameRef, hSI]
  simp only [h1, h2, h3, Bool.or_false, Bool.false_eq_true, if_false]
  refine wpAny_bind (W.self 0 _ _ _ hst1 ?_)
  refine wpAny_bind (wpAny_holding ?_)
  unfold Builtin.List.listLengthHint
  refine wpAny_bind (wpAny_specialOf (hT 0 _ hst1) n1 ?_)
  show wpAny _ A.in1 (specialOf (Value.ref I) (Str.ofString "__length_hint__") >>= _) _ _ _
  refine wpAny_bind (wpAny_specialOf (hT 0 _ hst1) n2 (wpAny_pure ?_))
  show wpAny _ A.in1 (rule "list.extend.makes-room" >>= fun _ => Builtin.List.listTouch (.ref s.heap.objs.size) >>= fun _ =>
    again (.builtin "list.extend.loop" ⟨[.ref s.heap.objs.size, .ref I, .ref s.heap.objs.size], []⟩)) _ _ _
  have g1 : (s.heap.push (listO [] 0)).get? s.heap.objs.size = some (listO [] 0) := Heap.get?_push_size _ rfl
  refine wpAny_bind (wpAny_rule (wpAny_bind ?_))
  show wpAny _ A.in1 (updateSeq s.heap.objs.size (·.push .none) >>= fun _ => updateSeq s.heap.objs.size (·.pop)) _ _ _
  refine wpAny_bind (wpAny_updateSeq g1 rfl ?_)
  have g2 := Heap.get?_update_self (Obj.mapSeq (·.push Value.none)) g1 rfl
  refine wpAny_updateSeq g2 rfl ?_
  have g3 := Heap.get?_update_self (Obj.mapSeq (·.pop)) g2 rfl
  have oth : ∀ b o, b ≠ s.heap.objs.size → (s.heap.push (listO [] 0)).get? b = some o → (((s.heap.push (listO [] 0)).update s.heap.objs.size (Obj.mapSeq (·.push Value.none))).update s.heap.objs.size (Obj.mapSeq (·.pop))).get? b = some o :=
    fun b o hb e => (Heap.get?_update_other _ _ (Ne.symm hb)).trans ((Heap.get?_update_other _ _ (Ne.symm hb)).trans e)
  have live : ∀ b o, s.heap.get? b = some o → b ≠ s.heap.objs.size := fun b o e => ne_size e
  refine wpAny_pure ⟨plainId_quiet PySem.F.plain_extend_loop _, codeAny_extend_loopS (Walks.toS W) hn _ hSf _ n 0 _ _ _ rfl (Nat.zero_le _)
    (W.frame 0 _ _ hst1 fun b hb o e => oth b o (fun h => hSf (h ▸ hb)) e) g3 (ItemsOf.nil P) fun s' acc' c' hm hS' hacc => ?_⟩
  show wpAny _ A (PySem.load s.heap.objs.size >>= _) _ _ s'
  refine wpAny_bind (wpAny_load hS' (wpAny_pure (hQ s' acc' ?_ (fun b o hb e => ?_) hacc)))
  · obtain ⟨hh, hg, hd, ho, htk⟩ := hm
    refine ⟨s'.heap, s'.toks, ?_⟩
    cases s'
    simp only at hg hd ho
    subst hg hd ho
    rfl
  · exact hm.heap b o (fun z => (List.mem_cons.mp z).elim (live b o e) hb) (oth b o (live b o e) (Heap.get?_push_of_some _ e))

/-! map over a list, with a def that gives back a str as it is -/
structure MapAt (D : Md prog w) (m tp it l : Addr) (f : Value) (items : Array Value) (i : Nat) (h : Heap) : Prop where
  om : h.get? m = some (mapO tp f)
  ot : h.get? tp = some (tupO [.ref it] 0)
  oi : h.IsListIter it l i
  ol : h.IsList l items
  base : Kp D.H h
theorem map_next {A : Around} {E : Value → Shared → Prop} {s : Shared} {m tp it l : Addr} {f : Value} {items : Array Value} {i : Nat} {x : Str} {t : Tok} {Q : Value → Shared → Prop} (hA : Room k A) (M : MapAt D m tp it l f items i s.heap) (hf : CallTo D k f [.str x] (.str x))
    (hx : items[i]? = some (.str x t)) (hit : D.H.get? it = none) (d1 : it ≠ m) (d2 : it ≠ tp) (d3 : it ≠ l)
    (hQ : ∀ v h' tk, (∃ t, v = .str x t) → MapAt D m tp it l f items (i + 1) h' → (∀ b o, b ≠ it → s.heap.get? b = some o → h'.get? b = some o) → Q v { s with heap := h', toks := tk }) :
    wpAny (model prog w) A (Builtin.«map.__next__» ⟨[.ref m], []⟩) (fun fin s' => ∃ v, fin = .done (.ret v) ∧ Q v s') E s := by
  show wpAny _ _ (field (.ref m) 0 >>= _) _ _ _
  refine wpAny_bind (wpAny_field M.om rfl (x := .ref tp) rfl ?_)
  refine wpAny_bind (wpAny_seqItems M.ot rfl ?_)
  dsimp only
  refine wpAny_bind (wpAny_arrayLoop ?_)
  show wpAny _ _ (forIn [Value.ref it] _ _) _ _ _
  rw [List.forIn_cons]
  refine wpAny_bind (wpAny_bind (wpAny_holding (wpAny_nextOf_list_item M.oi M.ol hx fun h1 i1 s1 => ?_)))
  refine wpAny_pure ?_
  dsimp only
  rw [List.forIn_nil]
  refine wpAny_pure ?_
  have M1 : MapAt D m tp it l f items (i + 1) h1 := ⟨(s1.2 _ (Ne.symm d1)).trans M.om, (s1.2 _ (Ne.symm d2)).trans M.ot, i1, M.ol.extBut s1.extBut (Ne.symm d3), fun b o e => (s1.2 b (fun z => by rw [z, hit] at e; cases e)).trans (M.base b o e)⟩
  show wpAny _ _ (field (.ref m) 1 >>= _) _ _ _
  refine wpAny_bind (wpAny_field M1.om rfl (x := f) rfl ?_)
  refine wpAny_bind (wpAny_holding (hf A hA (fun b => D.H.get? b) _ _ _ _ (fun _ _ e => e) M1.base (.cons (.str x t) .nil) fun G' s' v t2 r2 => ?_))
  cases r2
  refine wpAny_bind (wpAny_letGo ?_)
  obtain ⟨h2, tk2, e2⟩ := t2.shp
  subst e2
  refine wpAny_pure ⟨_, rfl, hQ _ h2 tk2 ⟨_, rfl⟩ ⟨t2.kp _ _ M1.om, t2.kp _ _ M1.ot, ?_, ?_, M1.base.trans t2.kp⟩ fun b o hb e => t2.kp _ _ ((s1.2 b hb).trans e)⟩
  · obtain ⟨o, eo, r⟩ := M1.oi
    exact ⟨o, t2.kp _ _ eo, r⟩
  · obtain ⟨o, eo, r⟩ := M1.ol
    exact ⟨o, t2.kp _ _ eo, r⟩
theorem map_end {A : Around} {E : Value → Shared → Prop} {s : Shared} {m tp it l : Addr} {f : Value} {items : Array Value} {i : Nat} {Q : PySem.Fin → Shared → Prop} (hA : A.handled = none) (M : MapAt D m tp it l f items i s.heap)
    (hx : items[i]? = none) (hE : ∀ h' e, Heap.ExtBut it s.heap h' → (∃ o, h'.get? e = some o ∧ o.cls = .type "StopIteration") → E (.ref e) { s with heap := h' }) :
    wpAny (model prog w) A (Builtin.«map.__next__» ⟨[.ref m], []⟩) Q E s := by
  show wpAny _ _ (field (.ref m) 0 >>= _) _ _ _
  refine wpAny_bind (wpAny_field M.om rfl (x := .ref tp) rfl ?_)
  refine wpAny_bind (wpAny_seqItems M.ot rfl ?_)
  dsimp only
  refine wpAny_bind (wpAny_arrayLoop ?_)
  show wpAny _ _ (forIn [Value.ref it] _ _) _ _ _
  rw [List.forIn_cons]
  exact wpAny_bind (wpAny_bind (wpAny_holding (wpAny_nextOf_list_end hA M.oi M.ol hx fun h' e he ho => hE h' e he ho)))
theorem walks_map {A : Around} {m tp it l : Addr} {f : Value} {ts : List (Str × Tok)} (hA : Room (k + 1) A) (hf : ∀ x ∈ ts.map (·.1), CallTo D k f [.str x] (.str x)) (hit : D.H.get? it = none) (d1 : it ≠ m) (d2 : it ≠ tp) (d3 : it ≠ l) :
    Walks prog w A m (m :: tp :: it :: l :: (List.range D.H.objs.size).filter fun b => (D.H.get? b).isSome) [it] ts.length (fun i v => ∃ x t, (ts.map (·.1))[i]? = some x ∧ v = .str x t) (fun i h => MapAt D m tp it l f (strValues ts).toArray i h) where
  sub := fun b hb => by rw [List.mem_singleton.mp hb]; simp
  frame := fun i h h' M hk => ⟨hk _ (by simp) _ M.om, hk _ (by simp) _ M.ot, (let ⟨o, e, r⟩ := M.oi; ⟨o, hk _ (by simp) _ e, r⟩), (let ⟨o, e, r⟩ := M.ol; ⟨o, hk _ (by simp) _ e, r⟩), fun b o e => hk b (by simp [Heap.lt_size e, e]) o (M.base b o e)⟩
  item := fun i s Q E hi M hQ => by
    have hT : s.TypeIs (.ref m) "map" := ⟨_, M.om, rfl⟩
    obtain ⟨x, t, hx⟩ : ∃ x t, ts[i]? = some (x, t) := ⟨ts[i].1, ts[i].2, by simp [hi]⟩
    unfold pyNext
    refine wpAny_bind (wpAny_attempt (wpAny_callSpecial?_slot (name := Str.ofString "__next__") hT Mf.slot_next (wpAny_call_entry Mf.slot_next hT Mf.entry_next ?_ (Mf.args_next _))))
    refine map_next hA.in1 M (hf x ?_) (x := x) (t := t) (by simp [strValues, hx]) hit d1 d2 d3 fun v h' tk hv M' hk => ?_
    · exact List.mem_map.mpr ⟨(x, t), List.mem_of_getElem? hx, rfl⟩
    · obtain ⟨t', rfl⟩ := hv
      exact wpAny_pure (hQ _ h' tk ⟨x, t', by simp [hx], rfl⟩ M' fun b o hb e => hk b o (fun z => hb (List.mem_singleton.mpr z)) e)
  done := fun s Q E M hQ => by
    have hT : s.TypeIs (.ref m) "map" := ⟨_, M.om, rfl⟩
    unfold pyNext
    refine wpAny_bind (wpAny_attempt (wpAny_callSpecial?_slot (name := Str.ofString "__next__") hT Mf.slot_next (wpAny_call_entry Mf.slot_next hT Mf.entry_next ?_ (Mf.args_next _))))
    refine map_end hA.1 M (by simp [strValues]) fun h' e he ho => ?_
    refine wpAny_bind (wpAny_isInstance (T := "StopIteration") (b := true) ho isSubtype_stop ?_)
    exact wpAny_pure (hQ h' s.toks fun b o hb e => he b o (fun z => hb (List.mem_singleton.mpr z)) e)
  self := fun i s Q E M hQ => by
    have hT : s.TypeIs (.ref m) "map" := ⟨_, M.om, rfl⟩
    refine wpAny_pyIter_slot hT Mf.slot_iter (wpAny_call_entry Mf.slot_iter hT Mf.entry_iter ?_ (Mf.args_iter _))
    show wpAny _ _ (ret (.ref m)) _ _ s
    exact wpAny_pure ⟨_, rfl, "map", _, hT, Mf.slot_next.lookup, hQ⟩

theorem code_tuple_walk {A : Around} {E : Value → Shared → Prop} {s : Shared} {I : Addr} {fp wr : List Addr} {n : Nat} {P : Nat → Value → Prop} {St : Nat → Heap → Prop} {T : String} {Q₁ : Value → Shared → Prop} (W : Walks prog w A.in1.in1 I fp wr n P St)
    (hT : ∀ i (s : Shared), St i s.heap → s.TypeIs (.ref I) T) (n1 : typeLookup (.type T) "__len__" = pure none) (n2 : typeLookup (.type T) "__length_hint__" = pure none) (h2 : (Value.type T == Value.type "list") = false) (h3 : (Value.type T == Value.type "tuple") = false)
    (hst : St 0 s.heap) (hfp : ∀ b ∈ fp, b < s.heap.objs.size) (hI : I ∈ fp)
    (h : ∀ s' acc, (∃ h' tk, s' = { s with heap := h', toks := tk }) → (∀ b o, b ∉ wr → s.heap.get? b = some o → s'.heap.get? b = some o) → ItemsOf P acc n → Q₁ (.ref s'.heap.objs.size) { s' with heap := s'.heap.push (tupO acc.toList 0) }) (hn : n ≤ sizeLine) :
    codeAny (model prog w) A (.call (.builtin "tuple.__new__") ⟨[.type "tuple", .ref I], []⟩) (wants Q₁ E) s := by
  refine codeAny_of_tree ?_
  show wpAny _ A.in1 (do checkBuiltinCall "tuple.__new__" ⟨[.type "tuple", .ref I], []⟩; again (.builtin "tuple.__new__" ⟨[.type "tuple", .ref I], []⟩)) _ _ s
  refine wpAny_bind (wpAny_of_eq (PySem.F.newCall_tuple_1 _) (wpAny_pure ⟨plainId_quiet PySem.F.plain_tuple_new _, codeAny_builtin PySem.F.entry_tuple_new ?_⟩))
  rw [Around.under_plainId PySem.F.plain_tuple_new _]
  have hsub := sub_tuple_self
  have hinit := init_tuple_lookup
  have hmh := madeHere_tuple
  have hTI := hT 0 s hst
  wp_walk using wpAny_typeOf hTI, collect_walk (hn := hn) W hT n1 n2 h2 h3 hst hfp hI
  intro s' acc hm hk hacc
  show wpAny _ _ (Builtin.Tuple.tupleExact acc.toList.toArray >>= fun v => ret v) _ _ _
  unfold Builtin.Tuple.tupleExact
  refine wpAny_bind (wpAny_newObj_type ?_ (by show acc.toList.toArray.size ≤ sizeLine; simp only [Array.toArray_toList]; rw [hacc.1]; exact hn))
  exact wpAny_pure (h s' acc hm hk hacc)
theorem items_strs : ∀ {texts : List Str} {acc : List Value}, acc.length = texts.length → (∀ (j : Nat) (v : Value), acc[j]? = some v → ∃ x t, texts[j]? = some x ∧ v = Value.str x t) → ∃ ts : List (Str × Tok), acc = strValues ts ∧ ts.map (·.1) = texts
  | [], [], _, _ => ⟨[], rfl, rfl⟩
  | [], _ :: _, h, _ => by cases h
  | _ :: _, [], h, _ => by cases h
  | y :: r, v :: vs, h, hv => by
    obtain ⟨x, t, hx, rfl⟩ := hv 0 v rfl
    obtain ⟨ts, e1, e2⟩ := items_strs (texts := r) (acc := vs) (by simpa using h) fun j u hj => by
      obtain ⟨x, t, h1, h2⟩ := hv (j + 1) u (by simpa using hj)
      exact ⟨x, t, by simpa using h1, h2⟩
    have hx : y = x := by simpa using hx
    exact ⟨(y, t) :: ts, by rw [e1, ← hx]; rfl, by simp [e2]⟩
/-- tuple(map(f, xs)), f giving strs back as they are -/
theorem Ev.tupleMap {n1 n2 pos pos2 : Pos} {x : Str} {np : Pos} {e : Expr} {a : Addr} {texts : List Str} (hT : EvV D (k + 4) env V (.Name "tuple" n1) (.type "tuple")) (hM : EvV D (k + 4) env V (.Name "map" n2) (.type "map")) (hF : EvV D (k + 4) env V (.Name x np) (.ref a))
    (h : Ev D (k + 4) env V e (.list (texts.map .str))) (hf : ∀ y ∈ texts, CallTo D k (.ref a) [.str y] (.str y)) (hz : texts.length ≤ sizeLine)
    (he3 : starEach [e] env = [(false, eval e env)] := by exact rfl) :
    Ev D (k + 4) env V (.Call (.Name "tuple" n1) [.Call (.Name "map" n2) [.Name x np, e] [] pos2] [] pos) (.tuple (texts.map .str)) := by
  intro A hA G s Q E c hQ
  refine wpAny_Call_ofName (hT A hA G s _ E c fun G1 s1 t1 => ?_)
  refine Pv.callWith_type1 ?_ rfl rfl
  refine Calls.spliced_cons (wpAny_Call_ofName (hM A hA G1 s1 _ E (c.step t1) fun G2 s2 t2 => ?_))
  refine Pv.callWith_type1 ?_ rfl (by rw [he3]; rfl)
  rw [show starEach [.Name x np, e] env = (false, eval (.Name x np) env) :: starEach [e] env from rfl, he3]
  refine Calls.spliced_cons (hF A hA G2 s2 _ E ((c.step t1).step t2) fun G3 s3 t3 => Calls.spliced_cons (h A hA G3 s3 _ E (((c.step t1).step t2).step t3) fun G4 s4 v t4 r => Calls.spliced_nil ?_))
  have t := ((t1.trans t2).trans t3).trans t4
  have c4 := c.step t
  cases r with
  | @list l o vs n _ e1 c1 z1 r1 =>
    obtain ⟨ts, rfl, hts⟩ := strs_of_rd r1
    have hl := t4.inn _ _ e1
    obtain ⟨cls, dct, data, sl⟩ := o
    simp only at c1 z1
    subst c1 z1
    refine callType_new Mf.called (by decide) (Mf.typeCall2 _ _) (Mf.newCall2 _ _) (fun obj => PySem.F.args_object_init_3 obj _ _) Mf.entry_new (meets_map_new _ l (strValues ts).toArray n dct sl) ⟨hl, ?_⟩
    generalize hH : ((s4.heap.push { cls := .type "list_iterator", data := .fields #[.ref l, .int 0 0] }).push (tupO [.ref s4.heap.objs.size] 0)).push (mapO (s4.heap.objs.size + 1) (.ref a)) = H
    have z1 : (s4.heap.push { cls := .type "list_iterator", data := .fields #[.ref l, .int 0 0] }).objs.size = s4.heap.objs.size + 1 := Heap.size_push ..
    have z2 : ((s4.heap.push { cls := .type "list_iterator", data := .fields #[.ref l, .int 0 0] }).push (tupO [.ref s4.heap.objs.size] 0)).objs.size = s4.heap.objs.size + 2 := by rw [Heap.size_push, z1]
    have kH : Kp s4.heap H := fun b o e => by rw [← hH]; exact Heap.get?_push_of_some _ (Heap.get?_push_of_some _ (Heap.get?_push_of_some _ e))
    have gi : H.get? s4.heap.objs.size = some { cls := .type "list_iterator", data := .fields #[.ref l, .int 0 0] } := by rw [← hH]; exact Heap.get?_push_of_some _ (Heap.get?_push_of_some _ (Heap.get?_push_size _ rfl))
    have gt : H.get? (s4.heap.objs.size + 1) = some (tupO [.ref s4.heap.objs.size] 0) := by
      have := Heap.get?_push_size (s4.heap.push { cls := .type "list_iterator", data := .fields #[.ref l, .int 0 0] }) (o := tupO [.ref s4.heap.objs.size] 0) rfl
      rw [z1] at this
      rw [← hH]; exact Heap.get?_push_of_some _ this
    have gm : H.get? (s4.heap.objs.size + 2) = some (mapO (s4.heap.objs.size + 1) (.ref a)) := by
      have := Heap.get?_push_size ((s4.heap.push { cls := .type "list_iterator", data := .fields #[.ref l, .int 0 0] }).push (tupO [.ref s4.heap.objs.size] 0)) (o := mapO (s4.heap.objs.size + 1) (.ref a)) rfl
      rw [z2] at this
      rw [← hH]; exact this
    have fresh : ∀ b, s4.heap.objs.size ≤ b → s4.heap.get? b = none := fun b hb => by
      cases z : s4.heap.get? b with
      | none => rfl
      | some o => exact absurd (Heap.lt_size z) (Nat.not_lt.mpr hb)
    have back : ∀ b, s4.heap.get? b = none → s.heap.get? b = none := fun b q => by
      cases z : s.heap.get? b with
      | none => rfl
      | some o => rw [t.kp _ _ z] at q; cases q
    have hlt := Heap.lt_size hl
    have base4 : Kp D.H s4.heap := c4.base
    refine ⟨⟨_, gm, rfl⟩, Calls.spliced_nil ?_⟩
    have M0 : MapAt D (s4.heap.objs.size + 2) (s4.heap.objs.size + 1) s4.heap.objs.size l (.ref a) (strValues ts).toArray 0 H := ⟨gm, gt, ⟨_, gi, rfl, rfl⟩, ⟨_, kH _ _ hl, rfl, n, rfl⟩, base4.trans kH⟩
    have hn : ts.length ≤ sizeLine := by rw [← hts, List.length_map] at hz; exact hz
    have W := walks_map (D := D) (k := k) (A := A.in1.in1.in1) (ts := ts) (m := s4.heap.objs.size + 2) (tp := s4.heap.objs.size + 1) (it := s4.heap.objs.size) (l := l) (f := .ref a) hA.in1.in1.in1 (fun y hy => hf y (hts ▸ hy))
      (by cases z : D.H.get? s4.heap.objs.size with
        | none => rfl
        | some o => have := base4 _ _ z; rw [fresh _ (Nat.le_refl _)] at this; cases this) (Nat.ne_of_lt (Nat.lt_add_of_pos_right (by decide))) (Nat.ne_of_lt (Nat.lt_succ_self _)) (Nat.ne_of_gt hlt)
    have hsz : H.objs.size = s4.heap.objs.size + 3 := by rw [← hH, Heap.size_push, z2]
    refine callType_codes (Q₁ := fun obj s₁ => s₁.TypeIs obj "tuple" ∧ Q obj s₁) PySem.F.called_tuple (PySem.F.typeCall_tuple_1 _) PySem.F.entry_object_init
      (code_tuple_walk W (T := "map") (fun i s M => ⟨_, M.om, rfl⟩) Mf.no_len Mf.no_hint (by decide) (by decide) M0 ?_ (by simp) ?_ hn) fun obj s₁ h₁ => ?_
    · intro b hb
      show b < H.objs.size
      simp only [List.mem_cons, List.mem_filter] at hb
      rcases hb with rfl | rfl | rfl | rfl | ⟨_, hb⟩
      · exact Heap.lt_size gm
      · exact Heap.lt_size gt
      · exact Heap.lt_size gi
      · exact Heap.lt_size (kH _ _ hl)
      · obtain ⟨o, e⟩ := Option.isSome_iff_exists.mp hb
        exact Heap.lt_size (kH _ _ (base4 _ _ e))
    · intro s' acc hs' hk hacc
      have hk4 : Kp s4.heap s'.heap := fun b o e => hk b o (fun z => by rw [List.mem_singleton.mp z, fresh _ (Nat.le_refl _)] at e; cases e) (kH _ _ e)
      obtain ⟨h5, tk5, e5⟩ := hs'
      have t5 : Step _ s4 _ s' := ⟨⟨h5, tk5, e5⟩, Le.refl _, t4.inn.kp hk4, hk4, fun _ _ e => .inl e⟩
      obtain ⟨t6, _⟩ := t5.made (tupO acc.toList 0)
      refine ⟨⟨_, Heap.get?_push_size _ rfl, rfl⟩, hQ _ _ _ (t.trans t6) (.tuple (put_self _ _ _) rfl rfl ?_)⟩
      have hitems : ∃ ts' : List (Str × Tok), acc.toList = strValues ts' ∧ ts'.map (·.1) = texts := by
        refine items_strs ?_ fun j v hv => ?_
        · rw [Array.length_toList, hacc.1, ← hts, List.length_map]
        · rw [← hts]; exact hacc.2 j v (by rw [← Array.getElem?_toList]; exact hv)
      obtain ⟨ts', h1, h2⟩ := hitems
      rw [h1, ← h2]
      exact rd_of_strs ts'
    · exact ⟨h₁.1, PySem.F.args_object_init_2 obj _, object_init_meets PySem.F.called_tuple.init.lookup PySem.F.called_tuple.made (by decide) prog w A.in1 _ s₁ ⟨h₁.1, rfl, h₁.2⟩⟩
end
end Mine
end
section
set_option maxRecDepth 100000
namespace Mine
namespace Sf
open PySem
theorem entry_iter : entryFor table "set.__iter__" = some Builtin.«frozenset.__iter__» :=
  entryFor_alias (id' := "frozenset.__iter__") (by kernel_rfl) (by first | rfl | decide +kernel | (unfold String.splitOn; simp +decide [String.splitOnAux])) (by decide +kernel) (by kernel_rfl)
theorem slot_next : Slot "set_iterator" "__next__" "set_iterator.__next__" :=
  .of (owner := "set_iterator") (n := "__next__") (by rw [typeLookup_type, builtinLookup_eq_fast]; kernel_rfl) (by decide +kernel) (by decide +kernel) (by decide +kernel)
    (by first | exact .inl (by decide +kernel) | exact .inr (by decide +kernel)) (by rw [isSubtype_type]; kernel_rfl)
theorem owner_it : Manifest.owners.lookup (String.ofList ['r', 'o', 't', 'a', 'r', 'e', 't', 'i', '_', 't', 'e', 's'].reverse) = some Manifest.sig_set_iterator := by kernel_rfl
theorem entry_next : entryFor table "set_iterator.__next__" = some Builtin.«set_iterator.__next__» := entryFor_of_tree (by kernel_rfl)
theorem args_next (a : Value) : argsOk "set_iterator.__next__" ⟨[a], []⟩ := by
  unfold argsOk; rw [signature?_of (id := "set_iterator.__next__") (n := ['_', '_', 't', 'x', 'e', 'n', '_', '_']) (o := ['r', 'o', 't', 'a', 'r', 'e', 't', 'i', '_', 't', 'e', 's']) (by kernel_rfl) owner_it]; kernel_rfl
end Sf
section
variable {prog : Program} {w : World} {D : Md prog w} {k : Nat} {env : Env} {V : Vars} {ow : Own} {R : Fl → Vars → Own → Prop}
variable {A : Around} {E : Value → Shared → Prop} {s : Shared}
theorem eqBool_bool {b : Bool} {Q : Bool → Shared → Prop} (h : Q true s) : wpAny (model prog w) A (eqBool (.bool b) (.bool b)) Q E s := by
  unfold eqBool
  show wpAny _ _ (if (Value.bool b == Value.bool b) = true then _ else _) Q E s
  rw [if_pos (by simp)]
  exact wpAny_bind (wpAny_rule (wpAny_pure h))
abbrev hb (b : Bool) : Int := if b then 1 else 0
theorem pyHash_bool {b : Bool} {Q : Int → Shared → Prop} (h : ∀ tk, Q (hb b) { s with toks := tk }) : wpAny (model prog w) A (pyHash (.bool b)) Q E s := by
  have hT : s.TypeIs (.bool b) "bool" := rfl
  unfold pyHash
  have hv : [Value.bool b].any Value.onHeap = false := rfl
  refine wpAny_bind ?_
  rw [cRoomFor, if_neg (by rw [hv]; exact Bool.false_ne_true)]; refine wpAny_pure ?_
  refine wpAny_bind (wpAny_specialOf hT PySem.F.slot_bool_hash.lookup ?_)
  show wpAny _ _ (if (some (Value.builtin "int.__hash__") == some Value.none) = true then _ else _) Q E s
  rw [if_neg (by rw [beq_builtin_none]; exact Bool.false_ne_true)]
  refine wpAny_bind (wpAny_specialOf hT PySem.F.slot_bool_hash.lookup ?_)
  show wpAny _ _ (callSpecialIfBoundUnlessNone? (.bool b) "__hash__" _ >>= _) Q E s
  refine wpAny_bind (wpAny_callSpecialIfBoundUnlessNone?_slot hT PySem.F.slot_bool_hash (wpAny_call_entry PySem.F.slot_bool_hash hT PySem.F.entry_int_hash ?_ (PySem.F.args_int_hash_1 _)))
  unfold Builtin.«int.__hash__»
  wp_walk
  cases b <;> refine ⟨_, rfl, ?_⟩
  · show wpAny _ _ (pyHashByItsType.reduced 0) _ _ _
    unfold pyHashByItsType.reduced
    rw [if_pos (by decide)]
    exact wpAny_pure (h _)
  · show wpAny _ _ (pyHashByItsType.reduced 1) _ _ _
    unfold pyHashByItsType.reduced
    rw [if_pos (by decide)]
    exact wpAny_pure (h _)
def byT (w : World) : Bool := w.params.followText "set-order"
abbrev set0 (w : World) : Obj := { cls := .type "set", data := .set #[] 0 (.fresh 0 0 (!byT w)) }
def tb (led b : Bool) : SetTable := (layNew (.fresh 0 0 led) #[] (hb b) (.bool b)).2.1
abbrev setB (w : World) (b : Bool) : Obj := { cls := .type "set", data := .set #[(hb b, .bool b)] 1 (tb (!byT w) b) }
theorem lay_is (led b : Bool) : layNew (.fresh 0 0 led) #[] (hb b) (.bool b) = (#[(hb b, .bool b)], tb led b, false, false) := by
  cases led <;> cases b <;> decide +kernel
theorem tb_fits (led b : Bool) : (tb led b).fits 1 = true := by cases led <;> cases b <;> decide +kernel
theorem tb_plain (led b : Bool) : (tb led b).plain = true := by cases led <;> cases b <;> decide +kernel
theorem tb_led (led b : Bool) : (tb led b).led = led := by cases led <;> cases b <;> decide +kernel
theorem tb_place (led b : Bool) : (tb led b).place = #[(hb b).toNat] := by cases led <;> cases b <;> decide +kernel
theorem tb_full (led b : Bool) : (tb led b).tooFull = false := by cases led <;> cases b <;> decide +kernel
theorem newSet_is {Q : Value → Shared → Prop} (h : Q (.ref s.heap.objs.size) { s with heap := s.heap.push (set0 w) }) : wpAny (model prog w) A (newSet (.type "set")) Q E s := by
  unfold newSet setsByText
  refine wpAny_bind (wpAny_bind (wpAny_askSetting (wpAny_pure ?_)))
  dsimp only
  simp only [newObj]
  exact wpAny_bind (wpAny_alloc (wpAny_pure h))

theorem addHashed_new {a : Addr} {b : Bool} {Q : Bool → Shared → Prop} (ho : s.heap.get? a = some (set0 w)) (h : ∀ h', h'.get? a = some (setB w b) → Heap.SameBut a s.heap h' → Q true { s with heap := h' }) :
    wpAny (model prog w) A (setAddHashed a (.bool b) (hb b)) Q E s := by
  unfold setAddHashed setAddHashedIn
  refine wpAny_holding (wpAny_bind (wpAny_setState_of ho rfl (by rfl) ?_))
  dsimp only
  rw [show byScan (.bool b) #[] = true by cases b <;> decide +kernel]
  simp only [↓reduceIte]
  unfold setAddByScan
  refine wpAny_bind (wpAny_bind (wpAny_rule (wpAny_bind ?_)))
  show wpAny _ _ (pure ScanMet.absent) _ _ _
  refine wpAny_pure ?_
  dsimp only
  rw [lay_is]
  dsimp only
  refine wpAny_bind (wpAny_pure ?_)
  rw [tb_plain]
  simp only [↓reduceIte]
  refine wpAny_bind (wpAny_pure ?_)
  simp only [↓reduceIte]
  refine wpAny_bind (wpAny_storeSet_of ho rfl ?_ (small (by simp)))
  rw [tb_full]
  simp only [Bool.not_false, Bool.and_false, Bool.false_eq_true, ↓reduceIte]
  refine wpAny_pure (wpAny_pure ?_)
  refine h _ ?_ (Heap.SameBut.update ..)
  have := Heap.get?_update_self (Obj.putSet #[(hb b, .bool b)] (tb (!byT w) b)) ho (by rw [putSet_of _ _ rfl]; rfl)
  rw [putSet_of _ _ rfl] at this
  exact this
theorem addHashed_old {a : Addr} {b : Bool} {Q : Bool → Shared → Prop} (ho : s.heap.get? a = some (setB w b)) (h : Q false s) :
    wpAny (model prog w) A (setAddHashed a (.bool b) (hb b)) Q E s := by
  unfold setAddHashed setAddHashedIn
  refine wpAny_holding (wpAny_bind (wpAny_setState_of ho rfl (tb_fits _ _) ?_))
  dsimp only
  rw [show byScan (.bool b) #[(hb b, .bool b)] = true by cases b <;> decide +kernel]
  simp only [↓reduceIte]
  unfold setAddByScan
  refine wpAny_bind (wpAny_bind (wpAny_rule (wpAny_bind ?_)))
  show wpAny _ _ (setScanFrom a (.bool b) (hb b) true [(hb b, .bool b)] 0) _ _ _
  unfold setScanFrom
  simp only [beq_self_eq_true, ↓reduceIte]
  refine wpAny_bind (wpAny_setEpoch_of ho rfl (tb_fits _ _) ?_)
  refine wpAny_bind (eqBool_bool ?_)
  simp only [Bool.and_self, ↓reduceIte]
  exact wpAny_pure (wpAny_pure (wpAny_pure h))
theorem call_add {a : Addr} {b : Bool} {Q : Value → Shared → Prop} (o : Obj) (ho : s.heap.get? a = some o) (hoo : o = set0 w ∨ o = setB w b) (h : ∀ h' tk, h'.get? a = some (setB w b) → Heap.SameBut a s.heap h' → Q .none { s with heap := h', toks := tk }) :
    wpAny (model prog w) A (call (.builtin "set.add") [.ref a, .bool b]) Q E s := by
  have hT : s.TypeIs (.ref a) "set" := ⟨o, ho, by rcases hoo with rfl | rfl <;> rfl⟩
  refine wpAny_call_entry PySem.F.slot_set_add hT PySem.F.entry_set_add ?_ (PySem.F.args_set_add_2 _ _)
  unfold Builtin.«set.add» Builtin.Frozenset.oneOther
  simp only [List.isEmpty_nil, bind_assoc]
  unfold Builtin.Frozenset.addrOf setAdd
  refine wpAny_bind (wpAny_pure ?_)
  try dsimp only
  refine wpAny_bind (wpAny_pure ?_)
  try dsimp only
  refine wpAny_bind (wpAny_holding (wpAny_bind (pyHash_bool fun tk => ?_)))
  rcases hoo with rfl | rfl
  · refine addHashed_new (s := { s with toks := tk }) ho fun h' g hs => ?_
    show wpAny _ _ (ret Value.none) _ _ _
    exact wpAny_pure ⟨_, rfl, h h' tk g hs⟩
  · refine addHashed_old (s := { s with toks := tk }) ho ?_
    show wpAny _ _ (ret Value.none) _ _ _
    exact wpAny_pure ⟨_, rfl, h s.heap tk ho (Heap.SameBut.refl ..)⟩

abbrev setItO (i j : Int) (a : Addr) : Obj := { cls := .type "set_iterator", data := .fields #[rawInt i, rawInt j, .ref a, rawInt 1, rawInt 1] }
theorem iter_set {a : Addr} {b : Bool} {Q : Value → Shared → Prop} (ho : s.heap.get? a = some (setB w b)) (hQ : Q (.ref s.heap.objs.size) { s with heap := s.heap.push (setItO 0 0 a) }) : wpAny (model prog w) A (pyIter (.ref a)) Q E s := by
  have hT : s.TypeIs (.ref a) "set" := ⟨_, ho, rfl⟩
  refine wpAny_pyIter_slot hT PySem.F.slot_set_iter (wpAny_call_entry PySem.F.slot_set_iter hT Sf.entry_iter ?_ (PySem.F.args_set_iter_1 _))
  unfold Builtin.«frozenset.__iter__» Builtin.Frozenset.slot0 Builtin.Frozenset.addrOf Builtin.Frozenset.sizeOf
  refine wpAny_bind (wpAny_bind (m := slotArgs _ _ _) (wpAny_pure (wpAny_pure ?_)))
  refine wpAny_bind (wpAny_bind (wpAny_setEntries_of ho rfl (tb_fits _ _) (wpAny_pure ?_)))
  unfold setDrawn setsByText
  refine wpAny_bind (wpAny_bind (wpAny_setState_of ho rfl (tb_fits _ _) (wpAny_bind (wpAny_bind (wpAny_askSetting (wpAny_pure (wpAny_pure ?_)))))))
  dsimp only
  rw [if_neg (fun h => by
    have h2 := (Bool.and_eq_true_iff.mp h).2
    have h3 : (!(tb (!byT w) b).plain && decide (1 > 1)) = true := h2
    simp at h3)]
  refine wpAny_bind (wpAny_pure (wpAny_bind (wpAny_setEpoch_of ho rfl (tb_fits _ _) ?_)))
  show wpAny _ _ (newFields "set_iterator" [rawInt 0, rawInt 0, .ref a, rawInt 1, rawInt 1] >>= _) _ _ _
  refine wpAny_bind (wpAny_newObj_type (wpAny_pure ?_))
  refine ⟨.ref s.heap.objs.size, rfl, "set_iterator", .builtin "set_iterator.__next__", ?_, ?_, ?_⟩
  · exact ⟨setItO 0 0 a, Heap.get?_push_size _ (by rfl), rfl⟩
  · exact Sf.slot_next.lookup
  · exact hQ
theorem pick_one {α : Type} (f : Nat → Nat) (x : α) : pickOrder f #[x] = #[x] := by
  unfold pickOrder
  show pickOrder.go f 1 0 [x] #[] = _
  unfold pickOrder.go
  simp only [List.length_singleton, Nat.mod_one, List.getElem?_cons_zero]
  rfl
theorem walk_one {a : Addr} {b : Bool} {Q : Array (Int × Value) → Shared → Prop} (hby : byT w = true) (ho : s.heap.get? a = some (setB w b)) (h : Q #[(hb b, .bool b)] s) : wpAny (model prog w) A (setWalk a) Q E s := by
  unfold setWalk setsByText
  refine wpAny_bind (wpAny_setState_of ho rfl (tb_fits _ _) (wpAny_bind (wpAny_bind (wpAny_askSetting (wpAny_pure ?_)))))
  show wpAny _ _ (if byT w = true then _ else _) _ _ _
  rw [if_pos hby]
  refine wpAny_bind (wpAny_askSetting (wpAny_pure ?_))
  rw [pick_one]
  exact h
def slot2 (w : World) (b : Bool) : Nat := if byT w then 0 else (hb b).toNat + 1
theorem setNext_one {a : Addr} {b : Bool} {Q : Option (Value × Nat) → Shared → Prop} (ho : s.heap.get? a = some (setB w b)) (h : Q (some (.bool b, slot2 w b)) s) : wpAny (model prog w) A (setNext a 0 0 1) Q E s := by
  unfold setNext setsByText
  refine wpAny_bind (wpAny_setState_of ho rfl (tb_fits _ _) (wpAny_bind (wpAny_bind (wpAny_askSetting (wpAny_pure ?_)))))
  show wpAny _ _ (if byT w = true then _ else _) _ _ _
  by_cases hby : byT w = true
  · rw [if_pos hby]
    show wpAny _ _ (if ((1 : Nat) != 1) = true then _ else _) _ _ _
    rw [if_neg (by decide)]
    refine wpAny_bind (walk_one hby ho (wpAny_pure ?_))
    rw [slot2, if_pos hby] at h
    exact h
  · rw [if_neg hby]
    have hby : byT w = false := by simpa using hby
    rw [slot2, if_neg (by rw [hby]; simp)] at h
    rw [hby]
    have hq : ∀ y, y = some (Value.bool b, (hb b).toNat + 1) → Q y s := fun y e => e ▸ h
    have fin : ∀ y, y = some (Value.bool b, (hb b).toNat + 1) → wpAny (model prog w) A (pure y) Q E s := fun y e => wpAny_pure (hq y e)
    rw [if_neg (by cases b <;> decide +kernel)]
    refine wpAny_bind (m := _) ?_
    show wpAny _ _ (if (!(tb (!false) b).led && !(#[(hb b, Value.bool b)] : Array (Int × Value)).isEmpty) = true then _ else _) _ _ _
    rw [tb_led, if_neg (by simp)]
    refine wpAny_pure (fin _ ?_)
    rw [tb_place]
    cases b <;> decide +kernel
theorem setNext_two {a : Addr} {b : Bool} {Q : Option (Value × Nat) → Shared → Prop} (ho : s.heap.get? a = some (setB w b)) (h : Q none s) : wpAny (model prog w) A (setNext a (slot2 w b) 1 1) Q E s := by
  unfold setNext setsByText
  refine wpAny_bind (wpAny_setState_of ho rfl (tb_fits _ _) (wpAny_bind (wpAny_bind (wpAny_askSetting (wpAny_pure ?_)))))
  show wpAny _ _ (if byT w = true then _ else _) _ _ _
  by_cases hby : byT w = true
  · rw [if_pos hby]
    show wpAny _ _ (if ((1 : Nat) != 1) = true then _ else _) _ _ _
    rw [if_neg (by decide)]
    exact wpAny_bind (walk_one hby ho (wpAny_pure h))
  · rw [if_neg hby]
    have hby : byT w = false := by simpa using hby
    rw [show slot2 w b = (hb b).toNat + 1 by rw [slot2, if_neg (by rw [hby]; simp)]]
    rw [hby]
    have hq : ∀ y, y = none → Q y s := fun y e => e ▸ h
    have fin : ∀ y, y = none → wpAny (model prog w) A (pure y) Q E s := fun y e => wpAny_pure (hq y e)
    rw [if_neg (by cases b <;> decide +kernel)]
    refine wpAny_bind (m := _) ?_
    show wpAny _ _ (if (!(tb (!false) b).led && !(#[(hb b, Value.bool b)] : Array (Int × Value)).isEmpty) = true then _ else _) _ _ _
    rw [tb_led, if_neg (by simp)]
    refine wpAny_pure (fin _ ?_)
    rw [tb_place]
    cases b <;> decide +kernel
theorem next_set1 {a I : Addr} {b : Bool} {Q : Option Value → Shared → Prop} (hne : a ≠ I) (ho : s.heap.get? a = some (setB w b)) (hI : s.heap.get? I = some (setItO 0 0 a))
    (hQ : ∀ h', h'.get? I = some (setItO (slot2 w b : Nat) 1 a) → Heap.SameBut I s.heap h' → Q (some (.bool b)) { s with heap := h' }) : wpAny (model prog w) A (pyNext (.ref I)) Q E s := by
  have hT : s.TypeIs (.ref I) "set_iterator" := ⟨_, hI, rfl⟩
  unfold pyNext
  refine wpAny_bind (wpAny_attempt (wpAny_callSpecial?_slot (name := Str.ofString "__next__") hT Sf.slot_next (wpAny_call_entry Sf.slot_next hT Sf.entry_next ?_ (Sf.args_next _))))
  unfold Builtin.«set_iterator.__next__»
  refine wpAny_bind (m := slotArgs _ _ _) (wpAny_pure ?_)
  refine wpAny_bind (wpAny_fieldsOf hI rfl ?_)
  show wpAny _ _ (setEntries a >>= _) _ _ _
  refine wpAny_bind (wpAny_setEntries_of ho rfl (tb_fits _ _) ?_)
  show wpAny _ _ (if (((1 : Nat) : Int) != 1) = true then _ else _) _ _ _
  rw [if_neg (by decide)]
  show wpAny _ _ (setNext a 0 0 1 >>= _) _ _ _
  refine wpAny_bind (setNext_one ho ?_)
  dsimp only
  refine wpAny_bind (wpAny_setField_rec hI (by simp) fun h1 g1 s1 => ?_)
  refine wpAny_bind (wpAny_setField_rec g1 (by simp) fun h2 g2 s2 => ?_)
  refine wpAny_pure ⟨_, rfl, wpAny_pure (hQ h2 ?_ (s1.trans s2))⟩
  exact g2
theorem next_set2 {a I : Addr} {b : Bool} {Q : Option Value → Shared → Prop} (hA : A.handled = none) (hne : a ≠ I) (ho : s.heap.get? a = some (setB w b)) (hI : s.heap.get? I = some (setItO (slot2 w b : Nat) 1 a))
    (hQ : ∀ h', Heap.ExtBut I s.heap h' → Q none { s with heap := h' }) : wpAny (model prog w) A (pyNext (.ref I)) Q E s := by
  have hT : s.TypeIs (.ref I) "set_iterator" := ⟨_, hI, rfl⟩
  unfold pyNext
  refine wpAny_bind (wpAny_attempt (wpAny_callSpecial?_slot (name := Str.ofString "__next__") hT Sf.slot_next (wpAny_call_entry Sf.slot_next hT Sf.entry_next ?_ (Sf.args_next _))))
  unfold Builtin.«set_iterator.__next__»
  refine wpAny_bind (m := slotArgs _ _ _) (wpAny_pure ?_)
  refine wpAny_bind (wpAny_fieldsOf hI rfl ?_)
  show wpAny _ _ (setEntries a >>= _) _ _ _
  refine wpAny_bind (wpAny_setEntries_of ho rfl (tb_fits _ _) ?_)
  show wpAny _ _ (if (((1 : Nat) : Int) != 1) = true then _ else _) _ _ _
  rw [if_neg (by decide)]
  show wpAny _ _ (setNext a ((slot2 w b : Nat) : Int).toNat 1 1 >>= _) _ _ _
  rw [Int.toNat_natCast]
  refine wpAny_bind (setNext_two ho ?_)
  dsimp only
  refine wpAny_bind (wpAny_setField_rec hI (by simp) fun h1 g1 s1 => ?_)
  show wpAny _ _ (newExc (.type "StopIteration") [] >>= _) _ _ _
  refine wpAny_bind ?_
  simp only [newExc, newTuple]
  refine wpAny_bind (wpAny_newObj_type ?_ (by size_fits))
  refine wpAny_bind (m := firstArgMember _ _) (wpAny_of_eq (a := Value.none) (by first | rfl | (simp only [firstArgMember]; rfl)) ?_)
  refine wpAny_newObj_type ?_ (by size_fits)
  simp only [raiseNew]
  refine wpAny_bind (wpAny_handled ?_)
  rw [show A.in1.handled = none from hA]
  refine wpAny_bind (wpAny_pure (wpAny_throw ?_))
  refine wpAny_bind (wpAny_isInstance (T := "StopIteration") (b := true) ⟨_, Heap.get?_push_size _ rfl, rfl⟩ isSubtype_stop ?_)
  exact wpAny_pure (hQ _ ((s1.extBut.push _).push _))
theorem unpack_set {a : Addr} {b : Bool} {Q : List Value → Shared → Prop} (hA : A.handled = none) (ho : s.heap.get? a = some (setB w b)) (hQ : ∀ h', (∀ x o, s.heap.get? x = some o → h'.get? x = some o) → Q [.bool b] { s with heap := h' }) :
    wpAny (model prog w) A (unpackItems (.ref a) 1 none) Q E s := by
  have hT : s.TypeIs (.ref a) "set" := ⟨_, ho, rfl⟩
  have hne : a ≠ s.heap.objs.size := ne_size ho
  unfold unpackItems
  refine wpAny_bind ?_
  · unfold notIterableAtAll
    refine wpAny_bind (wpAny_specialOf hT PySem.F.slot_set_iter.lookup (wpAny_pure ?_))
    simp only [Bool.false_eq_true, if_false]
    refine wpAny_bind (wpAny_holding (iter_set ho ?_))
    refine wpAny_bind (wpAny_holding ?_)
    show wpAny _ _ (pyNext (.ref s.heap.objs.size) >>= _) _ _ _
    refine wpAny_bind (next_set1 hne (Heap.get?_push_of_some _ ho) (Heap.get?_push_size _ (by rfl)) fun h1 g1 s1 => ?_)
    refine wpAny_bind (wpAny_holding (m := draw _ 0) (wpAny_pure (wpAny_pure ?_)))
    rw [if_neg (by simp)]
    refine wpAny_bind (wpAny_holding (next_set2 hA hne ((s1.2 _ hne).trans (Heap.get?_push_of_some _ ho)) g1 fun h2 s2 => ?_))
    simp only [Option.isSome_none, Bool.false_eq_true, if_false]
    exact wpAny_pure (hQ h2 fun x o e => s2 x o (ne_size e) ((s1.2 x (ne_size e)).trans (Heap.get?_push_of_some _ e)))
end
end Mine
end
section
set_option maxRecDepth 100000
namespace Mine
section
variable {prog : Program} {w : World} {D : Md prog w} {k : Nat} {env : Env} {V : Vars} {ow : Own} {R : Fl → Vars → Own → Prop}
section
variable {A : Around} {E : Value → Shared → Prop} {R : Result → Shared → Prop} {s : Shared}
theorem codeAny_compStart_set {elt target iter : Expr} {ifs : List Expr} {rest : List Comprehension} {scope : Scope} {pos : Pos} {it acc : Value} {env : Env}
    (h0 : codeAny (model prog w) A (.compLoop (.SetComp elt (⟨target, iter, ifs, 0⟩ :: rest) scope pos) 0 it acc env) R s)
    (h : wpAny (model prog w) A (pyIter it) (fun it' s' => codeAny (model prog w) A (.compLoop (.SetComp elt (⟨target, iter, ifs, 0⟩ :: rest) scope pos) 0 it' acc env) R s')
      (notedBy (model prog w) A env fun x s' => R (.error x) s') s) :
    codeAny (model prog w) A (.compStart (.SetComp elt (⟨target, iter, ifs, 0⟩ :: rest) scope pos) 0 it acc env) R s := by
  refine codeAny_of_tree ?_
  show wpAny _ _ ((compStart (.SetComp elt (⟨target, iter, ifs, 0⟩ :: rest) scope pos) 0 it acc env).onRaise (fun x => do noteFrame x env; standAt theWindowsPlace)) _ _ s
  refine wpAny_notedAt ?_
  unfold compStart
  show wpAny _ _ (ask >>= _) _ _ s
  refine wpAny_bind (wpAny_askSetting (wpAny_ite ?_))
  split
  · first
      | exact wpAny_bind (wpAny_pure (wpAny_pure (And.intro rfl h0)))
      | exact wpAny_pure (And.intro rfl h0)
  · first
      | exact wpAny_bind (wpAny_rule (wpAny_bind (wpAny_standAt (wpAny_bind (wpAny_mono h (fun it' s' h' => wpAny_pure (And.intro rfl h')) fun _ _ x => x)))))
      | (refine wpAny_bind (wpAny_rule ?_); show wpAny _ _ (standAt iter.pos >>= _) _ _ s; exact wpAny_bind (wpAny_standAt (wpAny_bind (wpAny_mono h (fun it' s' h' => wpAny_pure (And.intro rfl h')) fun _ _ x => x))))
theorem turn_set (elt target iter : Expr) (scope : Scope) (pos : Pos) (it acc : Value) (env : Env) :
    compTurn (.SetComp elt [⟨target, iter, [], 0⟩] scope pos) 0 it acc env = (standAt iter.pos >>= fun _ => pyNext it >>= fun r => match r with
      | none => pure (.done .next)
      | some v => letOwnedTupleGo target it v >>= fun _ => assign target env v >>= fun _ =>
        (eval elt env >>= fun x => standAt elt.pos >>= fun _ => call (.builtin "set.add") [acc, x] >>= fun _ => pure ()) >>= fun _ =>
          again (.compLoop (.SetComp elt [⟨target, iter, [], 0⟩] scope pos) 0 it acc env)) := by rfl
theorem codeAny_compLoop_set {elt target iter : Expr} {scope : Scope} {pos : Pos} {it acc : Value} {env : Env} (I : Nat → Shared → Prop)
    (turn : ∀ n s, I n s → wpAny (model prog w) A (pyNext it) (fun r s₁ => match r with
      | none => R (.ok .next) s₁
      | some v => wpAny (model prog w) A (assign target env v) (fun _ s₂ => wpAny (model prog w) A (eval elt env) (fun x s₃ =>
          wpAny (model prog w) A (call (.builtin "set.add") [acc, x]) (fun _ s₄ => ∃ m, m < n ∧ I m s₄) (notedBy (model prog w) A env fun e s' => R (.error e) s') s₃)
          (notedBy (model prog w) A env fun e s' => R (.error e) s') s₂) (notedBy (model prog w) A env fun e s' => R (.error e) s') s₁) (notedBy (model prog w) A env fun e s' => R (.error e) s') s)
    (n : Nat) (h : I n s) (ht : ∀ v, letOwnedTupleGo target it v = pure () := by intro _; rfl) :
    codeAny (model prog w) A (.compLoop (.SetComp elt [⟨target, iter, [], 0⟩] scope pos) 0 it acc env) R s := by
  refine codeAny_loop rfl I (fun n s hI => ?_) n h
  show wpAny _ _ ((compTurn (.SetComp elt [⟨target, iter, [], 0⟩] scope pos) 0 it acc env).onRaise (fun x => do noteFrame x env; theTreesLotGoes x)) _ _ s
  refine wpAny_noted ?_
  rw [turn_set]
  refine wpAny_bind (wpAny_standAt (wpAny_bind (wpAny_mono (turn n s hI) (fun r s₁ h₁ => ?_) fun _ _ h' => h')))
  cases r with
  | none => exact wpAny_pure h₁
  | some v =>
    refine wpAny_bind (wpAny_of_eq (ht v) ?_)
    exact wpAny_bind (wpAny_mono h₁ (fun _ s₂ h₂ => wpAny_bind (wpAny_bind (wpAny_mono h₂ (fun x s₃ h₃ => wpAny_bind (wpAny_standAt (wpAny_bind (wpAny_mono h₃
      (fun _ s₄ h₄ => wpAny_pure (wpAny_pure ⟨rfl, h₄⟩)) fun _ _ h' => h')))) fun _ _ h' => h'))) fun _ _ h' => h')
end
theorem set_core {A : Around} {α : Type} {xs : List α} {enc : α → PyData} {b : Bool} {elt iter : Expr} {x : Str} {px : Pos} {scope : Scope} {cl : List (Str × Addr)} {pos : Pos} {V' : Vars} {E : Value → Shared → Prop}
    {s s₂ : Shared} {I c : Addr} {oc : Obj} {St : Nat → Heap → Prop} {G : Gh} {RR : Value → Addr → Result → Shared → Prop} (H : CompOk env scope x V V' cl)
    (hA : Room k A) (W : Walks prog w A I [I, c] [I] xs.length (fun i v => ∃ d, (xs.map enc)[i]? = some d ∧ Rd prog w G v d) St) (hsz : xs.length ≤ sizeLine)
    (e0 : Es D env V G s) (t0 : Step G s G s₂) (hI : s.heap.get? I = none) (hI2 : I < s₂.heap.objs.size) (hc : G c = some oc) (hst : St 0 s₂.heap) (hIl : ∀ i h, St i h → ∃ o, h.get? I = some o)
    (hE : ∀ C a, a ∈ xs → Ev D k (compEnvC scope cl C env) ((x, enc a) :: V') elt (.bool b)) (hpos : 0 < xs.length)
    (hRR : ∀ Dd C G' s' m', s₂.heap.get? Dd = none → s₂.heap.get? C = none → Dd ≠ C → G' C = none → s'.heap.Ns C m' → s'.heap.get? Dd = some (setB w b) → Step G s G' s' → RR (.ref Dd) C (.ok .next) s') :
    wpAny (model prog w) A (newSet (.type "set")) (fun acc s₃ => wpAny (model prog w) A (newFunctionEnv scope env.globals cl [] env.qual none .none (some env)) (fun cenv s₄ =>
      codeAny (model prog w) A (.compStart (.SetComp elt [⟨.Name x px, iter, [], 0⟩] scope pos) 0 (.ref I) acc { cenv with scope := relabel scope env }) (RR acc cenv.locals) s₄) E s₃) E s₂ := by
  refine newSet_is (wpAny_newFunctionEnv H.cell (by intro y hy; simp at hy) (fun h₁ hns₁ hsb₁ => ?_) H.kind)
  dsimp only at hns₁ hsb₁ ⊢
  generalize hH2 : s₂.heap.push (set0 w) = H2 at hns₁ hsb₁ ⊢
  have hC : H2.objs.size = s₂.heap.objs.size + 1 := by rw [← hH2, Heap.size_push]
  have hDC : s₂.heap.objs.size ≠ H2.objs.size := by rw [hC]; exact Nat.ne_of_lt (Nat.lt_succ_self _)
  have fresh : ∀ a, s₂.heap.objs.size ≤ a → s₂.heap.get? a = none := fun a ha => by
    cases e : s₂.heap.get? a with
    | none => rfl
    | some o' => exact absurd (Heap.lt_size e) (Nat.not_lt.mpr ha)
  have old : ∀ b o, s₂.heap.get? b = some o → h₁.get? b = some o := fun b o e => hsb₁.extBut b o (by have := Heap.lt_size e; rw [hC]; exact Nat.ne_of_lt (Nat.lt_succ_of_lt this)) (Heap.get?_push_of_some _ (hH2 ▸ Heap.get?_push_of_some _ e))
  have acc₁ : h₁.get? s₂.heap.objs.size = some (set0 w) := hsb₁.extBut _ _ hDC (Heap.get?_push_of_some _ (hH2 ▸ Heap.get?_push_size _ rfl))
  generalize hDd : s₂.heap.objs.size = Dd at acc₁ hDC ⊢
  generalize hCc : H2.objs.size = C at hns₁ hDC ⊢
  have fD : s₂.heap.get? Dd = none := fresh _ (Nat.le_of_eq hDd)
  have fC : s₂.heap.get? C = none := fresh _ (by rw [← hCc, hC]; exact Nat.le_succ _)
  have live : ∀ {b o}, s₂.heap.get? b = some o → b ≠ Dd ∧ b ≠ C := fun e => ⟨fun z => (by rw [z, fD] at e; cases e), fun z => (by rw [z, fC] at e; cases e)⟩
  have back : ∀ b, s₂.heap.get? b = none → s.heap.get? b = none := fun b q => by
    cases z : s.heap.get? b with
    | none => rfl
    | some o => rw [t0.kp _ _ z] at q; cases q
  have gone : ∀ {b o}, G b = some o → b ≠ Dd ∧ b ≠ C ∧ b ≠ I := fun {b o} e => ⟨(live (t0.inn _ _ e)).1, (live (t0.inn _ _ e)).2, fun z => (by rw [z] at e; rw [e0.inn _ _ e] at hI; cases hI)⟩
  have hIlive : I ≠ Dd ∧ I ≠ C := ⟨by rw [← hDd]; exact Nat.ne_of_lt hI2, by rw [← hCc, hC]; exact Nat.ne_of_lt (Nat.lt_succ_of_lt hI2)⟩
  have loop : ∀ s₃ : Shared, s₃ = { s₂ with heap := h₁, toks := s₂.toks + ([] : List (Str × Value)).length } →
      codeAny (model prog w) A (.compLoop (.SetComp elt [⟨.Name x px, iter, [], 0⟩] scope pos) 0 (.ref I) (.ref Dd) (compEnvC scope cl C env)) (RR (.ref Dd) C) s₃ := by
    rintro s₃ rfl
    refine codeAny_compLoop_set
      (fun m s1 => ∃ i G1 mm, m = xs.length - i ∧ i ≤ xs.length ∧ Step G s G1 s1 ∧ G1 Dd = none ∧ G1 C = none ∧ G1 I = none ∧ St i s1.heap ∧ s1.heap.Ns C mm ∧ s1.heap.get? Dd = some (if i = 0 then set0 w else setB w b) ∧ ∃ oI, s1.heap.get? I = some oI) ?_ xs.length
      ⟨0, G, _, rfl, Nat.zero_le _, ?_, ?_, ?_, ?_, ?_, hns₁, acc₁, ?_⟩
    · rintro m s1 ⟨i, G1, mm, rfl, hi, t1, gD, gC, gI, st1, ns1, acc1, oI, hoI⟩
      by_cases hlt : i < xs.length
      · refine W.item i s1 _ _ hlt st1 fun v h' tk hv st' hk => ?_
        obtain ⟨d, hd, rd⟩ := hv
        obtain ⟨a, ha, rfl⟩ : ∃ a, xs[i]? = some a ∧ enc a = d := by
          rw [List.getElem?_map] at hd
          cases h : xs[i]? with
          | none => rw [h] at hd; cases hd
          | some a => rw [h] at hd; exact ⟨a, rfl, by simpa using hd⟩
        have hmem : a ∈ xs := List.mem_of_getElem? ha
        have notI : ∀ {b o}, s.heap.get? b = some o → b ∉ [I] := fun {b o} e z => by rw [List.mem_singleton.mp z, hI] at e; cases e
        -- the iterator has moved
        have t2 : Step G s G1 { s1 with heap := h', toks := tk } := by
          obtain ⟨h0, tk0, e0⟩ := t1.shp
          refine ⟨⟨h', tk, by rw [e0]⟩, t1.le, fun b o e => hk b o (fun z => by rw [List.mem_singleton.mp z, gI] at e; cases e) (t1.inn b o e), fun b o e => hk b o (notI e) (t1.kp b o e), t1.new⟩
        have ns2 : h'.Ns C mm := by
          obtain ⟨o, es, ep, e, r⟩ := ns1
          exact ⟨o, es, ep, hk _ _ (fun z => hIlive.2 (List.mem_singleton.mp z).symm) e, r⟩
        refine wpAny_assign_Name (wpAny_storeName_local (lookup_relabel_local H.xl) ns2 (fun h₃ hn₃ hs₃ => ?_) (by simp [compEnvC, relabel, H.kind]))
        have hs₃ : Heap.SameBut C h' h₃ := hs₃
        have hn₃ : h₃.Ns C _ := hn₃
        have t3 : Step G s G1 { s1 with heap := h₃, toks := tk + 1 } := by
          obtain ⟨h0, tk0, e0⟩ := t2.shp
          exact ⟨⟨h₃, tk + 1, by rw [show s1 = _ from t1.shp.choose_spec.choose_spec]⟩, t2.le, fun b o e => (hs₃.2 b (fun z => by rw [z, gC] at e; cases e)).trans (t2.inn b o e), fun b o e => (hs₃.2 b (live (t0.kp _ _ e)).2).trans (t2.kp b o e), t2.new⟩
        have acc3 : h₃.get? Dd = some (if i = 0 then set0 w else setB w b) := (hs₃.2 _ hDC).trans (hk _ _ (fun z => hIlive.1 (List.mem_singleton.mp z).symm) acc1)
        have st3 : St (i + 1) h₃ := W.frame _ _ _ st' fun b hb o e => by
          refine (hs₃.2 b fun z => ?_).trans e
          rcases List.mem_cons.mp hb with y | y
          · exact hIlive.2 (y ▸ z)
          · exact (gone hc).2.1 (List.mem_singleton.mp y ▸ z)
        obtain ⟨oI', hoI'⟩ : ∃ o, h₃.get? I = some o := hIl _ _ st3
        have es3 : Es D (compEnvC scope cl C env) ((x, enc a) :: V') G1 { s1 with heap := h₃, toks := tk + 1 } := by
          refine ⟨fun b o e => t3.le _ _ (e0.g0 b o e), t3.inn, fun y d' e => ?_⟩
          rw [List.lookup_cons] at e
          cases hy : y == x with
          | true =>
            rw [hy] at e
            cases e
            rw [eq_of_beq hy]
            exact ⟨v, ⟨H.dbg, .inl ⟨lookup_relabel_local H.xl, _, hn₃, if_pos rfl⟩⟩, rd.mono t3.le⟩
          | false =>
            rw [hy] at e
            obtain ⟨v', q1, q2⟩ := e0.sees y d' (H.got y d' e).1
            obtain ⟨c', z1, z2, z3, z4⟩ := q1.cells H C e
            exact ⟨v', ⟨z1, .inr ⟨z2, c', z3, z4.keeps t3.kp⟩⟩, q2.mono t3.le⟩
        have ns3' := hn₃
        obtain ⟨oC, esC, epC, hoC, _⟩ := ns3'
        refine hE C a hmem A hA G1 _ _ _ es3 fun G5 s5 v5 t6 r5 => ?_
        cases r5
        have up : ∀ {b : Addr} {o : Obj}, G1 b = none → h₃.get? b = some o → G5 b = none := fun g e => t6.stays (s := { s1 with heap := h₃, toks := tk + 1 }) g e
        refine call_add _ (t6.kp _ _ acc3) (by split <;> simp) fun h₇ tk₇ e' hs₇ => ?_
        have gD5 := up gD acc3
        refine ⟨xs.length - (i + 1), by omega, i + 1, G5, _, rfl, hlt, ?_, gD5, up gC hoC, up gI hoI', ?_, (hn₃.keeps t6.kp).sameBut hs₇ (Ne.symm hDC), (by rw [if_neg (Nat.succ_ne_zero i)]; exact e'), oI', (hs₇.2 _ hIlive.1).trans (t6.kp _ _ hoI')⟩
        · have t7 := t3.trans t6
          obtain ⟨h0, tk0, e0⟩ := t7.shp
          exact ⟨⟨h₇, tk₇, by rw [e0]⟩, t7.le, fun b o e => (hs₇.2 b (fun z => by rw [z, gD5] at e; cases e)).trans (t7.inn b o e), fun b o e => (hs₇.2 b (live (t0.kp _ _ e)).1).trans (t7.kp b o e), t7.new⟩
        · refine W.frame _ _ _ st3 fun b hb o e => (hs₇.2 b fun z => ?_).trans (t6.kp _ _ e)
          rcases List.mem_cons.mp hb with y | y
          · exact hIlive.1 (y ▸ z)
          · exact (gone hc).1 (List.mem_singleton.mp y ▸ z)
      · have hin : i = xs.length := by omega
        subst hin
        refine W.done s1 _ _ st1 fun h' tk hk => ?_
        have notI : ∀ {b o}, s.heap.get? b = some o → b ∉ [I] := fun {b o} e z => by rw [List.mem_singleton.mp z, hI] at e; cases e
        have t2 : Step G s G1 { s1 with heap := h', toks := tk } := by
          obtain ⟨h0, tk0, e0⟩ := t1.shp
          refine ⟨⟨h', tk, by rw [e0]⟩, t1.le, fun b o e => hk b o (fun z => by rw [List.mem_singleton.mp z, gI] at e; cases e) (t1.inn b o e), fun b o e => hk b o (notI e) (t1.kp b o e), t1.new⟩
        refine hRR Dd C G1 _ mm fD fC hDC gC ?_ ((hk _ _ (fun z => hIlive.1 (List.mem_singleton.mp z).symm) acc1).trans (by rw [if_neg (Nat.ne_of_gt hpos)])) t2
        obtain ⟨o, es, ep, e, r⟩ := ns1
        exact ⟨o, es, ep, hk _ _ (fun z => hIlive.2 (List.mem_singleton.mp z).symm) e, r⟩
    · obtain ⟨h0, tk0, e0'⟩ := t0.shp
      exact ⟨⟨h₁, _, by rw [e0']⟩, Le.refl _, fun b o e => old _ _ (t0.inn _ _ e), fun b o e => old _ _ (t0.kp _ _ e), fun _ _ e => .inl e⟩
    · cases z : G Dd with
      | none => rfl
      | some o => exact absurd rfl (gone z).1
    · cases z : G C with
      | none => rfl
      | some o => exact absurd rfl (gone z).2.1
    · cases z : G I with
      | none => rfl
      | some o => exact absurd rfl (gone z).2.2
    · exact W.frame _ _ _ hst fun b hb o e => old b o e
    · exact hIl 0 _ (W.frame _ _ _ hst fun b hb o e => old b o e)
  exact codeAny_compStart_set (loop _ rfl) (W.self 0 _ _ _ (W.frame _ _ _ hst fun b hb o e => old b o e) (loop _ rfl))


/-- y, = {e for x in xs}, all of them the same bool -/
theorem Ex1.assignSet {α : Type} {xs : List α} {enc : α → PyData} {b : Bool} {elt iter : Expr} {x y : Str} {px py tpos spos pos : Pos} {j : Nat} {scope : Scope} {cl : List (Str × Addr)} {V' : Vars} {d : PyData} (ok : EnvOk env) (hy : Name env y)
    (H : CompOk env scope x V V' cl) (h : Ev D k env V iter d) (hit : Itr D d (xs.map enc)) (hsz : xs.length ≤ sizeLine) (hpos : 0 < xs.length)
    (hE : ∀ C a, a ∈ xs → Ev D k (compEnvC scope cl C env) ((x, enc a) :: V') elt (.bool b)) (hR : R .next ((y, .bool b) :: V) ow) (hw : ow.name ≠ some y := by decide)
    (hs : ∀ x, foldedSetIterable iter env x = pure x := by intro _; exact rfl)
    (hs1 : swapsWithSole [.Tuple [.Name y py] j tpos] (.SetComp elt [⟨.Name x px, iter, [], 0⟩] scope pos) spos.line env = pure false := by exact rfl) (hsw : swappedStores [.Tuple [.Name y py] j tpos] (.SetComp elt [⟨.Name x px, iter, [], 0⟩] scope pos) env = pure none := by exact rfl) :
    Ex1 D k env V ow (.Assign [.Tuple [.Name y py] j tpos] (.SetComp elt [⟨.Name x px, iter, [], 0⟩] scope pos) spos) R := by
  intro A hA G s Q E c hQ
  refine Assign_Tuple ?_ hs1 hsw
  rw [arm_eval_SetComp]
  have e := c.es
  refine wpAny_comprehension_free (use := none) rfl hs H.clos H.kind H.names (h A hA G s _ E e fun G1 s1 v t1 r1 => ?_)
  have e1 := e.step t1
  refine hit A hA.1 G1 s1 v _ E (In0.step e.g0 t1) t1.inn r1 fun o c0 St hof hc W st0 hIl => ?_
  obtain ⟨oc, hc⟩ := hc
  have W := W A hA.1
  rw [List.length_map] at W
  refine set_core (b := b) (RR := fun acc C => compPost (model prog w) A E none (fun v s₁ => wpAny (model prog w) A (PySem.assign (.Tuple [.Name y py] j tpos) env v) (fun _ => Q .next) E s₁) acc C) H hA W hsz e1 (Step.push e1.inn o) (fresh_size (Kp.refl _)) (by rw [Heap.size_push]; exact Nat.lt_succ_self _) hc st0 hIl hE hpos ?_
  intro Dd C G' s' m' fD fC hDC gC hn hacc t2
  refine ⟨m', hn, fun h'' hs'' => ?_⟩
  have hacc2 := (hs''.2 _ hDC).trans hacc
  have bk : ∀ b, (s1.heap.push o).get? b = none → s.heap.get? b = none := fun b q => by
    cases z : s.heap.get? b with
    | none => rfl
    | some o' => rw [Heap.get?_push_of_some _ (t1.kp _ _ z)] at q; cases q
  have t3 : Step G s G' { s' with heap := h'' } := by
    have t4 := t1.trans t2
    obtain ⟨h0, tk0, e0⟩ := t4.shp
    exact ⟨⟨h'', s'.toks, by rw [e0]⟩, t4.le, fun b o e => (hs''.2 b (fun z => by rw [z, gC] at e; cases e)).trans (t4.inn b o e), fun b o' e => (hs''.2 b (fun z => by rw [z, bk C fC] at e; cases e)).trans (t4.kp b o' e), t4.new⟩
  show wpAny (model prog w) A (PySem.assign (.Tuple [.Name y py] j tpos) env (.ref Dd)) _ _ _
  rw [arm_assign_Tuple]
  refine wpAny_bind (wpAny_standAt ?_)
  unfold unpack
  refine wpAny_bind (wpAny_holding ?_)
  refine unpack_set hA.1 hacc2 fun h5 k5 => ?_
  have t5 : Step _ { s' with heap := h'' } _ { s' with heap := h5 } := ⟨⟨h5, s'.toks, rfl⟩, Le.refl _, t3.inn.kp k5, k5, fun _ _ e => .inl e⟩
  have t6 := t3.trans t5
  refine storeAll (xs := [y]) ok (.name .nil) (allC hy all0) (allC hw all0) (c.step t6) (.cons (.bool b) .nil) rfl fun s7 t7 c7 => ?_
  exact hQ _ _ _ _ _ _ (t6.ss.trans t7) c7 .next hR
end
end Mine
end
section
set_option maxRecDepth 100000
namespace Mine
open AutoSeq1 (wpAny_loadPart')
def slt (x y : Str) : Bool := decide (x.cps.toList < y.cps.toList)
def lexR (r : Str → Str → Bool) (fin : Bool) : List Str → List Str → Bool
  | x :: xs, y :: ys => if x = y then lexR r fin xs ys else r x y
  | _, _ => fin
theorem lexR_nil1 {r : Str → Str → Bool} {fin : Bool} {ys : List Str} : lexR r fin [] ys = fin := by cases ys <;> rfl
theorem lexR_nil2 {r : Str → Str → Bool} {fin : Bool} {xs : List Str} : lexR r fin xs [] = fin := by cases xs <;> rfl

theorem lt_rich {prog : Program} {w : World} {A : Around} {E : Value → Shared → Prop} {s : Shared} {x y : Str} {t u : Tok} {Q : Value → Shared → Prop} (h : Q (.bool (slt x y)) s) : wpAny (model prog w) A (richCompare .Lt (.str x t) (.str y u)) Q E s := PySem.P.lt_str h

theorem lt_loop (l b : Addr) (xs ys : List (Str × Tok)) (n n2 : Nat) (dd dd2 : Option Addr) (sl sl2 : Array (Option Value)) (k : Nat) :
    ∀ i : Nat, xs.length - i = k → Meets (Builtin.«list.__eq__.loop» ⟨[.ref l, .ref b, rawInt i, rawInt 0], []⟩)
      (fun A R s => s.heap.get? l = some { cls := .type "list", dict := dd, data := .seq (strValues xs).toArray n, slots := sl } ∧ s.heap.get? b = some { cls := .type "list", dict := dd2, data := .seq (strValues ys).toArray n2, slots := sl2 } ∧
        R (.ok (.ret (.bool (lexR slt (decide (xs.length < ys.length)) ((xs.map (·.1)).drop i) ((ys.map (·.1)).drop i))))) s) := by
  induction k with
  | zero =>
    intro i hk prog w A R s h
    obtain ⟨hp, g, d, tk, os⟩ := s; obtain ⟨hl, hb, h⟩ := h
    wp_walk using wpAny_loadPart' hl, wpAny_loadPart' hb
    have hi1 : (strValues xs).toArray[((i : Nat) : Int).toNat]? = none := by simp [strValues]; omega
    have hd : (xs.map (·.1)).drop i = [] := by simp; omega
    rw [hd, lexR_nil1] at h
    rw [hi1]
    wp_walk using wpAny_loadPart' hl, wpAny_loadPart' hb
    show R (.ok (.ret (.bool (decide ((strValues xs).toArray.size < (strValues ys).toArray.size))))) _
    simpa [strValues] using h
  | succ k ih =>
    intro i hk prog w A R s h
    obtain ⟨hp, g, d, tk, os⟩ := s; obtain ⟨hl, hb, h⟩ := h
    wp_walk using wpAny_loadPart' hl, wpAny_loadPart' hb
    have hlt : i < xs.length := by omega
    obtain ⟨⟨x, t⟩, hx⟩ : ∃ p, xs[i]? = some p := ⟨xs[i], by simp [hlt]⟩
    have hi1 : (strValues xs).toArray[((i : Nat) : Int).toNat]? = some (.str x t) := by simp [strValues, hx]
    rw [hi1]
    have hd : (xs.map (·.1)).drop i = x :: (xs.map (·.1)).drop (i + 1) := by
      have : (xs.map (·.1))[i]? = some x := by simp [hx]
      rw [List.drop_eq_getElem_cons (by simpa using hlt)]; congr 1; exact Option.some.inj ((List.getElem?_eq_getElem (by simpa using hlt)).symm.trans this)
    rw [hd] at h
    by_cases hlt2 : i < ys.length
    · obtain ⟨⟨y, u⟩, hy⟩ : ∃ p, ys[i]? = some p := ⟨ys[i], by simp [hlt2]⟩
      have hi2 : (strValues ys).toArray[((i : Nat) : Int).toNat]? = some (.str y u) := by simp [strValues, hy]
      have hd2 : (ys.map (·.1)).drop i = y :: (ys.map (·.1)).drop (i + 1) := by
        have : (ys.map (·.1))[i]? = some y := by simp [hy]
        rw [List.drop_eq_getElem_cons (by simpa using hlt2)]; congr 1; exact Option.some.inj ((List.getElem?_eq_getElem (by simpa using hlt2)).symm.trans this)
      rw [hd2, lexR] at h
      rw [hi2]
      have hc : ((i : Int) + 1) = ((i + 1 : Nat) : Int) := by push_cast; rfl
      refine wpAny_bind (wpAny_eqBool_str ?_)
      by_cases he : x = y
      · rw [decide_eq_true he]
        rw [if_pos he] at h
        wp_walk
        rw [hc]
        exact ⟨plainId_quiet PySem.MeetsSeq3.plain_eq_loop _, codeAny_builtin PySem.MeetsSeq3.entry_eq_loop (by
          rw [Around.under_plainId PySem.MeetsSeq3.plain_eq_loop _]
          exact ih (i + 1) (by omega) prog w A R _ ⟨hl, hb, h⟩)⟩
      · rw [decide_eq_false he]
        rw [if_neg he] at h
        wp_walk using wpAny_loadPart' hl, wpAny_loadPart' hb
        rw [hi1, hi2]
        refine wpAny_bind (lt_rich ?_)
        exact wpAny_pure h
    · have hi2 : (strValues ys).toArray[((i : Nat) : Int).toNat]? = none := by simp [strValues]; omega
      have hd2 : (ys.map (·.1)).drop i = [] := by simp; omega
      rw [hd2, lexR_nil2] at h
      rw [hi2]
      wp_walk using wpAny_loadPart' hl, wpAny_loadPart' hb
      show R (.ok (.ret (.bool (decide ((strValues xs).toArray.size < (strValues ys).toArray.size))))) _
      simpa [strValues] using h
theorem lt_meets (l b : Addr) (xs ys : List (Str × Tok)) (n n2 : Nat) (dd dd2 : Option Addr) (sl sl2 : Array (Option Value)) :
    Meets (Builtin.«list.__lt__» ⟨[.ref l, .ref b], []⟩)
      (fun A R s => s.heap.get? l = some { cls := .type "list", dict := dd, data := .seq (strValues xs).toArray n, slots := sl } ∧ s.heap.get? b = some { cls := .type "list", dict := dd2, data := .seq (strValues ys).toArray n2, slots := sl2 } ∧
        R (.ok (.ret (.bool (lexR slt (decide (xs.length < ys.length)) (xs.map (·.1)) (ys.map (·.1)))))) s) := by
  intro prog w A R s h
  obtain ⟨hp, g, d, tk, os⟩ := s; obtain ⟨hl, hb, h⟩ := h
  have f3 := AutoSeq1.sub_list_list
  wp_walk using wpAny_loadPart' hl, wpAny_loadPart' hb
  exact ⟨plainId_quiet PySem.MeetsSeq3.plain_eq_loop _, codeAny_builtin PySem.MeetsSeq3.entry_eq_loop (by
    rw [Around.under_plainId PySem.MeetsSeq3.plain_eq_loop _]
    exact lt_loop l b xs ys n n2 dd dd2 sl sl2 _ 0 rfl prog w A R _ ⟨hl, hb, h⟩)⟩
section
variable {prog : Program} {w : World} {D : Md prog w} {k : Nat}
theorem lt_lists {A : Around} {E : Value → Shared → Prop} {s : Shared} {G : Gh} {v1 v2 : Value} {xs ys : List Str} {Q : Value → Shared → Prop} (hu : A.units < cLine) (hi : Sub G s.heap) (r1 : Rd prog w G v1 (.list (xs.map .str))) (r2 : Rd prog w G v2 (.list (ys.map .str)))
    (h : Q (.bool (lexR slt (decide (xs.length < ys.length)) xs ys)) s) : wpAny (model prog w) A (richCompare .Lt v1 v2) Q E s := by
  cases r1 with
  | @list a o vs n _ e1 c1 z1 r1 =>
    cases r2 with
    | @list b o2 ws n2 _ e2 c2 z2 r2 =>
      obtain ⟨cls, dd, data, sl⟩ := o
      obtain ⟨cls2, dd2, data2, sl2⟩ := o2
      simp only at c1 z1 c2 z2
      subst c1 z1 c2 z2
      obtain ⟨l1, rfl, rfl⟩ := strs_of_rd r1
      obtain ⟨l2, rfl, rfl⟩ := strs_of_rd r2
      refine richCompare_meets_room (op := .Lt) ⟨_, hi _ _ e1, rfl⟩ ⟨_, hi _ _ e2, rfl⟩ PySem.F.slot_list_lt PySem.F.entry_list_lt (PySem.F.args_list_lt_2 _ _) (lt_meets a b l1 l2 n n2 dd dd2 sl sl2) ⟨hi _ _ e1, hi _ _ e2, ?_⟩ hu
      refine ⟨fun z => (nomatch z), ?_⟩
      simpa using h
end

theorem gt_rich {prog : Program} {w : World} {A : Around} {E : Value → Shared → Prop} {s : Shared} {x y : Str} {t u : Tok} {Q : Value → Shared → Prop} (h : Q (.bool (slt y x)) s) : wpAny (model prog w) A (richCompare .Gt (.str x t) (.str y u)) Q E s := PySem.P.gt_str h

theorem gt_loop (l b : Addr) (xs ys : List (Str × Tok)) (n n2 : Nat) (dd dd2 : Option Addr) (sl sl2 : Array (Option Value)) (k : Nat) :
    ∀ i : Nat, xs.length - i = k → Meets (Builtin.«list.__eq__.loop» ⟨[.ref l, .ref b, rawInt i, rawInt 4], []⟩)
      (fun A R s => s.heap.get? l = some { cls := .type "list", dict := dd, data := .seq (strValues xs).toArray n, slots := sl } ∧ s.heap.get? b = some { cls := .type "list", dict := dd2, data := .seq (strValues ys).toArray n2, slots := sl2 } ∧
        R (.ok (.ret (.bool (lexR (fun x y => slt y x) (decide (ys.length < xs.length)) ((xs.map (·.1)).drop i) ((ys.map (·.1)).drop i))))) s) := by
  induction k with
  | zero =>
    intro i hk prog w A R s h
    obtain ⟨hp, g, d, tk, os⟩ := s; obtain ⟨hl, hb, h⟩ := h
    wp_walk using wpAny_loadPart' hl, wpAny_loadPart' hb
    have hi1 : (strValues xs).toArray[((i : Nat) : Int).toNat]? = none := by simp [strValues]; omega
    have hd : (xs.map (·.1)).drop i = [] := by simp; omega
    rw [hd, lexR_nil1] at h
    rw [hi1]
    wp_walk using wpAny_loadPart' hl, wpAny_loadPart' hb
    show R (.ok (.ret (.bool (decide ((strValues ys).toArray.size < (strValues xs).toArray.size))))) _
    simpa [strValues] using h
  | succ k ih =>
    intro i hk prog w A R s h
    obtain ⟨hp, g, d, tk, os⟩ := s; obtain ⟨hl, hb, h⟩ := h
    wp_walk using wpAny_loadPart' hl, wpAny_loadPart' hb
    have hlt : i < xs.length := by omega
    obtain ⟨⟨x, t⟩, hx⟩ : ∃ p, xs[i]? = some p := ⟨xs[i], by simp [hlt]⟩
    have hi1 : (strValues xs).toArray[((i : Nat) : Int).toNat]? = some (.str x t) := by simp [strValues, hx]
    rw [hi1]
    have hd : (xs.map (·.1)).drop i = x :: (xs.map (·.1)).drop (i + 1) := by
      have : (xs.map (·.1))[i]? = some x := by simp [hx]
      rw [List.drop_eq_getElem_cons (by simpa using hlt)]; congr 1; exact Option.some.inj ((List.getElem?_eq_getElem (by simpa using hlt)).symm.trans this)
    rw [hd] at h
    by_cases hlt2 : i < ys.length
    · obtain ⟨⟨y, u⟩, hy⟩ : ∃ p, ys[i]? = some p := ⟨ys[i], by simp [hlt2]⟩
      have hi2 : (strValues ys).toArray[((i : Nat) : Int).toNat]? = some (.str y u) := by simp [strValues, hy]
      have hd2 : (ys.map (·.1)).drop i = y :: (ys.map (·.1)).drop (i + 1) := by
        have : (ys.map (·.1))[i]? = some y := by simp [hy]
        rw [List.drop_eq_getElem_cons (by simpa using hlt2)]; congr 1; exact Option.some.inj ((List.getElem?_eq_getElem (by simpa using hlt2)).symm.trans this)
      rw [hd2, lexR] at h
      rw [hi2]
      have hc : ((i : Int) + 1) = ((i + 1 : Nat) : Int) := by push_cast; rfl
      refine wpAny_bind (wpAny_eqBool_str ?_)
      by_cases he : x = y
      · rw [decide_eq_true he]
        rw [if_pos he] at h
        wp_walk
        rw [hc]
        exact ⟨plainId_quiet PySem.MeetsSeq3.plain_eq_loop _, codeAny_builtin PySem.MeetsSeq3.entry_eq_loop (by
          rw [Around.under_plainId PySem.MeetsSeq3.plain_eq_loop _]
          exact ih (i + 1) (by omega) prog w A R _ ⟨hl, hb, h⟩)⟩
      · rw [decide_eq_false he]
        rw [if_neg he] at h
        wp_walk using wpAny_loadPart' hl, wpAny_loadPart' hb
        rw [hi1, hi2]
        refine wpAny_bind (gt_rich ?_)
        exact wpAny_pure h
    · have hi2 : (strValues ys).toArray[((i : Nat) : Int).toNat]? = none := by simp [strValues]; omega
      have hd2 : (ys.map (·.1)).drop i = [] := by simp; omega
      rw [hd2, lexR_nil2] at h
      rw [hi2]
      wp_walk using wpAny_loadPart' hl, wpAny_loadPart' hb
      show R (.ok (.ret (.bool (decide ((strValues ys).toArray.size < (strValues xs).toArray.size))))) _
      simpa [strValues] using h
theorem gt_meets (l b : Addr) (xs ys : List (Str × Tok)) (n n2 : Nat) (dd dd2 : Option Addr) (sl sl2 : Array (Option Value)) :
    Meets (Builtin.«list.__gt__» ⟨[.ref l, .ref b], []⟩)
      (fun A R s => s.heap.get? l = some { cls := .type "list", dict := dd, data := .seq (strValues xs).toArray n, slots := sl } ∧ s.heap.get? b = some { cls := .type "list", dict := dd2, data := .seq (strValues ys).toArray n2, slots := sl2 } ∧
        R (.ok (.ret (.bool (lexR (fun x y => slt y x) (decide (ys.length < xs.length)) (xs.map (·.1)) (ys.map (·.1)))))) s) := by
  intro prog w A R s h
  obtain ⟨hp, g, d, tk, os⟩ := s; obtain ⟨hl, hb, h⟩ := h
  have f3 := AutoSeq1.sub_list_list
  wp_walk using wpAny_loadPart' hl, wpAny_loadPart' hb
  exact ⟨plainId_quiet PySem.MeetsSeq3.plain_eq_loop _, codeAny_builtin PySem.MeetsSeq3.entry_eq_loop (by
    rw [Around.under_plainId PySem.MeetsSeq3.plain_eq_loop _]
    exact gt_loop l b xs ys n n2 dd dd2 sl sl2 _ 0 rfl prog w A R _ ⟨hl, hb, h⟩)⟩
section
variable {prog : Program} {w : World} {D : Md prog w} {k : Nat}
theorem gt_lists {A : Around} {E : Value → Shared → Prop} {s : Shared} {G : Gh} {v1 v2 : Value} {xs ys : List Str} {Q : Value → Shared → Prop} (hu : A.units < cLine) (hi : Sub G s.heap) (r1 : Rd prog w G v1 (.list (xs.map .str))) (r2 : Rd prog w G v2 (.list (ys.map .str)))
    (h : Q (.bool (lexR (fun x y => slt y x) (decide (ys.length < xs.length)) xs ys)) s) : wpAny (model prog w) A (richCompare .Gt v1 v2) Q E s := by
  cases r1 with
  | @list a o vs n _ e1 c1 z1 r1 =>
    cases r2 with
    | @list b o2 ws n2 _ e2 c2 z2 r2 =>
      obtain ⟨cls, dd, data, sl⟩ := o
      obtain ⟨cls2, dd2, data2, sl2⟩ := o2
      simp only at c1 z1 c2 z2
      subst c1 z1 c2 z2
      obtain ⟨l1, rfl, rfl⟩ := strs_of_rd r1
      obtain ⟨l2, rfl, rfl⟩ := strs_of_rd r2
      refine richCompare_meets_room (op := .Gt) ⟨_, hi _ _ e1, rfl⟩ ⟨_, hi _ _ e2, rfl⟩ PySem.F.slot_list_gt PySem.F.entry_list_gt (PySem.F.args_list_gt_2 _ _) (gt_meets a b l1 l2 n n2 dd dd2 sl sl2) ⟨hi _ _ e1, hi _ _ e2, ?_⟩ hu
      refine ⟨fun z => (nomatch z), ?_⟩
      simpa using h
end
end Mine
end
section
set_option maxRecDepth 100000
namespace Mine
section
variable {prog : Program} {w : World} {D : Md prog w} {k : Nat}
def bestOf {α : Type} (bt : α → α → Bool) : α → List α → α
  | b, [] => b
  | b, x :: r => bestOf bt (if bt x b then x else b) r
def lltS (a b : List Str) : Bool := lexR slt (decide (a.length < b.length)) a b
def lgtS (a b : List Str) : Bool := lexR (fun x y => slt y x) (decide (b.length < a.length)) a b

theorem min_loop {A : Around} {R : Result → Shared → Prop} {I c S : Addr} {oc : Obj} {St : Nat → Heap → Prop} {G : Gh} {xs : List (List Str)} (hu : A.in1.units < cLine) (hcG : G c = some oc)
    (W : Walks prog w A.in1 I [I, c] [I] xs.length (fun i v => ∃ d, (xs.map fun x : List Str => PyData.list (x.map .str))[i]? = some d ∧ Rd prog w G v d) St) (hSI : S ≠ I) (gS : G S = none) (gI : G I = none) :
    ∀ (k j : Nat) (s : Shared) (vb : Value) (b : List Str) (cc : Nat), xs.length - (j + 1) = k → j + 1 ≤ xs.length → St (j + 1) s.heap → Sub G s.heap → Rd prog w G vb (.list (b.map .str)) → s.heap.get? S = some (listO [vb, vb] cc) →
    (∀ v h' tk, Rd prog w G v (.list ((bestOf lltS b (xs.drop (j + 1))).map .str)) → (∀ x o, x ≠ I → x ≠ S → s.heap.get? x = some o → h'.get? x = some o) → R (.ok (.ret v)) { s with heap := h', toks := tk }) →
    codeAny (model prog w) A (.builtin "min.loop" ⟨[.ref I, .none, .ref S], []⟩) R s := by
  have hname : (toString "min" ++ toString ".loop" : String) = "min.loop" := by decide
  have hcS : c ≠ S := fun z => by rw [z, gS] at hcG; cases hcG
  intro k
  induction k with
  | zero =>
    intro j s vb b cc hk hj hst hi hPb hS hR
    have hin : j + 1 = xs.length := by omega
    refine codeAny_builtin PySem.F.entry_min_loop ?_
    rw [Around.under_plainId PySem.F.plain_min_loop _]
    show wpAny _ A.in1 (seqItems? (.ref S) >>= _) _ _ s
    refine wpAny_bind (wpAny_seqItems hS rfl ?_)
    show wpAny _ A.in1 (tryCatch (pyNext (.ref I)) _ >>= _) _ _ s
    refine wpAny_bind (wpAny_tryCatch (W.done s _ _ (hin ▸ hst) fun h' tk hk' => ?_))
    have hS' := hk' S _ (fun z => hSI (List.mem_singleton.mp z)) hS
    show wpAny _ A.in1 (updateSeq S (fun _ => #[]) >>= _) _ _ _
    refine wpAny_bind ?_
    refine wpAny_updateSeq hS' rfl (wpAny_bind (wpAny_letGo (wpAny_pure ?_)))
    refine hR vb _ tk (by rw [hin, List.drop_length]; exact hPb) fun x o hxI hxS e => (Heap.get?_update_other _ _ (Ne.symm hxS)).trans (hk' x o (fun z => hxI (List.mem_singleton.mp z)) e)
  | succ k ih =>
    intro j s vb b cc hk hj hst hi hPb hS hR
    have hlt : j + 1 < xs.length := by omega
    refine codeAny_builtin PySem.F.entry_min_loop ?_
    rw [Around.under_plainId PySem.F.plain_min_loop _]
    show wpAny _ A.in1 (seqItems? (.ref S) >>= _) _ _ s
    refine wpAny_bind (wpAny_seqItems hS rfl ?_)
    show wpAny _ A.in1 (tryCatch (pyNext (.ref I)) _ >>= _) _ _ s
    refine wpAny_bind (wpAny_tryCatch (W.item (j + 1) s _ _ hlt hst fun v h' tk hP hst' hk' => ?_))
    obtain ⟨d, hd, rd⟩ := hP
    obtain ⟨y, hy, rfl⟩ : ∃ y, xs[j + 1]? = some y ∧ PyData.list (y.map .str) = d := by
      rw [List.getElem?_map] at hd
      cases h : xs[j + 1]? with
      | none => rw [h] at hd; cases hd
      | some a => rw [h] at hd; exact ⟨a, rfl, by simpa using hd⟩
    have hdrop : xs.drop (j + 1) = y :: xs.drop (j + 1 + 1) := by
      rw [List.drop_eq_getElem_cons hlt]; congr 1; exact Option.some.inj ((List.getElem?_eq_getElem hlt).symm.trans hy)
    rw [hdrop] at hR
    have hi' : Sub G h' := fun x o e => hk' x o (fun z => by rw [List.mem_singleton.mp z, gI] at e; cases e) (hi x o e)
    have hS' := hk' S _ (fun z => hSI (List.mem_singleton.mp z)) hS
    show wpAny _ A.in1 (tryCatch (holding [v, v] (richCompare .Lt v vb >>= _)) _ >>= _) _ _ _
    refine wpAny_bind (wpAny_tryCatch (wpAny_holding (wpAny_bind (lt_lists hu (show Sub G ({ s with heap := h', toks := tk } : Shared).heap from hi') rd hPb ?_))))
    refine wpAny_bind (wpAny_holding (wpAny_truthy_bool ?_))
    refine wpAny_bind (wpAny_letGo (wpAny_pure ?_))
    cases hb : lltS y b with
    | true =>
      have hb' : lexR slt (decide (y.length < b.length)) y b = true := hb
      rw [hb']
      have hbest : bestOf lltS b (y :: xs.drop (j + 1 + 1)) = bestOf lltS y (xs.drop (j + 1 + 1)) := by rw [bestOf, if_pos hb]
      rw [hbest] at hR
      simp only [if_true]
      refine wpAny_bind ?_
      refine wpAny_updateSeq hS' rfl (wpAny_bind (wpAny_letGo ?_))
      rw [hname]
      refine wpAny_pure ⟨plainId_quiet PySem.F.plain_min_loop _, ih (j + 1) _ v y _ (by omega) hlt (W.frame _ _ _ hst' fun x hx o e => ?_) (fun x o e => (Heap.get?_update_other _ _ (fun z : S = x => by rw [← z, gS] at e; cases e)).trans (hi' x o e)) rd (Heap.get?_update_self _ hS' rfl)
        fun v' h'' tk'' hP' hk'' => ?_⟩
      · refine (Heap.get?_update_other _ _ (fun z : S = x => ?_)).trans e
        rcases List.mem_cons.mp hx with q | q
        · exact hSI (z.trans q)
        · exact hcS ((List.mem_singleton.mp q).symm.trans z.symm)
      · exact hR v' h'' tk'' hP' fun x o hxI hxS e => hk'' x o hxI hxS ((Heap.get?_update_other _ _ (Ne.symm hxS)).trans (hk' x o (fun z => hxI (List.mem_singleton.mp z)) e))
    | false =>
      have hb' : lexR slt (decide (y.length < b.length)) y b = false := hb
      rw [hb']
      have hbest : bestOf lltS b (y :: xs.drop (j + 1 + 1)) = bestOf lltS b (xs.drop (j + 1 + 1)) := by rw [bestOf, if_neg (by rw [hb]; simp)]
      rw [hbest] at hR
      simp only [Bool.false_eq_true, if_false]
      refine wpAny_bind (wpAny_letGo ?_)
      rw [hname]
      refine wpAny_pure ⟨plainId_quiet PySem.F.plain_min_loop _, ih (j + 1) _ vb b cc (by omega) hlt hst' hi' hPb hS' fun v' h'' tk'' hP' hk'' => ?_⟩
      exact hR v' h'' tk'' hP' fun x o hxI hxS e => hk'' x o hxI hxS (hk' x o (fun z => hxI (List.mem_singleton.mp z)) e)
/-- min(xs), xs a list of lists of strs -/
theorem CallTo.minLists {x : List Str} {xs : List (List Str)} : CallTo D (k + 3) (.builtin "min") [.list ((x :: xs).map fun y => .list (y.map .str))] (.list ((bestOf lltS x xs).map .str)) := by
  intro A hA G s vs Q E g0 hi rs hQ
  cases rs with
  | cons r rs =>
  cases rs
  rename_i v0
  have hname : (toString "min" ++ toString ".loop" : String) = "min.loop" := by decide
  refine call_function_tree PySem.F.kind_min PySem.F.plain_min PySem.F.entry_min (PySem.F.args_min1 _) ?_
  show wpAny _ A.in1 (Builtin.Builtins.bindParams "min" ["key", "default"] 0 ⟨[], []⟩ >>= _) _ _ s
  refine wpAny_bind (wpAny_of_eq (show Builtin.Builtins.bindParams "min" ["key", "default"] 0 ⟨[], []⟩ = pure [none, none] from rfl) ?_)
  refine wpAny_bind (wpAny_pure ?_)
  show wpAny _ A.in1 (pyIter v0 >>= _) _ _ s
  refine wpAny_bind (Itr.list (D := D) (xs := (x :: xs).map fun y => .list (y.map .str)) A.in1 hA.1 G s v0 _ _ g0 hi r fun o c St hof hc W st0 hIl => ?_)
  obtain ⟨oc, hc⟩ := hc
  refine wpAny_bind (wpAny_newObj_type ?_)
  rw [hname]
  have t1 := Step.push hi o
  have gfree : ∀ a, s.heap.objs.size ≤ a → G a = none := fun a ha => by
    cases z : G a with
    | none => rfl
    | some o' => exact absurd (Heap.lt_size (hi _ _ z)) (Nat.not_lt.mpr ha)
  have hsz : (s.heap.push o).objs.size = s.heap.objs.size + 1 := Heap.size_push ..
  have gI := gfree s.heap.objs.size (Nat.le_refl _)
  have gS := gfree (s.heap.push o).objs.size (by rw [hsz]; exact Nat.le_succ _)
  have hne : (s.heap.push o).objs.size ≠ s.heap.objs.size := by rw [hsz]; exact Nat.succ_ne_self _
  have hcS : c ≠ (s.heap.push o).objs.size := fun z => by rw [z, gS] at hc; cases hc
  have hcI : c ≠ s.heap.objs.size := fun z => by rw [z, gI] at hc; cases hc
  have W1 := W A.in1 hA.1
  rw [List.length_map] at W1
  have hu : A.in1.units < cLine := hA.in1.units |> fun h => by omega
  have hu2 : A.in1.in1.units < cLine := hA.in1.in1.units |> fun h => by omega
  have st1 : St 0 ((s.heap.push o).push (listO [] 0)) := W1.frame 0 _ _ st0 fun b _ o' e => Heap.get?_push_of_some _ e
  have hS1 : ((s.heap.push o).push (listO [] 0)).get? (s.heap.push o).objs.size = some (listO [] 0) := Heap.get?_push_size _ rfl
  refine wpAny_pure ⟨plainId_quiet PySem.F.plain_min_loop _, codeAny_builtin PySem.F.entry_min_loop ?_⟩
  rw [Around.under_plainId PySem.F.plain_min_loop _]
  show wpAny _ A.in1 (seqItems? (.ref (s.heap.push o).objs.size) >>= _) _ _ _
  refine wpAny_bind (wpAny_seqItems hS1 rfl ?_)
  show wpAny _ A.in1 (tryCatch (pyNext (.ref s.heap.objs.size)) _ >>= _) _ _ _
  refine wpAny_bind (wpAny_tryCatch (W1.item 0 _ _ _ (by simp) st1 fun v h' tk hP hst' hk' => ?_))
  obtain ⟨d, hd, rd⟩ := hP
  have hd : PyData.list (x.map .str) = d := by simpa using hd
  subst hd
  have hS' := hk' (s.heap.push o).objs.size _ (fun z => hne (List.mem_singleton.mp z)) hS1
  show wpAny _ A.in1 (updateSeq (s.heap.push o).objs.size (fun _ => #[v, v]) >>= _) _ _ _
  refine wpAny_bind ?_
  refine wpAny_updateSeq hS' rfl ?_
  rw [hname]
  have old : ∀ b o', s.heap.get? b = some o' → (h'.update (s.heap.push o).objs.size (Obj.mapSeq fun _ => #[v, v])).get? b = some o' := fun b o' e => by
    have h1 : b ≠ s.heap.objs.size := ne_size e
    have h2 : b ≠ (s.heap.push o).objs.size := ne_size (Heap.get?_push_of_some o e)
    exact (Heap.get?_update_other _ _ (Ne.symm h2)).trans (hk' b o' (fun z => h1 (List.mem_singleton.mp z)) (Heap.get?_push_of_some _ (Heap.get?_push_of_some _ e)))
  have hi2 : Sub G (h'.update (s.heap.push o).objs.size (Obj.mapSeq fun _ => #[v, v])) := fun b o' e => old b o' (hi b o' e)
  refine wpAny_pure ⟨plainId_quiet PySem.F.plain_min_loop _, min_loop (G := G) (xs := x :: xs) hu hc (by simpa using W1) hne gS gI _ 0 _ v x _ rfl (by simp) (W1.frame _ _ _ hst' fun b hb o' e => ?_) hi2 rd (Heap.get?_update_self _ hS' rfl) fun v' h'' tk'' hP' hk'' => ?_⟩
  · refine (Heap.get?_update_other _ _ (fun z : (s.heap.push o).objs.size = b => ?_)).trans e
    rcases List.mem_cons.mp hb with q | q
    · exact hne (z.trans q)
    · exact hcS ((List.mem_singleton.mp q).symm.trans z.symm)
  · have kp : Kp s.heap h'' := fun b o' e => hk'' b o' (ne_size e) (ne_size (Heap.get?_push_of_some o e)) (old b o' e)
    exact hQ G _ v' ⟨⟨h'', tk'', rfl⟩, Le.refl _, hi.kp kp, kp, fun _ _ e => .inl e⟩ hP'

theorem max_loop {A : Around} {R : Result → Shared → Prop} {I c S : Addr} {oc : Obj} {St : Nat → Heap → Prop} {G : Gh} {xs : List (List Str)} (hu : A.in1.units < cLine) (hcG : G c = some oc)
    (W : Walks prog w A.in1 I [I, c] [I] xs.length (fun i v => ∃ d, (xs.map fun x : List Str => PyData.list (x.map .str))[i]? = some d ∧ Rd prog w G v d) St) (hSI : S ≠ I) (gS : G S = none) (gI : G I = none) :
    ∀ (k j : Nat) (s : Shared) (vb : Value) (b : List Str) (cc : Nat), xs.length - (j + 1) = k → j + 1 ≤ xs.length → St (j + 1) s.heap → Sub G s.heap → Rd prog w G vb (.list (b.map .str)) → s.heap.get? S = some (listO [vb, vb] cc) →
    (∀ v h' tk, Rd prog w G v (.list ((bestOf lgtS b (xs.drop (j + 1))).map .str)) → (∀ x o, x ≠ I → x ≠ S → s.heap.get? x = some o → h'.get? x = some o) → R (.ok (.ret v)) { s with heap := h', toks := tk }) →
    codeAny (model prog w) A (.builtin "max.loop" ⟨[.ref I, .none, .ref S], []⟩) R s := by
  have hname : (toString "max" ++ toString ".loop" : String) = "max.loop" := by decide
  have hcS : c ≠ S := fun z => by rw [z, gS] at hcG; cases hcG
  intro k
  induction k with
  | zero =>
    intro j s vb b cc hk hj hst hi hPb hS hR
    have hin : j + 1 = xs.length := by omega
    refine codeAny_builtin PySem.F.entry_max_loop ?_
    rw [Around.under_plainId PySem.F.plain_max_loop _]
    show wpAny _ A.in1 (seqItems? (.ref S) >>= _) _ _ s
    refine wpAny_bind (wpAny_seqItems hS rfl ?_)
    show wpAny _ A.in1 (tryCatch (pyNext (.ref I)) _ >>= _) _ _ s
    refine wpAny_bind (wpAny_tryCatch (W.done s _ _ (hin ▸ hst) fun h' tk hk' => ?_))
    have hS' := hk' S _ (fun z => hSI (List.mem_singleton.mp z)) hS
    show wpAny _ A.in1 (updateSeq S (fun _ => #[]) >>= _) _ _ _
    refine wpAny_bind ?_
    refine wpAny_updateSeq hS' rfl (wpAny_bind (wpAny_letGo (wpAny_pure ?_)))
    refine hR vb _ tk (by rw [hin, List.drop_length]; exact hPb) fun x o hxI hxS e => (Heap.get?_update_other _ _ (Ne.symm hxS)).trans (hk' x o (fun z => hxI (List.mem_singleton.mp z)) e)
  | succ k ih =>
    intro j s vb b cc hk hj hst hi hPb hS hR
    have hlt : j + 1 < xs.length := by omega
    refine codeAny_builtin PySem.F.entry_max_loop ?_
    rw [Around.under_plainId PySem.F.plain_max_loop _]
    show wpAny _ A.in1 (seqItems? (.ref S) >>= _) _ _ s
    refine wpAny_bind (wpAny_seqItems hS rfl ?_)
    show wpAny _ A.in1 (tryCatch (pyNext (.ref I)) _ >>= _) _ _ s
    refine wpAny_bind (wpAny_tryCatch (W.item (j + 1) s _ _ hlt hst fun v h' tk hP hst' hk' => ?_))
    obtain ⟨d, hd, rd⟩ := hP
    obtain ⟨y, hy, rfl⟩ : ∃ y, xs[j + 1]? = some y ∧ PyData.list (y.map .str) = d := by
      rw [List.getElem?_map] at hd
      cases h : xs[j + 1]? with
      | none => rw [h] at hd; cases hd
      | some a => rw [h] at hd; exact ⟨a, rfl, by simpa using hd⟩
    have hdrop : xs.drop (j + 1) = y :: xs.drop (j + 1 + 1) := by
      rw [List.drop_eq_getElem_cons hlt]; congr 1; exact Option.some.inj ((List.getElem?_eq_getElem hlt).symm.trans hy)
    rw [hdrop] at hR
    have hi' : Sub G h' := fun x o e => hk' x o (fun z => by rw [List.mem_singleton.mp z, gI] at e; cases e) (hi x o e)
    have hS' := hk' S _ (fun z => hSI (List.mem_singleton.mp z)) hS
    show wpAny _ A.in1 (tryCatch (holding [v, v] (richCompare .Gt v vb >>= _)) _ >>= _) _ _ _
    refine wpAny_bind (wpAny_tryCatch (wpAny_holding (wpAny_bind (gt_lists hu (show Sub G ({ s with heap := h', toks := tk } : Shared).heap from hi') rd hPb ?_))))
    refine wpAny_bind (wpAny_holding (wpAny_truthy_bool ?_))
    refine wpAny_bind (wpAny_letGo (wpAny_pure ?_))
    cases hb : lgtS y b with
    | true =>
      have hb' : lexR (fun x y => slt y x) (decide (b.length < y.length)) y b = true := hb
      rw [hb']
      have hbest : bestOf lgtS b (y :: xs.drop (j + 1 + 1)) = bestOf lgtS y (xs.drop (j + 1 + 1)) := by rw [bestOf, if_pos hb]
      rw [hbest] at hR
      simp only [if_true]
      refine wpAny_bind ?_
      refine wpAny_updateSeq hS' rfl (wpAny_bind (wpAny_letGo ?_))
      rw [hname]
      refine wpAny_pure ⟨plainId_quiet PySem.F.plain_max_loop _, ih (j + 1) _ v y _ (by omega) hlt (W.frame _ _ _ hst' fun x hx o e => ?_) (fun x o e => (Heap.get?_update_other _ _ (fun z : S = x => by rw [← z, gS] at e; cases e)).trans (hi' x o e)) rd (Heap.get?_update_self _ hS' rfl)
        fun v' h'' tk'' hP' hk'' => ?_⟩
      · refine (Heap.get?_update_other _ _ (fun z : S = x => ?_)).trans e
        rcases List.mem_cons.mp hx with q | q
        · exact hSI (z.trans q)
        · exact hcS ((List.mem_singleton.mp q).symm.trans z.symm)
      · exact hR v' h'' tk'' hP' fun x o hxI hxS e => hk'' x o hxI hxS ((Heap.get?_update_other _ _ (Ne.symm hxS)).trans (hk' x o (fun z => hxI (List.mem_singleton.mp z)) e))
    | false =>
      have hb' : lexR (fun x y => slt y x) (decide (b.length < y.length)) y b = false := hb
      rw [hb']
      have hbest : bestOf lgtS b (y :: xs.drop (j + 1 + 1)) = bestOf lgtS b (xs.drop (j + 1 + 1)) := by rw [bestOf, if_neg (by rw [hb]; simp)]
      rw [hbest] at hR
      simp only [Bool.false_eq_true, if_false]
      refine wpAny_bind (wpAny_letGo ?_)
      rw [hname]
      refine wpAny_pure ⟨plainId_quiet PySem.F.plain_max_loop _, ih (j + 1) _ vb b cc (by omega) hlt hst' hi' hPb hS' fun v' h'' tk'' hP' hk'' => ?_⟩
      exact hR v' h'' tk'' hP' fun x o hxI hxS e => hk'' x o hxI hxS (hk' x o (fun z => hxI (List.mem_singleton.mp z)) e)
/-- max(xs), xs a list of lists of strs -/
theorem CallTo.maxLists {x : List Str} {xs : List (List Str)} : CallTo D (k + 3) (.builtin "max") [.list ((x :: xs).map fun y => .list (y.map .str))] (.list ((bestOf lgtS x xs).map .str)) := by
  intro A hA G s vs Q E g0 hi rs hQ
  cases rs with
  | cons r rs =>
  cases rs
  rename_i v0
  have hname : (toString "max" ++ toString ".loop" : String) = "max.loop" := by decide
  refine call_function_tree PySem.F.kind_max PySem.F.plain_max PySem.F.entry_max (PySem.F.args_max1 _) ?_
  show wpAny _ A.in1 (Builtin.Builtins.bindParams "max" ["key", "default"] 0 ⟨[], []⟩ >>= _) _ _ s
  refine wpAny_bind (wpAny_of_eq (show Builtin.Builtins.bindParams "max" ["key", "default"] 0 ⟨[], []⟩ = pure [none, none] from rfl) ?_)
  refine wpAny_bind (wpAny_pure ?_)
  show wpAny _ A.in1 (pyIter v0 >>= _) _ _ s
  refine wpAny_bind (Itr.list (D := D) (xs := (x :: xs).map fun y => .list (y.map .str)) A.in1 hA.1 G s v0 _ _ g0 hi r fun o c St hof hc W st0 hIl => ?_)
  obtain ⟨oc, hc⟩ := hc
  refine wpAny_bind (wpAny_newObj_type ?_)
  rw [hname]
  have t1 := Step.push hi o
  have gfree : ∀ a, s.heap.objs.size ≤ a → G a = none := fun a ha => by
    cases z : G a with
    | none => rfl
    | some o' => exact absurd (Heap.lt_size (hi _ _ z)) (Nat.not_lt.mpr ha)
  have hsz : (s.heap.push o).objs.size = s.heap.objs.size + 1 := Heap.size_push ..
  have gI := gfree s.heap.objs.size (Nat.le_refl _)
  have gS := gfree (s.heap.push o).objs.size (by rw [hsz]; exact Nat.le_succ _)
  have hne : (s.heap.push o).objs.size ≠ s.heap.objs.size := by rw [hsz]; exact Nat.succ_ne_self _
  have hcS : c ≠ (s.heap.push o).objs.size := fun z => by rw [z, gS] at hc; cases hc
  have hcI : c ≠ s.heap.objs.size := fun z => by rw [z, gI] at hc; cases hc
  have W1 := W A.in1 hA.1
  rw [List.length_map] at W1
  have hu : A.in1.units < cLine := hA.in1.units |> fun h => by omega
  have hu2 : A.in1.in1.units < cLine := hA.in1.in1.units |> fun h => by omega
  have st1 : St 0 ((s.heap.push o).push (listO [] 0)) := W1.frame 0 _ _ st0 fun b _ o' e => Heap.get?_push_of_some _ e
  have hS1 : ((s.heap.push o).push (listO [] 0)).get? (s.heap.push o).objs.size = some (listO [] 0) := Heap.get?_push_size _ rfl
  refine wpAny_pure ⟨plainId_quiet PySem.F.plain_max_loop _, codeAny_builtin PySem.F.entry_max_loop ?_⟩
  rw [Around.under_plainId PySem.F.plain_max_loop _]
  show wpAny _ A.in1 (seqItems? (.ref (s.heap.push o).objs.size) >>= _) _ _ _
  refine wpAny_bind (wpAny_seqItems hS1 rfl ?_)
  show wpAny _ A.in1 (tryCatch (pyNext (.ref s.heap.objs.size)) _ >>= _) _ _ _
  refine wpAny_bind (wpAny_tryCatch (W1.item 0 _ _ _ (by simp) st1 fun v h' tk hP hst' hk' => ?_))
  obtain ⟨d, hd, rd⟩ := hP
  have hd : PyData.list (x.map .str) = d := by simpa using hd
  subst hd
  have hS' := hk' (s.heap.push o).objs.size _ (fun z => hne (List.mem_singleton.mp z)) hS1
  show wpAny _ A.in1 (updateSeq (s.heap.push o).objs.size (fun _ => #[v, v]) >>= _) _ _ _
  refine wpAny_bind ?_
  refine wpAny_updateSeq hS' rfl ?_
  rw [hname]
  have old : ∀ b o', s.heap.get? b = some o' → (h'.update (s.heap.push o).objs.size (Obj.mapSeq fun _ => #[v, v])).get? b = some o' := fun b o' e => by
    have h1 : b ≠ s.heap.objs.size := ne_size e
    have h2 : b ≠ (s.heap.push o).objs.size := ne_size (Heap.get?_push_of_some o e)
    exact (Heap.get?_update_other _ _ (Ne.symm h2)).trans (hk' b o' (fun z => h1 (List.mem_singleton.mp z)) (Heap.get?_push_of_some _ (Heap.get?_push_of_some _ e)))
  have hi2 : Sub G (h'.update (s.heap.push o).objs.size (Obj.mapSeq fun _ => #[v, v])) := fun b o' e => old b o' (hi b o' e)
  refine wpAny_pure ⟨plainId_quiet PySem.F.plain_max_loop _, max_loop (G := G) (xs := x :: xs) hu hc (by simpa using W1) hne gS gI _ 0 _ v x _ rfl (by simp) (W1.frame _ _ _ hst' fun b hb o' e => ?_) hi2 rd (Heap.get?_update_self _ hS' rfl) fun v' h'' tk'' hP' hk'' => ?_⟩
  · refine (Heap.get?_update_other _ _ (fun z : (s.heap.push o).objs.size = b => ?_)).trans e
    rcases List.mem_cons.mp hb with q | q
    · exact hne (z.trans q)
    · exact hcS ((List.mem_singleton.mp q).symm.trans z.symm)
  · have kp : Kp s.heap h'' := fun b o' e => hk'' b o' (ne_size e) (ne_size (Heap.get?_push_of_some o e)) (old b o' e)
    exact hQ G _ v' ⟨⟨h'', tk'', rfl⟩, Le.refl _, hi.kp kp, kp, fun _ _ e => .inl e⟩ hP'
end
end Mine
end
section
set_option maxRecDepth 100000
namespace Mine
section
variable {prog : Program} {w : World} {D : Md prog w} {k : Nat} {env : Env} {V : Vars} {ow : Own} {R : Fl → Vars → Own → Prop}
/-- a loop over what gives tuples, taken apart at once -/
theorem for_walksT {A : Around} {names : List Str} {elts : List Expr} {kx : Nat} {p : Pos} {body : List Stmt} {I : Addr} {fp wr : List Addr} {n : Nat} {Pt : Nat → Array Value → Prop} {St : Nat → Heap → Prop} {Mid : Nat → Addr → Heap → Prop} {xs : Nat → List PyData} {G : Gh} {s s2 : Shared} {Q : Result → Shared → Prop}
    (ok : EnvOk env) (hx : ∀ x ∈ names, Name env x) (hT : Sets env names ((assignEach elts env).map (·.2))) (hl2 : (assignEach elts env).length = names.length) (hstar : (assignEach elts env).findIdx? (·.1) = none)
    (hA : Room k A) (W : WalksT prog w A I fp wr n Pt St Mid) (c : Ss D env V ow G s2) (st0 : St 0 s2.heap) (t0 : SStep env ow G s ow G s2)
    (hnew : ∀ b ∈ wr, s.heap.get? b = none) (hoff : ∀ b ∈ wr, G b = none) (hfp : ∀ b ∈ fp, ¬ Foot env ow b ∧ ∃ o, s2.heap.get? b = some o) (hP : ∀ i vals, Pt i vals → RdAll prog w G vals.toList (xs i)) (hlen : ∀ i, i < n → names.length = (xs i).length) (hl : ∀ i h, St i h → ∀ b ∈ wr, ∃ o, h.get? b = some o)
    (J : Nat → Vars → Own → Prop) (h0 : J 0 V ow) (hname : ∀ i V ow, J i V ow → ∀ x ∈ names, ow.name ≠ some x)
    (turn : ∀ i V ow, i < n → J i V ow → Ex D k env (adds names (xs i) V) ow body (Turn R (J (i + 1)))) (fin : ∀ V ow, J n V ow → R .next V ow)
    (hQ : ∀ G' s' f fl V' ow', SStep env ow G s ow' G' s' → Ss D env V' ow' G' s' → FlRd prog w G' f fl → R fl V' ow' → Q (.ok f) s') :
    codeAny (model prog w) A (.forLoop (.Tuple elts kx p) (.ref I) body [] env) Q s2 := by
  refine codeAny_forLoop_any (fun m s1 => ∃ i V1 ow1 G1, m = n - i ∧ i ≤ n ∧ J i V1 ow1 ∧ SStep env ow G s ow1 G1 s1 ∧ Ss D env V1 ow1 G1 s1 ∧ St i s1.heap ∧ (∀ b ∈ wr, G1 b = none) ∧ (∀ b ∈ fp, ¬ Foot env ow1 b ∧ ∃ o, s1.heap.get? b = some o)) ?_ n
    ⟨0, V, ow, G, rfl, Nat.zero_le _, h0, t0, c, st0, hoff, hfp⟩
  rintro m s1 ⟨i, V1, ow1, G1, rfl, hi, hJ, t1, c1, st1, g1, f1⟩
  have wrOff : ∀ b ∈ wr, G1 b = none ∧ ¬ Foot env ow1 b := fun b q => ⟨g1 b q, (f1 b (W.sub b q)).1⟩
  have next : ∀ h' tk, (∀ b o, b ∉ wr → s1.heap.get? b = some o → h'.get? b = some o) → SStep env ow G s ow1 G1 { s1 with heap := h', toks := tk } ∧ Ss D env V1 ow1 G1 { s1 with heap := h', toks := tk } := fun h' tk hk => by
    have nw : ∀ b o, s.heap.get? b = some o → b ∉ wr := fun b o e q => by rw [hnew b q] at e; cases e
    refine ⟨⟨?_, t1.le, fun b o nf e => hk b o (nw b o e) (t1.kp b o nf e), fun b o e => ?_, t1.new, t1.ownNew⟩, c1.but hk wrOff⟩
    · obtain ⟨h1, tk1, rfl⟩ := t1.shp
      exact ⟨h', tk, rfl⟩
    · obtain ⟨o', e'⟩ := t1.live b o e
      exact ⟨o', hk b o' (nw b o e) e'⟩
  by_cases hlt : i < n
  · refine W.item i s1 _ _ hlt st1 fun T vals h1 tk1 hv hT' hTt mid hk1 => ?_
    refine W.go elts kx p i T _ _ _ mid fun h2 st2 hk2 => ?_
    have hTt2 : h2.IsTuple T vals := by
      obtain ⟨o, eo, r⟩ := hTt
      exact ⟨o, hk2 T o (W.apart i T _ mid) eo, r⟩
    obtain ⟨t2, c2⟩ := next h2 tk1 (fun b o hb e => hk2 b o hb (hk1 b o hb e))
    have rv : RdAll prog w G1 vals.toList (xs i) := RdAll.mono t1.le (hP i vals hv)
    refine wpAny_assign_Tuple hA.1 hTt2 (by rw [hl2, hlen i hlt, ← rv.length, Array.length_toList]) hstar fun h3 he3 => ?_
    have t3 : Step G1 _ G1 _ := Step.extBut (s := { s1 with heap := h2, toks := tk1 }) c2.es.inn he3
    have c3 := c2.step t3
    have kp3 : Kp h2 h3 := t3.kp
    have st3 : St (i + 1) h3 := W.frame _ _ _ st2 fun b _ o e => kp3 b o e
    refine storeAll ok hT hx (hname i V1 ow1 hJ) c3 rv (hlen i hlt) fun s4 t4 c4 => ?_
    have live2 : ∀ b ∈ fp, ∃ o, h3.get? b = some o := fun b q => by
      by_cases hb : b ∈ wr
      · exact hl _ _ st3 b hb
      · obtain ⟨_, o, e⟩ := f1 b q
        exact ⟨o, kp3 b o (hk2 b o hb (hk1 b o hb e))⟩
    have keep4 : ∀ b ∈ fp, ∀ o, h3.get? b = some o → s4.heap.get? b = some o := fun b q o e => t4.kp b o (f1 b q).1 e
    have st4 : St (i + 1) s4.heap := W.frame _ _ _ st3 keep4
    refine turn i V1 ow1 hlt hJ A hA G1 s4 _ _ c4 fun G5 s5 f fl V5 ow5 t5 c5 fr hR => ?_
    have t6 := ((t2.trans t3.ss).trans t4).trans t5
    have again : ∀ (hj : J (i + 1) V5 ow5), ∃ m, m < n - i ∧ ∃ i V1 ow1 G1, m = n - i ∧ i ≤ n ∧ J i V1 ow1 ∧ SStep env ow G s ow1 G1 s5 ∧ Ss D env V1 ow1 G1 s5 ∧ St i s5.heap ∧ (∀ b ∈ wr, G1 b = none) ∧ (∀ b ∈ fp, ¬ Foot env ow1 b ∧ ∃ o, s5.heap.get? b = some o) := fun hj => by
      refine ⟨n - (i + 1), by omega, i + 1, V5, ow5, G5, rfl, hlt, hj, t6, c5, W.frame _ _ _ st4 fun b q o e => t5.kp b o (f1 b q).1 e, fun b q => ?_, fun b q => ?_⟩
      · cases z : G5 b with
        | none => rfl
        | some o =>
          obtain ⟨o2, e2⟩ := live2 b (W.sub b q)
          rcases t5.new b o z with y | y | y
          · rw [(wrOff b q).1] at y; cases y
          · rw [keep4 b (W.sub b q) o2 e2] at y; cases y
          · exact absurd (.inr (.inr y)) (wrOff b q).2
      · obtain ⟨o2, e2⟩ := live2 b q
        refine ⟨fun z => ?_, o2, t5.kp b o2 (f1 b q).1 (keep4 b q o2 e2)⟩
        rcases z with z | z | z
        · exact (f1 b q).1 (.inl z)
        · exact (f1 b q).1 (.inr (.inl z))
        · rcases t5.ownNew b z with y | y
          · exact (f1 b q).1 (.inr (.inr y))
          · rw [keep4 b q o2 e2] at y; cases y
    cases fr with
    | next => exact again hR
    | cont => exact again hR
    | brk => exact hQ _ _ _ _ _ _ t6 c5 .next hR
    | ret r => exact hQ _ _ _ _ _ _ t6 c5 (.ret r) hR
  · have hin : i = n := by omega
    subst hin
    refine W.done s1 _ _ st1 fun h' tk hk => ?_
    obtain ⟨t2, c2⟩ := next h' tk hk
    exact wpAny_execs_nil (hQ _ _ _ _ _ _ t2 c2 .next (fin _ _ hJ))
/-- for i, x in enumerate(xs) -/
theorem Ex1.forEnum {xi xv : Str} {elts : List Expr} {kx : Nat} {p pos n1 cpos : Pos} {e : Expr} {body : List Stmt} {xs : List PyData} (ok : EnvOk env) (hx : ∀ x ∈ [xi, xv], Name env x) (hT : Sets env [xi, xv] ((assignEach elts env).map (·.2)))
    (hE : EvV D k env V (.Name "enumerate" n1) (.type "enumerate")) (h : Ev D k env V e (.list xs))
    (J : Nat → Vars → Own → Prop) (h0 : J 0 V ow) (hname : ∀ i V ow, J i V ow → ∀ x ∈ [xi, xv], ow.name ≠ some x)
    (turn : ∀ i d V ow, xs[i]? = some d → J i V ow → Ex D k env ((xv, d) :: (xi, .int i) :: V) ow body (Turn R (J (i + 1)))) (fin : ∀ V ow, J xs.length V ow → R .next V ow)
    (hl2 : (assignEach elts env).length = 2 := by exact rfl) (hstar : (assignEach elts env).findIdx? (·.1) = none := by exact rfl) (he : starEach [e] env = [(false, eval e env)] := by exact rfl)
    (hs : ∀ x, foldedSetIterable (.Call (.Name "enumerate" n1) [e] [] cpos) env x = pure x := by intro _; exact rfl) : Ex1 D k env V ow (.For (.Tuple elts kx p) (.Call (.Name "enumerate" n1) [e] [] cpos) body [] pos) R := by
  intro A hA G s Q E c hQ
  refine wpAny_For ?_ hs
  refine wpAny_Call_ofName (hE A hA G s _ E c.es fun G1 s1 t1 => ?_)
  refine Pv.callWith_type1 ?_ he rfl
  rw [he]
  refine Calls.spliced_cons (h A hA G1 s1 _ E (c.es.step t1) fun G2 s2 v t2 r => Calls.spliced_nil ?_)
  have t := t1.trans t2
  have cc := c.step t
  cases r with
  | @list a o vs n _ e1 c1 z1 r1 =>
    have hg := t2.inn _ _ e1
    refine call_enumerate_list ⟨o, hg, c1, n, z1⟩ fun h' hen hit hsz hkp => ?_
    have t3 : Step G2 s2 G2 { s2 with heap := h' } := ⟨⟨h', s2.toks, rfl⟩, Le.refl _, t2.inn.kp hkp, hkp, fun _ _ e => .inl e⟩
    have cc3 := cc.step t3
    refine wpAny_pyIter_enum hen ?_
    have fresh : ∀ b, s2.heap.objs.size ≤ b → s2.heap.get? b = none := fun b hb => by
      cases z : s2.heap.get? b with
      | none => rfl
      | some o => exact absurd (Heap.lt_size z) (Nat.not_lt.mpr hb)
    have hlt := Heap.lt_size hg
    have W := WalksT.enumerate (prog := prog) (w := w) hA.1 (s2.heap.objs.size + 1) s2.heap.objs.size a (Nat.succ_ne_self _) (Nat.ne_of_lt (Nat.lt_succ_of_lt hlt)) (Nat.ne_of_lt hlt) vs.toArray
    have hlen : vs.toArray.size = xs.length := by simp [r1.length]
    rw [hlen] at W
    have nI : ∀ b, s2.heap.objs.size ≤ b → ¬ Foot env ow b := fun b hb z => by
      obtain ⟨o', e'⟩ := cc.foot_live z
      rw [fresh b hb] at e'; cases e'
    have offG : ∀ b o', G2 b = some o' → ¬ Foot env ow b := fun b o' e z => by
      rcases z with z | ⟨y, z⟩ | z
      · rw [z, cc.offL] at e; cases e
      · rw [(cc.cel y b z).1] at e; cases e
      · rw [(cc.own.off b z).1] at e; cases e
    have gnone : ∀ b, s2.heap.objs.size ≤ b → G2 b = none := fun b hb => by
      cases z : G2 b with
      | none => rfl
      | some o' => have := t2.inn _ _ z; rw [fresh b hb] at this; cases this
    obtain ⟨oi, hoi, ri⟩ := id hit
    refine for_walksT (s := s2) (G := G2) (names := [xi, xv]) (xs := fun i => [.int i, xs.getD i .none]) ok hx hT hl2 hstar hA W cc3 ⟨⟨_, hen⟩, hit, ⟨o, hkp _ _ hg, c1, n, z1⟩⟩ t3.ss ?_ ?_ ?_ ?_ ?_ ?_ J h0 hname
      (fun i V ow hi hJ => turn i _ V ow (by simp [List.getD, hi]) hJ) fin (fun G' s' f fl V' ow' t' c2 fr hr => hQ G' s' f fl V' ow' (t.ss.trans t') c2 fr hr)
    · intro b hb
      rcases List.mem_cons.mp hb with rfl | hb
      · exact fresh _ (Nat.le_succ _)
      · rw [List.mem_singleton.mp hb]; exact fresh _ (Nat.le_refl _)
    · intro b hb
      rcases List.mem_cons.mp hb with rfl | hb
      · exact gnone _ (Nat.le_succ _)
      · rw [List.mem_singleton.mp hb]; exact gnone _ (Nat.le_refl _)
    · intro b hb
      rcases List.mem_cons.mp hb with rfl | hb
      · exact ⟨nI _ (Nat.le_succ _), _, hen⟩
      · rcases List.mem_cons.mp hb with rfl | hb
        · exact ⟨nI _ (Nat.le_refl _), _, hoi⟩
        · rw [List.mem_singleton.mp hb]
          exact ⟨offG a o e1, o, hkp _ _ hg⟩
    · rintro i vals ⟨t', x, hx', rfl⟩
      obtain ⟨d, hd, rd⟩ := r1.get' (i := i) (v := x) (by simpa using hx')
      refine .cons (.int i t') (.cons ?_ .nil)
      simpa [List.getD, hd] using rd
    · intro i _; rfl
    · rintro i h ⟨⟨old, he'⟩, ⟨o', e', _⟩, _⟩ b hb
      rcases List.mem_cons.mp hb with rfl | hb
      · exact ⟨_, he'⟩
      · rw [List.mem_singleton.mp hb]; exact ⟨o', e'⟩
end
end Mine
end
section
set_option maxRecDepth 100000
namespace Mine
section
variable {prog : Program} {w : World} {D : Md prog w} {k : Nat} {env : Env} {V : Vars} {ow : Own} {R : Fl → Vars → Own → Prop}
abbrev Got (env : Env) (scope : Scope) (V V' : Vars) (cl : List (Str × Addr)) : Prop := ∀ y d, V'.lookup y = some d → V.lookup y = some d ∧ env.kindOf y = some .cell ∧ (compEnvC scope cl 0 env).kindOf y = some .cell ∧ cl.lookup y = env.cells.lookup y
theorem Got.nil {scope : Scope} {cl : List (Str × Addr)} : Got env scope V [] cl := fun _ _ h => nomatch h
theorem Got.cons {scope : Scope} {cl : List (Str × Addr)} {V' : Vars} {y : Str} {d : PyData} (h1 : V.lookup y = some d) (h2 : env.kindOf y = some .cell) (h3 : (compEnvC scope cl 0 env).kindOf y = some .cell) (h4 : cl.lookup y = env.cells.lookup y)
    (r : Got env scope V V' cl) : Got env scope V ((y, d) :: V') cl := fun z e q => by
  rw [List.lookup_cons] at q
  cases hy : z == y with
  | true => rw [hy] at q; cases q; rw [eq_of_beq hy]; exact ⟨h1, h2, h3, h4⟩
  | false => rw [hy] at q; exact r z e q
theorem CompU.to {elt iter : Expr} {x : Str} {px : Pos} {ifs : List Expr} {scope : Scope} {pos : Pos} {d d' : PyData} (h : CompU D k env V elt iter x px ifs scope pos d) (q : d = d') : CompU D k env V elt iter x px ifs scope pos d' := q ▸ h
theorem TruR.tuple {xs : List PyData} (hz : xs.length ≤ sizeLine) : TruR D k (.tuple xs) (!xs.isEmpty) := by
  intro A hA G s v Q E g0 hi rv hQ
  cases rv with
  | @tuple a o vs n _ e1 c1 z1 r1 =>
    refine truthy_tuple ⟨o, hi _ _ e1, c1, n, z1⟩ (by rw [sizeLine_eq] at hz; rw [List.size_toArray, r1.length]; omega) ?_
    have e : vs.toArray.isEmpty = xs.isEmpty := by
      have := r1.length
      cases vs <;> cases xs <;> simp_all
    rw [e]
    exact hQ G _ (Step.tok hi _)
end
end Mine
end
section
set_option maxRecDepth 100000
namespace Mine
section
variable {prog : Program} {w : World} {D : Md prog w} {k : Nat} {env : Env} {V : Vars} {ow : Own} {R : Fl → Vars → Own → Prop}
theorem hd19 : Hd 19 ["paths"] where
  bind := by intro pm cd doc vals h; match vals, h with | [v1], _ => rfl
  nd := by decide +kernel
  kinds := by decide +kernel
  cells := by decide +kernel
  fn := by rfl
  co := by rfl
  gen := by rfl
def keepP (c : Str) : Bool := decide (c.length ≠ 0 ∧ c ≠ ".")
def partsOf (p : Str) : List Str := (Txt.split p "/").filter keepP
def lcpS : List Str → List Str → List Str
  | x :: xs, y :: ys => if x = y then x :: lcpS xs ys else []
  | _, _ => []
def firstP (p : Str) (ps : List Str) : List Str := bestOf lltS (partsOf p) (ps.map partsOf)
def lastP (p : Str) (ps : List Str) : List Str := bestOf lgtS (partsOf p) (ps.map partsOf)
def commonS (p : Str) (ps : List Str) : Str := (if Txt.startswith p "/" = true then ("/" : Str) else "") ++ Txt.join "/" (lcpS (firstP p ps) (lastP p ps))
def MinMaxOk (a b : List Str) : Prop := ∀ i, i < a.length → a.take i = b.take i → i < b.length
theorem lcpS_eq : ∀ {a b : List Str} {i : Nat}, i < a.length → a.take i = b.take i → a[i]? ≠ b[i]? → lcpS a b = a.take i
  | [], b, i, h, _, _ => by simp at h
  | x :: xs, [], 0, _, _, _ => by simp [lcpS]
  | x :: xs, [], i + 1, _, h, _ => by simp at h
  | x :: xs, y :: ys, 0, _, _, h => by
    have : x ≠ y := fun e => h (by rw [e]; rfl)
    rw [lcpS, if_neg this]; rfl
  | x :: xs, y :: ys, i + 1, h1, h2, h3 => by
    rw [List.take_succ_cons, List.take_succ_cons] at h2
    injection h2 with e h2
    rw [lcpS, if_pos e, List.take_succ_cons, lcpS_eq (by simpa using h1) h2 (by simpa using h3)]
theorem lcpS_all : ∀ {a b : List Str}, a = b.take a.length → lcpS a b = a
  | [], b, _ => by cases b <;> rfl
  | x :: xs, [], h => by simp at h
  | x :: xs, y :: ys, h => by
    rw [List.length_cons, List.take_succ_cons] at h
    injection h with e h
    rw [lcpS, if_pos e, lcpS_all h]
theorem bestOf_mem {α : Type} {bt : α → α → Bool} : ∀ {b : α} {l : List α}, bestOf bt b l = b ∨ bestOf bt b l ∈ l
  | b, [] => .inl rfl
  | b, x :: r => by
    rw [bestOf]
    rcases bestOf_mem (bt := bt) (b := if bt x b = true then x else b) (l := r) with h | h
    · by_cases hb : bt x b = true
      · rw [if_pos hb] at h ⊢; exact .inr (by rw [h]; exact List.mem_cons_self)
      · rw [if_neg hb] at h ⊢; exact .inl h
    · exact .inr (List.mem_cons_of_mem _ h)
theorem lens_filter (p : Str → Bool) : ∀ l : List Str, lens (l.filter p) ≤ lens l
  | [] => Nat.le_refl _
  | x :: r => by
    have ih := lens_filter p r
    rw [List.filter_cons]
    split
    · unfold lens at ih ⊢; simp only [List.map_cons, List.sum_cons]; omega
    · unfold lens at ih ⊢; simp only [List.map_cons, List.sum_cons]; omega
theorem lens_parts (p : Str) : lens (partsOf p) ≤ p.length + 1 := Nat.le_trans (lens_filter _ _) (lens_split p)
theorem best_parts {bt : List Str → List Str → Bool} {p : Str} {ps : List Str} : ∃ q ∈ p :: ps, bestOf bt (partsOf p) (ps.map partsOf) = partsOf q := by
  rcases bestOf_mem (bt := bt) (b := partsOf p) (l := ps.map partsOf) with h | h
  · exact ⟨p, List.mem_cons_self, h⟩
  · obtain ⟨q, hq, e⟩ := List.mem_map.mp h
    exact ⟨q, List.mem_cons_of_mem _ hq, e.symm⟩
theorem lens_take (l : List Str) (n : Nat) : lens (l.take n) ≤ lens l := by
  conv => rhs; rw [← List.take_append_drop n l]
  unfold lens; rw [List.map_append, List.sum_append]; omega
theorem compOk {scope : Scope} {cl : List (Str × Addr)} {C : Addr} (ok : EnvOk env) (hk : scope.kind = .function) : EnvOk (compEnvC scope cl C env) := ⟨hk, ok.glob, ok.bi⟩
theorem lens_lcp : ∀ {a b : List Str}, lens (lcpS a b) ≤ lens a
  | [], b => by cases b <;> exact Nat.le_refl _
  | x :: xs, [] => Nat.zero_le _
  | x :: xs, y :: ys => by
    rw [lcpS]
    split
    · have := lens_lcp (a := xs) (b := ys)
      unfold lens at this ⊢; simp only [List.map_cons, List.sum_cons]; omega
    · exact Nat.zero_le _
theorem sliceNone : Txt.slice ("/" : Str) none (some 0) = "" := by decide +kernel
set_option maxHeartbeats 4000000 in
theorem commonpath (T : Text D) (p : Str) (ps : List Str) (hz : ∀ q ∈ p :: ps, q.length ≤ 1000000) (hz2 : (p :: ps).length ≤ 1000000) (habs : ∀ q ∈ p :: ps, Txt.startswith q "/" = Txt.startswith p "/") (hmm : MinMaxOk (firstP p ps) (lastP p ps)) :
    CallTo D (k + 6) (.ref (T.at_ 19)) [.list ((p :: ps).map .str)] (.str (commonS p ps)) := by
  refine (T.fn 19 (by decide)).call hd19 rfl fun L => ?_
  have ok : EnvOk (fe 19 (T.at_ 19) L (T.pm 19) (T.cd 19) (T.doc 19)) := fenv_ok hd19.fn
  obtain ⟨fo, hfo, hfd⟩ := (T.fn 9 (by decide)).obj
  refine Ex.cons (Ex1.assign ok (by exact ⟨rfl, .inl rfl⟩) (EvS.of (Ev.tupleMap (k := k + 1) (texts := p :: ps) (EvV.boot ok rfl (T.free _ (by decide)) PyProof.Rows.Boot.«tuple») (EvV.boot ok rfl (T.free _ (by decide)) PyProof.Rows.Boot.«map») (EvV.glob ok rfl (T.fn 9 (by decide)).mg) (Ev.name ok rfl) (fun y _ => fspath T y) (small (by omega)))) ?_)
  refine Ex.cons (Ex1.ite (TrS.of (Tr.not (Tr.val (Ev.name (d := .tuple ((p :: ps).map .str)) ok rfl) (TruR.tuple (small (by rw [List.length_map]; omega))) rfl))) (fun h => nomatch h) fun _ => Ex.nil ?_)
  refine Ex.cons (Ex1.ite (TrS.of (Tr.isBytes (x := p) (Ev.sub (Ev.name (d := .tuple ((p :: ps).map .str)) ok rfl) Ev.cint (GetR.tuple (by decide) (by decide) rfl)) (EvV.boot ok rfl (T.free _ (by decide)) PyProof.Rows.Boot.«isinstance») (EvV.boot ok rfl (T.free _ (by decide)) PyProof.Rows.Boot.«bytes») rfl)) (fun h => nomatch h) fun _ => ?_)
  refine Ex.cons (Ex1.assign ok (by exact ⟨rfl, .inr ⟨rfl, _, rfl⟩⟩) (EvS.of Ev.cstr) ?_)
  refine Ex.cons (Ex1.assign ok (by exact ⟨rfl, .inr ⟨rfl, _, rfl⟩⟩) (EvS.of Ev.cstr) (Ex.nil ?_))
  refine Ex.weak (V' := [("curdir", .str "."), ("sep", .str "/"), ("paths", .tuple ((p :: ps).map .str))]) ?_ (Knows.cons rfl (.cons rfl (.cons rfl .nil)))
  refine Ex.cons (Ex1.try_ ?_)
  -- the splits
  refine Ex.cons (Ex1.assignComp ok (by exact ⟨rfl, .inl rfl⟩) (CompU.to (CompU.mk (xs := p :: ps) (enc := .str) (p := fun _ => true) (f := fun q => .list ((Txt.split q "/").map .str)) (V' := [("sep", .str "/")])
    ⟨rfl, by decide +kernel, rfl, by decide +kernel, rfl, by decide, Got.cons rfl rfl rfl rfl .nil⟩ (Ev.name ok rfl) Itr.tuple (small (by omega)) (fun C a ha => Tests.nil) (fun C a ha _ => ?_)) (d' := .list (((p :: ps).map fun q => Txt.split q "/").map fun l => .list (l.map .str))) (by rw [List.filter_eq_self.mpr fun _ _ => rfl, List.map_map]; rfl)) ?_)
  · have hq := hz a ha
    exact Ev.split (Ev.name (compOk ok rfl) rfl) (Ev.name (compOk ok rfl) rfl) (by decide +kernel) (small (by omega)) (small (by have := split_parts a; omega))
  refine Ex.weak (V' := [("split_paths", .list (((p :: ps).map fun q => Txt.split q "/").map fun l => .list (l.map .str))), ("curdir", .str "."), ("sep", .str "/"), ("paths", .tuple ((p :: ps).map .str))]) ?_ (Knows.cons rfl (.cons rfl (.cons rfl (.cons rfl .nil))))
  refine Ex.cons (Ex1.try_ (Ex.cons (Ex1.assignSet (xs := p :: ps) (enc := .str) (b := Txt.startswith p "/") (V' := [("sep", .str "/")]) ok (by exact ⟨rfl, .inl rfl⟩)
    ⟨rfl, by decide +kernel, rfl, by decide +kernel, rfl, by decide, Got.cons rfl rfl rfl rfl .nil⟩ (Ev.name ok rfl) Itr.tuple (small (by omega)) (by simp) (fun C a ha => ?_) (Ex.nil ?_))))
  · rw [← habs a ha]
    exact Ev.startswith (Ev.name (compOk ok rfl) rfl) (Ev.name (compOk ok rfl) rfl)
  refine Ex.cons (Ex1.assignComp ok (by exact ⟨rfl, .inl rfl⟩) (CompU.to (CompU.mk (xs := (p :: ps).map fun q => Txt.split q "/") (enc := fun l => .list (l.map .str)) (p := fun _ => true) (f := fun l => .list ((l.filter keepP).map .str)) (V' := [("curdir", .str ".")])
    ⟨rfl, by decide +kernel, rfl, by decide +kernel, rfl, by decide, Got.cons rfl rfl rfl rfl .nil⟩ (Ev.name ok rfl) Itr.list (small (by rw [List.length_map]; omega)) (fun C a ha => Tests.nil) (fun C a ha _ => ?_)) (d' := .list (((p :: ps).map partsOf).map fun l => .list (l.map .str))) (by rw [List.filter_eq_self.mpr fun _ _ => rfl, List.map_map, List.map_map]; rfl)) ?_)
  · obtain ⟨q, hq, rfl⟩ := List.mem_map.mp ha
    have h1 := hz q hq
    have h2 := lens_split q
    have h3 := lens_len (Txt.split q "/")
    refine Ev.comp (xs := Txt.split q "/") (enc := .str) (p := keepP) (f := .str) (V' := [("curdir", .str ".")]) ⟨rfl, by decide +kernel, rfl, by decide +kernel, rfl, by decide, Got.cons rfl rfl rfl rfl .nil⟩ (Ev.name (compOk ok rfl) rfl) Itr.list (small (by omega)) (fun C2 c hc => ?_) (fun C2 c hc _ => ?_)
    · have h4 : c.length ≤ q.length := part_short hc
      refine Tests.one (Tr.to (Tr.and (TrAnd.cons (Tr.val (Ev.name (d := .str c) (compOk (compOk ok rfl) rfl) rfl) (TruR.str (small (by omega))) rfl) fun _ => TrAnd.cons (Tr.cmp (Ev.name (compOk (compOk ok rfl) rfl) rfl) (Ev.name (compOk (compOk ok rfl) rfl) rfl) CmpR.neStr) fun _ => TrAnd.nil)) ?_)
      rw [bne0, Bool.and_true, ← decide_not, ← Bool.decide_and]; rfl
    · exact Ev.name (compOk (compOk ok rfl) rfl) rfl
  obtain ⟨q1, hq1, e1⟩ := best_parts (bt := lltS) (p := p) (ps := ps)
  obtain ⟨q2, hq2, e2⟩ := best_parts (bt := lgtS) (p := p) (ps := ps)
  have l1 : lens (firstP p ps) ≤ 1000001 := by rw [firstP, e1]; have := lens_parts q1; have := hz q1 hq1; omega
  have l2 := lens_len (firstP p ps)
  have e3 : (PyData.list (((p :: ps).map partsOf).map fun l => PyData.list (l.map .str))) = .list ((partsOf p :: ps.map partsOf).map fun y => .list (y.map .str)) := rfl
  rw [e3]
  refine Ex.cons (Ex1.assign ok (by exact ⟨rfl, .inl rfl⟩) (EvS.of (Ev.callB (EvV.boot ok rfl (T.free _ (by decide)) PyProof.Rows.Boot.«min») (EvL.cons (Ev.name ok rfl) EvL.nil) (CallTo.minLists (k := k + 2)))) ?_)
  refine Ex.cons (Ex1.assign ok (by exact ⟨rfl, .inl rfl⟩) (EvS.of (Ev.callB (EvV.boot ok rfl (T.free _ (by decide)) PyProof.Rows.Boot.«max») (EvL.cons (Ev.name ok rfl) EvL.nil) (CallTo.maxLists (k := k + 2)))) ?_)
  refine Ex.cons (Ex1.assign ok (by exact ⟨rfl, .inl rfl⟩) (EvS.of (Ev.name ok rfl)) ?_)
  refine Ex.weak (V' := [("common", .list ((firstP p ps).map .str)), ("s2", .list ((lastP p ps).map .str)), ("s1", .list ((firstP p ps).map .str)), ("isabs", .bool (Txt.startswith p "/")), ("sep", .str "/")]) ?_ (Knows.cons rfl (.cons rfl (.cons rfl (.cons rfl (.cons rfl .nil)))))
  generalize hs1 : firstP p ps = s1 at hmm l1 l2 ⊢
  generalize hs2 : lastP p ps = s2 at hmm ⊢
  have hres : commonS p ps = (if Txt.startswith p "/" = true then ("/" : Str) else "") ++ Txt.join "/" (lcpS s1 s2) := by rw [commonS, hs1, hs2]
  have hll : lens (lcpS s1 s2) ≤ lens s1 := lens_lcp
  refine Ex.cons (Ex1.forEnum (xi := "i") (xv := "c") (xs := s1.map .str) ok (allC ⟨rfl, .inl rfl⟩ (allC ⟨rfl, .inl rfl⟩ all0)) (.name (.name .nil)) (EvV.boot ok rfl (T.free _ (by decide)) PyProof.Rows.Boot.«enumerate») (Ev.name ok rfl)
    (fun i V ow => ow = .none ∧ Knows V [("common", .list (s1.map .str)), ("s2", .list (s2.map .str)), ("s1", .list (s1.map .str)), ("isabs", .bool (Txt.startswith p "/")), ("sep", .str "/")] ∧ s1.take i = s2.take i)
    ⟨rfl, Knows.refl _, by rw [List.take_zero, List.take_zero]⟩ (fun i V ow h => by rw [h.1]; exact allC (by decide) (allC (by decide) all0)) ?_ ?_)
  · rintro i d V ow hd ⟨rfl, hk, ht⟩
    obtain ⟨c, hc, rfl, hi, hdrop⟩ := mapGet hd
    have hi2 := hmm i hi ht
    obtain ⟨c2, hc2⟩ : ∃ c2, s2[i]? = some c2 := ⟨s2[i], by simp [hi2]⟩
    refine Ex.weak (V' := [("c", .str c), ("i", .int i), ("common", .list (s1.map .str)), ("s2", .list (s2.map .str)), ("s1", .list (s1.map .str)), ("isabs", .bool (Txt.startswith p "/")), ("sep", .str "/")]) ?_ (Knows.more _ _ (Knows.more _ _ hk))
    refine Ex.cons (Ex1.ite (TrS.of (Tr.cmp (Ev.name ok rfl) (Ev.sub (Ev.name (d := .list (s2.map .str)) ok rfl) (Ev.name ok rfl) (GetR.list (d := .str c2) (by omega) (by omega) (by simp [hc2]))) CmpR.neStr)) (fun h => ?_) (fun h => ?_))
    · have h : ¬ c = c2 := of_decide_eq_false (by simpa using h)
      have e : lcpS s1 s2 = s1.take i := lcpS_eq hi ht (by rw [hc, hc2]; exact fun z => h (Option.some.inj z))
      refine Ex.cons (Ex1.assign ok (by exact ⟨rfl, .inl rfl⟩) (EvS.of (Ev.upto (Ev.name (d := .list (s1.map .str)) ok rfl) (Ev.name ok rfl) (small (by rw [List.length_map]; omega)))) ?_)
      refine Ex.cons (Ex1.brk ?_)
      refine Ex.weak (V' := [("common", .list ((lcpS s1 s2).map .str)), ("isabs", .bool (Txt.startswith p "/")), ("sep", .str "/")]) ?_ (Knows.cons (by rw [e, List.map_take]; rfl) (.cons rfl (.cons rfl .nil)))
      refine Ex.cons (Ex1.assign ok (by exact ⟨rfl, .inl rfl⟩) (EvS.of (Ev.cond (d := .str (if Txt.startswith p "/" = true then ("/" : Str) else "")) (Tr.val (Ev.name ok rfl) TruR.bool rfl) (fun h => by rw [if_pos h]; exact Ev.name ok rfl) fun h => by rw [if_neg (by rw [h]; simp)]; exact (Ev.cutStr (Ev.name ok rfl) EvP.none (EvP.some Ev.cint) (small (by decide +kernel))).to (by rw [sliceNone]))) ?_)
      have hj := joinLen (lcpS s1 s2)
      have hpre : (if Txt.startswith p "/" = true then ("/" : Str) else "").length ≤ 1 := by split <;> decide +kernel
      exact Ex.cons (Ex1.ret (EvS.of (Ev.bin (Ev.name ok rfl) (Ev.join (Ev.name ok rfl) (Ev.name ok rfl) (lens_joinOk (by omega))) (BinR.addStr (small (by omega))))) (by rw [hres]; rfl))
    · have h : c = c2 := of_decide_eq_true (by simpa using h)
      refine Ex.nil (Ex.nil ⟨rfl, .cons rfl (.cons rfl (.cons rfl (.cons rfl (.cons rfl .nil)))), ?_⟩)
      rw [List.take_add_one, List.take_add_one, ht, hc, hc2, h]
  · rintro V ow ⟨rfl, hk, ht⟩
    rw [List.length_map] at ht
    have e : lcpS s1 s2 = s1 := lcpS_all (by rw [List.take_length] at ht; exact ht)
    refine Ex.weak (V' := [("common", .list ((lcpS s1 s2).map .str)), ("isabs", .bool (Txt.startswith p "/")), ("sep", .str "/")]) ?_ (Knows.cons (by rw [e]; exact hk "common" _ rfl) (.cons (hk "isabs" _ rfl) (.cons (hk "sep" _ rfl) .nil)))
    refine Ex.cons (Ex1.assign ok (by exact ⟨rfl, .inl rfl⟩) (EvS.of (Ev.cond (d := .str (if Txt.startswith p "/" = true then ("/" : Str) else "")) (Tr.val (Ev.name ok rfl) TruR.bool rfl) (fun h => by rw [if_pos h]; exact Ev.name ok rfl) fun h => by rw [if_neg (by rw [h]; simp)]; exact (Ev.cutStr (Ev.name ok rfl) EvP.none (EvP.some Ev.cint) (small (by decide +kernel))).to (by rw [sliceNone]))) ?_)
    have hj := joinLen (lcpS s1 s2)
    have hpre : (if Txt.startswith p "/" = true then ("/" : Str) else "").length ≤ 1 := by split <;> decide +kernel
    exact Ex.cons (Ex1.ret (EvS.of (Ev.bin (Ev.name ok rfl) (Ev.join (Ev.name ok rfl) (Ev.name ok rfl) (lens_joinOk (by omega))) (BinR.addStr (small (by omega))))) (by rw [hres]; rfl))
end
end Mine
end
section
set_option maxRecDepth 100000
namespace Mine
section
variable {prog : Program} {w : World} {D : Md prog w} {k : Nat} {env : Env} {V : Vars} {ow : Own} {R : Fl → Vars → Own → Prop}
theorem hd21 : Hd 21 ["n"] where
  bind := by intro pm cd doc vals h; match vals, h with | [v1], _ => rfl
  nd := by decide +kernel
  kinds := by decide +kernel
  cells := by decide +kernel
  fn := by rfl
  co := by rfl
  gen := by rfl
def names7 : List Str := [".", "a", "b", "..", "ab", "", "b"]
def piece1 (acc : List Str) (n : Nat) : Str := if names7.getD (n % 7) "" = "" ∧ acc = [] then "." else names7.getD (n % 7) ""
def piecesGo : Nat → Nat → List Str → List Str
  | 0, _, acc => acc
  | f + 1, n, acc => if 0 < n then piecesGo f (n / 7) (acc ++ [piece1 acc n]) else acc
def piecesS (n : Nat) : List Str := piecesGo 3 n []
theorem eqv_nil (xs : List PyData) : PyData.eqv (.list xs) (.list []) = decide (xs = []) := by cases xs <;> rfl
def okS (x : Str) : Bool := PyData.canLay0 (.str x)
theorem lay_strs {xs : List Str} (h : ∀ x ∈ xs, okS x = true) : PyData.canLayAll0 (xs.map .str) = true := by
  induction xs with
  | nil => rfl
  | cons x r ih => rw [List.map_cons, PyData.canLayAll0, ih fun y hy => h y (List.mem_cons_of_mem _ hy)]; exact Bool.and_eq_true_iff.mpr ⟨h x List.mem_cons_self, rfl⟩
theorem depth_strs : ∀ xs : List Str, PyData.depth (.list (xs.map .str)) ≤ 64 := by
  have : ∀ xs : List Str, PyData.depthAll (xs.map .str) ≤ 1 := by
    intro xs
    induction xs with
    | nil => simp [PyData.depthAll]
    | cons x r ih => simp only [List.map_cons, PyData.depthAll, PyData.depth]; omega
  intro xs
  have := this xs
  simp only [PyData.depth]
  omega
theorem names7_ok : ∀ x ∈ names7, okS x = true := by decide +kernel
theorem piece1_ok (acc : List Str) (m : Nat) : okS (piece1 acc m) = true := by
  unfold piece1
  split
  · decide +kernel
  · refine names7_ok _ ?_
    have h7 : m % 7 < names7.length := Nat.mod_lt _ (by decide)
    rw [List.getD_eq_getElem?_getD, List.getElem?_eq_getElem h7]
    exact List.getElem_mem h7
set_option maxHeartbeats 2000000 in
theorem law_pieces (T : Text D) (n : Nat) : CallTo D (k + 1) (.ref (T.at_ 21)) [.int n] (.list ((piecesS n).map .str)) := by
  refine (T.fn 21 (by decide)).call hd21 rfl fun L => ?_
  have ok : EnvOk (fe 21 (T.at_ 21) L (T.pm 21) (T.cd 21) (T.doc 21)) := fenv_ok hd21.fn
  refine Ex.cons (Ex1.newList ok (by exact ⟨rfl, .inl rfl⟩) rfl fun a => ?_)
  refine Ex.cons (Ex1.whileL (fun f V ow => ∃ (m : Nat) (acc : List Str), ow = .list "pieces" a (acc.map .str) ∧ Knows V [("n", .int m)] ∧ acc.length + f = 3 ∧ piecesGo f m acc = piecesS n ∧ ∀ x ∈ acc, okS x = true) ?_ 3 ⟨n, [], rfl, .cons rfl .nil, rfl, rfl, fun _ h => nomatch h⟩)
  rintro f V ow ⟨m, acc, rfl, hk, hf, hs, hkok⟩
  have hz : acc.length ≤ 10 := by omega
  have hk' : V.lookup ("n" : Str) = some (PyData.int m) := hk "n" _ rfl
  refine ⟨decide (0 < m ∧ acc.length < 3), ?_, fun hc => ?_, fun hc => ?_⟩
  · refine TrS.list (Tr.to (Tr.and (TrAnd.cons (Tr.cmp (Ev.name (d := .int m) ok ?_) Ev.cint CmpR.gtInt) fun _ => TrAnd.cons (Tr.cmp (Ev.callB (EvV.boot ok rfl (T.free _ (by decide)) PyProof.Rows.Boot.«len») (EvL.cons (Ev.name (d := .list (acc.map .str)) ok rfl) EvL.nil) (CallTo.lenList (small (by rw [List.length_map]; omega)))) Ev.cint CmpR.ltInt) fun _ => TrAnd.nil)) ?_)
    · rw [List.lookup_cons]; exact hk'
    · rw [List.length_map, Bool.and_true, Bool.decide_and]
      congr 1 <;> simp
      omega
  · have hc := of_decide_eq_false hc
    refine Ex.freeze ?_
    refine Ex.cons (Ex1.ret (EvS.of (Ev.name ok rfl)) ?_)
    have : piecesGo f m acc = acc := by
      cases f with
      | zero => rfl
      | succ f => rw [piecesGo, if_neg (fun h => hc ⟨h, by omega⟩)]
    rw [this] at hs
    show PyData.list _ = _
    rw [hs]
  · have hc := of_decide_eq_true hc
    obtain ⟨f, rfl⟩ : ∃ g, f = g + 1 := ⟨f - 1, by omega⟩
    rw [piecesGo, if_pos hc.1] at hs
    have h7 : m % 7 < 7 := Nat.mod_lt _ (by decide)
    have hm1 : (0 : Int) ≤ (m : Int).fmod 7 := by rw [Int.fmod_eq_emod_of_nonneg _ (by decide)]; exact Int.emod_nonneg _ (by decide)
    have hm2 : (m : Int).fmod 7 < 2 ^ 63 := by rw [Int.fmod_eq_emod_of_nonneg _ (by decide)]; omega
    have hm3 : ((m : Int).fmod 7).toNat = m % 7 := by rw [Int.fmod_eq_emod_of_nonneg _ (by decide)]; omega
    have hget : names7[m % 7]? = some (names7.getD (m % 7) "") := by
      rw [List.getD_eq_getElem?_getD, List.getElem?_eq_getElem (by exact h7)]; rfl
    refine Ex.weak (V' := [("n", .int m)]) ?_ hk
    refine Ex.cons (Ex1.assign ok (by exact ⟨rfl, .inl rfl⟩) (EvS.of (Ev.sub (d1 := .list (names7.map .str)) (d := .str (names7.getD (m % 7) "")) (Ev.list (EvL.cons Ev.cstr (EvL.cons Ev.cstr (EvL.cons Ev.cstr (EvL.cons Ev.cstr (EvL.cons Ev.cstr (EvL.cons Ev.cstr (EvL.cons Ev.cstr EvL.nil))))))) (small (by show names7.length ≤ _; decide))) (Ev.bin (Ev.name ok rfl) Ev.cint (BinR.mod (by decide)))
      (GetR.list hm1 hm2 (by rw [hm3, List.getElem?_map, hget]; rfl)))) ?_ (nameNe (by decide)))
    have hok : ∀ x ∈ acc, okS x = true := hkok
    refine Ex.cons (Ex1.append (d := .str (piece1 acc m)) ok (EvS.listI (Ev.cond (c := decide (names7.getD (m % 7) "" = "" ∧ acc = [])) (Tr.to (Tr.and (TrAnd.cons (Tr.cmp (Ev.name ok rfl) Ev.cstr CmpR.eqStr) fun _ => TrAnd.cons (Tr.cmp (Ev.name (d := .list (acc.map .str)) ok rfl) (Ev.list EvL.nil (Nat.zero_le _)) ((CmpR.eq (by exact lay_strs hok) rfl (depth_strs acc)).to (eqv_nil _))) fun _ => TrAnd.nil)) ?_) (fun h => ?_) (fun h => ?_)) rfl) (small (by rw [List.length_map]; omega)) ?_)
    · rw [Bool.and_true, Bool.decide_and]; congr 1; simp
    · rw [piece1, if_pos (of_decide_eq_true h)]; exact Ev.cstr
    · rw [piece1, if_neg (of_decide_eq_false h)]; exact Ev.name ok rfl
    · refine Ex.cons (Ex1.assign ok (by exact ⟨rfl, .inl rfl⟩) (EvS.of (Ev.bin (Ev.name ok rfl) Ev.cint (BinR.fdiv (by decide) (PyProof.noPylong_small (by decide))))) ?_ (nameNe (by decide)))
      refine Ex.nil ⟨f, Nat.lt_succ_self _, m / 7, acc ++ [piece1 acc m], by simp, ?_, by simp; omega, hs, ?_⟩
      · refine .cons ?_ .nil
        show some (PyData.int ((m : Int).fdiv 7)) = some (PyData.int ((m / 7 : Nat) : Int))
        rw [Int.fdiv_eq_ediv_of_nonneg _ (by decide)]; rfl
      · intro x hx
        rcases List.mem_append.mp hx with hx | hx
        · exact hok x hx
        · rw [List.mem_singleton.mp hx]; exact piece1_ok acc m
end
end Mine
end
section
set_option maxRecDepth 100000
namespace Mine
abbrev KV := List (Str × PyData)
def kvD (T : KV) : List (PyData × PyData) := T.map fun p => (PyData.str p.1, p.2)
def setK (T : KV) (x : Str) (d : PyData) : KV := if T.any (fun p => p.1 = x) then T.map (fun p => if p.1 = x then (p.1, d) else p) else T ++ [(x, d)]
def popK (T : KV) (x : Str) : KV := T.filter fun p => decide (p.1 ≠ x)
def getK (T : KV) (x : Str) : Option PyData := (T.find? fun p => p.1 = x).map (·.2)
section
variable {prog : Program} {w : World} {D : Md prog w} {k : Nat} {env : Env} {V : Vars} {ow : Own} {R : Fl → Vars → Own → Prop}
theorem kvD_keys (T : KV) : (kvD T).map (·.1) = (T.map (·.1)).map .str := by unfold kvD; rw [List.map_map, List.map_map]; rfl
theorem RdKv.split {G : Gh} : ∀ {T : KV} {kv : List (Str × Value)}, RdKv prog w G kv (kvD T) → kv.map (·.1) = T.map (·.1)
  | [], _, .nil => rfl
  | (x, d) :: r, _, .cons a q => by
    have := RdKv.split (T := r) q
    simp only [List.map_cons, this]
theorem RdKv.value {G : Gh} : ∀ {T : KV} {kv : List (Str × Value)}, RdKv prog w G kv (kvD T) → ∀ {x : Str} {d : PyData}, getK T x = some d → ∃ v, valueAt kv x = some v ∧ Rd prog w G v d
  | [], _, .nil, x, d, h => by cases h
  | (y, e) :: r, _, .cons (v := v) a q, x, d, h => by
    unfold getK valueAt at *
    rw [List.find?_cons] at h ⊢
    by_cases hy : y = x
    · simp only [hy, decide_true, Option.map_some, Option.some.injEq] at h ⊢
      exact ⟨v, rfl, h ▸ a⟩
    · simp only [hy, decide_false] at h ⊢
      have := RdKv.value (T := r) q (x := x) (d := d) h
      exact this
theorem RdKv.map_ {G : Gh} {x : Str} {v : Value} {d : PyData} (rv : Rd prog w G v d) : ∀ {T : KV} {kv : List (Str × Value)}, RdKv prog w G kv (kvD T) → RdKv prog w G (kv.map fun p => if p.1 = x then (p.1, v) else p) (kvD (T.map fun p => if p.1 = x then (p.1, d) else p))
  | [], _, .nil => .nil
  | (y, e) :: r, _, .cons a q => by
    have ih := RdKv.map_ (x := x) rv (T := r) q
    unfold kvD at ih ⊢
    simp only [List.map_cons]
    by_cases hy : y = x
    · simp only [hy, if_true]; exact .cons rv ih
    · simp only [hy, if_false]; exact .cons a ih
theorem RdKv.snoc {G : Gh} {x : Str} {v : Value} {d : PyData} (rv : Rd prog w G v d) : ∀ {T : KV} {kv : List (Str × Value)}, RdKv prog w G kv (kvD T) → RdKv prog w G (kv ++ [(x, v)]) (kvD (T ++ [(x, d)]))
  | [], _, .nil => .cons rv .nil
  | (y, e) :: r, _, .cons a q => .cons a (RdKv.snoc rv (T := r) q)
theorem RdKv.stored {G : Gh} {x : Str} {v : Value} {d : PyData} {T : KV} {kv : List (Str × Value)} (h : RdKv prog w G kv (kvD T)) (rv : Rd prog w G v d) : RdKv prog w G (stored kv x v) (kvD (setK T x d)) := by
  have hany : kv.any (fun p => decide (p.1 = x)) = T.any (fun p => decide (p.1 = x)) := by
    have h1 := h.split
    have : ∀ {α : Type} (l : List (Str × α)), l.any (fun p => decide (p.1 = x)) = (l.map (·.1)).any (fun y => decide (y = x)) := fun l => by rw [List.any_map]; rfl
    rw [this, this, h1]
  unfold PySem.stored setK
  rw [hany]
  split
  · exact RdKv.map_ rv h
  · exact RdKv.snoc rv h
theorem RdKv.popped {G : Gh} {x : Str} : ∀ {T : KV} {kv : List (Str × Value)}, RdKv prog w G kv (kvD T) → RdKv prog w G (without kv x) (kvD (popK T x))
  | [], _, .nil => .nil
  | (y, e) :: r, _, .cons a q => by
    have ih := RdKv.popped (x := x) (T := r) q
    unfold without popK kvD at *
    rw [List.filter_cons, List.filter_cons]
    by_cases hy : y = x
    · simp only [hy, ne_eq, not_true_eq_false, decide_false, Bool.false_eq_true, if_false]; simpa using ih
    · simp only [hy, ne_eq, not_false_eq_true, decide_true, if_true, List.map_cons]; exact .cons a (by simpa using ih)
theorem GetR.dict {T : KV} {x : Str} {d : PyData} (h : getK T x = some d) : GetR D k (.dict (kvD T)) (.str x) d := by
  intro A hA G s a b Q E g0 hi ra rb hQ
  cases rb
  cases ra with
  | @dict a o kv _ e1 c1 z1 r1 =>
    obtain ⟨v, hv, rv⟩ := r1.value h
    have hd : s.heap.DictOf (strKind prog w) a kv := Heap.dictOf_iff.mpr ⟨o, hi _ _ e1, c1⟩
    refine ⟨"dict", _, PySem.F.slot_dict_getitem.lookup, hd.typeIs, ?_⟩
    exact wpAny_getItem_of (strKind_is prog w x _) hd.mapOf hv (hQ _ _ _ (Step.tok hi _) rv)
theorem kvD_len (T : KV) : (kvD T).length = T.length := List.length_map ..
theorem Ex1.setK {x key : Str} {a : Addr} {T : KV} {p pos' pos : Pos} {i e : Expr} {d : PyData} (ok : EnvOk env) (h : EvS D k env V (.dict x a (kvD T)) e d) (hi : EvS D k env V (.dict x a (kvD T)) i (.str key)) (hz : T.length ≤ sizeLine)
    (hR : R .next V (.dict x a (kvD (setK T key d))))
    (hs : swapsWith e (some ((Expr.Name x p).Subscript i pos')) pos.line env = pure false := by exact rfl) : Ex1 D k env V (.dict x a (kvD T)) (.Assign [.Subscript (.Name x p) i pos'] e pos) R :=
  Ex1.setItem ok h hi (by rw [kvD_len]; exact hz) (kvD (Mine.setK T key d)) (fun G kv v r rv => r.stored rv) hR hs
theorem Ex1.popK {x key : Str} {a : Addr} {T : KV} {p apos cpos pos : Pos} {e : Expr} {d : PyData} (ok : EnvOk env) (h : EvS D k env V (.dict x a (kvD T)) e (.str key)) (hz : T.length ≤ sizeLine)
    (hin : getK T key = some d) (hR : R .next V (.dict x a (kvD (popK T key))))
    (h1 : attributeBase (.Name x p) "pop" env (eval (.Name x p) env) = eval (.Name x p) env := by exact rfl) (h3 : (apos.endLine == cpos.line) = true := by exact rfl) (h4 : backTo cpos (starEach [e] env) = [(false, eval e env)] := by exact rfl)
    (hi : interactive env = false := by exact rfl) : Ex1 D k env V (.dict x a (kvD T)) (.Expr (.Call (.Attribute (.Name x p) "pop" apos) [e] [] cpos) pos) R :=
  Ex1.popKey ok h (by rw [kvD_len]; exact hz) (fun G kv r => by obtain ⟨v, hv, _⟩ := r.value hin; rw [hv]; rfl) (fun G kv r => r.popped) hR h1 h3 h4 hi

/-! a def that turns the dict it is given -/
structure DStep (G : Gh) (s : Shared) (a : Addr) (G' : Gh) (s' : Shared) : Prop where
  shp : ∃ h tk, s' = { s with heap := h, toks := tk }
  le : Le G G'
  inn : Sub G' s'.heap
  kp : ∀ b o, b ≠ a → s.heap.get? b = some o → s'.heap.get? b = some o
  new : ∀ b o, G' b = some o → G b = some o ∨ s.heap.get? b = none
variable (D)
def TurnTo (k : Nat) (f : Value) (T : KV) (ds : List PyData) (T' : KV) : Prop :=
  ∀ A, Room k A → ∀ G s a vs Q E, In0 D G → Sub G s.heap → G a = none → Held prog w G s.heap (.dict Str.empty a (kvD T)) → RdAll prog w G vs ds →
    (∀ G' s', DStep G s a G' s' → Held prog w G' s'.heap (.dict Str.empty a (kvD T')) → Q .none s') → wpAny (model prog w) A (call f (.ref a :: vs)) Q E s
variable {D}
theorem FnAt.turn {name : Str} {params : Arguments} {body : List Stmt} {scope : Scope} {a : Addr} {pm cd doc : Value} {n0 : Str} {names : List Str} {ds : List PyData} {T T' : KV} (F : FnAt D name params body scope a pm cd doc) (H : HeadOk name params body scope (n0 :: names))
    (hlen : names.length = ds.length) (hb : ∀ L b, Ex D k (fenv name params body scope a L pm cd doc) (names.zip ds) (.dict n0 b (kvD T)) body fun fl _ ow => fl.val = .none ∧ ow = .dict n0 b (kvD T')) : TurnTo D (k + 1) (.ref a) T ds T' := by
  intro A hA G s b vs Q E g0 hi gb held rs hQ
  obtain ⟨o, ho, hd⟩ := F.obj
  have base : Kp D.H s.heap := fun b o q => hi _ _ (g0 b o q)
  have hl : names.length = vs.length := hlen.trans rs.length.symm
  have hl' : (n0 :: names).length = (Value.ref b :: vs).length := by simp [hl]
  have held' : Held prog w G s.heap (.dict n0 b (kvD T)) := held
  obtain ⟨ob, eb⟩ := held'.there rfl
  refine wpAny_call (codeAny_call_cells (binds := (n0 :: names).zip (.ref b :: vs)) hA.depth (base _ _ ho) hd (D.nl.keeps base) (F.code.keeps base) rfl (H.bind pm cd doc _ hl'.symm) rfl (fun x hb' => ?_) (fun s₁ x => ?_) H.co H.gen H.fn)
  · have hm : x.1 ∈ n0 :: names := by
      have : x.1 ∈ ((n0 :: names).zip (Value.ref b :: vs)).map (·.1) := List.mem_map_of_mem hb'
      rwa [zip_fst hl'] at this
    exact (H.kinds x.1 hm).2.imp id fun ⟨q1, q2⟩ => ⟨q1, cells_shift _ q2⟩
  · have c := entry (D := D) (V := names.zip ds) (ow := .dict n0 b (kvD T)) x g0 hi (by rw [zip_fst hl']; exact H.nd) (fun y hb' => H.name (by
        have : y.1 ∈ ((n0 :: names).zip (Value.ref b :: vs)).map (·.1) := List.mem_map_of_mem hb'
        rwa [zip_fst hl'] at this) _ _ _ _ _) H.cells (fun y d e => by
          obtain ⟨v, m, z⟩ := zip_lookup rs y d e
          exact ⟨v, by rw [List.zip_cons_cons]; exact List.mem_cons_of_mem _ m, z⟩) (fun c e => by cases e; exact gb) (fun c y e1 e2 => by cases e1; cases e2; rw [List.zip_cons_cons]; exact List.mem_cons_self) held'
    obtain ⟨h1, tk1, e1, kp1⟩ := x.done
    refine wpAny_mono (hb _ b _ (hA.deeper _) G s₁ (fun f s' => ∃ G', (match f with | .ret v => v | _ => .none) = Value.none ∧ DStep G s b G' s' ∧ Held prog w G' s'.heap (.dict Str.empty b (kvD T'))) (fun _ _ => False) c fun G' s' f fl V' ow' t c' fr hR => ⟨G', ?_, ⟨?_, t.le, c'.es.inn, fun y o' ne e => t.kp y o' (fun f => ?_) (x.toInCall.keep _ _ e), fun y o' e => ?_⟩, ?_⟩) (fun f s' q => ?_) fun _ _ z => z.elim
    · obtain ⟨hR, _⟩ := hR
      cases fr with
      | next => rfl
      | brk => rfl
      | cont => rfl
      | @ret v d r => have e : d = PyData.none := hR; subst e; cases r; rfl
    · obtain ⟨h2, tk2, e2⟩ := t.shp
      exact ⟨h2, tk2, by rw [e2, e1]⟩
    · have hlt := Heap.lt_size e
      rcases f with z | ⟨q, z⟩ | z
      · rw [z] at hlt; exact Nat.lt_irrefl _ hlt
      · exact Nat.lt_irrefl _ (Nat.lt_trans hlt (x.above q y (mem_of_lookup z)))
      · exact ne (Option.some.inj z).symm
    · rcases t.new y o' e with z | z | z
      · exact .inl z
      · refine .inr ?_
        cases q : s.heap.get? y with
        | none => rfl
        | some o2 => rw [x.toInCall.keep _ _ q] at z; cases z
      · obtain ⟨_, rfl⟩ := hR
        have := (c'.own.off b rfl).1
        rw [← Option.some.inj z, this] at e; cases e
    · obtain ⟨_, rfl⟩ := hR
      exact c'.own.held
    · obtain ⟨G', e, t, hd'⟩ := q
      have := hQ G' s' t hd'
      rw [← e] at this
      exact this
/-- f(x, e, ..) as a statement of its own: it turns x -/
theorem Ex1.callTurn {x f : Str} {a : Addr} {T T' : KV} {np xp cpos pos : Pos} {rest : List Expr} {fa : Addr} {o : Obj} {fd : FuncData} {ds : List PyData} (ok : EnvOk env) (hf : EvV D k env V (.Name f np) (.ref fa)) (ho : D.H.get? fa = some o) (hd : o.data = .func fd)
    (ha : EvL D k env V rest ds) (hc : TurnTo D k (.ref fa) T ds T') (hR : R .next V (.dict x a (kvD T')))
    (he : starEach (.Name x xp :: rest) env = (false, eval (.Name x xp) env) :: starEach rest env := by exact rfl)
    (hi : interactive env = false := by exact rfl) : Ex1 D k env V (.dict x a (kvD T)) (.Expr (.Call (.Name f np) (.Name x xp :: rest) [] cpos) pos) R := by
  intro A hA G s Q E c hQ
  refine wpAny_Expr_any ?_ hi (by rfl)
  refine wpAny_Call_ofName (hf A hA G s _ E c.es fun G1 s1 t1 => ?_)
  have c1 := c.step t1
  refine callWith_def (o := o) (fd := fd) hd ?_ he
  rw [he]
  refine Calls.spliced_cons (load ok (c1.own.at_ a x rfl rfl) (ha A _ hA G1 s1 _ E c1.es fun G2 s2 vs t2 rs => ?_))
  have c2 := c1.step t2
  refine ⟨c2.es.base _ _ ho, ?_⟩
  have gnone := (c2.own.off a rfl).1
  have held : Held prog w G2 s2.heap (.dict Str.empty a (kvD T)) := c2.own.held
  refine hc A hA G2 s2 a vs _ E c2.es.g0 c2.es.inn gnone held rs fun G3 s3 t3 held3 => ?_
  have held3' : Held prog w G3 s3.heap (.dict x a (kvD T')) := held3
  obtain ⟨o3, e3⟩ := held3'.there rfl
  obtain ⟨_, nL, nC⟩ := c2.own.off a rfl
  have va : ∀ y v, VarAt env s2.heap y v → VarAt env s3.heap y v := fun y v q => by
    refine ⟨q.1, q.2.imp ?_ ?_⟩
    · rintro ⟨q1, m, ⟨oo, es, ep, e, r⟩, z⟩
      exact ⟨q1, m, ⟨oo, es, ep, t3.kp _ _ (Ne.symm nL) e, r⟩, z⟩
    · rintro ⟨q1, b, e, ⟨oo, eo, ed⟩⟩
      exact ⟨q1, b, e, ⟨oo, t3.kp _ _ (nC y b e) eo, ed⟩⟩
  have keepG : ∀ {b : Addr}, G2 b = none → (∃ oo, s2.heap.get? b = some oo) → G3 b = none := fun {b} h ⟨oo, eo⟩ => by
    cases z : G3 b with
    | none => rfl
    | some o' =>
      rcases t3.new b o' z with q | q
      · rw [h] at q; cases q
      · rw [eo] at q; cases q
  have S3 : SStep env (.dict x a (kvD T)) G2 s2 (.dict x a (kvD T')) G3 s3 := ⟨t3.shp, t3.le, fun b oo nf e => t3.kp b oo (fun z => nf (.inr (.inr (by rw [z]; rfl)))) e, fun b oo e => by
      by_cases hb : b = a
      · exact ⟨o3, hb ▸ e3⟩
      · exact ⟨oo, t3.kp b oo hb e⟩, fun b oo e => (t3.new b oo e).imp id .inl, fun b e => .inl e⟩
  refine hQ _ _ _ _ _ _ ((t1.ss.trans t2.ss).trans S3) ⟨⟨fun b oo e => t3.le _ _ (c2.es.g0 b oo e), t3.inn, fun y d e => ?_⟩, keepG c2.offL ?_, ?_, fun y b e => ?_, c2.inj, ?_, fun b y e1 e2 => ?_, held3'⟩ .next hR
  · obtain ⟨v, q1, q2⟩ := c2.es.sees y d e
    exact ⟨v, va y v q1, q2.mono t3.le⟩
  · obtain ⟨m, hm⟩ := c2.loc
    exact Ns.there hm
  · obtain ⟨m, oo, es, ep, e, r⟩ := c2.loc
    exact ⟨m, oo, es, ep, t3.kp _ _ (Ne.symm nL) e, r⟩
  · obtain ⟨q1, q2, ov, oo, eo, ed⟩ := c2.cel y b e
    exact ⟨keepG q1 ⟨oo, eo⟩, q2, ov, oo, t3.kp _ _ (nC y b e) eo, ed⟩
  · intro b e
    cases e
    obtain ⟨ob, eob⟩ := c2.own.held.there rfl
    exact ⟨keepG gnone ⟨ob, eob⟩, nL, nC⟩
  · cases e1; cases e2
    exact va _ _ (c2.own.at_ a x rfl rfl)
end
end Mine
end
section
set_option maxRecDepth 100000
namespace Mine
theorem slt_irrefl (x : Str) : slt x x = false := decide_eq_false (List.lt_irrefl _)
theorem slt_trans {x y z : Str} (h1 : slt x y = true) (h2 : slt y z = true) : slt x z = true := decide_eq_true (List.lt_trans (of_decide_eq_true h1) (of_decide_eq_true h2))
theorem slt_total {x y : Str} (h : x ≠ y) : slt x y = true ∨ slt y x = true := by
  by_cases h1 : x.cps.toList < y.cps.toList
  · exact .inl (decide_eq_true h1)
  · by_cases h2 : y.cps.toList < x.cps.toList
    · exact .inr (decide_eq_true h2)
    · refine absurd ?_ h
      have := List.le_antisymm (List.not_lt.mp h2) (List.not_lt.mp h1)
      cases x; cases y
      simp only [Str.mk.injEq]
      exact Array.toList_inj.mp this
/-- lists of strs, one below another -/
def llt : List Str → List Str → Bool
  | [], [] => false
  | [], _ :: _ => true
  | _ :: _, [] => false
  | x :: xs, y :: ys => if x = y then llt xs ys else slt x y
theorem lexR_llt : ∀ (a b : List Str) (n m : Nat), n = m → lexR slt (decide (n + a.length < m + b.length)) a b = llt a b
  | [], [], n, m, e => by simp [lexR, llt, e]
  | [], y :: ys, n, m, e => by simp [lexR, llt, e]
  | x :: xs, [], n, m, e => by simp [lexR, llt, e]
  | x :: xs, y :: ys, n, m, e => by
    have := lexR_llt xs ys (n + 1) (m + 1) (by rw [e])
    have hd : decide (n + (x :: xs).length < m + (y :: ys).length) = decide (n + 1 + xs.length < m + 1 + ys.length) := decide_eq_decide.mpr (by simp only [List.length_cons]; omega)
    rw [hd, lexR, llt, this]
theorem lltS_eq (a b : List Str) : lltS a b = llt a b := by have := lexR_llt a b 0 0 rfl; simpa [lltS] using this
theorem lexR_gt : ∀ (a b : List Str) (n m : Nat), n = m → lexR (fun x y => slt y x) (decide (m + b.length < n + a.length)) a b = llt b a
  | [], [], n, m, e => by simp [lexR, llt, e]
  | [], y :: ys, n, m, e => by simp [lexR, llt, e]
  | x :: xs, [], n, m, e => by simp [lexR, llt, e]
  | x :: xs, y :: ys, n, m, e => by
    have := lexR_gt xs ys (n + 1) (m + 1) (by rw [e])
    have hd : decide (m + (y :: ys).length < n + (x :: xs).length) = decide (m + 1 + ys.length < n + 1 + xs.length) := decide_eq_decide.mpr (by simp only [List.length_cons]; omega)
    rw [hd, lexR, llt, this]
    by_cases h : x = y
    · rw [if_pos h, if_pos h.symm]
    · rw [if_neg h, if_neg (fun e => h e.symm)]
theorem lgtS_eq (a b : List Str) : lgtS a b = llt b a := by have := lexR_gt a b 0 0 rfl; simpa [lgtS] using this
theorem llt_irrefl : ∀ a : List Str, llt a a = false
  | [] => rfl
  | x :: xs => by rw [llt, if_pos rfl, llt_irrefl xs]
theorem llt_trans : ∀ {a b c : List Str}, llt a b = true → llt b c = true → llt a c = true
  | [], [], _, h, _ => by cases h
  | [], _ :: _, [], _, h => by cases h
  | [], _ :: _, _ :: _, _, _ => rfl
  | _ :: _, [], _, h, _ => by cases h
  | _ :: _, _ :: _, [], _, h => by cases h
  | x :: xs, y :: ys, z :: zs, h1, h2 => by
    rw [llt] at h1 h2 ⊢
    by_cases e1 : x = y
    · by_cases e2 : y = z
      · rw [if_pos e1] at h1; rw [if_pos e2] at h2; rw [if_pos (e1.trans e2)]; exact llt_trans h1 h2
      · rw [if_neg e2] at h2; rw [if_neg (fun e => e2 (e1 ▸ e)), e1]; exact h2
    · rw [if_neg e1] at h1
      by_cases e2 : y = z
      · rw [if_neg (fun e => e1 (e.trans e2.symm)), ← e2]; exact h1
      · rw [if_neg e2] at h2
        have h3 := slt_trans h1 h2
        by_cases e3 : x = z
        · rw [e3, slt_irrefl] at h3; cases h3
        · rw [if_neg e3]; exact h3
theorem llt_total : ∀ {a b : List Str}, a ≠ b → llt a b = true ∨ llt b a = true
  | [], [], h => absurd rfl h
  | [], _ :: _, _ => .inl rfl
  | _ :: _, [], _ => .inr rfl
  | x :: xs, y :: ys, h => by
    rw [llt, llt]
    by_cases e : x = y
    · rw [if_pos e, if_pos e.symm]; exact llt_total fun z => h (by rw [e, z])
    · rw [if_neg e, if_neg (fun z => e z.symm)]; exact slt_total e
theorem llt_asymm {a b : List Str} (h : llt a b = true) : llt b a = false := by
  cases z : llt b a with
  | false => rfl
  | true => have := llt_trans h z; rw [llt_irrefl] at this; cases this
/-- a ≤ b -/
def lle (a b : List Str) : Prop := llt b a = false
theorem lle_refl (a : List Str) : lle a a := llt_irrefl a
theorem lle_iff {a b : List Str} : lle a b ↔ a = b ∨ llt a b = true := by
  constructor
  · intro h
    by_cases e : a = b
    · exact .inl e
    · rcases llt_total e with q | q
      · exact .inr q
      · rw [h] at q; cases q
  · rintro (rfl | h)
    · exact lle_refl a
    · exact llt_asymm h
theorem lle_trans {a b c : List Str} (h1 : lle a b) (h2 : lle b c) : lle a c := by
  rcases lle_iff.mp h1 with rfl | h1
  · exact h2
  · rcases lle_iff.mp h2 with rfl | h2
    · exact lle_iff.mpr (.inr h1)
    · exact lle_iff.mpr (.inr (llt_trans h1 h2))
theorem best_min : ∀ {b : List Str} {l : List (List Str)}, lle (bestOf lltS b l) b ∧ ∀ x ∈ l, lle (bestOf lltS b l) x
  | b, [] => ⟨lle_refl b, fun _ h => nomatch h⟩
  | b, x :: r => by
    rw [bestOf, lltS_eq]
    cases h : llt x b with
    | true =>
      simp only [if_true]
      obtain ⟨h1, h2⟩ := best_min (b := x) (l := r)
      exact ⟨lle_trans h1 (lle_iff.mpr (.inr h)), fun y hy => (List.mem_cons.mp hy).elim (fun e => e ▸ h1) (h2 y)⟩
    | false =>
      simp only [Bool.false_eq_true, if_false]
      obtain ⟨h1, h2⟩ := best_min (b := b) (l := r)
      exact ⟨h1, fun y hy => (List.mem_cons.mp hy).elim (fun e => e ▸ lle_trans h1 h) (h2 y)⟩
theorem best_max : ∀ {b : List Str} {l : List (List Str)}, lle b (bestOf lgtS b l) ∧ ∀ x ∈ l, lle x (bestOf lgtS b l)
  | b, [] => ⟨lle_refl b, fun _ h => nomatch h⟩
  | b, x :: r => by
    rw [bestOf, lgtS_eq]
    cases h : llt b x with
    | true =>
      simp only [if_true]
      obtain ⟨h1, h2⟩ := best_max (b := x) (l := r)
      exact ⟨lle_trans (lle_iff.mpr (.inr h)) h1, fun y hy => (List.mem_cons.mp hy).elim (fun e => e ▸ h1) (h2 y)⟩
    | false =>
      simp only [Bool.false_eq_true, if_false]
      obtain ⟨h1, h2⟩ := best_max (b := b) (l := r)
      exact ⟨h1, fun y hy => (List.mem_cons.mp hy).elim (fun e => e ▸ lle_trans h h1) (h2 y)⟩
theorem lle_ok : ∀ {a b : List Str}, lle a b → MinMaxOk a b
  | [], b, _ => fun i h => by simp at h
  | x :: xs, [], h => by cases h
  | x :: xs, y :: ys, h => fun i hi ht => by
    cases i with
    | zero => simp
    | succ i =>
      rw [List.take_succ_cons, List.take_succ_cons] at ht
      injection ht with e ht
      have h' : llt (y :: ys) (x :: xs) = false := h
      rw [llt, if_pos e.symm] at h'
      have := lle_ok (a := xs) (b := ys) h' i (by simpa using hi) ht
      simpa using this
theorem minMaxOk (p : Str) (ps : List Str) : MinMaxOk (firstP p ps) (lastP p ps) := lle_ok (lle_trans best_min.1 best_max.1)
/-- all begin with what the least and the greatest have in common -/
theorem lcp_between : ∀ {a b x : List Str}, lle a x → lle x b → lcpS a b = x.take (lcpS a b).length
  | [], b, x, _, _ => by cases b <;> simp [lcpS]
  | _ :: _, [], x, _, _ => by simp [lcpS]
  | y :: ys, z :: zs, x, h1, h2 => by
    rw [lcpS]
    by_cases e : y = z
    · rw [if_pos e]
      cases x with
      | nil => cases h1
      | cons u us =>
        have h1' : llt (u :: us) (y :: ys) = false := h1
        have h2' : llt (z :: zs) (u :: us) = false := h2
        rw [llt] at h1' h2'
        have hu : u = y := by
          refine Classical.byContradiction fun q => ?_
          rw [if_neg q] at h1'
          rw [if_neg (fun z' => q (z'.symm.trans e.symm))] at h2'
          rcases slt_total q with r | r
          · rw [h1'] at r; cases r
          · rw [← e, r] at h2'; cases h2'
        rw [if_pos hu] at h1'
        rw [if_pos (e.symm.trans hu.symm)] at h2'
        rw [List.length_cons, List.take_succ_cons, hu, ← lcp_between (a := ys) (b := zs) (x := us) h1' h2']
    · rw [if_neg e]; simp
end Mine
end
section
set_option maxRecDepth 100000
namespace Mine
abbrev TreeS := List (Str × Str)
def tv (T : TreeS) : KV := T.map fun p => (p.1, .str p.2)
def setS (T : TreeS) (x y : Str) : TreeS := if T.any (fun p => p.1 = x) then T.map (fun p => if p.1 = x then (p.1, y) else p) else T ++ [(x, y)]
def popS (T : TreeS) (x : Str) : TreeS := T.filter fun p => decide (p.1 ≠ x)
def getS (T : TreeS) (x : Str) : Option Str := (T.find? fun p => p.1 = x).map (·.2)
def keysS (T : TreeS) : List Str := T.map (·.1)
theorem tv_set (T : TreeS) (x y : Str) : setK (tv T) x (.str y) = tv (setS T x y) := by
  have hany : (tv T).any (fun p => decide (p.1 = x)) = T.any (fun p => decide (p.1 = x)) := by unfold tv; rw [List.any_map]; rfl
  unfold setK setS
  rw [hany]
  split
  · unfold tv; rw [List.map_map, List.map_map]; congr 1; funext p; by_cases h : p.1 = x <;> simp [h]
  · unfold tv; rw [List.map_append]; rfl
theorem tv_pop (T : TreeS) (x : Str) : popK (tv T) x = tv (popS T x) := by
  unfold popK popS tv; rw [List.filter_map]; rfl
theorem tv_get (T : TreeS) (x : Str) : getK (tv T) x = (getS T x).map .str := by
  unfold getK getS tv
  rw [List.find?_map, Option.map_map, Option.map_map]; rfl
theorem tv_len (T : TreeS) : (tv T).length = T.length := List.length_map ..
theorem tv_keys (T : TreeS) : (kvD (tv T)).map (·.1) = (keysS T).map .str := by rw [kvD_keys]; congr 1; unfold tv keysS; rw [List.map_map]; rfl
theorem getS_mem {T : TreeS} {x : Str} (h : x ∈ keysS T) : ∃ y, getS T x = some y ∧ (x, y) ∈ T := by
  obtain ⟨p, hp, rfl⟩ := List.mem_map.mp h
  unfold getS
  cases e : T.find? (fun q => decide (q.1 = p.1)) with
  | none => have := List.find?_eq_none.mp e p hp; simp at this
  | some q =>
    have h1 := List.find?_some e
    have h2 := List.mem_of_find?_eq_some e
    have h1 : q.1 = p.1 := of_decide_eq_true h1
    exact ⟨q.2, rfl, by rw [← h1]; exact h2⟩
theorem getS_some {T : TreeS} {x y : Str} (h : getS T x = some y) : (x, y) ∈ T := by
  unfold getS at h
  cases e : T.find? (fun q => decide (q.1 = x)) with
  | none => rw [e] at h; cases h
  | some q =>
    rw [e] at h
    have h0 := List.find?_some (p := fun q : Str × Str => decide (q.1 = x)) e
    have h1 : q.1 = x := of_decide_eq_true h0
    have h2 : q.2 = y := by simpa using h
    rw [← h1, ← h2]; exact List.mem_of_find?_eq_some e
theorem setS_len (T : TreeS) (x y : Str) : (setS T x y).length ≤ T.length + 1 := by
  unfold setS; split <;> simp
theorem setS_mem {T : TreeS} {x y : Str} {p : Str × Str} (h : p ∈ setS T x y) : p ∈ T ∨ p = (x, y) := by
  unfold setS at h
  split at h
  · obtain ⟨q, hq, rfl⟩ := List.mem_map.mp h
    by_cases e : q.1 = x
    · right; simp [e]
    · left; simpa [e] using hq
  · exact (List.mem_append.mp h).imp id fun z => List.mem_singleton.mp z
def nearerS (T : TreeS) (node path : Str) : List Str := (keysS T).filter fun one => decide (one ≠ "/" ∧ getS T one = some node ∧ commonS one [path] ≠ node)
def growGo (path : Str) : Nat → TreeS → Str → Option TreeS
  | 0, _, _ => none
  | f + 1, T, node => if node = path then some T else
    match nearerS T node path with
    | [] => growGo path f (setS T path node) path
    | one :: _ => growGo path f (if commonS one [path] ≠ one then setS (setS T (commonS one [path]) node) one (commonS one [path]) else T) (commonS one [path])
structure Goods (okp : Str → Prop) : Prop where
  len : ∀ s, okp s → s.length ≤ 1000000
  abs : ∀ s, okp s → Txt.startswith s "/" = true
  com : ∀ a b, okp a → okp b → okp (commonS a [b])
section
variable {prog : Program} {w : World} {D : Md prog w} {k : Nat} {env : Env} {V : Vars} {ow : Own} {R : Fl → Vars → Own → Prop}
theorem Goods.common {okp : Str → Prop} (O : Goods okp) (T : Text D) {a b : Str} (ha : okp a) (hb : okp b) : CallTo D (k + 6) (.ref (T.at_ 19)) [.list [.str a, .str b]] (.str (commonS a [b])) :=
  commonpath T a [b] (fun q hq => by rcases List.mem_cons.mp hq with rfl | hq; exact O.len _ ha; rw [List.mem_singleton.mp hq]; exact O.len _ hb) (by simp)
    (fun q hq => by rw [O.abs a ha]; rcases List.mem_cons.mp hq with rfl | hq; exact O.abs _ ha; rw [List.mem_singleton.mp hq]; exact O.abs _ hb) (minMaxOk _ _)
theorem nameNeD {x y : Str} {a : Addr} {xs : List (PyData × PyData)} (h : x ≠ y) : (Own.dict x a xs).name ≠ some y := fun e => h (Option.some.inj e)
theorem hd23 : Hd 23 ["tree", "path"] where
  bind := by intro pm cd doc vals h; match vals, h with | [v1, v2], _ => rfl
  nd := by decide +kernel
  kinds := by decide +kernel
  cells := by decide +kernel
  fn := by rfl
  co := by rfl
  gen := by rfl
theorem nd_strs : ∀ xs : List Str, nd (.list (xs.map .str)) = true := by
  intro xs
  show ndAll _ = true
  induction xs with
  | nil => rfl
  | cons x r ih => exact ih
theorem eqv_nilS (xs : List Str) : PyData.eqv (.list (xs.map .str)) (.list []) = decide (xs = []) := by cases xs <;> rfl
set_option maxHeartbeats 4000000 in
theorem law_grow {okp : Str → Prop} (O : Goods okp) (T : Text D) (path : Str) (hpath : okp path) (hroot : okp "/") (oks : ∀ s, okp s → okS s = true) (T0 T1 : TreeS) (f0 : Nat) (h0 : growGo path f0 T0 "/" = some T1) (hT : ∀ e ∈ T0, okp e.1 ∧ okp e.2) (hz : T0.length + 2 * f0 ≤ 1000000) :
    TurnTo D (k + 7) (.ref (T.at_ 23)) (tv T0) [.str path] (tv T1) := by
  refine (T.fn 23 (by decide)).turn hd23 rfl fun L b => ?_
  have ok : EnvOk (fe 23 (T.at_ 23) L (T.pm 23) (T.cd 23) (T.doc 23)) := fenv_ok hd23.fn
  refine Ex.cons (Ex1.assign ok (by exact ⟨rfl, .inr ⟨rfl, _, rfl⟩⟩) (EvS.of Ev.cstr) ?_ (nameNeD (by decide)))
  refine Ex.cons (Ex1.whileL (fun f V ow => ∃ (T : TreeS) (node : Str), ow = .dict "tree" b (kvD (tv T)) ∧ Knows V [("node", .str node), ("path", .str path)] ∧ growGo path f T node = some T1 ∧ (∀ e ∈ T, okp e.1 ∧ okp e.2) ∧ okp node ∧ T.length + 2 * f ≤ 1000000) ?_ f0
    ⟨T0, "/", rfl, .cons rfl (.cons rfl .nil), h0, hT, hroot, hz⟩)
  rintro f V ow ⟨T2, node, rfl, hk, hg, hT2, hnode, hz2⟩
  have hl2 := kvD_len (tv T2)
  rw [tv_len] at hl2
  have hkn : V.lookup ("node" : Str) = some (PyData.str node) := hk "node" _ rfl
  have hkp : V.lookup ("path" : Str) = some (PyData.str path) := hk "path" _ rfl
  refine ⟨!decide (node = path), TrS.of (Tr.cmp (Ev.name ok hkn) (Ev.name ok hkp) CmpR.neStr), fun hc => ?_, fun hc => ?_⟩
  · have hc : node = path := by simpa using hc
    refine Ex.nil ⟨rfl, ?_⟩
    cases f with
    | zero => cases hg
    | succ f => rw [growGo, if_pos hc] at hg; rw [Option.some.inj hg]
  · have hc : ¬ node = path := by simpa using hc
    cases f with
    | zero => cases hg
    | succ f =>
    rw [growGo, if_neg hc] at hg
    refine Ex.weak (V' := [("node", .str node), ("path", .str path)]) ?_ hk
    refine Ex.cons (Ex1.assignCompD ok (by exact ⟨rfl, .inl rfl⟩) (CompU.to (CompU.mk (xs := keysS T2) (enc := .str) (p := fun one => decide (one ≠ "/" ∧ getS T2 one = some node ∧ commonS one [path] ≠ node)) (f := .str) (V' := [("tree", .dict (kvD (tv T2))), ("node", .str node), ("path", .str path)])
      ⟨rfl, by decide +kernel, rfl, by decide +kernel, rfl, by decide, Got.cons rfl rfl rfl rfl (Got.cons rfl rfl rfl rfl (Got.cons rfl rfl rfl rfl .nil))⟩ (Ev.name ok rfl) (by rw [← tv_keys]; exact Itr.keys) (small (by unfold keysS; rw [List.length_map]; omega)) (fun C one ho => ?_) (fun C one ho _ => ?_)) (d' := .list ((nearerS T2 node path).map .str)) rfl) (nd_strs _) ?_)
    · obtain ⟨m, hm, hmem⟩ := getS_mem ho
      obtain ⟨ho1, ho2⟩ := hT2 _ hmem
      refine Tests.one (Tr.to (Tr.and (TrAnd.cons (Tr.cmp (Ev.name (compOk ok rfl) rfl) Ev.cstr CmpR.neStr) fun h1 => TrAnd.cons (b := decide (m = node)) (Tr.cmp (Ev.sub (Ev.name (compOk ok rfl) rfl) (Ev.name (compOk ok rfl) rfl) (GetR.dict (d := .str m) (by rw [tv_get, hm]; rfl))) (Ev.name (compOk ok rfl) rfl) CmpR.eqStr) fun h2 =>
        TrAnd.cons (Tr.cmp (Ev.callT T 19 (compOk ok rfl) (EvL.cons (Ev.list (EvL.cons (Ev.name (compOk ok rfl) rfl) (EvL.cons (Ev.name (compOk ok rfl) rfl) EvL.nil)) (small (by simp))) EvL.nil) (O.common T ho1 hpath)) (Ev.name (compOk ok rfl) rfl) CmpR.neStr) fun _ => TrAnd.nil)) ?_)
      rw [hm]
      simp [Bool.decide_and]
    · exact Ev.name (compOk ok rfl) rfl
    have hnear : ∀ x ∈ nearerS T2 node path, okp x := fun x hx => by
      obtain ⟨m, _, hmem⟩ := getS_mem (List.mem_filter.mp hx).1
      exact (hT2 _ hmem).1
    refine Ex.cons (Ex1.ite (TrS.of (Tr.cmp (Ev.name (d := .list ((nearerS T2 node path).map .str)) ok rfl) (Ev.list EvL.nil (Nat.zero_le _)) ((CmpR.eq (by exact lay_strs fun x hx => oks _ (hnear x hx)) rfl (depth_strs _)).to (eqv_nilS _)))) (fun he => ?_) (fun he => ?_))
    · have he := of_decide_eq_true he
      rw [he] at hg
      have hg : growGo path f (setS T2 path node) path = some T1 := hg
      refine Ex.cons (Ex1.setK (d := .str node) ok (EvS.of (Ev.name ok rfl)) (EvS.of (Ev.name ok rfl)) (small (by rw [tv_len]; omega)) ?_)
      rw [tv_set]
      refine Ex.cons (Ex1.assign ok (by exact ⟨rfl, .inr ⟨rfl, _, rfl⟩⟩) (EvS.of (Ev.name ok rfl)) ?_ (nameNeD (by decide)))
      have hsl := setS_len T2 path node
      exact Ex.nil (Ex.nil ⟨f, Nat.lt_succ_self _, setS T2 path node, path, rfl, .cons rfl (.cons rfl .nil), hg, fun e h => (setS_mem h).elim (hT2 e) fun z => by rw [z]; exact ⟨hpath, hnode⟩, hpath, by omega⟩)
    · have he := of_decide_eq_false he
      obtain ⟨one, rest, hl⟩ : ∃ one rest, nearerS T2 node path = one :: rest := by
        cases e : nearerS T2 node path with
        | nil => exact absurd e he
        | cons a r => exact ⟨a, r, rfl⟩
      have hone : okp one := hnear one (by rw [hl]; exact List.mem_cons_self)
      have hfork : okp (commonS one [path]) := O.com _ _ hone hpath
      rw [hl] at hg ⊢
      have hg : growGo path f (if commonS one [path] ≠ one then setS (setS T2 (commonS one [path]) node) one (commonS one [path]) else T2) (commonS one [path]) = some T1 := hg
      have hget0 : ((one :: rest).map PyData.str)[(0 : Int).toNat]? = some (.str one) := rfl
      refine Ex.cons (Ex1.assign ok (by exact ⟨rfl, .inl rfl⟩) (EvS.of (Ev.callT T 19 ok (EvL.cons (Ev.list (EvL.cons (Ev.sub (Ev.name (d := .list ((one :: rest).map .str)) ok rfl) Ev.cint (GetR.list (by decide) (by decide) hget0)) (EvL.cons (Ev.name ok rfl) EvL.nil)) (small (by simp))) EvL.nil) (O.common T hone hpath))) ?_ (nameNeD (by decide)))
      have hsl := setS_len T2 (commonS one [path]) node
      have hsl2 := setS_len (setS T2 (commonS one [path]) node) one (commonS one [path])
      refine Ex.cons (Ex1.ite (TrS.of (Tr.cmp (Ev.name ok rfl) (Ev.sub (Ev.name (d := .list ((one :: rest).map .str)) ok rfl) Ev.cint (GetR.list (by decide) (by decide) hget0)) CmpR.neStr)) (fun hf => ?_) (fun hf => ?_))
      · have hf : ¬ commonS one [path] = one := by simpa using hf
        rw [if_pos hf] at hg
        refine Ex.cons (Ex1.setK (d := .str node) ok (EvS.of (Ev.name ok rfl)) (EvS.of (Ev.name ok rfl)) (small (by rw [tv_len]; omega)) ?_)
        rw [tv_set]
        refine Ex.cons (Ex1.setK (d := .str (commonS one [path])) ok (EvS.of (Ev.name ok rfl)) (EvS.of (Ev.sub (Ev.name (d := .list ((one :: rest).map .str)) ok rfl) Ev.cint (GetR.list (by decide) (by decide) hget0))) (small (by rw [tv_len]; omega)) ?_)
        rw [tv_set]
        refine Ex.nil (Ex.cons (Ex1.assign ok (by exact ⟨rfl, .inr ⟨rfl, _, rfl⟩⟩) (EvS.of (Ev.name ok rfl)) ?_ (nameNeD (by decide))))
        exact Ex.nil (Ex.nil ⟨f, Nat.lt_succ_self _, _, commonS one [path], rfl, .cons rfl (.cons rfl .nil), hg, fun e h => (setS_mem h).elim (fun h => (setS_mem h).elim (hT2 e) fun z => by rw [z]; exact ⟨hfork, hnode⟩) fun z => by rw [z]; exact ⟨hone, hfork⟩, hfork, by omega⟩)
      · have hf : commonS one [path] = one := by simpa using hf
        rw [if_neg (not_not_intro hf)] at hg
        refine Ex.nil (Ex.cons (Ex1.assign ok (by exact ⟨rfl, .inr ⟨rfl, _, rfl⟩⟩) (EvS.of (Ev.name ok rfl)) ?_ (nameNeD (by decide))))
        exact Ex.nil (Ex.nil ⟨f, Nat.lt_succ_self _, T2, commonS one [path], rfl, .cons rfl (.cons rfl .nil), hg, hT2, hfork, by omega⟩)
end
end Mine
end
section
set_option maxRecDepth 100000
namespace Mine
def belowS (T : TreeS) (node : Str) : List Str := (keysS T).filter fun one => decide (one ≠ "/" ∧ getS T one = some node)
def liftS (g : Str) (T : TreeS) (l : List Str) : TreeS := l.foldl (fun T one => setS T one g) T
abbrev pruneC (keys : List Str) (T : TreeS) (node : Str) : Prop := node ≠ "/" ∧ node ∉ keys ∧ (belowS T node).length < 2
def prune1 (keys : List Str) (T : TreeS) (node : Str) : TreeS := if pruneC keys T node then popS (liftS ((getS T node).getD "") T (belowS T node)) node else T
def pruneS (keys : List Str) (T : TreeS) (nodes : List Str) : TreeS := nodes.foldl (prune1 keys) T
theorem getS_set (T : TreeS) (x y z : Str) : getS (setS T x y) z = if z = x then some y else getS T z := by
  unfold setS
  by_cases ha : T.any (fun p => decide (p.1 = x)) = true
  · rw [if_pos ha]
    unfold getS
    induction T with
    | nil => cases ha
    | cons p r ih =>
      rw [List.map_cons, List.find?_cons, List.find?_cons]
      by_cases hp : p.1 = x
      · simp only [hp, if_true]
        by_cases hz : z = x
        · subst hz; simp
        · rw [if_neg hz]
          have h1 : decide (x = z) = false := decide_eq_false fun e => hz e.symm
          simp only [h1]
          by_cases hr : r.any (fun p => decide (p.1 = x)) = true
          · have := ih hr; rw [if_neg hz] at this; exact this
          · have e : r.map (fun p => if p.1 = x then (p.1, y) else p) = r := by
              conv => rhs; rw [← List.map_id r]
              refine List.map_congr_left fun q hq => ?_
              have : ¬ q.1 = x := fun e => hr (List.any_eq_true.mpr ⟨q, hq, decide_eq_true e⟩)
              simp [this]
            rw [e]
      · have ha' : r.any (fun p => decide (p.1 = x)) = true := by simpa [hp] using ha
        simp only [hp, if_false]
        by_cases hz : p.1 = z
        · have : z ≠ x := fun e => hp (hz.trans e)
          simp only [hz, decide_true, if_neg this]
        · simp only [hz, decide_false]; exact ih ha'
  · rw [if_neg ha]
    unfold getS
    rw [List.find?_append]
    by_cases hz : z = x
    · rw [if_pos hz]
      have : T.find? (fun p => decide (p.1 = z)) = none := by
        refine List.find?_eq_none.mpr fun q hq h => ha (List.any_eq_true.mpr ⟨q, hq, ?_⟩)
        rw [← hz]; exact h
      rw [this]; simp [hz]
    · rw [if_neg hz]
      have : ([(x, y)] : TreeS).find? (fun p => decide (p.1 = z)) = none := by simp; exact fun e => hz e.symm
      rw [this]; simp
theorem mem_any_str (keys : List Str) (node : Str) : (!(keys.map PyData.str).any fun y => PyData.eqv y (.str node)) = decide (node ∉ keys) := by
  rw [decide_not]; congr 1
  induction keys with
  | nil => rfl
  | cons x r ih =>
    rw [List.map_cons, List.any_cons, ih]
    have e : PyData.eqv (.str x) (.str node) = decide (node = x) := by
      show (x == node) = _
      by_cases h : x = node
      · subst h; simp
      · rw [beq_eq_false_iff_ne.mpr h, decide_eq_false (fun e => h e.symm)]
    rw [e, ← Bool.decide_or]
    exact decide_eq_decide.mpr List.mem_cons.symm
section
variable {prog : Program} {w : World} {D : Md prog w} {k : Nat} {env : Env} {V : Vars} {ow : Own} {R : Fl → Vars → Own → Prop}
theorem hd24 : Hd 24 ["tree", "keys", "path"] where
  bind := by intro pm cd doc vals h; match vals, h with | [v1, v2, v3], _ => rfl
  nd := by decide +kernel
  kinds := by decide +kernel
  cells := by decide +kernel
  fn := by rfl
  co := by rfl
  gen := by rfl
set_option maxHeartbeats 4000000 in
theorem law_prune (T : Text D) (keys : List Str) (path par : Str) (hkeys : ∀ s ∈ keys, okS s = true) (T0 : TreeS) (hpar : getS T0 path = some par) (hpath : okS path = true) (hparok : okS par = true) (hz : T0.length ≤ 100000) (hkz : keys.length ≤ 1000000)
    (hlen : ∀ i, (pruneS keys T0 ([path, par].take i)).length ≤ 100000)
    (hget : ∀ i node, [path, par][i]? = some node → pruneC keys (pruneS keys T0 ([path, par].take i)) node → ∃ g, getS (pruneS keys T0 ([path, par].take i)) node = some g) :
    TurnTo D (k + 1) (.ref (T.at_ 24)) (tv T0) [.list (keys.map .str), .str path] (tv (pruneS keys T0 [path, par])) := by
  refine (T.fn 24 (by decide)).turn hd24 rfl fun L b => ?_
  have ok : EnvOk (fe 24 (T.at_ 24) L (T.pm 24) (T.cd 24) (T.doc 24)) := fenv_ok hd24.fn
  refine Ex.cons (Ex1.forItr (xs := [path, par].map .str) ok (by exact ⟨rfl, .inr ⟨rfl, _, rfl⟩⟩) (EvS.dict (d := .list ([path, par].map .str)) (Ev.list (EvL.cons (Ev.name ok rfl) (EvL.cons (Ev.sub (Ev.name (d := .dict (kvD (tv T0))) ok rfl) (Ev.name ok rfl) (GetR.dict (d := .str par) (by rw [tv_get, hpar]; rfl))) EvL.nil)) (small (by simp))) rfl) Itr.list
    (fun i V ow => ow = .dict "tree" b (kvD (tv (pruneS keys T0 ([path, par].take i)))) ∧ Knows V [("keys", .list (keys.map .str))]) ⟨rfl, .cons rfl .nil⟩ (fun i V ow h => by rw [h.1]; exact nameNeD (by decide)) ?_ (fun V ow h => Ex.nil ⟨rfl, by rw [h.1]; rfl⟩))
  rintro i d V ow hd ⟨rfl, hk⟩
  obtain ⟨node, hnode, rfl, hi, hdrop⟩ := mapGet hd
  have hL := hlen i
  have hG := hget i node hnode
  have htake : pruneS keys T0 ([path, par].take (i + 1)) = prune1 keys (pruneS keys T0 ([path, par].take i)) node := by
    unfold pruneS; rw [List.take_add_one, hnode]; rw [List.foldl_append]; rfl
  have hnok : okS node = true := by
    have := List.mem_of_getElem? hnode
    rcases List.mem_cons.mp this with rfl | h
    · exact hpath
    · rw [List.mem_singleton.mp h]; exact hparok
  show Ex D _ _ _ _ _ (Turn _ (fun V ow => ow = .dict "tree" b (kvD (tv (pruneS keys T0 ([path, par].take (i + 1))))) ∧ Knows V [("keys", .list (keys.map .str))]))
  rw [htake]
  generalize pruneS keys T0 ([path, par].take i) = T2 at hL hG
  refine Ex.weak (V' := ("node", .str node) :: [("keys", .list (keys.map .str))]) ?_ (Knows.more _ _ hk)
  have hbl : (belowS T2 node).length ≤ T2.length := Nat.le_trans (List.length_filter_le _ _) (by unfold keysS; rw [List.length_map]; exact Nat.le_refl _)
  refine Ex.cons (Ex1.assignCompD ok (by exact ⟨rfl, .inl rfl⟩) (CompU.to (CompU.mk (xs := keysS T2) (enc := .str) (p := fun one => decide (one ≠ "/" ∧ getS T2 one = some node)) (f := .str) (V' := [("tree", .dict (kvD (tv T2))), ("node", .str node)])
      ⟨rfl, by decide +kernel, rfl, by decide +kernel, rfl, by decide, Got.cons rfl rfl rfl rfl (Got.cons rfl rfl rfl rfl .nil)⟩ (Ev.name ok rfl) (by rw [← tv_keys]; exact Itr.keys) (small (by unfold keysS; rw [List.length_map]; omega)) (fun C one ho => ?_) (fun C one ho _ => ?_)) (d' := .list ((belowS T2 node).map .str)) rfl) (nd_strs _) ?_)
  · obtain ⟨m, hm, hmem⟩ := getS_mem ho
    refine Tests.one (Tr.to (Tr.and (TrAnd.cons (Tr.cmp (Ev.name (compOk ok rfl) rfl) Ev.cstr CmpR.neStr) fun h1 => TrAnd.cons (b := decide (m = node)) (Tr.cmp (Ev.sub (Ev.name (compOk ok rfl) rfl) (Ev.name (compOk ok rfl) rfl) (GetR.dict (d := .str m) (by rw [tv_get, hm]; rfl))) (Ev.name (compOk ok rfl) rfl) CmpR.eqStr) fun _ => TrAnd.nil)) ?_)
    rw [hm]
    simp [Bool.decide_and]
  · exact Ev.name (compOk ok rfl) rfl
  refine Ex.cons (Ex1.ite (c := decide (pruneC keys T2 node)) (TrS.of (Tr.to (Tr.and (TrAnd.cons (Tr.cmp (Ev.name ok rfl) Ev.cstr CmpR.neStr) fun _ => TrAnd.cons (b := decide (node ∉ keys)) (Tr.cmp (Ev.name ok rfl) (Ev.name ok rfl) ((CmpR.notIn hnok (lay_strs hkeys) (by simp [PyData.depth])).to (mem_any_str _ _))) fun _ => TrAnd.cons (Tr.cmp (Ev.callB (EvV.boot ok rfl (T.free _ (by decide)) PyProof.Rows.Boot.«len») (EvL.cons (Ev.name (d := .list ((belowS T2 node).map .str)) ok rfl) EvL.nil) (CallTo.lenList (small (by rw [List.length_map]; omega)))) Ev.cint CmpR.ltInt) fun _ => TrAnd.nil)) ?_)) (fun hc => ?_) (fun hc => ?_))
  · rw [Bool.and_true, ← decide_not, ← Bool.decide_and, ← Bool.decide_and]
    refine decide_eq_decide.mpr ?_
    unfold pruneC
    rw [List.length_map]
    constructor
    · rintro ⟨h1, h2, h3⟩; exact ⟨h1, h2, by omega⟩
    · rintro ⟨h1, h2, h3⟩; exact ⟨h1, h2, by omega⟩
  · have hc := of_decide_eq_true hc
    obtain ⟨g, hg⟩ := hG hc
    have hg' : (getS T2 node).getD "" = g := by rw [hg]; rfl
    rw [prune1, if_pos hc, hg']
    refine Ex.cons (Ex1.forItr (xs := (belowS T2 node).map .str) ok (by exact ⟨rfl, .inl rfl⟩) (EvS.of (Ev.name ok rfl)) Itr.list
      (fun j V ow => ow = .dict "tree" b (kvD (tv (liftS g T2 ((belowS T2 node).take j)))) ∧ Knows V [("node", .str node), ("keys", .list (keys.map .str))] ∧ getS (liftS g T2 ((belowS T2 node).take j)) node = some g ∧ (liftS g T2 ((belowS T2 node).take j)).length ≤ T2.length + j)
      ⟨rfl, .cons rfl (.cons rfl .nil), hg, Nat.le_refl _⟩ (fun i V ow h => by rw [h.1]; exact nameNeD (by decide)) ?_ ?_)
    · rintro j d V ow hd ⟨rfl, hk, hgn, hln⟩
      obtain ⟨one, hone, rfl, hj, _⟩ := mapGet hd
      have htk : liftS g T2 ((belowS T2 node).take (j + 1)) = setS (liftS g T2 ((belowS T2 node).take j)) one g := by
        unfold liftS; rw [List.take_add_one, hone]; rw [List.foldl_append]; rfl
      show Ex D _ _ _ _ _ (Turn _ (fun V ow => ow = .dict "tree" b (kvD (tv (liftS g T2 ((belowS T2 node).take (j + 1))))) ∧ Knows V [("node", .str node), ("keys", .list (keys.map .str))] ∧ getS (liftS g T2 ((belowS T2 node).take (j + 1))) node = some g ∧ (liftS g T2 ((belowS T2 node).take (j + 1))).length ≤ T2.length + (j + 1)))
      rw [htk]
      generalize liftS g T2 ((belowS T2 node).take j) = T3 at hgn hln
      refine Ex.weak (V' := ("one", .str one) :: [("node", .str node), ("keys", .list (keys.map .str))]) ?_ (Knows.more _ _ hk)
      refine Ex.cons (Ex1.setK (d := .str g) ok (EvS.dict (Ev.sub (Ev.name (d := .dict (kvD (tv T3))) ok rfl) (Ev.name ok rfl) (GetR.dict (d := .str g) (by rw [tv_get, hgn]; rfl))) rfl) (EvS.of (Ev.name ok rfl)) (small (by rw [tv_len]; omega)) ?_)
      rw [tv_set]
      have := setS_len T3 one g
      exact Ex.nil ⟨rfl, .cons rfl (.cons rfl .nil), by rw [getS_set]; split <;> first | rfl | exact hgn, by omega⟩
    · rintro V ow ⟨rfl, hk, hgn, hln⟩
      rw [List.length_map] at hgn hln
      rw [List.length_map]
      rw [List.take_length] at hgn hln ⊢
      refine Ex.cons (Ex1.popK (d := .str g) ok (EvS.of (Ev.name ok (hk "node" _ rfl))) (small (by rw [tv_len]; omega)) (by rw [tv_get, hgn]; rfl) ?_)
      rw [tv_pop]
      exact Ex.nil (Ex.nil ⟨rfl, .cons (hk "keys" _ rfl) .nil⟩)
  · have hc := of_decide_eq_false hc
    rw [prune1, if_neg hc]
    exact Ex.nil (Ex.nil ⟨rfl, .cons rfl .nil⟩)
end
end Mine
end
section
set_option maxRecDepth 100000
namespace Mine
def labelGo (stop : Str) : Nat → Str → List Str → Option (List Str)
  | 0, _, _ => none
  | f + 1, one, names => if one ≠ stop ∧ headCut one ≠ one then labelGo stop f (headCut one) (tailOf one :: names) else some names
section
variable {prog : Program} {w : World} {D : Md prog w} {k : Nat} {env : Env} {V : Vars} {ow : Own} {R : Fl → Vars → Own → Prop}
theorem EvL.to {es : List Expr} {ds ds' : List PyData} (h : EvL D k env V es ds) (q : ds = ds') : EvL D k env V es ds' := q ▸ h
theorem hd25 : Hd 25 ["tree", "path"] where
  bind := by intro pm cd doc vals h; match vals, h with | [v1, v2], _ => rfl
  nd := by decide +kernel
  kinds := by decide +kernel
  cells := by decide +kernel
  fn := by rfl
  co := by rfl
  gen := by rfl
set_option maxHeartbeats 4000000 in
theorem law_label {okp : Str → Prop} (T : Text D) (hlen : ∀ s, okp s → s.length ≤ 1000000) (hcut : ∀ s, okp s → okp (headCut s)) (T0 : TreeS) (path stop : Str) (names : List Str) (hp : okp path) (hstop : getS T0 path = some stop) (f0 : Nat) (hf : f0 ≤ 100000)
    (h0 : labelGo stop f0 path [] = some names) (hj : lens names ≤ 1000000) : CallTo D (k + 3) (.ref (T.at_ 25)) [.dict (kvD (tv T0)), .str path] (.str (joinS "" names)) := by
  refine (T.fn 25 (by decide)).call hd25 rfl fun L => ?_
  have ok : EnvOk (fe 25 (T.at_ 25) L (T.pm 25) (T.cd 25) (T.doc 25)) := fenv_ok hd25.fn
  refine Ex.cons (Ex1.assign (d := .list (([] : List Str).map .str)) ok (by exact ⟨rfl, .inl rfl⟩) (EvS.of (Ev.list EvL.nil (Nat.zero_le _))) ?_)
  refine Ex.cons (Ex1.assign ok (by exact ⟨rfl, .inl rfl⟩) (EvS.of (Ev.name ok rfl)) ?_)
  refine Ex.weak (V' := [("one", .str path), ("names", .list (([] : List Str).map .str)), ("tree", .dict (kvD (tv T0))), ("path", .str path)]) ?_ (Knows.cons rfl (.cons rfl (.cons rfl (.cons rfl .nil))))
  refine Ex.cons (Ex1.whileL (fun f V ow => ow = .none ∧ ∃ (one : Str) (ns : List Str), Knows V [("one", .str one), ("names", .list (ns.map .str)), ("tree", .dict (kvD (tv T0))), ("path", .str path)] ∧ labelGo stop f one ns = some names ∧ okp one ∧ ns.length + f ≤ 100000) ?_ f0
    ⟨rfl, path, [], Knows.refl _, h0, hp, by simpa using hf⟩)
  rintro f V ow ⟨rfl, one, ns, hk, hg, ho, hn⟩
  have ho1 := hlen one ho
  refine ⟨decide (one ≠ stop ∧ headCut one ≠ one), TrS.of (Tr.to (Tr.and (TrAnd.cons (Tr.cmp (Ev.name ok (hk "one" _ rfl)) (Ev.sub (Ev.name ok (hk "tree" _ rfl)) (Ev.name ok (hk "path" _ rfl)) (GetR.dict (d := .str stop) (by rw [tv_get, hstop]; rfl))) CmpR.neStr) fun _ => TrAnd.cons (Tr.cmp (Ev.callT T 17 ok (EvL.cons (Ev.name ok (hk "one" _ rfl)) EvL.nil) (dirname T one ho1)) (Ev.name ok (hk "one" _ rfl)) CmpR.neStr) fun _ => TrAnd.nil)) ?_), fun hc => ?_, fun hc => ?_⟩
  · rw [Bool.and_true, ← decide_not, ← decide_not, ← Bool.decide_and]
  · have hc := of_decide_eq_false hc
    cases f with
    | zero => cases hg
    | succ f =>
    rw [labelGo, if_neg hc] at hg
    have hg := Option.some.inj hg
    subst hg
    refine Ex.cons (Ex1.ret (EvS.of (Ev.callT (ds := .str "" :: ns.map .str) T 14 ok (EvL.cons Ev.cstr (EvL.to (EvL.star (Ev.name ok (hk "names" _ rfl)) EvL.nil (small (by rw [List.length_map]; omega))) (List.append_nil _))) (join_ T "" ns (by rw [show ("" : Str).length = 0 by decide +kernel]; omega) (by omega)))) rfl)
  · have hc := of_decide_eq_true hc
    cases f with
    | zero => cases hg
    | succ f =>
    rw [labelGo, if_pos hc] at hg
    refine Ex.weak (V' := [("one", .str one), ("names", .list (ns.map .str)), ("tree", .dict (kvD (tv T0))), ("path", .str path)]) ?_ hk
    refine Ex.cons (Ex1.assignT (xs := ["one", "name"]) ok (by exact allC ⟨rfl, .inl rfl⟩ (allC ⟨rfl, .inl rfl⟩ all0)) (EvS.of (Ev.callT T 15 ok (EvL.cons (Ev.name ok rfl) EvL.nil) (split_ T one ho1))) rfl ?_ (.name (.name .nil)))
    refine Ex.cons (Ex1.assign (d := .list ((tailOf one :: ns).map .str)) ok (by exact ⟨rfl, .inl rfl⟩) (EvS.of (Ev.bin (Ev.list (EvL.cons (Ev.name ok rfl) EvL.nil) (small (by simp))) (Ev.name (d := .list (ns.map .str)) ok rfl) (BinR.addList (small (by simp; omega))))) ?_)
    exact Ex.nil ⟨f, Nat.lt_succ_self _, rfl, headCut one, tailOf one :: ns, .cons rfl (.cons rfl (.cons rfl (.cons rfl .nil))), hg, hcut one ho, by simp; omega⟩
end
end Mine
end
section
set_option maxRecDepth 100000
namespace Mine
def upGo (T : TreeS) (path : Str) : Nat → Str → Option Str
  | 0, _ => none
  | f + 1, one => if one ≠ path ∧ one ≠ "/" then match getS T one with | some m => upGo T path f m | none => none else some one
def spell (key : Str) : Str := Txt.join "/.//" (Txt.split key "/")
def drop1 (s : Str) : Str := Txt.slice s (some 1) none
def sharedD (bs : List Str) : PyData := match bs with
  | [] => .none
  | b :: r => .tuple [.str (commonS b r), .str (commonS (drop1 b) (r.map drop1))]
section
variable {prog : Program} {w : World} {D : Md prog w} {k : Nat} {env : Env} {V : Vars} {ow : Own} {R : Fl → Vars → Own → Prop}
theorem hd26 : Hd 26 ["tree", "keys", "path"] where
  bind := by intro pm cd doc vals h; match vals, h with | [v1, v2, v3], _ => rfl
  nd := by decide +kernel
  kinds := by decide +kernel
  cells := by decide +kernel
  fn := by rfl
  co := by rfl
  gen := by rfl
structure SpellOk (s : Str) : Prop where
  len : s.length ≤ 1000000
  ok : okS s = true
  abs : Txt.startswith s "/" = true
  rel : Txt.startswith (drop1 s) "/" = false
theorem joinOk4 {l : List Str} (h : lens l ≤ 1000000) : JoinOk "/.//" l = true := by
  refine joinOk_of ?_
  have h4 : ("/.//" : Str).length = 4 := by decide +kernel
  rw [h4]
  refine small ?_
  have : ∀ l : List Str, (l.map fun x => x.length + 4).sum ≤ 4 * lens l := by
    intro l
    induction l with
    | nil => exact Nat.zero_le _
    | cons a r ih => unfold lens at ih ⊢; simp only [List.map_cons, List.sum_cons] at ih ⊢; omega
  have := this l
  omega
set_option maxHeartbeats 4000000 in
theorem law_shared (T : Text D) (T0 : TreeS) (keys : List Str) (path : Str) (unders : Str → Str) (F : Nat) (hkz : keys.length ≤ 1000000) (hkl : ∀ key ∈ keys, key.length ≤ 1000) (hup : ∀ key ∈ keys, upGo T0 path F key = some (unders key))
    (hsp : ∀ key ∈ keys, SpellOk (spell key)) : CallTo D (k + 7) (.ref (T.at_ 26)) [.dict (kvD (tv T0)), .list (keys.map .str), .str path] (sharedD ((keys.filter fun key => decide (unders key = path)).map spell)) := by
  refine (T.fn 26 (by decide)).call hd26 rfl fun L => ?_
  have ok : EnvOk (fe 26 (T.at_ 26) L (T.pm 26) (T.cd 26) (T.doc 26)) := fenv_ok hd26.fn
  refine Ex.cons (Ex1.newList ok (by exact ⟨rfl, .inl rfl⟩) rfl fun a => ?_)
  refine Ex.weak (V' := [("tree", .dict (kvD (tv T0))), ("keys", .list (keys.map .str)), ("path", .str path)]) ?_ (Knows.cons rfl (.cons rfl (.cons rfl .nil)))
  refine Ex.cons (Ex1.forItr (xs := keys.map .str) ok (by exact ⟨rfl, .inl rfl⟩) (EvS.of (Ev.name ok rfl)) Itr.list
    (fun i V ow => ow = .list "below" a ((((keys.take i).filter fun key => decide (unders key = path)).map spell).map .str) ∧ Knows V [("tree", .dict (kvD (tv T0))), ("path", .str path)]) ⟨rfl, .cons rfl (.cons rfl .nil)⟩ (fun i V ow h => by rw [h.1]; exact nameNe (by decide)) ?_ ?_)
  · rintro i d V ow hd ⟨rfl, hk⟩
    obtain ⟨key, hkey, rfl, hi, _⟩ := mapGet hd
    have hmem : key ∈ keys := List.mem_of_getElem? hkey
    have hkl' := hkl key hmem
    refine Ex.weak (V' := ("key", .str key) :: [("tree", .dict (kvD (tv T0))), ("path", .str path)]) ?_ (Knows.more _ _ hk)
    refine Ex.cons (Ex1.assign ok (by exact ⟨rfl, .inl rfl⟩) (EvS.of (Ev.name ok rfl)) ?_ (nameNe (by decide)))
    generalize hW : ((((keys.take i).filter fun key => decide (unders key = path)).map spell).map PyData.str) = W0
    refine Ex.cons (Ex1.whileL (fun f V ow => ow = .list "below" a W0 ∧ ∃ one, Knows V [("one", .str one), ("key", .str key), ("tree", .dict (kvD (tv T0))), ("path", .str path)] ∧ upGo T0 path f one = some (unders key)) ?_ F ⟨rfl, key, .cons rfl (.cons rfl (.cons rfl (.cons rfl .nil))), hup key hmem⟩)
    rintro f V ow ⟨rfl, one, hk, hg⟩
    refine ⟨decide (one ≠ path ∧ one ≠ "/"), TrS.of (Tr.to (Tr.and (TrAnd.cons (Tr.cmp (Ev.name ok (hk "one" _ rfl)) (Ev.name ok (hk "path" _ rfl)) CmpR.neStr) fun _ => TrAnd.cons (Tr.cmp (Ev.name ok (hk "one" _ rfl)) Ev.cstr CmpR.neStr) fun _ => TrAnd.nil)) ?_), fun hc => ?_, fun hc => ?_⟩
    · rw [Bool.and_true, ← decide_not, ← decide_not, ← Bool.decide_and]
    · have hc := of_decide_eq_false hc
      cases f with
      | zero => cases hg
      | succ f =>
      rw [upGo, if_neg hc] at hg
      have hg := Option.some.inj hg
      subst hg
      refine Ex.weak (V' := [("one", .str (unders key)), ("key", .str key), ("tree", .dict (kvD (tv T0))), ("path", .str path)]) ?_ hk
      have htake : keys.take (i + 1) = keys.take i ++ [key] := by rw [List.take_add_one, hkey]; rfl
      have hwl : W0.length ≤ 1000000 := by rw [← hW, List.length_map, List.length_map]; exact Nat.le_trans (List.length_filter_le _ _) (Nat.le_trans (List.length_take_le' _ _) hkz)
      refine Ex.cons (Ex1.ite (TrS.of (Tr.cmp (Ev.name ok rfl) (Ev.name ok rfl) CmpR.eqStr)) (fun h => ?_) (fun h => ?_))
      · have h := of_decide_eq_true h
        have h1 := lens_split key
        have h2 := split_parts key
        refine Ex.cons (Ex1.append (d := .str (spell key)) ok (EvS.of (Ev.join Ev.cstr (Ev.split (x := key) (y := "/") (Ev.name ok rfl) Ev.cstr (by decide +kernel) (small (by omega)) (small (by omega))) (joinOk4 (by omega)))) (small (by omega)) ?_)
        refine Ex.nil (Ex.nil ⟨?_, .cons rfl (.cons rfl .nil)⟩)
        rw [htake, List.filter_append, List.map_append, List.map_append, hW]
        simp [h]
      · have h := of_decide_eq_false h
        refine Ex.nil (Ex.nil ⟨?_, .cons rfl (.cons rfl .nil)⟩)
        rw [htake, List.filter_append, List.map_append, List.map_append, hW]
        simp [h]
    · have hc := of_decide_eq_true hc
      cases f with
      | zero => cases hg
      | succ f =>
      rw [upGo, if_pos hc] at hg
      cases hm : getS T0 one with
      | none => rw [hm] at hg; cases hg
      | some m =>
      rw [hm] at hg
      refine Ex.weak (V' := [("one", .str one), ("key", .str key), ("tree", .dict (kvD (tv T0))), ("path", .str path)]) ?_ hk
      refine Ex.cons (Ex1.assign (d := .str m) ok (by exact ⟨rfl, .inl rfl⟩) (EvS.of (Ev.sub (Ev.name ok rfl) (Ev.name ok rfl) (GetR.dict (by rw [tv_get, hm]; rfl)))) ?_ (nameNe (by decide)))
      exact Ex.nil ⟨f, Nat.lt_succ_self _, rfl, m, .cons rfl (.cons rfl (.cons rfl (.cons rfl .nil))), hg⟩
  · rintro V ow ⟨rfl, hk⟩
    rw [List.length_map, List.take_length]
    generalize hbs : (keys.filter fun key => decide (unders key = path)).map spell = bs
    have hall : ∀ b ∈ bs, SpellOk b := fun b hb => by
      rw [← hbs] at hb
      obtain ⟨key, hk, rfl⟩ := List.mem_map.mp hb
      exact hsp key (List.mem_filter.mp hk).1
    have hbl : bs.length ≤ 1000000 := by rw [← hbs, List.length_map]; exact Nat.le_trans (List.length_filter_le _ _) hkz
    refine Ex.freeze ?_
    refine Ex.cons (Ex1.ite (TrS.of (Tr.cmp (Ev.name (d := .list (bs.map .str)) ok rfl) (Ev.list EvL.nil (Nat.zero_le _)) ((CmpR.eq (by exact lay_strs fun x hx => (hall x hx).ok) rfl (depth_strs _)).to (eqv_nilS _)))) (fun he => ?_) (fun he => ?_))
    · have he := of_decide_eq_true he
      rw [he]
      exact Ex.cons (Ex1.ret (EvS.of Ev.cnone) rfl)
    · have he := of_decide_eq_false he
      obtain ⟨b, r, rfl⟩ : ∃ b r, bs = b :: r := by
        cases bs with
        | nil => exact absurd rfl he
        | cons b r => exact ⟨b, r, rfl⟩
      refine Ex.nil ?_
      have c1 := commonpath (k := k) T b r (fun q hq => (hall q hq).len) hbl (fun q hq => by rw [(hall q hq).abs, (hall b List.mem_cons_self).abs]) (minMaxOk _ _)
      have c2 := commonpath (k := k) T (drop1 b) (r.map drop1) (fun q hq => by
          obtain ⟨q', hq', rfl⟩ : ∃ q', q' ∈ b :: r ∧ drop1 q' = q := by
            rcases List.mem_cons.mp hq with rfl | hq
            · exact ⟨b, List.mem_cons_self, rfl⟩
            · obtain ⟨q', h1, h2⟩ := List.mem_map.mp hq; exact ⟨q', List.mem_cons_of_mem _ h1, h2⟩
          exact Nat.le_trans (Txt.slice_le q' _ _) (hall q' hq').len) (by rw [List.length_cons, List.length_map]; exact hbl) (fun q hq => by
          obtain ⟨q', hq', rfl⟩ : ∃ q', q' ∈ b :: r ∧ drop1 q' = q := by
            rcases List.mem_cons.mp hq with rfl | hq
            · exact ⟨b, List.mem_cons_self, rfl⟩
            · obtain ⟨q', h1, h2⟩ := List.mem_map.mp hq; exact ⟨q', List.mem_cons_of_mem _ h1, h2⟩
          rw [(hall q' hq').rel, (hall b List.mem_cons_self).rel]) (minMaxOk _ _)
      refine Ex.cons (Ex1.ret (EvS.of (Ev.tuple (EvL.cons (Ev.callT T 19 ok (EvL.cons (Ev.name ok rfl) EvL.nil) c1) (EvL.cons (Ev.callT T 19 ok (EvL.cons ((Ev.comp (xs := b :: r) (enc := .str) (p := fun _ => true) (f := fun q => .str (drop1 q)) (V' := [])
        ⟨rfl, by decide +kernel, rfl, by decide +kernel, rfl, by decide, Got.nil⟩ (Ev.name ok rfl) Itr.list (small (by omega)) (fun C q hq => Tests.nil) (fun C q hq _ => ?_)).to (d' := .list ((drop1 b :: r.map drop1).map .str)) ?_) EvL.nil) c2) EvL.nil)) (small (by simp)))) rfl)
      · exact Ev.cutStr (Ev.name (compOk ok rfl) rfl) (EvP.some Ev.cint) EvP.none (small (by have := (hall q hq).len; omega))
      · rw [List.filter_eq_self.mpr fun _ _ => rfl]
        simp only [List.map_cons, List.map_map]; rfl
end
end Mine
end
section
set_option maxRecDepth 100000
namespace Mine
section
variable {prog : Program} {w : World} {D : Md prog w} {k : Nat} {env : Env} {V : Vars} {ow : Own} {R : Fl → Vars → Own → Prop}
theorem CallTo.min2 {a b : Nat} : CallTo D k (.builtin "min") [.int a, .int b] (.int ((min a b : Nat) : Int)) := by
  intro A hA G s vs Q E g0 hi rs hQ
  cases rs with
  | cons r rs =>
  cases rs with
  | cons r2 rs =>
  cases rs
  cases r with
  | int _ t =>
  cases r2 with
  | int _ u =>
  refine min_two_ints hA.1 fun h' tk hk => ?_
  have t1 : Step G s G { s with heap := h', toks := tk } := ⟨⟨h', tk, rfl⟩, Le.refl _, hi.kp hk, hk, fun _ _ e => .inl e⟩
  refine hQ _ _ _ t1 ?_
  by_cases h : b < a
  · rw [if_pos (by omega), Nat.min_eq_right (by omega)]; exact .int _ _
  · rw [if_neg (by omega), Nat.min_eq_left (by omega)]; exact .int _ _
theorem CallTo.maxInts {ns : List Nat} {M : Nat} (hM : M ∈ ns) (hle : ∀ a ∈ ns, a ≤ M) : CallTo D k (.builtin "max") [.list (ns.map fun n : Nat => PyData.int (n : Int))] (.int M) := by
  intro A hA G s vs Q E g0 hi rs hQ
  cases rs with
  | cons r rs =>
  cases rs
  have hpos : 0 < ns.length := List.length_pos_of_mem hM
  refine call_max_walk (Itr.list (D := D) (xs := ns.map fun n : Nat => PyData.int (n : Int)) A.in1 hA.1 G s _ _ _ g0 hi r fun o c St hof hc W st0 hIl => ?_)
  obtain ⟨oc, hc⟩ := hc
  have hI : s.heap.get? s.heap.objs.size = none := fresh_size (Kp.refl _)
  refine ⟨s.heap.objs.size, _, _, _, _, St, _, rfl, W A.in1 hA.1, st0, fun b hb => ?_, by rw [List.length_map]; exact hpos, CmpOf.ints_gt (fun i => ((ns.getD i 0 : Nat) : Int)) fun i v hv => ?_, fun v h' tk hv hk => ?_⟩
  · show b < (s.heap.push o).objs.size
    rw [Heap.size_push]
    rcases List.mem_cons.mp hb with rfl | hb
    · exact Nat.lt_succ_self _
    · rw [List.mem_singleton.mp hb]; exact Nat.lt_succ_of_lt (Heap.lt_size (hi _ _ hc))
  · obtain ⟨d, hd, rd⟩ := hv
    rw [List.getElem?_map] at hd
    cases e : ns[i]? with
    | none => rw [e] at hd; cases hd
    | some n =>
      rw [e] at hd
      have hd : PyData.int n = d := by simpa using hd
      subst hd
      cases rd with
      | int _ t => exact ⟨t, by rw [List.getD_eq_getElem?_getD, e]; rfl⟩
  · obtain ⟨d, hd, rd⟩ := hv
    have hb := argBest_gt (fun i => ((ns.getD i 0 : Nat) : Int)) ((ns.map fun n : Nat => PyData.int (n : Int)).length - 1)
    generalize argBest (fun i j => decide (((ns.getD i 0 : Nat) : Int) > ((ns.getD j 0 : Nat) : Int))) ((ns.map fun n : Nat => PyData.int (n : Int)).length - 1) = bi at hb hd
    rw [List.length_map] at hb
    rw [List.getElem?_map] at hd
    cases e : ns[bi]? with
    | none => rw [e] at hd; cases hd
    | some n =>
      rw [e] at hd
      have hd : PyData.int n = d := by simpa using hd
      subst hd
      have hn : n = M := by
        obtain ⟨j, hj, hjM⟩ := List.getElem_of_mem hM
        have h1 := hb.2 j (by omega)
        have h2 : ns.getD bi 0 = n := by rw [List.getD_eq_getElem?_getD, e]; rfl
        have h3 : ns.getD j 0 = M := by rw [List.getD_eq_getElem?_getD, List.getElem?_eq_getElem hj, hjM]; rfl
        have h4 := hle n (List.mem_of_getElem? e)
        rw [h2, h3] at h1
        omega
      have kp : Kp s.heap h' := fun b o' q => hk b o' (fun z => by rw [List.mem_singleton.mp z, hI] at q; cases q) (Heap.get?_push_of_some _ q)
      rw [hn] at rd
      exact hQ G { s with heap := h', toks := tk } _ ⟨⟨h', tk, rfl⟩, Le.refl _, hi.kp kp, kp, fun _ _ e => .inl e⟩ rd
/-- x = [e, ..], to be turned later -/
theorem Ex1.newListOf {x : Str} {p pos pos2 : Pos} {es : List Expr} {ds : List PyData} (ok : EnvOk env) (hx : Name env x) (hv : V.lookup x = none) (h : EvL D k env V es ds) (hz : ds.length ≤ sizeLine) (hR : ∀ a, R .next V (.list x a ds)) (hs : swapsWith (.List es pos2) (some (.Name x p)) pos.line env = pure false := by exact rfl) :
    Ex1 D k env V .none (.Assign [.Name x p] (.List es pos2) pos) R := by
  intro A hA G s Q E c hQ
  refine wpAny_Assign_Name (wpAny_List (h A _ hA G s _ E c.es fun G1 s1 vs t1 rs => ⟨by rw [rs.length]; exact hz, ?_⟩)) hs
  have c0 := c.step t1
  have t2 := Step.push c0.es.inn (listO vs 0)
  have c1 := c0.step t2
  have nb : ¬ Foot env .none s1.heap.objs.size := fun f => by
    obtain ⟨o, e⟩ := c0.foot_live f
    exact absurd (Heap.lt_size e) (Nat.lt_irrefl _)
  have gb : G1 s1.heap.objs.size = none := by
    cases z : G1 s1.heap.objs.size with
    | none => rfl
    | some o => exact absurd (Heap.lt_size (c0.es.inn _ _ z)) (Nat.lt_irrefl _)
  refine store ok hx c1 fun s2 t3 => ?_
  have held : Held prog w G1 s2.heap (.list x s1.heap.objs.size ds) := ⟨vs, 0, t3.kp _ _ (fun z => nb (.inl z)) (fun y z => nb (.inr (.inl ⟨y, z⟩))) (Heap.get?_push_size _ rfl), rs⟩
  have c2 := c1.gain ok gb nb rfl rfl t3 hv held
  have S2 : SStep env .none G1 s1 (.list x s1.heap.objs.size ds) G1 s2 := ⟨(by obtain ⟨h, tk, e⟩ := t3.shp; exact ⟨h, tk, e⟩), Le.refl _, fun b o nf e => t3.kp b o (fun z => nf (.inl z)) (fun y z => nf (.inr (.inl ⟨y, z⟩))) (Heap.get?_push_of_some _ e), fun b o e => t3.live b o (Heap.get?_push_of_some _ e), fun b o e => .inl e, fun a e => by
      cases e
      exact .inr (fresh_size (Kp.refl _))⟩
  exact hQ G1 s2 _ _ V (.list x s1.heap.objs.size ds) (t1.ss.trans S2) c2 .next (hR _)
end
end Mine
end
section
set_option maxRecDepth 100000
namespace Mine
abbrev encL (l : List Str) : PyData := .list (l.map .str)
theorem eqvAll_strs : ∀ a b : List Str, PyData.eqvAll (a.map .str) (b.map .str) = decide (a = b)
  | [], [] => rfl
  | [], _ :: _ => rfl
  | _ :: _, [] => rfl
  | x :: xs, y :: ys => by
    show (PyData.eqv (.str x) (.str y) && PyData.eqvAll (xs.map .str) (ys.map .str)) = _
    rw [eqvAll_strs xs ys]
    show ((x == y) && _) = _
    by_cases h : x = y
    · subst h; simp
    · rw [beq_eq_false_iff_ne.mpr h]; simp [h]
theorem eqv_strs (a b : List Str) : PyData.eqv (encL a) (encL b) = decide (a = b) := eqvAll_strs a b
theorem eqv_nilL (xs : List (List Str)) : PyData.eqv (.list (xs.map encL)) (.list []) = decide (xs = []) := by cases xs <;> rfl
theorem any_encL (ns : List (List Str)) (p : List Str) : (!(ns.map encL).any fun y => PyData.eqv y (encL p)) = decide (p ∉ ns) := by
  rw [decide_not]; congr 1
  induction ns with
  | nil => rfl
  | cons x r ih =>
    rw [List.map_cons, List.any_cons, ih, eqv_strs, ← Bool.decide_or]
    exact decide_eq_decide.mpr ⟨fun h => List.mem_cons.mpr (h.imp Eq.symm id), fun h => (List.mem_cons.mp h).imp Eq.symm id⟩
def addN (ns : List (List Str)) (p : List Str) : List (List Str) := if p ∈ ns then ns else ns ++ [p]
def nodesRow (rows : List (List Str)) (ns : List (List Str)) (one : List Str) : List (List Str) := rows.foldl (fun ns other => addN ns (lcpS one other)) ns
def nodesS (rows : List (List Str)) : List (List Str) := rows.foldl (nodesRow rows) [[]]
def maxN (l : List Nat) : Nat := l.foldr max 0
theorem maxN_le : ∀ {l : List Nat} {a : Nat}, a ∈ l → a ≤ maxN l
  | b :: r, a, h => by
    show a ≤ max b (maxN r)
    rcases List.mem_cons.mp h with rfl | h
    · exact Nat.le_max_left _ _
    · exact Nat.le_trans (maxN_le h) (Nat.le_max_right _ _)
theorem maxN_mem : ∀ l : List Nat, maxN l ∈ l ++ [0]
  | [] => by simp [maxN]
  | b :: r => by
    show max b (maxN r) ∈ _
    rcases Nat.le_total b (maxN r) with h | h
    · rw [Nat.max_eq_right h]; exact List.mem_cons_of_mem _ (maxN_mem r)
    · rw [Nat.max_eq_left h]; exact List.mem_cons_self
def P (l : List Str) : Str := "/" ++ Txt.join "/" l
def aboveS (nodes : List (List Str)) (node : List Str) : List (List Str) := nodes.filter fun one => decide (one.length < node.length ∧ node.take one.length = one)
def kS (nodes : List (List Str)) (node : List Str) : Nat := maxN ((aboveS nodes node).map List.length)
def belowL (rows : List (List Str)) (node : List Str) : List (List Str) := rows.filter fun one => decide (one.take node.length = node)
def oddL (below : List (List Str)) (ns : List Str) : List (List Str) := below.filter fun one => decide (one.take ns.length ≠ ns)
def cutN (below : List (List Str)) : Nat → List Str → List Str
  | 0, ns => ns
  | f + 1, ns => if oddL below ns = [] then ns else cutN below f (ns.take (ns.length - 1))
def namesOf (below : List (List Str)) : List Str := cutN below (below.head?.getD []).length (below.head?.getD [])
def sharedOf (below : List (List Str)) : PyData := if below = [] then .none else .tuple [.str (P (namesOf below)), .str (Txt.join "/" (namesOf below))]
def dueV (rows nodes : List (List Str)) (node : List Str) : PyData := .tuple [.str (P (node.take (kS nodes node))), .str (Txt.join "/" (node.drop (kS nodes node))), sharedOf (belowL rows node)]
def dueGo (rows nodes : List (List Str)) (l : List (List Str)) : KV := l.foldl (fun due node => setK due (P node) (dueV rows nodes node)) []
def dueS (rows : List (List Str)) : KV := dueGo rows (nodesS rows) (nodesS rows)
def rowOk (l : List Str) : Prop := (∀ x ∈ l, okS x = true) ∧ lens l ≤ 100000
theorem rowOk_take {l : List Str} (h : rowOk l) (n : Nat) : rowOk (l.take n) := ⟨fun x hx => h.1 x (List.mem_of_mem_take hx), Nat.le_trans (lens_take l n) h.2⟩
theorem rowOk_len {l : List Str} (h : rowOk l) : l.length ≤ 100000 := Nat.le_trans (lens_len l) h.2
theorem rowOk_drop {l : List Str} (h : rowOk l) (n : Nat) : lens (l.drop n) ≤ 100000 := by
  have := h.2
  conv at this => lhs; rw [← List.take_append_drop n l]
  unfold lens at this ⊢; rw [List.map_append, List.sum_append] at this; omega
theorem lay_encL {ns : List (List Str)} (h : ∀ n ∈ ns, rowOk n) : PyData.canLayAll0 (ns.map encL) = true := by
  induction ns with
  | nil => rfl
  | cons n r ih =>
    rw [List.map_cons, PyData.canLayAll0, ih fun m hm => h m (List.mem_cons_of_mem _ hm)]
    exact Bool.and_eq_true_iff.mpr ⟨lay_strs (h n List.mem_cons_self).1, rfl⟩
theorem depth_encL (ns : List (List Str)) : PyData.depth (.list (ns.map encL)) ≤ 64 := by
  have h1 : ∀ l : List Str, PyData.depthAll (l.map .str) ≤ 1 := by
    intro l
    induction l with
    | nil => simp [PyData.depthAll]
    | cons x r ih => simp only [List.map_cons, PyData.depthAll, PyData.depth]; omega
  have h2 : PyData.depthAll (ns.map encL) ≤ 5 := by
    induction ns with
    | nil => simp [PyData.depthAll]
    | cons x r ih => have := h1 x; simp only [List.map_cons, PyData.depthAll, PyData.depth]; omega
  simp only [PyData.depth]
  omega
theorem lcp_take : ∀ {a b : List Str} {k : Nat}, a.take k = b.take k → k ≤ a.length → k ≤ b.length → (k < a.length → k < b.length → a[k]? ≠ b[k]?) → lcpS a b = a.take k
  | [], b, k, _, h, _, _ => by cases b <;> simp [lcpS]
  | x :: xs, [], k, _, _, h, _ => by
    have : k = 0 := by simpa using h
    subst this; simp [lcpS]
  | x :: xs, y :: ys, 0, _, _, _, h => by
    have : x ≠ y := fun e => h (by simp) (by simp) (by rw [e]; rfl)
    rw [lcpS, if_neg this]; rfl
  | x :: xs, y :: ys, k + 1, ht, h1, h2, h => by
    rw [List.take_succ_cons, List.take_succ_cons] at ht
    injection ht with e ht
    rw [lcpS, if_pos e, List.take_succ_cons, lcp_take ht (by simpa using h1) (by simpa using h2) fun q1 q2 => by simpa using h (by simpa using q1) (by simpa using q2)]
theorem addN_mem {ns : List (List Str)} {p x : List Str} (h : x ∈ addN ns p) : x ∈ ns ∨ x = p := by
  unfold addN at h
  split at h
  · exact .inl h
  · exact (List.mem_append.mp h).imp id List.mem_singleton.mp
theorem addN_len (ns : List (List Str)) (p : List Str) : (addN ns p).length ≤ ns.length + 1 := by unfold addN; split <;> simp
section
variable {prog : Program} {w : World} {D : Md prog w} {k : Nat} {env : Env} {V : Vars} {ow : Own} {R : Fl → Vars → Own → Prop}
theorem mapGetL {xs : List (List Str)} {i : Nat} {d : PyData} (h : (xs.map encL)[i]? = some d) : ∃ p, xs[i]? = some p ∧ d = encL p ∧ i < xs.length := by
  rw [List.getElem?_map] at h
  cases e : xs[i]? with
  | none => rw [e] at h; cases h
  | some p =>
    rw [e] at h
    exact ⟨p, rfl, by simpa using h.symm, (List.getElem?_eq_some_iff.mp e).1⟩
theorem Ev.place {e : Expr} {j1 j2 : Nat} {p1 p2 p3 p4 p5 : Pos} {l : List Str} (h : Ev D k env V e (encL l)) (hl : lens l ≤ 100000) (m : MethOk env (.Constant (.str "/") j2 p2) "join" p3 p4 e := by exact ⟨rfl, rfl, rfl⟩) :
    Ev D k env V (.BinOp (.Constant (.str "/") j1 p1) .Add (.Call (.Attribute (.Constant (.str "/") j2 p2) "join" p3) [e] [] p4) p5) (.str (P l)) :=
  Ev.bin Ev.cstr (Ev.join Ev.cstr h (lens_joinOk (by omega)) m) (BinR.addStr (small (by have := joinLen l; have h1 : ("/" : Str).length = 1 := (by decide +kernel); omega)))
theorem setK_len (T : KV) (x : Str) (d : PyData) : (setK T x d).length ≤ T.length + 1 := by unfold setK; split <;> simp
theorem dueGo_len (rows nodes : List (List Str)) : ∀ (l : List (List Str)), (dueGo rows nodes l).length ≤ l.length := by
  have : ∀ (l : List (List Str)) (acc : KV), (l.foldl (fun due node => setK due (P node) (dueV rows nodes node)) acc).length ≤ acc.length + l.length := by
    intro l
    induction l with
    | nil => intro acc; exact Nat.le_refl _
    | cons a r ih =>
      intro acc
      have h1 := ih (setK acc (P a) (dueV rows nodes a))
      have h2 := setK_len acc (P a) (dueV rows nodes a)
      rw [List.foldl_cons, List.length_cons]
      omega
  intro l
  have := this l []
  rw [List.length_nil, Nat.zero_add] at this
  exact this
theorem lenL {l : List Str} (h : l.length ≤ 100000) : CallTo D k (.builtin "len") [encL l] (.int l.length) := by
  have := CallTo.lenList (D := D) (k := k) (xs := l.map PyData.str) (small (by rw [List.length_map]; omega)); rw [List.length_map] at this; exact this
theorem Ev.front {value u : Expr} {p pos : Pos} {n : Nat} {l : List Str} (h : Ev D k env V value (encL l)) (hu : Ev D k env V u (.int n)) (hz : l.length ≤ 100000)
    (ht : ∀ o r, letTemporaryGo value o r = pure () := by intro _ _; exact rfl) : Ev D k env V (.Subscript value (.Slice Option.none (Option.some u) Option.none p) pos) (encL (l.take n)) :=
  (Ev.upto h hu (small (by rw [List.length_map]; omega)) ht).to (by rw [encL, List.map_take])
theorem eqL {a b : List Str} (ha : rowOk a) (hb : rowOk b) : CmpR D k .Eq (encL a) (encL b) (decide (a = b)) := (CmpR.eq (d1 := encL a) (d2 := encL b) (by exact lay_strs ha.1) (by exact lay_strs hb.1) (depth_strs _)).to (eqv_strs _ _)
theorem neL {a b : List Str} (ha : rowOk a) (hb : rowOk b) : CmpR D k .NotEq (encL a) (encL b) (decide (a ≠ b)) := (CmpR.ne (d1 := encL a) (d2 := encL b) (by exact lay_strs ha.1) (by exact lay_strs hb.1) (depth_strs _)).to (by rw [eqv_strs, decide_not])
theorem neNil {l : List (List Str)} (h : ∀ n ∈ l, rowOk n) : CmpR D k .NotEq (.list (l.map encL)) (.list []) (decide (l ≠ [])) := (CmpR.ne (d1 := .list (l.map encL)) (by exact lay_encL h) rfl (depth_encL _)).to (by rw [eqv_nilL, decide_not])
theorem hd27 : Hd 27 ["rows"] where
  bind := by intro pm cd doc vals h; match vals, h with | [v1], _ => rfl
  nd := by decide +kernel
  kinds := by decide +kernel
  cells := by decide +kernel
  fn := by rfl
  co := by rfl
  gen := by rfl
set_option maxHeartbeats 8000000 in
theorem law_due (T : Text D) (rows : List (List Str)) (hr : ∀ r ∈ rows, rowOk r) (hz : rows.length ≤ 100) : CallTo D (k + 4) (.ref (T.at_ 27)) [.list (rows.map encL)] (.dict (kvD (dueS rows))) := by
  refine (T.fn 27 (by decide)).call hd27 rfl fun L => ?_
  have ok : EnvOk (fe 27 (T.at_ 27) L (T.pm 27) (T.cd 27) (T.doc 27)) := fenv_ok hd27.fn
  refine Ex.cons (Ex1.newListOf (ds := ([[]] : List (List Str)).map encL) ok (by exact ⟨rfl, .inl rfl⟩) rfl (EvL.cons (Ev.list EvL.nil (Nat.zero_le _)) EvL.nil) (small (by simp)) fun a => ?_)
  refine Ex.weak (V' := [("rows", .list (rows.map encL))]) ?_ (Knows.cons rfl .nil)
  refine Ex.cons (Ex1.forItr (xs := rows.map encL) ok (by exact ⟨rfl, .inl rfl⟩) (EvS.of (Ev.name ok rfl)) Itr.list
    (fun i V ow => ∃ ns, ow = .list "nodes" a (ns.map encL) ∧ Knows V [("rows", .list (rows.map encL))] ∧ (rows.drop i).foldl (nodesRow rows) ns = nodesS rows ∧ (∀ n ∈ ns, rowOk n) ∧ ns.length ≤ 1 + 100 * i)
    ⟨[[]], rfl, .cons rfl .nil, rfl, fun n hn => by rw [List.mem_singleton.mp hn]; exact ⟨fun _ h => (nomatch h), Nat.zero_le _⟩, by simp⟩ (fun i V ow h => by obtain ⟨ns, h, _⟩ := h; rw [h]; exact nameNe (by decide)) ?_ ?_)
  · rintro i d V ow hd ⟨ns, rfl, hk, hs, hn, hl⟩
    obtain ⟨one, hone, rfl, hi⟩ := mapGetL hd
    have hone' := hr one (List.mem_of_getElem? hone)
    have hdrop : rows.drop i = one :: rows.drop (i + 1) := by
      rw [List.drop_eq_getElem_cons hi]; congr 1; exact Option.some.inj ((List.getElem?_eq_getElem hi).symm.trans hone)
    rw [hdrop, List.foldl_cons] at hs
    refine Ex.weak (V' := ("one", encL one) :: [("rows", .list (rows.map encL))]) ?_ (Knows.more _ _ hk)
    refine Ex.cons (Ex1.forItr (xs := rows.map encL) ok (by exact ⟨rfl, .inl rfl⟩) (EvS.of (Ev.name ok rfl)) Itr.list
      (fun j V ow => ∃ ns', ow = .list "nodes" a (ns'.map encL) ∧ Knows V [("one", encL one), ("rows", .list (rows.map encL))] ∧ (rows.drop j).foldl (fun ns other => addN ns (lcpS one other)) ns' = nodesRow rows ns one ∧ (∀ n ∈ ns', rowOk n) ∧ ns'.length ≤ ns.length + j)
      ⟨ns, rfl, .cons rfl (.cons rfl .nil), rfl, hn, Nat.le_refl _⟩ (fun i V ow h => by obtain ⟨ns, h, _⟩ := h; rw [h]; exact nameNe (by decide)) ?_ ?_)
    · rintro j d V ow hd ⟨ns', rfl, hk, hs', hn', hl'⟩
      obtain ⟨other, hother, rfl, hj⟩ := mapGetL hd
      have hother' := hr other (List.mem_of_getElem? hother)
      have hdrop : rows.drop j = other :: rows.drop (j + 1) := by
        rw [List.drop_eq_getElem_cons hj]; congr 1; exact Option.some.inj ((List.getElem?_eq_getElem hj).symm.trans hother)
      rw [hdrop, List.foldl_cons] at hs'
      have h1l := rowOk_len hone'
      have h2l := rowOk_len hother'
      refine Ex.weak (V' := ("other", encL other) :: [("one", encL one), ("rows", .list (rows.map encL))]) ?_ (Knows.more _ _ hk)
      refine Ex.cons (Ex1.assign (d := .int ((0 : Nat) : Int)) ok (by exact ⟨rfl, .inl rfl⟩) (EvS.of Ev.cint) ?_ (nameNe (by decide)))
      refine Ex.cons (Ex1.whileL (fun f V ow => ow = .list "nodes" a (ns'.map encL) ∧ ∃ n : Nat, Knows V [("k", .int n), ("other", encL other), ("one", encL one), ("rows", .list (rows.map encL))] ∧ one.take n = other.take n ∧ n ≤ one.length ∧ n ≤ other.length ∧ f + n = one.length) ?_ one.length ⟨rfl, 0, .cons rfl (.cons rfl (.cons rfl (.cons rfl .nil))), by rw [List.take_zero, List.take_zero], Nat.zero_le _, Nat.zero_le _, rfl⟩)
      rintro f V ow ⟨rfl, n, hk, ht, hn1, hn2, hf⟩
      have len1 : CallTo D (k + 3) (.builtin "len") [encL one] (.int one.length) := by have := CallTo.lenList (D := D) (k := k + 3) (xs := one.map PyData.str) (small (by rw [List.length_map]; omega)); rw [List.length_map] at this; exact this
      have len2 : CallTo D (k + 3) (.builtin "len") [encL other] (.int other.length) := by have := CallTo.lenList (D := D) (k := k + 3) (xs := other.map PyData.str) (small (by rw [List.length_map]; omega)); rw [List.length_map] at this; exact this
      refine ⟨decide (n < min one.length other.length ∧ one[n]?.getD "" = other[n]?.getD ""), TrS.of (Tr.to (Tr.and (TrAnd.cons (b := decide (n < min one.length other.length)) ((Tr.cmp (Ev.name ok (hk "k" _ rfl)) (Ev.callB (EvV.boot ok rfl (T.free _ (by decide)) PyProof.Rows.Boot.«min») (EvL.cons (Ev.callB (EvV.boot ok rfl (T.free _ (by decide)) PyProof.Rows.Boot.«len») (EvL.cons (Ev.name ok (hk "one" _ rfl)) EvL.nil) len1) (EvL.cons (Ev.callB (EvV.boot ok rfl (T.free _ (by decide)) PyProof.Rows.Boot.«len») (EvL.cons (Ev.name ok (hk "other" _ rfl)) EvL.nil) len2) EvL.nil)) CallTo.min2) CmpR.ltInt).to (decide_eq_decide.mpr (by omega))) fun h => TrAnd.cons
        (Tr.cmp (Ev.sub (d := .str (one[n]?.getD "")) (Ev.name ok (hk "one" _ rfl)) (Ev.name ok (hk "k" _ rfl)) (GetR.list (by omega) (by omega) ?_)) (Ev.sub (d := .str (other[n]?.getD "")) (Ev.name ok (hk "other" _ rfl)) (Ev.name ok (hk "k" _ rfl)) (GetR.list (by omega) (by omega) ?_)) CmpR.eqStr) fun _ => TrAnd.nil)) ?_), fun hc => ?_, fun hc => ?_⟩
      · have h := of_decide_eq_true h
        have h : n < one.length := by omega
        rw [Int.toNat_natCast, List.getElem?_map, List.getElem?_eq_getElem h]; rfl
      · have h := of_decide_eq_true h
        have h : n < other.length := by omega
        rw [Int.toNat_natCast, List.getElem?_map, List.getElem?_eq_getElem h]; rfl
      · rw [Bool.and_true, ← Bool.decide_and]
      · have hc := of_decide_eq_false hc
        have hlcp : lcpS one other = one.take n := lcp_take ht hn1 hn2 fun q1 q2 e => hc ⟨by omega, by rw [e]⟩
        rw [hlcp] at hs'
        refine Ex.weak (V' := [("k", .int n), ("other", encL other), ("one", encL one), ("rows", .list (rows.map encL))]) ?_ hk
        have hu : ∀ {V' : Vars}, V'.lookup ("one" : Str) = some (encL one) → V'.lookup ("k" : Str) = some (PyData.int n) → ∀ {p1 p2 p3 p4 : Pos}, Ev D (k + 3) (fe 27 (T.at_ 27) L (T.pm 27) (T.cd 27) (T.doc 27)) V' (.Subscript (.Name "one" p1) (.Slice Option.none (Option.some (.Name "k" p2)) Option.none p3) p4) (encL (one.take n)) := fun h1 h2 =>
          (Ev.upto (Ev.name ok h1) (Ev.name ok h2) (small (by rw [List.length_map]; omega))).to (by rw [encL, List.map_take])
        have hnl := addN_len ns' (one.take n)
        refine Ex.cons (Ex1.ite (c := decide (one.take n ∉ ns')) (TrS.list (Tr.cmp (hu rfl rfl) (Ev.name ok rfl) ((CmpR.notIn (d := encL (one.take n)) (by exact lay_strs fun x hx => hone'.1 x (List.mem_of_mem_take hx)) (lay_encL hn') (depth_strs _)).to (any_encL _ _)))) (fun hm => ?_) (fun hm => ?_))
        · have hm := of_decide_eq_true hm
          have e : addN ns' (one.take n) = ns' ++ [one.take n] := if_neg hm
          rw [e] at hs' hnl
          refine Ex.cons (Ex1.append (d := encL (one.take n)) ok (EvS.of (hu rfl rfl)) (small (by rw [List.length_map]; omega)) (Ex.nil (Ex.nil ⟨ns' ++ [one.take n], by rw [List.map_append]; rfl, .cons rfl (.cons rfl .nil), hs', fun x hx => ?_, by omega⟩)))
          rcases List.mem_append.mp hx with hx | hx
          · exact hn' x hx
          · rw [List.mem_singleton.mp hx]; exact rowOk_take hone' n
        · have hm : one.take n ∈ ns' := by simpa using hm
          have e : addN ns' (one.take n) = ns' := if_pos hm
          rw [e] at hs'
          exact Ex.nil (Ex.nil ⟨ns', rfl, .cons rfl (.cons rfl .nil), hs', hn', by omega⟩)
      · have hc := of_decide_eq_true hc
        have h1 : n < one.length := by omega
        have h2 : n < other.length := by omega
        refine Ex.weak (V' := [("k", .int n), ("other", encL other), ("one", encL one), ("rows", .list (rows.map encL))]) ?_ hk
        refine Ex.cons (Ex1.aug (d := .int ((n + 1 : Nat) : Int)) ok (by exact ⟨rfl, .inl rfl⟩) rfl Ev.cint InR.addInt ?_ (nameNe (by decide)))
        refine Ex.nil ⟨f - 1, by omega, rfl, n + 1, .cons rfl (.cons rfl (.cons rfl (.cons rfl .nil))), ?_, by omega, by omega, by omega⟩
        have hc2 := hc.2
        rw [List.getElem?_eq_getElem h1, List.getElem?_eq_getElem h2] at hc2
        have hc2 : one[n] = other[n] := hc2
        rw [List.take_add_one, List.take_add_one, ht, List.getElem?_eq_getElem h1, List.getElem?_eq_getElem h2, hc2]
    · rintro V ow ⟨ns', rfl, hk, hs', hn', hl'⟩
      rw [List.length_map] at hs' hl'
      rw [List.drop_length] at hs'
      have hs' : ns' = nodesRow rows ns one := hs'
      subst hs'
      exact Ex.nil ⟨_, rfl, .cons (hk "rows" _ rfl) .nil, hs, hn', by omega⟩
  · rintro V ow ⟨ns, rfl, hk, hs, hn, hl⟩
    rw [List.length_map] at hs hl
    rw [List.drop_length] at hs
    have hs : ns = nodesS rows := hs
    rw [dueS, ← hs]
    have hl : ns.length ≤ 10001 := by omega
    refine Ex.freeze (Ex.weak (V' := [("nodes", .list (ns.map encL)), ("rows", .list (rows.map encL))]) ?_ (Knows.more _ _ hk))
    refine Ex.cons (Ex1.newDict0 ok (by exact ⟨rfl, .inl rfl⟩) rfl fun a2 => ?_)
    refine Ex.cons (Ex1.forItr (xs := ns.map encL) ok (by exact ⟨rfl, .inr ⟨rfl, _, rfl⟩⟩) (EvS.of (Ev.name ok rfl)) Itr.list
      (fun i V ow => ow = .dict "due" a2 (kvD (dueGo rows ns (ns.take i))) ∧ Knows V [("nodes", .list (ns.map encL)), ("rows", .list (rows.map encL))])
      ⟨rfl, .cons rfl (.cons rfl .nil)⟩ (fun i V ow h => by rw [h.1]; exact nameNeD (by decide)) ?_ ?_)
    · rintro i d V ow hd ⟨rfl, hk⟩
      obtain ⟨node, hnode, rfl, hi⟩ := mapGetL hd
      have hno := hn node (List.mem_of_getElem? hnode)
      have hnl := rowOk_len hno
      have hdl := dueGo_len rows ns (ns.take i)
      rw [List.length_take] at hdl
      have htk : dueGo rows ns (ns.take (i + 1)) = setK (dueGo rows ns (ns.take i)) (P node) (dueV rows ns node) := by
        unfold dueGo; rw [List.take_add_one, hnode]; rw [List.foldl_append]; rfl
      show Ex D _ _ _ _ _ (Turn _ (fun V ow => ow = .dict "due" a2 (kvD (dueGo rows ns (ns.take (i + 1)))) ∧ Knows V [("nodes", .list (ns.map encL)), ("rows", .list (rows.map encL))]))
      rw [htk]
      generalize dueGo rows ns (ns.take i) = due at hdl
      refine Ex.weak (V' := ("node", encL node) :: [("nodes", .list (ns.map encL)), ("rows", .list (rows.map encL))]) ?_ (Knows.more _ _ hk)
      refine Ex.cons (Ex1.assignComp ok (by exact ⟨rfl, .inl rfl⟩) (CompU.to (CompU.mk (xs := ns) (enc := encL) (p := fun one => decide (one.length < node.length ∧ node.take one.length = one)) (f := fun one => .int (one.length : Int)) (V' := [("node", encL node)])
        ⟨rfl, by decide +kernel, rfl, by decide +kernel, rfl, by decide, Got.cons rfl rfl rfl rfl .nil⟩ (Ev.name ok rfl) Itr.list (small (by omega)) (fun C one ho => ?_) (fun C one ho _ => ?_)) (d' := .list (((aboveS ns node).map List.length).map fun n : Nat => .int (n : Int))) (by rw [List.map_map]; rfl)) ?_ (nameNeD (by decide)))
      · have ho' := hn one ho
        have hol := rowOk_len ho'
        refine Tests.one (Tr.to (Tr.and (TrAnd.cons (b := decide (one.length < node.length)) ((Tr.cmp (Ev.callB (EvV.boot (compOk ok rfl) rfl (T.free _ (by decide)) PyProof.Rows.Boot.«len») (EvL.cons (Ev.name (compOk ok rfl) rfl) EvL.nil) (lenL hol)) (Ev.callB (EvV.boot (compOk ok rfl) rfl (T.free _ (by decide)) PyProof.Rows.Boot.«len») (EvL.cons (Ev.name (compOk ok rfl) rfl) EvL.nil) (lenL hnl)) CmpR.ltInt).to (decide_eq_decide.mpr (by omega))) fun _ =>
          TrAnd.cons (Tr.cmp (Ev.front (Ev.name (compOk ok rfl) rfl) (Ev.callB (EvV.boot (compOk ok rfl) rfl (T.free _ (by decide)) PyProof.Rows.Boot.«len») (EvL.cons (Ev.name (compOk ok rfl) rfl) EvL.nil) (lenL hol)) hnl) (Ev.name (compOk ok rfl) rfl) (eqL (rowOk_take hno _) ho')) fun _ => TrAnd.nil)) ?_)
        rw [Bool.and_true, ← Bool.decide_and]
      · exact Ev.callB (EvV.boot (compOk ok rfl) rfl (T.free _ (by decide)) PyProof.Rows.Boot.«len») (EvL.cons (Ev.name (compOk ok rfl) rfl) EvL.nil) (lenL (rowOk_len (hn one ho)))
      have hal : ((aboveS ns node).map List.length).length ≤ 10001 := by rw [List.length_map]; exact Nat.le_trans (List.length_filter_le _ _) hl
      generalize habove : (aboveS ns node).map List.length = ab at hal
      have hkS : kS ns node = maxN ab := by rw [kS, habove]
      refine Ex.cons (Ex1.assign (d := .int (kS ns node : Int)) ok (by exact ⟨rfl, .inl rfl⟩) (EvS.of (Ev.callB (EvV.boot ok rfl (T.free _ (by decide)) PyProof.Rows.Boot.«max») (EvL.cons ((Ev.bin (Ev.name ok rfl) (Ev.list (EvL.cons Ev.cint EvL.nil) (small (by simp))) (BinR.addList (small (by rw [List.length_map]; simp; omega)))).to (d' := .list ((ab ++ [0]).map fun n : Nat => .int (n : Int))) (by rw [List.map_append]; rfl)) EvL.nil)
        (CallTo.maxInts (by rw [hkS]; exact maxN_mem _) fun a ha => by rw [hkS]; rcases List.mem_append.mp ha with ha | ha; exact maxN_le ha; rw [List.mem_singleton.mp ha]; exact Nat.zero_le _))) ?_ (nameNeD (by decide)))
      refine Ex.weak (V' := [("k", .int (kS ns node : Int)), ("node", encL node), ("nodes", .list (ns.map encL)), ("rows", .list (rows.map encL))]) ?_ (Knows.cons rfl (.cons rfl (.cons rfl (.cons rfl .nil))))
      refine Ex.cons (Ex1.assignComp ok (by exact ⟨rfl, .inl rfl⟩) (CompU.to (CompU.mk (xs := rows) (enc := encL) (p := fun one => decide (one.take node.length = node)) (f := encL) (V' := [("node", encL node)])
        ⟨rfl, by decide +kernel, rfl, by decide +kernel, rfl, by decide, Got.cons rfl rfl rfl rfl .nil⟩ (Ev.name ok rfl) Itr.list (small (by omega)) (fun C one ho => ?_) (fun C one ho _ => ?_)) (d' := .list ((belowL rows node).map encL)) rfl) ?_ (nameNeD (by decide)))
      · have ho' := hr one ho
        exact Tests.one (Tr.cmp (Ev.front (Ev.name (compOk ok rfl) rfl) (Ev.callB (EvV.boot (compOk ok rfl) rfl (T.free _ (by decide)) PyProof.Rows.Boot.«len») (EvL.cons (Ev.name (compOk ok rfl) rfl) EvL.nil) (lenL hnl)) (rowOk_len ho')) (Ev.name (compOk ok rfl) rfl) (eqL (rowOk_take ho' _) hno))
      · exact Ev.name (compOk ok rfl) rfl
      have hbl : ∀ r ∈ belowL rows node, rowOk r := fun r h => hr r (List.mem_filter.mp h).1
      have hbz : (belowL rows node).length ≤ 100 := Nat.le_trans (List.length_filter_le _ _) hz
      have hdv : dueV rows ns node = .tuple [.str (P (node.take (kS ns node))), .str (Txt.join "/" (node.drop (kS ns node))), sharedOf (belowL rows node)] := rfl
      rw [hdv]
      generalize belowL rows node = bl at hbl hbz
      have hhead : rowOk (bl.head?.getD []) := by
        cases bl with
        | nil => exact ⟨fun _ h => (nomatch h), Nat.zero_le _⟩
        | cons b r => exact hbl b List.mem_cons_self
      refine Ex.cons (Ex1.assign (d := encL (bl.head?.getD [])) ok (by exact ⟨rfl, .inr ⟨rfl, _, rfl⟩⟩) (EvS.of (Ev.cond (c := decide (bl ≠ [])) (Tr.cmp (Ev.name ok rfl) (Ev.list EvL.nil (Nat.zero_le _)) (neNil hbl)) (fun h => ?_) (fun h => ?_))) ?_ (nameNeD (by decide)))
      · have h := of_decide_eq_true h
        obtain ⟨b, r, rfl⟩ : ∃ b r, bl = b :: r := by
          cases bl with
          | nil => exact absurd rfl h
          | cons b r => exact ⟨b, r, rfl⟩
        exact Ev.sub (Ev.name (d := .list ((b :: r).map encL)) ok rfl) Ev.cint (GetR.list (by decide) (by decide) rfl)
      · have h : bl = [] := by simpa using h
        subst h
        exact Ev.list EvL.nil (Nat.zero_le _)
      refine Ex.cons (Ex1.whileL (fun f V ow => ow = .dict "due" a2 (kvD due) ∧ ∃ nm, Knows V [("names", encL nm), ("below", .list (bl.map encL)), ("k", .int (kS ns node : Int)), ("node", encL node), ("nodes", .list (ns.map encL)), ("rows", .list (rows.map encL))] ∧ f = nm.length ∧ cutN bl f nm = namesOf bl ∧ rowOk nm) ?_ (bl.head?.getD []).length
        ⟨rfl, _, .cons rfl (.cons rfl (.cons rfl (.cons rfl (.cons rfl (.cons rfl .nil))))), rfl, rfl, hhead⟩)
      rintro f V ow ⟨rfl, nm, hk, hf, hc, hnm⟩
      have hnml := rowOk_len hnm
      have hodd : ∀ r ∈ oddL bl nm, rowOk r := fun r h => hbl r (List.mem_filter.mp h).1
      refine ⟨decide (oddL bl nm ≠ []), ?_, fun hcd => ?_, fun hcd => ?_⟩
      · intro A hA G s Q E c hQ
        refine (TrS.of (V := [("names", encL nm), ("below", .list (bl.map encL))]) (Tr.cmp (d1 := .list ((oddL bl nm).map encL)) ?_ (Ev.list EvL.nil (Nat.zero_le _)) (neNil hodd))) A hA G s Q E (c.weak (Knows.cons (hk "names" _ rfl) (.cons (hk "below" _ rfl) .nil))) hQ
        refine Ev.to (Ev.comp (xs := bl) (enc := encL) (p := fun one => decide (one.take nm.length ≠ nm)) (f := encL) (V' := [("names", encL nm)])
          ⟨rfl, by decide +kernel, rfl, by decide +kernel, rfl, by decide, Got.cons rfl rfl rfl rfl .nil⟩ (Ev.name ok rfl) Itr.list (small (by omega)) (fun C one ho => ?_) (fun C one ho _ => ?_)) rfl
        · have ho' := hbl one ho
          exact Tests.one (Tr.cmp (Ev.front (Ev.name (compOk ok rfl) rfl) (Ev.callB (EvV.boot (compOk ok rfl) rfl (T.free _ (by decide)) PyProof.Rows.Boot.«len») (EvL.cons (Ev.name (compOk ok rfl) rfl) EvL.nil) (lenL hnml)) (rowOk_len ho')) (Ev.name (compOk ok rfl) rfl) (neL (rowOk_take ho' _) hnm))
        · exact Ev.name (compOk ok rfl) rfl
      · have hcd : oddL bl nm = [] := by simpa using hcd
        have hnames : namesOf bl = nm := by
          rw [← hc]
          cases f with
          | zero => rfl
          | succ f => rw [cutN, if_pos hcd]
        refine Ex.weak (V' := [("names", encL nm), ("below", .list (bl.map encL)), ("k", .int (kS ns node : Int)), ("node", encL node), ("nodes", .list (ns.map encL)), ("rows", .list (rows.map encL))]) ?_ hk
        refine Ex.cons (Ex1.assign (d := sharedOf bl) ok (by exact ⟨rfl, .inl rfl⟩) (EvS.of (Ev.cond (c := decide (bl ≠ [])) (Tr.cmp (Ev.name ok rfl) (Ev.list EvL.nil (Nat.zero_le _)) (neNil hbl)) (fun h => ?_) (fun h => ?_))) ?_ (nameNeD (by decide)))
        · have h := of_decide_eq_true h
          rw [sharedOf, if_neg h, hnames]
          exact Ev.tuple (EvL.cons (Ev.place (Ev.name ok rfl) hnm.2) (EvL.cons (Ev.join Ev.cstr (Ev.name ok rfl) (lens_joinOk (by have := hnm.2; omega))) EvL.nil)) (small (by simp))
        · have h : bl = [] := by simpa using h
          rw [sharedOf, if_pos h]
          exact Ev.cnone
        have hd1 := rowOk_drop hno (kS ns node)
        refine Ex.cons (Ex1.setK ok (EvS.of (Ev.tuple (EvL.cons (Ev.place (Ev.front (Ev.name ok rfl) (Ev.name ok rfl) hnl) (rowOk_take hno _).2) (EvL.cons (Ev.join Ev.cstr ((Ev.from (Ev.name (d := encL node) ok rfl) (Ev.name ok rfl) (small (by rw [List.length_map]; omega))).to (d' := encL (node.drop (kS ns node))) (by rw [encL, List.map_drop])) (lens_joinOk (by omega))) (EvL.cons (Ev.name ok rfl) EvL.nil))) (small (by simp))))
          (EvS.of (Ev.place (Ev.name ok rfl) hno.2)) (small (by omega)) ?_)
        exact Ex.nil ⟨rfl, .cons rfl (.cons rfl .nil)⟩
      · have hcd := of_decide_eq_true hcd
        cases f with
        | zero =>
          have : nm = [] := List.length_eq_zero_iff.mp hf.symm
          subst this
          exact absurd (by unfold oddL; simp) hcd
        | succ f =>
        rw [cutN, if_neg hcd] at hc
        refine Ex.weak (V' := [("names", encL nm), ("below", .list (bl.map encL)), ("k", .int (kS ns node : Int)), ("node", encL node), ("nodes", .list (ns.map encL)), ("rows", .list (rows.map encL))]) ?_ hk
        refine Ex.cons (Ex1.assign (d := encL (nm.take (nm.length - 1))) ok (by exact ⟨rfl, .inr ⟨rfl, _, rfl⟩⟩) (EvS.of ((Ev.butLast (Ev.name (d := encL nm) ok rfl) (Ev.neg Ev.cint) (small (by rw [List.length_map]; omega))).to (by rw [encL, List.length_map, List.map_take]))) ?_ (nameNeD (by decide)))
        exact Ex.nil ⟨f, Nat.lt_succ_self _, rfl, nm.take (nm.length - 1), .cons rfl (.cons rfl (.cons rfl (.cons rfl (.cons rfl (.cons rfl .nil))))), by rw [List.length_take]; omega, hc, rowOk_take hnm _⟩
    · rintro V ow ⟨rfl, hk⟩
      rw [List.length_map, List.take_length]
      refine Ex.freezeD (Ex.cons (Ex1.ret (EvS.of (Ev.name ok rfl)) rfl))
end
end Mine
end
section
set_option maxRecDepth 100000
namespace Mine
/-! the sort's questions, answered by a fixed order -/
def sure {α : Type} (n : Nat) (lt : Nat → Nat → Bool) : KasT α → (α → Prop) → Prop
  | .ret a, Q => Q a
  | .ask i j k, Q => i < n ∧ j < n ∧ i ≠ j ∧ sure n lt (k (lt i j)) Q
theorem sure_bind {α β : Type} {n : Nat} {lt : Nat → Nat → Bool} {f : α → KasT β} {Q : β → Prop} : ∀ (t : KasT α), sure n lt t (fun a => sure n lt (f a) Q) → sure n lt (t.bind f) Q
  | .ret _, h => h
  | .ask i j k, ⟨h1, h2, h3, h⟩ => ⟨h1, h2, h3, sure_bind (k _) h⟩
theorem sure_wp {α : Type} {n : Nat} {lt : Nat → Nat → Bool} {ask : Nat → Nat → (Bool → Shared → Prop) → Shared → Prop} {s : Shared} {Q : α → Prop} {G : α → Shared → Prop}
    (ha : ∀ i j C, i < n → j < n → i ≠ j → C (lt i j) s → ask i j C s) (hq : ∀ a, Q a → G a s) : ∀ (t : KasT α), sure n lt t Q → t.kasWp ask G s
  | .ret a, h => hq a h
  | .ask i j k, ⟨h1, h2, h3, h⟩ => ha i j _ h1 h2 h3 (sure_wp ha hq (k _) h)
abbrev gp (p : Array Nat) (i : Nat) : Nat := p.getD i 0
def IsP (n : Nat) (p : Array Nat) : Prop := p.toList.Perm (List.range n)
theorem IsP.size {n : Nat} {p : Array Nat} (h : IsP n p) : p.size = n := by
  have := h.length_eq
  rw [List.length_range] at this
  simpa using this
theorem gp_eq {p : Array Nat} {i : Nat} (h : i < p.size) : gp p i = p[i] := by simp [gp, Array.getD, h]
theorem IsP.lt {n : Nat} {p : Array Nat} (h : IsP n p) {i : Nat} (hi : i < n) : gp p i < n := by
  have hi' : i < p.size := by rw [h.size]; exact hi
  rw [gp_eq hi']
  have : p[i] ∈ p.toList := by simp
  exact List.mem_range.mp (h.mem_iff.mp this)
theorem IsP.ne {n : Nat} {p : Array Nat} (h : IsP n p) {i j : Nat} (hi : i < n) (hj : j < n) (hne : i ≠ j) : gp p i ≠ gp p j := by
  have hi' : i < p.size := by rw [h.size]; exact hi
  have hj' : j < p.size := by rw [h.size]; exact hj
  rw [gp_eq hi', gp_eq hj']
  have nd : p.toList.Nodup := h.nodup_iff.mpr List.nodup_range
  intro e
  have e' : p.toList[i]'(by simpa using hi') = p.toList[j]'(by simpa using hj') := by simpa using e
  have pw := List.pairwise_iff_getElem.mp nd
  rcases Nat.lt_or_gt_of_ne hne with q | q
  · exact pw i j _ _ q e'
  · exact pw j i _ _ q e'.symm
theorem IsP.perm {n : Nat} {p q : Array Nat} (h : IsP n p) (hq : q.Perm p) : IsP n q := (Array.perm_iff_toList_perm.mp hq).trans h
theorem gp_congr {p q : Array Nat} {i j : Nat} (h : p[i]? = q[j]?) : gp p i = gp q j := by
  unfold gp
  rw [Array.getD_eq_getD_getElem?, Array.getD_eq_getD_getElem?, h]
structure Ord (n : Nat) (lt : Nat → Nat → Bool) : Prop where
  tr : ∀ i j k, i < n → j < n → k < n → lt i j = true → lt j k = true → lt i k = true
  tot : ∀ i j, i < n → j < n → i ≠ j → lt i j = !lt j i
section
variable {n : Nat} {lt : Nat → Nat → Bool}
def Up (lt : Nat → Nat → Bool) (p : Array Nat) (k : Nat) : Prop := ∀ i j, i < j → j < k → lt (gp p i) (gp p j) = true
def Dn (lt : Nat → Nat → Bool) (p : Array Nat) (k : Nat) : Prop := ∀ i j, i < j → j < k → lt (gp p j) (gp p i) = true
theorem Ord.flip (O : Ord n lt) {p : Array Nat} (hp : IsP n p) {i j : Nat} (hi : i < n) (hj : j < n) (hne : i ≠ j) (h : lt (gp p i) (gp p j) = false) : lt (gp p j) (gp p i) = true := by
  rw [O.tot _ _ (hp.lt hj) (hp.lt hi) (hp.ne hj hi (Ne.symm hne)), h]; rfl
theorem Ord.no (O : Ord n lt) {p : Array Nat} (hp : IsP n p) {i j : Nat} (hi : i < n) (hj : j < n) (hne : i ≠ j) (h : lt (gp p i) (gp p j) = true) : lt (gp p j) (gp p i) = false := by
  rw [O.tot _ _ (hp.lt hj) (hp.lt hi) (hp.ne hj hi (Ne.symm hne)), h]; rfl
theorem Up.one {p : Array Nat} : Up lt p 1 := fun i j h1 h2 => by omega
theorem Dn.one {p : Array Nat} : Dn lt p 1 := fun i j h1 h2 => by omega
theorem Up.more (O : Ord n lt) {p : Array Nat} (hp : IsP n p) {m : Nat} (hm : 1 ≤ m) (hn : m < n) (h : Up lt p m) (hl : lt (gp p (m - 1)) (gp p m) = true) : Up lt p (m + 1) := fun i j hij hj => by
  by_cases e : j = m
  · subst e
    by_cases e2 : i = j - 1
    · subst e2; exact hl
    · exact O.tr _ _ _ (hp.lt (by omega)) (hp.lt (by omega)) (hp.lt hn) (h i (j - 1) (by omega) (by omega)) hl
  · exact h i j hij (by omega)
theorem Dn.more (O : Ord n lt) {p : Array Nat} (hp : IsP n p) {m : Nat} (hm : 1 ≤ m) (hn : m < n) (h : Dn lt p m) (hl : lt (gp p m) (gp p (m - 1)) = true) : Dn lt p (m + 1) := fun i j hij hj => by
  by_cases e : j = m
  · subst e
    by_cases e2 : i = j - 1
    · subst e2; exact hl
    · exact O.tr _ _ _ (hp.lt hn) (hp.lt (by omega)) (hp.lt (by omega)) hl (h i (j - 1) (by omega) (by omega))
  · exact h i j hij (by omega)
theorem asc_sure (O : Ord n lt) {p : Array Nat} (hp : IsP n p) {Q : Nat → Prop} : ∀ (f m : Nat), 1 ≤ m → m + f ≤ n → Up lt p m → (∀ m', m ≤ m' → m' ≤ m + f → Up lt p m' → (m' = m + f ∨ lt (gp p m') (gp p (m' - 1)) = true) → Q m') → sure n lt (kas_asc p f m) Q
  | 0, m, h1, h2, hu, hq => hq m (Nat.le_refl _) (Nat.le_refl _) hu (.inl rfl)
  | f + 1, m, h1, h2, hu, hq => by
    refine ⟨hp.lt (by omega), hp.lt (by omega), hp.ne (by omega) (by omega) (by omega), ?_⟩
    show sure n lt (if lt (gp p m) (gp p (m - 1)) = true then KasT.ret m else kas_asc p f (m + 1)) Q
    cases hc : lt (gp p m) (gp p (m - 1)) with
    | true => exact hq m (Nat.le_refl _) (by omega) hu (.inr hc)
    | false =>
      rw [if_neg (by simp)]
      exact asc_sure O hp f (m + 1) (by omega) (by omega) (hu.more O hp h1 (by omega) (O.flip hp (by omega) (by omega) (by omega) hc)) fun m' a1 a2 a3 a4 => hq m' (by omega) (by omega) a3 (a4.imp (fun z => by omega) id)
theorem desc_sure (O : Ord n lt) {p : Array Nat} (hp : IsP n p) {Q : Array Nat × Nat × Nat → Prop} : ∀ (f m : Nat), 1 ≤ m → m + f ≤ n → Dn lt p m → (∀ m', m ≤ m' → m' ≤ m + f → Dn lt p m' → Q (p, m', 0)) → sure n lt (kas_desc f p m 0) Q
  | 0, m, h1, h2, hd, hq => hq m (Nat.le_refl _) (Nat.le_refl _) hd
  | f + 1, m, h1, h2, hd, hq => by
    refine ⟨hp.lt (by omega), hp.lt (by omega), hp.ne (by omega) (by omega) (by omega), ?_⟩
    show sure n lt (if lt (gp p m) (gp p (m - 1)) = true then (if 0 > 0 then kas_desc f (kas_rev p (m - (0 + 1)) m) (m + 1) 0 else kas_desc f p (m + 1) 0) else .ask (gp p (m - 1)) (gp p m) fun d => if d = true then .ret (p, m, 0) else kas_desc f p (m + 1) (0 + 1)) Q
    cases hc : lt (gp p m) (gp p (m - 1)) with
    | true =>
      rw [if_pos rfl, if_neg (by omega)]
      exact desc_sure O hp f (m + 1) (by omega) (by omega) (hd.more O hp h1 (by omega) hc) fun m' a1 a2 a3 => hq m' (by omega) (by omega) a3
    | false =>
      rw [if_neg (by simp)]
      refine ⟨hp.lt (by omega), hp.lt (by omega), hp.ne (by omega) (by omega) (by omega), ?_⟩
      rw [O.flip hp (by omega) (by omega) (by omega) hc]
      exact hq m (Nat.le_refl _) (by omega) hd
theorem gp_rev {p : Array Nat} {m : Nat} (hm : m ≤ p.size) (k : Nat) : gp (kas_rev p 0 m) k = if k < m then gp p (m - 1 - k) else gp p k := by
  have e := getElem?_mirror_all (xs := p) (i := 0) hm k
  by_cases h : k < m
  · rw [if_pos ⟨Nat.zero_le _, h⟩, Nat.zero_add] at e
    rw [if_pos h]; exact gp_congr e
  · rw [if_neg (fun q => h q.2)] at e
    rw [if_neg h]; exact gp_congr e
theorem rev_isP {p : Array Nat} (hp : IsP n p) (i j : Nat) : IsP n (kas_rev p i j) := hp.perm (mirror_perm _ _ _ _)
theorem Dn.rev {p : Array Nat} {m : Nat} (hm : m ≤ p.size) (h : Dn lt p m) : Up lt (kas_rev p 0 m) m := fun i j hij hj => by
  rw [gp_rev hm, gp_rev hm, if_pos (by omega), if_pos hj]
  exact h _ _ (by omega) (by omega)
theorem tail3_sure (O : Ord n lt) {p : Array Nat} (hp : IsP n p) {m : Nat} {Q : Nat × Array Nat → Prop} (h1 : 1 ≤ m) (hm : m ≤ n) (hd : Dn lt p m) (hq : ∀ m' p', 1 ≤ m' → m' ≤ n → IsP n p' → Up lt p' m' → Q (m', p')) : sure n lt (kas_tail3 m n p) Q := by
  unfold kas_tail3
  refine sure_bind _ ?_
  exact asc_sure O (rev_isP hp 0 m) (n - m) m h1 (by omega) (hd.rev (by rw [hp.size]; exact hm)) fun m' a1 a2 a3 _ => hq m' _ (by omega) (by omega) (rev_isP hp 0 m) a3
theorem count_sure (O : Ord n lt) {p : Array Nat} (hp : IsP n p) {Q : Nat × Array Nat → Prop} (h1 : 1 ≤ n) (hq : ∀ m' p', 1 ≤ m' → m' ≤ n → IsP n p' → Up lt p' m' → Q (m', p')) : sure n lt (kas_count n p) Q := by
  unfold kas_count
  refine sure_bind _ ?_
  refine asc_sure O hp (n - 1) 1 (Nat.le_refl _) (by omega) Up.one fun m a1 a2 a3 a4 => ?_
  by_cases e : m = n
  · rw [if_pos (by simpa using e)]
    exact hq m p a1 (by omega) hp a3
  · rw [if_neg (by simpa using e)]
    by_cases h : m > 1
    · rw [if_pos h]
      refine ⟨hp.lt (by omega), hp.lt (by omega), hp.ne (by omega) (by omega) (by omega), ?_⟩
      rw [a3 0 (m - 1) (by omega) (by omega)]
      exact hq m p a1 (by omega) hp a3
    · rw [if_neg h]
      obtain rfl : m = 1 := by omega
      unfold kas_descPart
      refine sure_bind _ ?_
      have h2 : Dn lt p 2 := Dn.one.more O hp (Nat.le_refl _) (by omega) (a4.resolve_left (by omega))
      refine desc_sure O hp (n - (1 + 1)) (1 + 1) (by omega) (by omega) h2 fun m' b1 b2 b3 => ?_
      show sure n lt (kas_tail3 m' n p) Q
      exact tail3_sure O hp (by omega) (by omega) b3 hq
theorem place_sure (O : Ord n lt) {p : Array Nat} (hp : IsP n p) {k : Nat} (hk : k < n) {Q : Nat → Prop} (hu : Up lt p k) : ∀ (f l r : Nat), r - l ≤ f → l ≤ r → r ≤ k → (∀ i, i < l → lt (gp p i) (gp p k) = true) → (∀ i, r ≤ i → i < k → lt (gp p k) (gp p i) = true) →
    (∀ m, m ≤ k → (∀ i, i < m → lt (gp p i) (gp p k) = true) → (∀ i, m ≤ i → i < k → lt (gp p k) (gp p i) = true) → Q m) → sure n lt (kas_place p k f l r) Q
  | 0, l, r, hf, h1, h2, hl, hr, hq => by
    obtain rfl : l = r := by omega
    exact hq l h2 hl hr
  | f + 1, l, r, hf, h1, h2, hl, hr, hq => by
    unfold kas_place
    by_cases e : l ≥ r
    · rw [if_pos e]
      obtain rfl : l = r := by omega
      exact hq l h2 hl hr
    · rw [if_neg e]
      refine ⟨hp.lt hk, hp.lt (by omega), hp.ne hk (by omega) (by omega), ?_⟩
      show sure n lt (if lt (gp p k) (gp p ((l + r) / 2)) = true then kas_place p k f l ((l + r) / 2) else kas_place p k f ((l + r) / 2 + 1) r) Q
      cases hc : lt (gp p k) (gp p ((l + r) / 2)) with
      | true =>
        rw [if_pos rfl]
        refine place_sure O hp hk hu f l ((l + r) / 2) (by omega) (by omega) (by omega) hl (fun i a1 a2 => ?_) hq
        by_cases e2 : i = (l + r) / 2
        · rw [e2]; exact hc
        · exact O.tr _ _ _ (hp.lt hk) (hp.lt (by omega)) (hp.lt (by omega)) hc (hu _ _ (by omega) a2)
      | false =>
        rw [if_neg (by simp)]
        have hc' := O.flip hp hk (by omega) (by omega) hc
        refine place_sure O hp hk hu f ((l + r) / 2 + 1) r (by omega) (by omega) h2 (fun i a1 => ?_) hr hq
        by_cases e2 : i = (l + r) / 2
        · rw [e2]; exact hc'
        · exact O.tr _ _ _ (hp.lt (by omega)) (hp.lt (by omega)) (hp.lt hk) (hu i _ (by omega) (by omega)) hc'
theorem gp_bubble {p : Array Nat} {k m : Nat} (hk : k < p.size) (hm : m ≤ k) (i : Nat) : gp (bubble p k (k - m)) i = if i = m then gp p k else if m < i ∧ i ≤ k then gp p (i - 1) else gp p i := by
  have e := getElem?_bubble hk (k - m) (by omega) i
  have e0 : k - (k - m) = m := by omega
  rw [e0] at e
  by_cases h1 : i = m
  · rw [if_pos h1] at e ⊢; exact gp_congr e
  · rw [if_neg h1] at e ⊢
    by_cases h2 : m < i ∧ i ≤ k
    · rw [if_pos h2] at e ⊢; exact gp_congr e
    · rw [if_neg h2] at e ⊢; exact gp_congr e
theorem bin_sure (O : Ord n lt) {Q : Array Nat → Prop} (hq : ∀ p, IsP n p → Up lt p n → Q p) : ∀ (f : Nat) {p : Array Nat} (k : Nat), k + f = n → IsP n p → Up lt p k → sure n lt (kas_bin f p k) Q
  | 0, p, k, hk, hp, hu => hq p hp (by have : k = n := by omega
                                       rwa [this] at hu)
  | f + 1, p, k, hk, hp, hu => by
    have hkn : k < n := by omega
    unfold kas_bin
    refine sure_bind _ ?_
    refine place_sure O hp hkn hu k 0 k (by omega) (by omega) (Nat.le_refl _) (fun i h => by omega) (fun i h1 h2 => by omega) fun m hm hl hr => ?_
    refine bin_sure O hq f (k + 1) (by omega) (hp.perm (bubble_perm _ _ _)) fun i j hij hj => ?_
    have hks : k < p.size := by rw [hp.size]; exact hkn
    rw [gp_bubble hks hm, gp_bubble hks hm]
    by_cases ei : i = m
    · rw [if_pos ei, if_neg (by omega), if_pos (by omega)]
      exact hr _ (by omega) (by omega)
    · rw [if_neg ei]
      by_cases ej : j = m
      · rw [if_pos ej, if_neg (by omega)]
        exact hl i (by omega)
      · rw [if_neg ej]
        by_cases hi2 : m < i ∧ i ≤ k
        · rw [if_pos hi2, if_pos (by omega)]
          exact hu _ _ (by omega) (by omega)
        · rw [if_neg hi2]
          by_cases hj2 : m < j ∧ j ≤ k
          · rw [if_pos hj2]; exact hu _ _ (by omega) (by omega)
          · rw [if_neg hj2]; exact hu _ _ hij (by omega)
theorem sort_sure (O : Ord n lt) (h1 : 1 ≤ n) {Q : Array Nat → Prop} (hq : ∀ p, IsP n p → Up lt p n → Q p) : sure n lt (kas_sort n) Q := by
  unfold kas_sort
  refine sure_bind _ ?_
  have h0 : IsP n (List.toArray (List.range n)) := by unfold IsP; simp
  refine count_sure O h0 h1 fun m p a1 a2 a3 a4 => ?_
  show sure n lt (if m < n then kas_bin (n - max m 1) p (max m 1) else .ret p) Q
  by_cases h : m < n
  · rw [if_pos h]
    have : max m 1 = m := by omega
    rw [this]
    exact bin_sure O hq (n - m) m (by omega) a3 a4
  · rw [if_neg h]
    obtain rfl : m = n := by omega
    exact hq p a3 a4
end
end Mine
end
section
set_option maxRecDepth 100000
namespace Mine
abbrev pairD (p : Str × PyData) : PyData := .tuple [.str p.1, p.2]
abbrev dfl : Str × PyData := (Str.empty, .none)
abbrev sLt (p q : Str × PyData) : Prop := p.1.cps.toList < q.1.cps.toList
section
variable {prog : Program} {w : World} {D : Md prog w} {k : Nat}
theorem pair_at {G : Gh} {vs : List Value} {xs : List (Str × PyData)} (h : RdAll prog w G vs (xs.map pairD)) {i : Nat} {p : Str × PyData} (hp : xs[i]? = some p) :
    ∃ a o t v n, vs[i]? = some (.ref a) ∧ G a = some o ∧ o.cls = .type "tuple" ∧ o.data = .seq [.str p.1 t, v].toArray n := by
  obtain ⟨v, hv, r⟩ := h.get (i := i) (d := pairD p) (by rw [List.getElem?_map, hp]; rfl)
  cases r with
  | tuple e c z q =>
    cases q with
    | cons q1 q2 =>
      cases q1
      cases q2 with
      | cons q3 q4 => cases q4; exact ⟨_, _, _, _, _, hv, e, c, z⟩
theorem pair_tups {G : Gh} {h : Heap} (hi : Sub G h) : ∀ {xs : List (Str × PyData)} {vs : List Value}, RdAll prog w G vs (xs.map pairD) → ∃ fs, KatTups h vs fs ∧ fs.length = vs.length ∧ ∀ v ∈ fs, ∃ x t, v = .str x t
  | [], _, .nil => ⟨[], .nil, rfl, fun _ h => nomatch h⟩
  | p :: r, _, .cons a q => by
    obtain ⟨fs, h1, h2, h3⟩ := pair_tups hi (xs := r) q
    cases a with
    | tuple e c z q =>
      cases q with
      | cons q1 q2 =>
        cases q1 with
        | str x t =>
        refine ⟨.str p.1 t :: fs, .cons (hi _ _ e) c z (by rfl) h1, by simp [h2], fun v hv => ?_⟩
        rcases List.mem_cons.mp hv with rfl | hv
        · exact ⟨_, _, rfl⟩
        · exact h3 v hv
theorem looks_str {M : Model} {h : Heap} {x : Str} {t : Tok} : Looks M h (typeOf (.str x t)) (.type "str") := Looks.of_pure rfl
def ltX (xs : List (Str × PyData)) (i j : Nat) : Bool := decide (sLt (xs.getD i dfl) (xs.getD j dfl))
theorem str_cps_inj {x y : Str} (h : x.cps.toList = y.cps.toList) : x = y := by cases x; cases y; simp only [Str.mk.injEq]; exact Array.toList_inj.mp h
theorem getD_at {xs : List (Str × PyData)} {i : Nat} (h : i < xs.length) : xs[i]? = some (xs.getD i dfl) := by simp [h]
theorem ltX_ord {xs : List (Str × PyData)} (nd : (xs.map (·.1)).Nodup) : Ord xs.length (ltX xs) where
  tr i j k _ _ _ h1 h2 := decide_eq_true (List.lt_trans (of_decide_eq_true h1) (of_decide_eq_true h2))
  tot i j hi hj hne := by
    have hk : (xs.getD i dfl).1.cps.toList ≠ (xs.getD j dfl).1.cps.toList := fun e => by
      have e := str_cps_inj e
      have pw := List.pairwise_iff_getElem.mp nd
      have g : ∀ k (h : k < xs.length), (xs.map (·.1))[k]'(by simpa using h) = (xs.getD k dfl).1 := fun k h => by simp [h]
      rcases Nat.lt_or_gt_of_ne hne with q | q
      · exact pw i j (by simpa using hi) (by simpa using hj) q (by rw [g i hi, g j hj, e])
      · exact pw j i (by simpa using hj) (by simpa using hi) q (by rw [g i hi, g j hj, e])
    unfold ltX
    by_cases h : sLt (xs.getD i dfl) (xs.getD j dfl)
    · rw [decide_eq_true h, decide_eq_false (fun q => List.lt_irrefl _ (List.lt_trans h q))]; rfl
    · rw [decide_eq_false h, decide_eq_true (Classical.byContradiction fun q => hk (List.le_antisymm (List.not_lt.mp q) (List.not_lt.mp h)))]; rfl
theorem rd_pick {G : Gh} {vs : List Value} {xs : List (Str × PyData)} (h : RdAll prog w G vs (xs.map pairD)) : ∀ (l : List Nat), (∀ i ∈ l, i < xs.length) → RdAll prog w G (l.map fun i => vs.getD i Value.none) ((l.map fun i => xs.getD i dfl).map pairD)
  | [], _ => .nil
  | i :: l, hl => by
    obtain ⟨v, hv, r⟩ := h.get (i := i) (d := pairD (xs.getD i dfl)) (by rw [List.getElem?_map, getD_at (hl i List.mem_cons_self)]; rfl)
    refine .cons ?_ (rd_pick h l fun j hj => hl j (List.mem_cons_of_mem _ hj))
    have e : vs.getD i Value.none = v := by simp [hv]
    show Rd prog w G (vs.getD i Value.none) _
    rw [e]; exact r
variable {A : Around} {E : Value → Shared → Prop} {s : Shared} {G : Gh} {vs : List Value} {xs : List (Str × PyData)}
theorem ask_pairs (hi : Sub G s.heap) (rs : RdAll prog w G vs (xs.map pairD)) (nd : (xs.map (·.1)).Nodup) {i j : Nat} {C : Bool → Shared → Prop} (h1 : i < xs.length) (h2 : j < xs.length) (hne : i ≠ j) (hC : C (ltX xs i j) s) :
    kas_ask prog w A (tuples' true) vs i j C s := by
  obtain ⟨a, o, t, v, n, e1, e2, e3, e4⟩ := pair_at rs (getD_at h1)
  obtain ⟨a', o', t', v', n', e1', e2', e3', e4'⟩ := pair_at rs (getD_at h2)
  have g1 : vs.getD i Value.none = .ref a := by simp [e1]
  have g2 : vs.getD j Value.none = .ref a' := by simp [e1']
  unfold kas_ask
  rw [g1, g2]
  refine kat_lt (hi _ _ e2) e4 (hi _ _ e2') e4' ?_
  show KatLex prog w A true _ C ([(Value.str (xs.getD i dfl).1 t, Value.str (xs.getD j dfl).1 t'), (v, v')]) 0 s
  have hk : (xs.getD i dfl).1 ≠ (xs.getD j dfl).1 := fun e => by
    have pw := List.pairwise_iff_getElem.mp nd
    have g : ∀ k (h : k < xs.length), (xs.map (·.1))[k]'(by simpa using h) = (xs.getD k dfl).1 := fun k h => by simp [h]
    rcases Nat.lt_or_gt_of_ne hne with q | q
    · exact pw i j (by simpa using h1) (by simpa using h2) q (by rw [g i h1, g j h2, e])
    · exact pw j i (by simpa using h2) (by simpa using h1) q (by rw [g i h1, g j h2, e])
  refine kat_cons (wpAny_eqBool_str ?_)
  rw [decide_eq_false hk]
  refine kat_no ?_
  exact oneLt_str hC
theorem sub_update {a : Addr} {f : Obj → Obj} (hi : Sub G s.heap) (ga : G a = none) : Sub G (s.heap.update a f) := fun b o e => by
  rw [Heap.get?_update_ne _ _ _ _ (fun q => by rw [q, ga] at e; cases e)]
  exact hi b o e
theorem sort_pairs {a : Addr} {n : Nat} {P : Fin → Shared → Prop} (ho : s.heap.get? a = some (seqObj "list" vs.toArray n)) (ga : G a = none) (hi : Sub G s.heap) (rs : RdAll prog w G vs (xs.map pairD)) (nd : (xs.map (·.1)).Nodup) (h64 : xs.length < 64)
    (h : ∀ (out : List Value) (ys : List (Str × PyData)), ys.Perm xs → ys.Pairwise sLt → RdAll prog w G out (ys.map pairD) → P (.done (.ret .none)) { s with heap := sortedHeap s.heap a vs out.toArray }) :
    wpAny (model prog w) A (Builtin.«list.sort» ⟨[.ref a], []⟩) P E s := by
  have hl : vs.length = xs.length := by rw [rs.length, List.length_map]
  rw [list_sort_plain]
  have ha : a < s.heap.objs.size := Heap.lt_size ho
  refine wpAny_bind (listItems_at ho rfl ?_)
  refine wpAny_bind (listUpdate_at ho rfl ?_ (by rw [List.size_toArray, sizeLine_eq]; omega) (Nat.zero_le _))
  obtain ⟨e1, ho1⟩ : ∃ e1, (s.heap.update a (Obj.mapSeq fun _ => #[])).get? a = some (seqObj "list" #[] e1) := ⟨_, get?_update_seq ho (fun _ => #[])⟩
  refine wpAny_bind (seqEpoch_at ho1 rfl ?_)
  refine wpAny_bind (wpAny_newTuple ?_ (by show vs.length ≤ _; rw [sizeLine_eq]; omega))
  refine wpAny_bind (wpAny_newList ?_ (Nat.zero_le _))
  refine wpAny_holding ?_
  have ho6 : (((s.heap.update a (Obj.mapSeq fun _ => #[])).push (seqObj "tuple" vs.toArray 0)).push (seqObj "list" #[] 0)).get? a = some (seqObj "list" #[] e1) := by
    rw [Heap.get?_push_ne _ _ _ (by rw [size_push', Heap.size_update]; exact Nat.ne_of_lt (Nat.lt_succ_of_lt ha)), Heap.get?_push_ne _ _ _ (by rw [Heap.size_update]; exact Nat.ne_of_lt ha)]
    exact ho1
  have hi6 : Sub G (((s.heap.update a (Obj.mapSeq fun _ => #[])).push (seqObj "tuple" vs.toArray 0)).push (seqObj "list" #[] 0)) := fun b o e =>
    Heap.get?_push_of_some _ (Heap.get?_push_of_some _ (sub_update hi ga b o e))
  show wpAny (model prog w) A _ P E { s with heap := ((s.heap.update a (Obj.mapSeq fun _ => #[])).push (seqObj "tuple" vs.toArray 0)).push (seqObj "list" #[] 0) }
  dsimp only
  have hsz : vs.toArray.size = vs.length := by simp
  by_cases h2 : vs.toArray.size < 2
  · rw [if_pos h2, if_pos h2]
    refine wpAny_bind (wpAny_pure ?_)
    rw [StateT.run_pure]
    refine wpAny_bind (wpAny_pure ?_)
    dsimp only
    refine wpAny_bind (seqEpoch_at ho6 rfl ?_)
    have hout : (arrOf (SortSt.mk' general' (vs.toArray.zip vs.toArray) #[] 7 none)).map (·.2) = vs.toArray := by
      show (vs.toArray.zip vs.toArray).map (·.2) = vs.toArray
      apply Array.toList_inj.mp
      rw [Array.toList_map, Array.toList_zip]
      exact List.map_snd_zip (Nat.le_refl _)
    rw [hout]
    refine wpAny_bind (listUpdate_at ho6 rfl ?_ (Nat.zero_le _) (by show vs.toArray.size ≤ _; rw [sizeLine_eq]; omega))
    simp only [bne_self_eq_false, Bool.false_eq_true, if_false]
    refine wpAny_pure (h vs xs (List.Perm.refl _) ?_ rs)
    match xs, hl with
    | [], _ => exact List.Pairwise.nil
    | [_], _ => exact List.pairwise_singleton _ _
    | _ :: _ :: _, hl => simp at hl; omega
  · rw [if_neg h2, if_neg h2]
    obtain ⟨fs, f1, f2, f3⟩ := pair_tups hi6 rs
    refine wpAny_bind (kat_kind f1 (by omega) (fun v hv => by obtain ⟨x, t, rfl⟩ := f3 v hv; exact looks_str) (by rfl) ?_)
    have O := ltX_ord nd
    refine wpAny_bind (wpAny_mono (kat_run (ks := vs) (Q := fun st' s' => s' = { s with heap := ((s.heap.update a (Obj.mapSeq fun _ => #[])).push (seqObj "tuple" vs.toArray 0)).push (seqObj "list" #[] 0) } ∧ failedOf st' = none ∧ ∃ p : Array Nat, arrOf st' = p.map (kas_item (vs.toArray.zip vs.toArray)) ∧ IsP xs.length p ∧ Up (ltX xs) p xs.length)
      (G := fun p s' => s' = { s with heap := ((s.heap.update a (Obj.mapSeq fun _ => #[])).push (seqObj "tuple" vs.toArray 0)).push (seqObj "list" #[] 0) } ∧ IsP xs.length p ∧ Up (ltX xs) p xs.length) rfl (by omega) (by omega) (fun p st' s' _ q2 q3 q4 => ⟨q4.1, q3, p, q2, q4.2⟩) ?_) ?_ fun _ _ e => e)
    · rw [hl]
      exact sure_wp (fun i j C a1 a2 a3 a4 => ask_pairs (s := { s with heap := ((s.heap.update a (Obj.mapSeq fun _ => #[])).push (seqObj "tuple" vs.toArray 0)).push (seqObj "list" #[] 0) }) hi6 rs nd a1 a2 a3 a4) (fun p hp => ⟨rfl, hp⟩) _ (sort_sure O (by omega) fun p q1 q2 => ⟨q1, q2⟩)
    · rintro ⟨⟨⟩, st'⟩ s' ⟨rfl, hf, p, har, hp, hu⟩
      dsimp only at hf har ⊢
      have hout := kat_snds (ks := vs) rfl har
      have hps := hp.size
      refine wpAny_bind (seqEpoch_at ho6 rfl ?_)
      rw [hout]
      refine wpAny_bind (listUpdate_at ho6 rfl ?_ (Nat.zero_le _) (by show (List.toArray (p.toList.map fun i => vs.getD i Value.none)).size ≤ _; rw [List.size_toArray, List.length_map, Array.length_toList, sizeLine_eq]; omega))
      rw [hf]
      simp only [bne_self_eq_false, Bool.false_eq_true, if_false]
      refine wpAny_pure (h _ (p.toList.map fun i => xs.getD i dfl) ?_ ?_ (rd_pick rs _ fun i hi => List.mem_range.mp (hp.mem_iff.mp hi)))
      · refine (hp.map _).trans ?_
        have : (List.range xs.length).map (fun i => xs.getD i dfl) = xs := by
          refine List.ext_getElem (by simp) fun i h1 h2 => ?_
          simp [h2]
        rw [this]
      · refine List.pairwise_iff_getElem.mpr fun i j h1 h2 hij => ?_
        have b1 : i < p.size := by simpa using h1
        have b2 : j < p.size := by simpa using h2
        have := hu i j hij (by omega)
        rw [gp_eq b1, gp_eq b2] at this
        simpa using of_decide_eq_true this
end
end Mine
end
section
set_option maxRecDepth 100000
namespace Mine
section
variable {prog : Program} {w : World} {D : Md prog w} {k : Nat} {env : Env} {V : Vars}
theorem Step.freezeAll {G : Gh} {s s' : Shared} : ∀ (l : List Addr) {G' : Gh}, Step G s G' s' → (∀ b ∈ l, (∃ o, s'.heap.get? b = some o) ∧ s.heap.get? b = none) → ∃ G1, Step G s G1 s' ∧ Le G' G1 ∧ ∀ b ∈ l, ∀ o, s'.heap.get? b = some o → G1 b = some o
  | [], G', a, _ => ⟨G', a, Le.refl _, fun _ h => nomatch h⟩
  | b :: l, G', a, h => by
    obtain ⟨⟨o, hb⟩, hn⟩ := h b List.mem_cons_self
    have a1 := a.freeze hb hn
    have l1 := a.le_put hb
    obtain ⟨G1, q1, q2, q3⟩ := Step.freezeAll l a1 fun c hc => h c (List.mem_cons_of_mem _ hc)
    refine ⟨G1, q1, l1.trans q2, fun c hc o' e => ?_⟩
    rcases List.mem_cons.mp hc with rfl | hc
    · rw [hb] at e; cases e
      exact q2 _ _ (put_self _ _ _)
    · exact q3 c hc o' e
theorem rd_of_get {G : Gh} : ∀ {vs : List Value} {ds : List PyData}, vs.length = ds.length → (∀ (j : Nat) (v : Value) (d : PyData), vs[j]? = some v → ds[j]? = some d → Rd prog w G v d) → RdAll prog w G vs ds
  | [], [], _, _ => .nil
  | [], _ :: _, h, _ => nomatch h
  | _ :: _, [], h, _ => nomatch h
  | v :: vs, d :: ds, h, f => .cons (f 0 v d rfl rfl) (rd_of_get (by simpa using h) fun j v' d' h1 h2 => f (j + 1) v' d' h1 h2)
theorem kv_get {G : Gh} : ∀ {T : KV} {kv : List (Str × Value)}, RdKv prog w G kv (kvD T) → ∀ {j : Nat} {p : Str × PyData}, T[j]? = some p → ∃ v, kv[j]? = some (p.1, v) ∧ Rd prog w G v p.2
  | [], _, .nil, j, p, h => by simp at h
  | (x, d) :: r, _, .cons (v := v) a q, 0, p, h => by
    simp only [List.getElem?_cons_zero, Option.some.injEq] at h
    subst h; exact ⟨v, rfl, a⟩
  | (x, d) :: r, _, .cons a q, j + 1, p, h => by
    rw [List.getElem?_cons_succ] at h
    obtain ⟨v, e, z⟩ := kv_get (T := r) q h
    exact ⟨v, by rw [List.getElem?_cons_succ]; exact e, z⟩
variable {A : Around} {E : Value → Shared → Prop} {s : Shared} {G : Gh}
/-- what is collected out of v, as pairs -/
def Coll (prog : Program) (w : World) (A : Around) (G : Gh) (s : Shared) (v : Value) (xs : List (Str × PyData)) : Prop :=
  ∀ (R : List Value → Shared → Prop) (E : Value → Shared → Prop), (∀ G1 s1 vs, Step G s G1 s1 → RdAll prog w G1 vs (xs.map pairD) → R vs s1) → wpAny (model prog w) A (collect v) R E s
theorem call_sorted {v : Value} {xs zs : List (Str × PyData)} {Q : Value → Shared → Prop} (hp : zs.Perm xs) (hs : zs.Pairwise sLt) (h64 : xs.length < 64) (hc : Coll prog w A.in1 G s v xs)
    (hQ : ∀ G' s' v, Step G s G' s' → Rd prog w G' v (.list (zs.map pairD)) → Q v s') : wpAny (model prog w) A (call (.builtin "sorted") [v]) Q E s := by
  have nd : (xs.map (·.1)).Nodup := by
    have : (zs.map (·.1)).Nodup := List.pairwise_map.mpr (hs.imp fun h e => by
      have h' := h; unfold sLt at h'; rw [e] at h'; exact List.lt_irrefl _ h')
    exact (hp.map _).nodup_iff.mp this
  refine Calls.call_function_entry kind_sorted plain_sorted entry_sorted (args_sorted1 _) ?_
  unfold Builtin.«sorted»
  refine wpAny_bind (m := checkCount "sorted" 1 1 _) (wpAny_pure ?_)
  refine wpAny_bind (hc _ _ fun G1 s1 vs t1 rs => ?_)
  have hl : vs.length = xs.length := by rw [rs.length, List.length_map]
  refine wpAny_bind (wpAny_newList ?_ (by rw [sizeLine_eq]; omega))
  have hoL : (s1.heap.push (seqObj "list" vs.toArray 0)).get? s1.heap.objs.size = some (seqObj "list" vs.toArray 0) := Heap.get?_push_size _ rfl
  have gL : G1 s1.heap.objs.size = none := by
    cases z : G1 s1.heap.objs.size with
    | none => rfl
    | some o => exact absurd (Heap.lt_size (t1.inn _ _ z)) (Nat.lt_irrefl _)
  have hi2 : Sub G1 (s1.heap.push (seqObj "list" vs.toArray 0)) := fun b o e => Heap.get?_push_of_some _ (t1.inn b o e)
  refine wpAny_bind (wpAny_holding (wpAny_call_entry slot_list_sort ⟨_, hoL, rfl⟩ entry_list_sort (sort_pairs (s := { s1 with heap := s1.heap.push (seqObj "list" vs.toArray 0) }) hoL gL hi2 rs nd h64 fun out ys y1 y2 y3 => ⟨_, rfl, ?_⟩) (args_list_sort _)))
  refine wpAny_pure ⟨_, rfl, ?_⟩
  have hyz : ys = zs := List.Perm.eq_of_pairwise (le := sLt) (fun a b _ _ h1 h2 => absurd (List.lt_trans h1 h2) (List.lt_irrefl _)) y2 hs (y1.trans hp.symm)
  subst hyz
  have hlt : s1.heap.objs.size < (s1.heap.push (seqObj "list" vs.toArray 0)).objs.size := Heap.lt_size hoL
  -- the list that is new stands at the end
  have keep : ∀ b o, s1.heap.get? b = some o → (sortedHeap (s1.heap.push (seqObj "list" vs.toArray 0)) s1.heap.objs.size vs out.toArray).get? b = some o := fun b o e => by
    have hb : b ≠ s1.heap.objs.size := Nat.ne_of_lt (Heap.lt_size e)
    unfold sortedHeap
    rw [Heap.get?_update_ne _ _ _ _ hb]
    refine Heap.get?_push_of_some _ (Heap.get?_push_of_some _ ?_)
    rw [Heap.get?_update_ne _ _ _ _ hb]
    exact Heap.get?_push_of_some _ e
  obtain ⟨c, e2⟩ : ∃ c, (sortedHeap (s1.heap.push (seqObj "list" vs.toArray 0)) s1.heap.objs.size vs out.toArray).get? s1.heap.objs.size = some (listO out c) := by
    obtain ⟨e1, ho1⟩ : ∃ e1, ((s1.heap.push (seqObj "list" vs.toArray 0)).update s1.heap.objs.size (Obj.mapSeq fun _ => #[])).get? s1.heap.objs.size = some (seqObj "list" #[] e1) := ⟨_, get?_update_seq hoL (fun _ => #[])⟩
    unfold sortedHeap
    exact ⟨_, get?_update_seq (Heap.get?_push_of_some _ (Heap.get?_push_of_some _ ho1)) fun _ => out.toArray⟩
  have t2 : Step G1 s1 G1 { s1 with heap := sortedHeap (s1.heap.push (seqObj "list" vs.toArray 0)) s1.heap.objs.size vs out.toArray } :=
    ⟨⟨_, s1.toks, rfl⟩, Le.refl _, fun b o e => keep b o (t1.inn b o e), keep, fun b o e => .inl e⟩
  have t3 := t2.freeze e2 (Heap.get?_none_of_le (Nat.le_refl _))
  exact hQ _ _ _ (t1.trans t3) (.list (put_self _ _ _) rfl rfl (y3.mono (t2.le_put e2)))
theorem CallTo.sortedList {xs zs : List (Str × PyData)} (hp : zs.Perm xs) (hs : zs.Pairwise sLt) (h64 : xs.length < 64) : CallTo D k (.builtin "sorted") [.list (xs.map pairD)] (.list (zs.map pairD)) := by
  intro A hA G s vs Q E g0 hi rs hQ
  cases rs with
  | cons r rs =>
    cases rs
    cases r with
    | @list a o vs n _ e1 c1 z1 r1 =>
      have hl : vs.length = xs.length := by rw [r1.length, List.length_map]
      refine call_sorted hp hs h64 (fun R E h => ?_) hQ
      refine collect_list ⟨o, hi _ _ e1, c1, n, z1⟩ ?_ (by rw [sizeLine_eq]; omega)
      refine h G _ vs ⟨⟨_, s.toks, rfl⟩, Le.refl _, fun b o e => ?_, fun b o e => ?_, fun b o e => .inl e⟩ r1
      · have hb : b ≠ s.heap.objs.size := Nat.ne_of_lt (Heap.lt_size (hi _ _ e))
        show (Heap.update _ _ _).get? b = _
        rw [Heap.get?_update_ne _ _ _ _ hb]
        exact Heap.get?_push_of_some _ (hi _ _ e)
      · have hb : b ≠ s.heap.objs.size := Nat.ne_of_lt (Heap.lt_size e)
        show (Heap.update _ _ _).get? b = _
        rw [Heap.get?_update_ne _ _ _ _ hb]
        exact Heap.get?_push_of_some _ e
/-- sorted(d.items()), d a dict -/
theorem Ev.sortedItems {f x : Str} {np xp apos cpos pos : Pos} {T zs : KV} (ok : EnvOk env) (hf : EvV D k env V (.Name f np) (.builtin "sorted")) (hx : Ev D k env V (.Name x xp) (.dict (kvD T)))
    (hp : zs.Perm T) (hs : zs.Pairwise sLt) (h64 : T.length < 64)
    (h1 : attributeBase (.Name x xp) "items" env (eval (.Name x xp) env) = eval (.Name x xp) env := by exact rfl) (h3 : (apos.endLine == cpos.line) = true := by exact rfl)
    (he : starEach [Expr.Call (.Attribute (.Name x xp) "items" apos) [] [] cpos] env = [(false, eval (.Call (.Attribute (.Name x xp) "items" apos) [] [] cpos) env)] := by exact rfl) :
    Ev D k env V (.Call (.Name f np) [.Call (.Attribute (.Name x xp) "items" apos) [] [] cpos] [] pos) (.list (zs.map pairD)) := by
  intro A hA G s Q E c hQ
  refine wpAny_Call_ofName (hf A hA G s _ E c fun G1 s1 t1 => ?_)
  refine callWith_builtin1 ?_ he (by rfl)
  rw [he]
  refine Calls.spliced_cons ?_
  refine wpAny_Call_method_lateS h1 (by rfl) h3 (hx A hA G1 s1 _ E (c.step t1) fun G2 s2 v t2 r => ?_)
  cases r with
  | @dict a o kv _ e1 c1 z1 r1 =>
  have eo := t2.inn _ _ e1
  have hd : s2.heap.DictOf (strKind prog w) a kv := Heap.dictOf_iff.mpr ⟨o, eo, c1⟩
  have hcl : o.cls = .type "dict" ∧ o.dict = none := by
    obtain ⟨es, ep, xo, _⟩ := c1
    exact ⟨xo.1, xo.2.1⟩
  refine ⟨"dict", _, F.plainAttrs_dict, F.slot_dict_items, F.type_dict_items, ⟨_, eo, hcl.1⟩, (fun b e => by cases e; exact ⟨_, eo, hcl.2⟩), ?_⟩
  refine Calls.callWith_builtin rfl (PyProof.Rows.evalArgs_none ?_)
  refine call_meetsIn F.slot_dict_items ⟨_, eo, hcl.1⟩ F.entry_dict_items (F.args_dict_items_1 _) (meets_dict_items (strKind prog w) a z1) ⟨⟨kv, hd⟩, ?_⟩
  refine Calls.spliced_nil ?_
  have tv := Step.push t2.inn { cls := .type "dict_items", data := .fields #[.ref a] }
  have hlk : kv.length = T.length := by rw [r1.length, kvD_len]
  refine call_sorted hp hs h64 (fun R E h => ?_) fun G3 s3 v t3 r3 => hQ _ _ _ (((t1.trans t2).trans tv).trans t3) r3
  obtain ⟨ep, hat⟩ := KdkAt.of c1
  refine kdx_collect (knd := strKind prog w) (kvs := kv) (ep := ep) (d := a) hA.1 ⟨_, Heap.get?_push_size _ rfl, rfl, rfl⟩ (hat.dictAt (tv.inn _ _ e1)) (by rw [hlk, sizeLine_eq]; omega) fun h' tk as hk hl hG => ?_
  have t4 : Step G2 { s2 with heap := s2.heap.push { cls := .type "dict_items", data := .fields #[.ref a] } } G2 { s2 with heap := h', toks := tk } :=
    ⟨⟨_, _, rfl⟩, Le.refl _, fun b o e => hk b o (tv.inn _ _ e), hk, fun b o e => .inl e⟩
  obtain ⟨G4, t5, l5, g5⟩ := t4.freezeAll as fun b hb => by
    obtain ⟨j, hj⟩ := List.mem_iff_getElem?.mp hb
    obtain ⟨_, _, _, _, _, e⟩ := hG.pairs j b hj
    refine ⟨⟨_, e⟩, Heap.get?_none_of_le (Nat.le_of_lt (hG.above b hb))⟩
  refine h G4 _ (as.map Value.ref) t5 (rd_of_get (by simp [hl, hlk]) fun j v d h1 h2 => ?_)
  rw [List.getElem?_map] at h1 h2
  obtain ⟨b, hb, rfl⟩ := Option.map_eq_some_iff.mp h1
  obtain ⟨p, hp, rfl⟩ := Option.map_eq_some_iff.mp h2
  obtain ⟨key, k', x', q1, q2, q3⟩ := hG.pairs j b hb
  obtain ⟨v', q4, q5⟩ := kv_get r1 hp
  rw [q4] at q1
  have q1 : (p.1, v') = (k', x') := Option.some.inj q1
  cases q1
  obtain ⟨t, rfl⟩ := Value.isStrOf_shape q2
  exact .tuple (vs := [.str p.1 t, x']) (g5 b (List.mem_of_getElem? hb) _ q3) rfl rfl (.cons (.str _ _) (.cons (q5.mono l5) .nil))
end
end Mine
end
section
set_option maxRecDepth 100000
namespace Mine
section
variable {prog : Program} {w : World} {D : Md prog w} {k : Nat} {env : Env} {V : Vars} {ow : Own} {R : Fl → Vars → Own → Prop}
/-- x = {k: v}, to be turned later -/
theorem Ex1.newDict1 {x key val : Str} {p pos pos2 p1 p2 : Pos} {j1 j2 : Nat} (ok : EnvOk env) (hx : Name env x) (hv : V.lookup x = none) (hR : ∀ a, R .next V (.dict x a (kvD [(key, .str val)])))
    (hs : swapsWith (.Dict [some (.Constant (.str key) j1 p1)] [.Constant (.str val) j2 p2] pos2) (some (.Name x p)) pos.line env = pure false := by exact rfl) :
    Ex1 D k env V .none (.Assign [.Name x p] (.Dict [some (.Constant (.str key) j1 p1)] [.Constant (.str val) j2 p2] pos2) pos) R := by
  intro A hA G s Q E c hQ
  have t1 := Step.push c.es.inn { cls := .type "dict", data := .dict #[] }
  have c1 := c.step t1
  have nb : ¬ Foot env .none s.heap.objs.size := fun f => by
    obtain ⟨o, e⟩ := c.foot_live f
    exact absurd (Heap.lt_size e) (Nat.lt_irrefl _)
  have sm : (s.heap.objs.size == sysModules) = false := by
    have := (D.g.keeps c.es.base).lt
    have h1 : s.heap.objs.size ≠ sysModules := fun z => by rw [z] at this; exact absurd this (by decide)
    simpa using h1
  have hnew : s.heap.get? s.heap.objs.size = none := fresh_size (Kp.refl _)
  have e0 : (s.heap.push { cls := .type "dict", data := .dict #[] }).get? s.heap.objs.size = some { cls := .type "dict", data := .dict #[] } := Heap.get?_push_size _ rfl
  refine wpAny_Assign_Name (wpAny_Dict_walk (knd := strKind prog w) rfl rfl (by simp) (Nat.le_of_ble_eq_true rfl) (pairTrees_cons_walk ?_)) hs
  refine Ev.cstr A hA G _ _ E c1.es fun G1 s1 kv t2 r2 => Ev.cstr A hA G1 s1 _ E (c1.es.step t2) fun G2 s2 vv t3 r3 => pairTrees_nil_walk ?_
  have c2 := (c1.step t2).step t3
  have t12 := (t1.trans t2).trans t3
  have e2 := t3.kp _ _ (t2.kp _ _ e0)
  have gb : G2 s.heap.objs.size = none := by
    cases z : G2 s.heap.objs.size with
    | none => rfl
    | some o =>
      rcases (t2.trans t3).new _ o z with q | q
      · exact absurd (Heap.lt_size (c.es.inn _ _ q)) (Nat.lt_irrefl _)
      · rw [e0] at q; cases q
  cases r2 with
  | str _ tq =>
  cases r3 with
  | str _ tv =>
  refine ⟨[(key, .str val tv)], ⟨strKind_is _ _ _ _, rfl, trivial⟩, ⟨_, #[], 0, e2, ⟨rfl, rfl, rfl⟩, rfl, fun _ he => by simp at he, .nil, List.nodup_nil⟩, fun h' hd' hs' => ?_⟩
  have c3 : Ss D env V .none G2 { s2 with heap := h', toks := s2.toks + 1 } := c2.but (wr := [s.heap.objs.size]) (tk := s2.toks + 1) (fun b o hb e => (hs'.2 b fun z => hb (List.mem_singleton.mpr z)).trans e) fun b hb => by
    rw [List.mem_singleton.mp hb]; exact ⟨gb, nb⟩
  refine store ok hx c3 fun s4 t4 => ?_
  have hd4 : s4.heap.DictOf (strKind prog w) s.heap.objs.size [(key, .str val tv)] := by
    obtain ⟨o, es, ep, eo, r⟩ := hd'
    exact ⟨o, es, ep, t4.kp _ _ (fun z => nb (.inl z)) (fun y z => nb (.inr (.inl ⟨y, z⟩))) eo, r⟩
  have held : Held prog w G2 s4.heap (.dict x s.heap.objs.size (kvD [(key, .str val)])) := ⟨sm, _, hd4, .cons (.str val _) .nil⟩
  have c4 := c3.gain ok gb nb rfl rfl t4 hv held
  have hb2 : ∀ b o, s.heap.get? b = some o → h'.get? b = some o := fun b o e => (hs'.2 b fun z => by rw [z, hnew] at e; cases e).trans (t12.kp b o e)
  refine hQ G2 s4 _ _ V (.dict x s.heap.objs.size (kvD [(key, .str val)])) ⟨?_, t12.le, fun b o nf e => t4.kp b o (fun z => nf (.inl z)) (fun y z => nf (.inr (.inl ⟨y, z⟩))) (hb2 b o e), fun b o e => t4.live b o (hb2 b o e), fun b o e => (t12.new b o e).imp id .inl, fun a e => ?_⟩ c4 .next (hR _)
  · obtain ⟨h2, tk2, e2⟩ := t12.shp
    obtain ⟨h, tk, e⟩ := t4.shp
    exact ⟨h, tk, by rw [e, e2]⟩
  · cases e
    exact .inr hnew
/-- a def of the text turns x -/
theorem Ex1.turnT {x f : Str} {a : Addr} {T T' : KV} {np xp cpos pos : Pos} {rest : List Expr} {ds : List PyData} (X : Text D) (i : Nat) (ok : EnvOk env) (ha : EvL D k env V rest ds) (hc : TurnTo D k (.ref (X.at_ i)) T ds T') (hR : R .next V (.dict x a (kvD T')))
    (hm : i ∈ textDefs := by decide) (hf : dName (stm i) = f := by exact rfl) (hk : env.kindOf f = some .globalImplicit := by exact rfl) (hd : (f == ("__debug__" : Str)) = false := by decide)
    (he : starEach (.Name x xp :: rest) env = (false, eval (.Name x xp) env) :: starEach rest env := by exact rfl)
    (hi : interactive env = false := by exact rfl) : Ex1 D k env V (.dict x a (kvD T)) (.Expr (.Call (.Name f np) (.Name x xp :: rest) [] cpos) pos) R := by
  subst hf
  obtain ⟨o, ho, hdat⟩ := (X.fn i hm).obj
  exact Ex1.callTurn ok (EvV.glob ok hk (X.fn i hm).mg hd) ho hdat ha hc hR he hi
end
end Mine
end
section
set_option maxRecDepth 100000
namespace Mine
abbrev cl (x : Str) : List Nat := x.cps.toList
theorem cl_inj {x y : Str} (h : cl x = cl y) : x = y := by cases x; cases y; simp only [Str.mk.injEq]; exact Array.toList_inj.mp h
theorem cl_app (x y : Str) : cl (x ++ y) = cl x ++ cl y := by show (x.cps ++ y.cps).toList = _; simp
theorem cl_len (x : Str) : (cl x).length = x.length := by show x.cps.toList.length = x.cps.size; simp
theorem cl_slash : cl ("/" : Str) = [47] := by decide +kernel
theorem slash_eq : ("/" : Str) = ⟨#[47]⟩ := by decide +kernel
theorem range_get (l : List Nat) : ∀ (i c : Nat), i + c ≤ l.length → ((List.range c).map fun k => i + k).filterMap (l[·]?) = (l.drop i).take c := by
  intro i c
  induction c generalizing i with
  | zero => intro _; simp
  | succ c ih =>
    intro h
    rw [List.range_succ, List.map_append, List.filterMap_append, ih i (by omega)]
    have : l[i + c]? = some l[i + c] := List.getElem?_eq_getElem (by omega)
    simp only [List.map_cons, List.map_nil, List.filterMap_cons, this, List.filterMap_nil]
    rw [List.take_add_one, List.getElem?_drop, this]; rfl
theorem indices (i j : Option Nat) (n : Nat) : Builtin.Str.strSliceIndices (i.map Int.ofNat) (j.map Int.ofNat) 1 n = (List.range (min (j.getD n) n - min (i.getD 0) n)).map fun k => min (i.getD 0) n + k := by
  have key : ∀ a b : Nat, sliceRange (a : Int) (b : Int) 1 = (List.range (b - a)).map fun k => a + k := fun a b => by
    unfold sliceRange
    have h1 : (1 : Int) > 0 := by decide
    simp only [h1, if_true, Int.ediv_one]
    have h2 : (if (a : Int) < b then ((b : Int) - a + 1 - 1) else 0).toNat = b - a := by split <;> omega
    rw [h2]
    refine List.map_congr_left fun k _ => ?_
    omega
  unfold Builtin.Str.strSliceIndices
  have h1 : (1 : Int) > 0 := by decide
  have e : ∀ k : Nat, (max (0 : Int) (min (if (k : Int) < 0 then (k : Int) + n else k) n)) = ((min k n : Nat) : Int) := fun k => by
    rw [if_neg (by omega)]; omega
  cases i with
  | none =>
    cases j with
    | none =>
      have := key 0 n
      simpa using this
    | some b =>
      have h := key 0 (min b n)
      rw [← e b] at h
      simpa using h
  | some a =>
    cases j with
    | none =>
      have h := key (min a n) n
      rw [← e a] at h
      simpa using h
    | some b =>
      have h := key (min a n) (min b n)
      rw [← e a, ← e b] at h
      simpa using h
theorem cl_slice (x : Str) (i j : Option Nat) : cl (Txt.slice x (i.map Int.ofNat) (j.map Int.ofNat)) = ((cl x).take (j.getD x.length)).drop (i.getD 0) := by
  have hl := cl_len x
  have hf : ((List.range (min (j.getD x.length) x.length - min (i.getD 0) x.length)).map (fun k => min (i.getD 0) x.length + k)).filterMap ((cl x)[·]?) = ((cl x).take (j.getD x.length)).drop (i.getD 0) := by
    by_cases hij : min (i.getD 0) x.length ≤ min (j.getD x.length) x.length
    · rw [range_get _ _ _ (by omega), List.drop_take]
      by_cases hi : i.getD 0 ≤ x.length
      · rw [Nat.min_eq_left hi]
        by_cases hj : j.getD x.length ≤ x.length
        · rw [Nat.min_eq_left hj]
        · rw [Nat.min_eq_right (by omega)]
          rw [List.take_of_length_le (by rw [List.length_drop]; omega), List.take_of_length_le (by rw [List.length_drop]; omega)]
      · rw [Nat.min_eq_right (by omega), List.drop_of_length_le (by omega), List.drop_of_length_le (by omega)]; simp
    · have : min (j.getD x.length) x.length - min (i.getD 0) x.length = 0 := by omega
      rw [this, List.drop_of_length_le (by rw [List.length_take]; omega)]; rfl
  unfold Txt.slice
  rw [indices]
  split
  · rename_i h
    have h : ((List.range (min (j.getD x.length) x.length - min (i.getD 0) x.length)).map fun k => min (i.getD 0) x.length + k).length = x.length := by simpa using h
    rw [List.length_map, List.length_range] at h
    rw [← hf]
    have h0 : min (i.getD 0) x.length = 0 ∨ x.length = 0 := by omega
    rcases h0 with h0 | h0
    · rw [range_get _ _ _ (by omega), h0, List.drop_zero, List.take_of_length_le (by omega)]
    · have : cl x = [] := List.length_eq_zero_iff.mp (by omega)
      rw [this]; simp
  · show (List.filterMap _ _).toArray.toList = _
    rw [← hf]
    simp only [List.toList_toArray]
    congr 1
    funext k
    simp
theorem slice_to (x : Str) (j : Nat) : cl (Txt.slice x none (some (j : Int))) = (cl x).take j := by have := cl_slice x none (some j); simpa using this
theorem slice_from (x : Str) (i : Nat) : cl (Txt.slice x (some (i : Int)) none) = (cl x).drop i := by
  have := cl_slice x (some i) none
  rw [Option.getD_none, List.take_of_length_le (by rw [cl_len]; exact Nat.le_refl _)] at this
  exact this
theorem slice_mid (x : Str) (i j : Nat) : cl (Txt.slice x (some (i : Int)) (some (j : Int))) = ((cl x).take j).drop i := cl_slice x (some i) (some j)
end Mine
end
section
set_option maxRecDepth 100000
namespace Mine
theorem join_eq (s : Str) (l : List Str) : Txt.join s l = Str.join s l := StrLaws.glued_eq_join s l
theorem cl_join_one (x : Str) : Txt.join "/" [x] = x := by rw [join_eq]; rfl
theorem join_nil : Txt.join "/" [] = "" := by rw [join_eq]; rfl
theorem cl_empty : cl ("" : Str) = [] := by decide +kernel
theorem cl_join_cons (x y : Str) (r : List Str) : cl (Txt.join "/" (x :: y :: r)) = cl x ++ 47 :: cl (Txt.join "/" (y :: r)) := by
  rw [join_eq, join_eq]
  show cl (x ++ "/" ++ Str.join "/" (y :: r)) = _
  rw [cl_app, cl_app, cl_slash]; simp
abbrev free (x : Str) : Prop := 47 ∉ cl x
theorem sep_inj {a b X Y : List Nat} (ha : 47 ∉ a) (hb : 47 ∉ b) (h : a ++ 47 :: X = b ++ 47 :: Y) : a = b ∧ X = Y := by
  induction a generalizing b with
  | nil =>
    cases b with
    | nil => simpa using h
    | cons y b => simp only [List.nil_append, List.cons_append, List.cons.injEq] at h; exact absurd (h.1 ▸ List.mem_cons_self) hb
  | cons x a ih =>
    cases b with
    | nil => simp only [List.nil_append, List.cons_append, List.cons.injEq] at h; exact absurd (h.1 ▸ List.mem_cons_self) ha
    | cons y b =>
      simp only [List.cons_append, List.cons.injEq] at h
      obtain ⟨h1, h2⟩ := ih (fun q => ha (List.mem_cons_of_mem _ q)) (fun q => hb (List.mem_cons_of_mem _ q)) h.2
      exact ⟨by rw [h.1, h1], h2⟩
theorem join_inj : ∀ {A B : List Str}, A ≠ [] → B ≠ [] → (∀ x ∈ A, free x) → (∀ x ∈ B, free x) → cl (Txt.join "/" A) = cl (Txt.join "/" B) → A = B
  | [], _, h, _, _, _, _ => absurd rfl h
  | _ :: _, [], _, h, _, _, _ => absurd rfl h
  | [a], [b], _, _, _, _, h => by rw [cl_join_one, cl_join_one] at h; rw [cl_inj h]
  | [a], b :: b' :: r, _, _, hA, _, h => by
    rw [cl_join_one, cl_join_cons] at h
    exact absurd (by rw [h]; simp) (hA a List.mem_cons_self)
  | a :: a' :: r, [b], _, _, _, hB, h => by
    rw [cl_join_one, cl_join_cons] at h
    exact absurd (by rw [← h]; simp) (hB b List.mem_cons_self)
  | a :: a' :: r, b :: b' :: r', _, _, hA, hB, h => by
    rw [cl_join_cons, cl_join_cons] at h
    obtain ⟨h1, h2⟩ := sep_inj (hA a List.mem_cons_self) (hB b List.mem_cons_self) h
    rw [cl_inj h1, join_inj (by simp) (by simp) (fun x hx => hA x (List.mem_cons_of_mem _ hx)) (fun x hx => hB x (List.mem_cons_of_mem _ hx)) h2]
theorem split_join {ps : List Str} (h : ps ≠ []) (hf : ∀ x ∈ ps, free x) : Txt.split (Txt.join "/" ps) "/" = ps := by
  have hp := split_pos (Txt.join "/" ps) "/"
  have h1 := StrLaws.join_split (Txt.join "/" ps) "/"
  refine join_inj (fun e => by rw [e] at hp; simp at hp) h (fun x hx => ?_) hf ?_
  · have := StrLaws.split_free (Txt.join "/" ps) 47 x
    rw [← slash_eq] at this
    exact this hx
  · rw [join_eq]; rw [h1]
/-- the names of a place -/
def okN (x : Str) : Prop := x = "a" ∨ x = "b" ∨ x = "ab"
def Place (l : List Str) : Prop := ∀ x ∈ l, okN x
theorem okN_free {x : Str} (h : okN x) : free x := by rcases h with rfl | rfl | rfl <;> decide +kernel
theorem okN_len {x : Str} (h : okN x) : 1 ≤ x.length ∧ x.length ≤ 2 := by rcases h with rfl | rfl | rfl <;> decide +kernel
theorem okN_keep {x : Str} (h : okN x) : keepP x = true := by rcases h with rfl | rfl | rfl <;> decide +kernel
theorem okN_ok {x : Str} (h : okN x) : okS x = true := by rcases h with rfl | rfl | rfl <;> decide +kernel
theorem okN_ne {x : Str} (h : okN x) : x ≠ ".." ∧ x ≠ "." ∧ x ≠ "" := by rcases h with rfl | rfl | rfl <;> decide +kernel
theorem Place.take {l : List Str} (h : Place l) (n : Nat) : Place (l.take n) := fun x hx => h x (List.mem_of_mem_take hx)
theorem Place.drop {l : List Str} (h : Place l) (n : Nat) : Place (l.drop n) := fun x hx => h x (List.mem_of_mem_drop hx)
def tl0 (l : List Str) : List Str := if l = [] then [""] else l
theorem tl0_ne (l : List Str) : tl0 l ≠ [] := by unfold tl0; split <;> simp_all
theorem tl0_join (l : List Str) : Txt.join "/" (tl0 l) = Txt.join "/" l := by
  unfold tl0
  split
  · rename_i h; rw [h, cl_join_one, join_nil]
  · rfl
theorem cl_cons (l : List Str) (h : l ≠ []) (x : Str) : cl (Txt.join "/" (x :: l)) = cl x ++ 47 :: cl (Txt.join "/" l) := by
  cases l with
  | nil => exact absurd rfl h
  | cons y r => exact cl_join_cons x y r
theorem cl_P (l : List Str) : cl (P l) = 47 :: cl (Txt.join "/" l) := by rw [P, cl_app, cl_slash]; rfl
theorem P_join (l : List Str) : P l = Txt.join "/" ("" :: tl0 l) := by
  refine cl_inj ?_
  rw [cl_P, cl_cons _ (tl0_ne l), cl_empty, tl0_join]; rfl
theorem tl0_free {l : List Str} (h : ∀ x ∈ l, free x) : ∀ x ∈ ("" : Str) :: tl0 l, free x := by
  intro x hx
  rcases List.mem_cons.mp hx with rfl | hx
  · rw [free, cl_empty]; simp
  · unfold tl0 at hx
    split at hx
    · rw [List.mem_singleton.mp hx, free, cl_empty]; simp
    · exact h x hx
theorem split_P {l : List Str} (h : ∀ x ∈ l, free x) : Txt.split (P l) "/" = ("" : Str) :: tl0 l := by
  rw [P_join]; exact split_join (by simp) (tl0_free h)
theorem keep_empty : keepP "" = false := by decide +kernel
theorem parts_P {l : List Str} (h : Place l) : partsOf (P l) = l := by
  rw [partsOf, split_P fun x hx => okN_free (h x hx), List.filter_cons, if_neg (by rw [keep_empty]; simp)]
  unfold tl0
  split
  · rename_i e; rw [e, List.filter_cons, if_neg (by rw [keep_empty]; simp)]; rfl
  · exact List.filter_eq_self.mpr fun x hx => okN_keep (h x hx)
theorem P_inj {a b : List Str} (ha : Place a) (hb : Place b) (h : P a = P b) : a = b := by rw [← parts_P ha, ← parts_P hb, h]
theorem starts_iff (x : Str) : Txt.startswith x "/" = true ↔ (cl x)[0]? = some 47 := by
  have := StrLaws.subAt_one x 47 0
  rw [← slash_eq] at this
  rw [← this]
  unfold Txt.startswith
  rw [Bool.and_eq_true, decide_eq_true_eq]
theorem P_abs (l : List Str) : Txt.startswith (P l) "/" = true := (starts_iff _).mpr (by rw [cl_P]; rfl)
theorem ends_iff (x : Str) : Txt.endswith x "/" = true ↔ (cl x).getLast? = some 47 := by
  unfold Txt.endswith
  rw [List.getLast?_eq_getElem?, cl_len]
  have h1 : ("/" : Str).length = 1 := by decide +kernel
  by_cases h : 1 ≤ x.length
  · have := StrLaws.subAt_one x 47 (x.length - 1)
    rw [← slash_eq] at this
    rw [← this, h1, Bool.and_eq_true, decide_eq_true_eq]
    constructor
    · rintro ⟨_, h3⟩; exact ⟨by omega, h3⟩
    · rintro ⟨_, h3⟩; exact ⟨by omega, h3⟩
  · have h0 : x.length = 0 := by omega
    rw [h1, h0, Bool.and_eq_true, decide_eq_true_eq]
    have : cl x = [] := List.length_eq_zero_iff.mp (by rw [cl_len]; exact h0)
    rw [this]; simp
end Mine
end
section
set_option maxRecDepth 100000
namespace Mine
theorem cl_join_app : ∀ {A B : List Str}, A ≠ [] → B ≠ [] → cl (Txt.join "/" (A ++ B)) = cl (Txt.join "/" A) ++ 47 :: cl (Txt.join "/" B)
  | [], _, h, _ => absurd rfl h
  | [a], B, _, hB => by rw [List.singleton_append, cl_cons B hB, cl_join_one]
  | a :: a' :: r, B, _, hB => by
    rw [List.cons_append, cl_cons _ (by simp), cl_join_cons, cl_join_app (A := a' :: r) (by simp) hB]
    simp
theorem first_name {l : List Str} (hp : Place l) {rest : List Nat} (h : l ≠ []) : ∃ c, (cl (Txt.join "/" l) ++ rest)[0]? = some c ∧ c ≠ 47 := by
  obtain ⟨x, r, rfl⟩ : ∃ x r, l = x :: r := by cases l with | nil => exact absurd rfl h | cons x r => exact ⟨x, r, rfl⟩
  have hx := hp x List.mem_cons_self
  have hl := (okN_len hx).1
  rw [← cl_len] at hl
  obtain ⟨c, cs, e⟩ : ∃ c cs, cl x = c :: cs := by cases h : cl x with | nil => rw [h] at hl; simp at hl | cons c cs => exact ⟨c, cs, rfl⟩
  refine ⟨c, ?_, fun q => okN_free hx (by rw [e, ← q]; exact List.mem_cons_self)⟩
  cases r with
  | nil => rw [cl_join_one, e]; rfl
  | cons y r => rw [cl_join_cons, e]; rfl
theorem last_name {l : List Str} (hp : Place l) (h : l ≠ []) : ∃ c, (cl (Txt.join "/" l)).getLast? = some c ∧ c ≠ 47 := by
  obtain ⟨r, x, rfl⟩ : ∃ r x, l = r ++ [x] := ⟨l.dropLast, l.getLast h, (List.dropLast_concat_getLast h).symm⟩
  have hx := hp x (by simp)
  have hl := (okN_len hx).1
  rw [← cl_len] at hl
  have hne : cl x ≠ [] := fun e => by rw [e] at hl; simp at hl
  obtain ⟨c, hc⟩ : ∃ c, (cl x).getLast? = some c := ⟨_, List.getLast?_eq_some_getLast hne⟩
  refine ⟨c, ?_, fun q => okN_free hx (by rw [← q]; exact List.mem_of_getLast? hc)⟩
  cases r with
  | nil => rw [List.nil_append, cl_join_one]; exact hc
  | cons y r =>
    rw [cl_join_app (by simp) (by simp), cl_join_one, List.getLast?_append, List.getLast?_cons]
    have : (cl x).getLast?.getD 47 = c := by rw [hc]; rfl
    show (some ((cl x).getLast?.getD 47)).or _ = some c
    rw [this]; rfl
/-- pieces of a path -/
def okPc (x : Str) : Prop := okN x ∨ x = "." ∨ x = ".." ∨ x = ""
def Pcs (pc : List Str) : Prop := (∀ x ∈ pc, okPc x) ∧ pc.head? ≠ some ""
theorem okPc_free {x : Str} (h : okPc x) : free x := by
  rcases h with h | rfl | rfl | rfl
  · exact okN_free h
  all_goals decide +kernel
theorem pc_first {pc : List Str} (h : Pcs pc) : (cl (Txt.join "/" pc))[0]? ≠ some 47 := by
  cases pc with
  | nil => rw [join_nil, cl_empty]; simp
  | cons x r =>
    have hx : x ≠ "" := fun e => h.2 (by rw [e]; rfl)
    obtain ⟨c, cs, e⟩ : ∃ c cs, cl x = c :: cs := by
      cases e : cl x with
      | nil => exact absurd (cl_inj (e.trans cl_empty.symm)) hx
      | cons c cs => exact ⟨c, cs, rfl⟩
    have hc : c ≠ 47 := fun q => okPc_free (h.1 x List.mem_cons_self) (by rw [e, ← q]; exact List.mem_cons_self)
    cases r with
    | nil => rw [cl_join_one, e]; simpa using hc
    | cons y r => rw [cl_join_cons, e]; simpa using hc
theorem P_len (l : List Str) : (P l).length ≠ 0 := by rw [← cl_len, cl_P]; simp
theorem P_ends {l : List Str} (hp : Place l) : Txt.endswith (P l) "/" = decide (l = []) := by
  by_cases h : l = []
  · rw [decide_eq_true h, h]; decide +kernel
  · rw [decide_eq_false h]
    cases e : Txt.endswith (P l) "/" with
    | false => rfl
    | true =>
      obtain ⟨c, hc, hne⟩ := last_name hp h
      rw [ends_iff, cl_P, List.getLast?_cons, hc] at e
      simp at e; exact absurd e hne
theorem join1_P {l pc : List Str} (hp : Place l) (hc : Pcs pc) : join1 (P l) (Txt.join "/" pc) = Txt.join "/" (("" : Str) :: (l ++ tl0 pc)) := by
  have h1 : ¬ (Txt.startswith (Txt.join "/" pc) "/" = true ∨ (P l).length = 0) := by
    rintro (h | h)
    · exact pc_first hc ((starts_iff _).mp h)
    · exact P_len l h
  rw [join1, if_neg h1, P_ends hp]
  have hne : l ++ tl0 pc ≠ [] := fun e => tl0_ne pc (List.append_eq_nil_iff.mp e).2
  by_cases h : l = []
  · rw [if_pos (by simpa using h)]
    refine cl_inj ?_
    rw [cl_app, cl_P, h, List.nil_append, cl_cons _ (tl0_ne pc), tl0_join, join_nil, cl_empty]; rfl
  · rw [if_neg (by simpa using h)]
    refine cl_inj ?_
    rw [cl_app, cl_app, cl_P, cl_slash, cl_cons _ hne, cl_join_app h (tl0_ne pc), tl0_join, cl_empty]
    simp
theorem joinS_P {l pc : List Str} (hp : Place l) (hc : Pcs pc) : joinS (P l) [Txt.join "/" pc] = Txt.join "/" (("" : Str) :: (l ++ tl0 pc)) := join1_P hp hc
theorem root_of {M : List Str} (hM : M ≠ []) (hfirst : (cl (Txt.join "/" M))[0]? ≠ some 47) : rootOf (Txt.join "/" (("" : Str) :: M)) = (("/" : Str), Txt.join "/" M) := by
  have hx : cl (Txt.join "/" (("" : Str) :: M)) = 47 :: cl (Txt.join "/" M) := by rw [cl_cons M hM, cl_empty]; rfl
  generalize Txt.join "/" (("" : Str) :: M) = x at hx
  have e1 : Txt.slice x none (some 1) = "/" := cl_inj (by have := slice_to x 1; rw [hx] at this; exact this.trans cl_slash.symm)
  have e2 : Txt.slice x (some 1) (some 2) ≠ "/" := fun e => by
    have h2 := slice_mid x 1 2
    have h3 : Txt.slice x (some ((1 : Nat) : Int)) (some ((2 : Nat) : Int)) = "/" := e
    rw [h3, hx, cl_slash] at h2
    refine hfirst ?_
    cases e : cl (Txt.join "/" M) with
    | nil => rw [e] at h2; simp at h2
    | cons c cs => rw [e] at h2; simp at h2; rw [← h2]; rfl
  have e3 : Txt.slice x (some 1) none = Txt.join "/" M := cl_inj (by have := slice_from x 1; rw [hx] at this; exact this)
  rw [rootOf, if_neg (not_not_intro e1), if_pos (.inl e2), e3]
theorem okN_not {x : Str} (hx : okN x) : ¬ (x.length = 0 ∨ x = ".") := by
  rintro (h | h)
  · have := (okN_len hx).1; omega
  · exact (okN_ne hx).2.1 h
theorem fold_names {acc l : List Str} (hl : Place l) : l.foldl (norm1 "/") acc = acc ++ l := by
  induction l generalizing acc with
  | nil => simp
  | cons x r ih =>
    have hx := hl x List.mem_cons_self
    obtain ⟨h1, h2, h3⟩ := okN_ne hx
    have e : norm1 "/" acc x = acc ++ [x] := by
      rw [norm1, if_neg (okN_not hx), if_pos (.inl h1)]
    rw [List.foldl_cons, e, ih fun y hy => hl y (List.mem_cons_of_mem _ hy)]
    simp
theorem down_place {acc : List Str} (ha : Place acc) {pc : List Str} (hp : ∀ x ∈ pc, okPc x) : Place (downS acc pc) ∧ (downS acc pc).length ≤ acc.length + pc.length := by
  induction pc generalizing acc with
  | nil => exact ⟨ha, Nat.le_refl _⟩
  | cons x r ih =>
    have hx := hp x List.mem_cons_self
    have key : ∀ acc', Place acc' → acc'.length ≤ acc.length + 1 → Place (downS acc' r) ∧ (downS acc' r).length ≤ acc.length + (x :: r).length := fun acc' h1 h2 => by
      obtain ⟨q1, q2⟩ := ih h1 fun y hy => hp y (List.mem_cons_of_mem _ hy)
      exact ⟨q1, by rw [List.length_cons]; omega⟩
    rw [downS]
    split
    · exact key _ (ha.take _) (by rw [List.length_take]; omega)
    · rename_i h1
      split
      · rename_i h2
        refine key _ (fun y hy => ?_) (by simp)
        rcases List.mem_append.mp hy with hy | hy
        · exact ha y hy
        · rw [List.mem_singleton.mp hy]
          rcases hx with hx | hx | hx | hx
          · exact hx
          · exact absurd hx h2.2
          · exact absurd hx h1
          · exact absurd hx h2.1
      · exact key _ ha (by omega)
theorem fold_pcs {acc pc : List Str} (ha : Place acc) (hp : ∀ x ∈ pc, okPc x) : pc.foldl (norm1 "/") acc = downS acc pc := by
  induction pc generalizing acc with
  | nil => rfl
  | cons x r ih =>
    have hx := hp x List.mem_cons_self
    have h1 := down_place ha (pc := [x]) fun y hy => by rw [List.mem_singleton.mp hy]; exact hx
    have e : norm1 "/" acc x = downS acc [x] := by
      show _ = (if x = ".." then acc.take (acc.length - 1) else if x ≠ "" ∧ x ≠ "." then acc ++ [x] else acc)
      rcases hx with hx | rfl | rfl | rfl
      · obtain ⟨q1, q2, q3⟩ := okN_ne hx
        rw [if_neg q1, if_pos ⟨q3, q2⟩, norm1, if_neg (okN_not hx), if_pos (.inl q1)]
      · rw [norm1, if_pos (.inr rfl), if_neg (by decide +kernel), if_neg (by decide +kernel)]
      · rw [if_pos rfl, norm1, if_neg (by decide +kernel), if_neg ?_]
        rintro (h | h | h)
        · exact h rfl
        · exact absurd h.1 (by decide +kernel)
        · obtain ⟨hne, h⟩ := h
          obtain ⟨y, hy⟩ : ∃ y, acc.getLast? = some y := ⟨_, List.getLast?_eq_some_getLast hne⟩
          rw [hy] at h
          have : y = ".." := h
          exact (okN_ne (ha y (List.mem_of_getLast? hy))).1 this
      · rw [norm1, if_pos (.inl (by decide +kernel)), if_neg (by decide +kernel), if_neg (by decide +kernel)]
    rw [List.foldl_cons, e, ih h1.1 fun y hy => hp y (List.mem_cons_of_mem _ hy)]
    rfl
theorem fold_tl0 {acc pc : List Str} (ha : Place acc) (hp : ∀ x ∈ pc, okPc x) : (tl0 pc).foldl (norm1 "/") acc = downS acc pc := by
  unfold tl0
  split
  · rename_i h
    rw [h, fold_pcs ha fun y hy => by rw [List.mem_singleton.mp hy]; exact .inr (.inr (.inr rfl))]
    show (if ("" : Str) = ".." then acc.take (acc.length - 1) else if ("" : Str) ≠ "" ∧ ("" : Str) ≠ "." then acc ++ [("" : Str)] else acc) = _
    rw [if_neg (by decide +kernel), if_neg (by decide +kernel)]; rfl
  · exact fold_pcs ha hp
theorem norm_P {l pc : List Str} (hp : Place l) (hc : Pcs pc) : normS (joinS (P l) [Txt.join "/" pc]) = P (downS l pc) := by
  have hne : l ++ tl0 pc ≠ [] := fun e => tl0_ne pc (List.append_eq_nil_iff.mp e).2
  have hfirst : (cl (Txt.join "/" (l ++ tl0 pc)))[0]? ≠ some 47 := by
    by_cases h : l = []
    · rw [h, List.nil_append, tl0_join]; exact pc_first hc
    · rw [cl_join_app h (tl0_ne pc)]
      obtain ⟨c, h1, h2⟩ := first_name hp (rest := 47 :: cl (Txt.join "/" (tl0 pc))) h
      rw [h1]; simpa using h2
  have hfree : ∀ x ∈ l ++ tl0 pc, free x := fun x hx => by
    rcases List.mem_append.mp hx with hx | hx
    · exact okN_free (hp x hx)
    · exact tl0_free (fun y hy => okPc_free (hc.1 y hy)) x (List.mem_cons_of_mem _ hx)
  rw [joinS_P hp hc, normS, if_neg ?_, root_of hne hfirst]
  · dsimp only
    rw [split_join hne hfree, List.foldl_append, fold_names hp, List.nil_append, fold_tl0 hp hc.1]
    exact if_neg (P_len _)
  · rw [← cl_len, cl_cons _ hne]; simp
end Mine
end
section
set_option maxRecDepth 100000
namespace Mine
theorem names7_pc : ∀ x ∈ names7, okPc x := by
  intro x hx
  simp only [names7, List.mem_cons, List.not_mem_nil, or_false] at hx
  unfold okPc okN
  rcases hx with h | h | h | h | h | h | h <;> simp [h]
theorem piece1_pc (acc : List Str) (m : Nat) : okPc (piece1 acc m) := by
  unfold piece1
  split
  · exact .inr (.inl rfl)
  · refine names7_pc _ ?_
    have h7 : m % 7 < names7.length := Nat.mod_lt _ (by decide)
    rw [List.getD_eq_getElem?_getD, List.getElem?_eq_getElem h7]
    exact List.getElem_mem h7
theorem pieces_go : ∀ (f n : Nat) (acc : List Str), Pcs acc → Pcs (piecesGo f n acc) ∧ (piecesGo f n acc).length ≤ acc.length + f
  | 0, n, acc, h => ⟨h, Nat.le_refl _⟩
  | f + 1, n, acc, h => by
    rw [piecesGo]
    split
    · have hp : Pcs (acc ++ [piece1 acc n]) := by
        refine ⟨fun x hx => ?_, ?_⟩
        · rcases List.mem_append.mp hx with hx | hx
          · exact h.1 x hx
          · rw [List.mem_singleton.mp hx]; exact piece1_pc acc n
        · cases acc with
          | nil =>
            intro e
            have e : piece1 [] n = "" := Option.some.inj e
            unfold piece1 at e
            split at e
            · exact absurd e (by decide +kernel)
            · rename_i h2; exact h2 ⟨e, rfl⟩
          | cons a r => exact h.2
      obtain ⟨h1, h2⟩ := pieces_go f (n / 7) _ hp
      exact ⟨h1, by rw [List.length_append, List.length_singleton] at h2; omega⟩
    · exact ⟨h, by omega⟩
theorem pieces_pcs (n : Nat) : Pcs (piecesS n) ∧ (piecesS n).length ≤ 3 := by
  have := pieces_go 3 n [] ⟨fun _ h => (nomatch h), by simp⟩
  exact ⟨this.1, by have h := this.2; rw [List.length_nil, Nat.zero_add] at h; exact h⟩
/-! dirname, split of a place -/
theorem rfind_last {x : Str} {A B : List Nat} (h : cl x = A ++ 47 :: B) (hB : 47 ∉ B) : Txt.rfind x "/" = (A.length : Int) := by
  have at_iff : ∀ i, StrLaws.At x "/" x.length i ↔ (cl x)[i]? = some 47 := fun i => by
    have := StrLaws.subAt_one x 47 i
    rw [← slash_eq] at this
    exact this
  have hA : (cl x)[A.length]? = some 47 := by rw [h]; simp
  rcases rfind_whole x "/" with ⟨_, hn⟩ | ⟨i, h0, hi, hn⟩
  · exact absurd ((at_iff _).mpr hA) (hn _)
  · rw [h0]
    rcases Nat.lt_trichotomy i A.length with q | q | q
    · exact absurd ((at_iff _).mpr hA) (hn _ q)
    · rw [q]
    · have := (at_iff i).mp hi
      rw [h, List.getElem?_append_right (by omega)] at this
      obtain ⟨j, hj⟩ : ∃ j, i - A.length = j + 1 := ⟨i - A.length - 1, by omega⟩
      rw [hj, List.getElem?_cons_succ] at this
      exact absurd (List.mem_of_getElem? this) hB
theorem cut_facts {x : Str} {A B : List Nat} (h : cl x = A ++ 47 :: B) (hB : 47 ∉ B) : cl (headOf x) = A ++ [47] ∧ cl (tailOf x) = B := by
  have e : cutAt x = ((A.length + 1 : Nat) : Int) := by rw [cutAt, rfind_last h hB]; rfl
  constructor
  · rw [headOf, e, slice_to, h, List.take_append, List.take_of_length_le (by omega)]
    simp
  · rw [tailOf, e, slice_from, h, List.drop_append]
    simp
theorem strip_one {x : Str} {A : List Nat} (h : cl x = A ++ [47]) (hA : A.getLast? ≠ some 47) : cl (Txt.rstripChars x "/") = A := by
  have goes : (("/" : Str).cps.contains) = fun c => c == 47 := by
    funext c
    have : ("/" : Str).cps = #[47] := by decide +kernel
    rw [this]
    by_cases hc : c = 47 <;> simp [hc]
  rw [Txt.rstripChars, PyProof.Rows.stripBy_eq, goes]
  have hlo : stripLo (fun c => c == 47) false x = 0 := rfl
  have hhi : stripHi (fun c => c == 47) true x 0 = A.length := by
    unfold stripHi
    rw [if_pos rfl, List.drop_zero, show x.cps.toList = A ++ [47] from h, List.reverse_append]
    have hx : x.length = A.length + 1 := by rw [← cl_len, h]; simp
    have : (A.reverse.takeWhile fun c => c == 47) = [] := by
      cases e : A.reverse with
      | nil => rfl
      | cons c r =>
        have : A.getLast? = some c := by rw [List.getLast?_eq_head?_reverse, e]; rfl
        have hc : c ≠ 47 := fun q => hA (by rw [this, q])
        rw [List.takeWhile_cons, if_neg (by simpa using hc)]
    show x.length - (([47] ++ A.reverse).takeWhile fun c => c == 47).length = _
    rw [List.singleton_append, List.takeWhile_cons, if_pos (by rfl), this, hx]
    simp
  rw [hlo, hhi]
  show (x.cps.extract 0 A.length).toList = A
  have : x.cps.toList = A ++ [47] := h
  simp [this]
theorem head_root : headCut (P []) = P [] ∧ tailOf (P []) = "" := by decide +kernel
theorem cl_snoc (l : List Str) (x : Str) : cl (P (l ++ [x])) = (if l = [] then [] else cl (P l)) ++ 47 :: cl x := by
  rw [cl_P]
  split
  · rename_i h; rw [h, List.nil_append, cl_join_one]; rfl
  · rename_i h; rw [cl_join_app h (by simp), cl_join_one, cl_P]; rfl
theorem mul_slash (n : Nat) : ∀ c ∈ cl (Txt.mul "/" (n : Int)), c = 47 := by
  intro c hc
  unfold Txt.mul at hc
  split at hc
  · have : cl (Str.empty) = [] := by decide +kernel
    rw [this] at hc; cases hc
  · split at hc
    · rw [cl_slash] at hc; exact List.mem_singleton.mp hc
    · have : ∀ (m : Nat) (acc : Array Nat), (∀ c ∈ acc.toList, c = 47) → ∀ c ∈ ((List.replicate m ("/" : Str).cps).foldl (· ++ ·) acc).toList, c = 47 := by
        intro m
        induction m with
        | zero => intro acc h; exact h
        | succ m ih =>
          intro acc h
          rw [List.replicate_succ, List.foldl_cons]
          refine ih _ fun c hc => ?_
          rw [Array.toList_append] at hc
          rcases List.mem_append.mp hc with hc | hc
          · exact h c hc
          · exact List.mem_singleton.mp (cl_slash ▸ hc)
      exact this _ #[] (fun _ h => nomatch h) c hc
theorem cut_place {l : List Str} (hp : Place l) : headCut (P l) = P (l.take (l.length - 1)) := by
  by_cases h : l = []
  · rw [h]; exact head_root.1
  obtain ⟨r, x, rfl⟩ : ∃ r x, l = r ++ [x] := ⟨l.dropLast, l.getLast h, (List.dropLast_concat_getLast h).symm⟩
  have hx := hp x (by simp)
  have hr : Place r := fun y hy => hp y (by simp [hy])
  have htake : (r ++ [x]).take ((r ++ [x]).length - 1) = r := by simp
  rw [htake]
  obtain ⟨h1, _⟩ := cut_facts (cl_snoc r x) (okN_free hx)
  by_cases hr0 : r = []
  · rw [if_pos hr0] at h1
    have e : headOf (P (r ++ [x])) = "/" := cl_inj (h1.trans cl_slash.symm)
    rw [headCut, e, if_neg (by decide +kernel), hr0]; decide +kernel
  · rw [if_neg hr0] at h1
    obtain ⟨c, hc, hne⟩ := last_name hr hr0
    have hlast : (cl (P r)).getLast? = some c := by rw [cl_P, List.getLast?_cons, hc]; rfl
    have hcond : (headOf (P (r ++ [x]))).length ≠ 0 ∧ headOf (P (r ++ [x])) ≠ Txt.mul "/" (headOf (P (r ++ [x]))).length := by
      refine ⟨by rw [← cl_len, h1]; simp, fun e => ?_⟩
      have hm := mul_slash (headOf (P (r ++ [x]))).length c
      rw [← e, h1] at hm
      exact hne (hm (List.mem_append_left _ (List.mem_of_getLast? hlast)))
    rw [headCut, if_pos hcond]
    exact cl_inj (strip_one h1 (by rw [hlast]; simpa using hne))
theorem tail_place {l : List Str} {x : Str} (hp : Place (l ++ [x])) : tailOf (P (l ++ [x])) = x := cl_inj (cut_facts (cl_snoc l x) (okN_free (hp x (by simp)))).2
end Mine
end
section
set_option maxRecDepth 100000
namespace Mine
/-! what places have in common -/
theorem lcpS_comm : ∀ a b : List Str, lcpS a b = lcpS b a
  | [], [] => rfl
  | [], _ :: _ => rfl
  | _ :: _, [] => rfl
  | x :: xs, y :: ys => by
    rw [lcpS, lcpS]
    by_cases h : x = y
    · rw [if_pos h, if_pos h.symm, lcpS_comm xs ys, h]
    · rw [if_neg h, if_neg fun e => h e.symm]
theorem lcpS_self : ∀ a : List Str, lcpS a a = a
  | [] => rfl
  | x :: xs => by rw [lcpS, if_pos rfl, lcpS_self xs]
theorem lcpS_left : ∀ a b : List Str, lcpS a b = a.take (lcpS a b).length
  | [], b => by cases b <;> simp [lcpS]
  | _ :: _, [] => by simp [lcpS]
  | x :: xs, y :: ys => by
    rw [lcpS]
    by_cases h : x = y
    · rw [if_pos h, List.length_cons, List.take_succ_cons, ← lcpS_left xs ys]
    · rw [if_neg h]; simp
theorem lcpS_pre (a b : List Str) : lcpS a b <+: a := by rw [lcpS_left a b]; exact List.take_prefix _ _
theorem lcpS_pre2 (a b : List Str) : lcpS a b <+: b := lcpS_comm a b ▸ lcpS_pre b a
theorem lcpS_max : ∀ {q a b : List Str}, q <+: a → q <+: b → q <+: lcpS a b
  | [], a, b, _, _ => List.nil_prefix
  | x :: q, a, b, ha, hb => by
    obtain ⟨a', rfl⟩ := ha
    obtain ⟨b', rfl⟩ := hb
    rw [List.cons_append, List.cons_append, lcpS, if_pos rfl]
    exact List.cons_prefix_cons.mpr ⟨rfl, lcpS_max ⟨a', rfl⟩ ⟨b', rfl⟩⟩
theorem Place.pre {q a : List Str} (h : Place a) (hq : q <+: a) : Place q := fun x hx => h x (hq.subset hx)
theorem common_abs {p : List Str} {ps : List (List Str)} (h : Place p) (hs : ∀ q ∈ ps, Place q) :
    commonS (P p) (ps.map P) = P (lcpS (bestOf lltS p ps) (bestOf lgtS p ps)) := by
  have e : (ps.map P).map partsOf = ps := by
    rw [List.map_map]
    conv => rhs; rw [← List.map_id ps]
    exact List.map_congr_left fun q hq => parts_P (hs q hq)
  rw [commonS, if_pos (P_abs p), firstP, lastP, e, parts_P h]; rfl
theorem two_lcp (a b : List Str) : lcpS (bestOf lltS a [b]) (bestOf lgtS a [b]) = lcpS a b := by
  simp only [bestOf, lltS_eq, lgtS_eq]
  by_cases h1 : llt b a = true
  · have h2 := llt_asymm h1
    rw [if_pos h1, if_neg (by rw [h2]; simp)]; exact lcpS_comm b a
  · rw [if_neg h1]
    by_cases h2 : llt a b = true
    · rw [if_pos h2]
    · rw [if_neg h2]
      have : a = b := Classical.byContradiction fun h => (llt_total h).elim h2 h1
      rw [this]
theorem common_two {a b : List Str} (ha : Place a) (hb : Place b) : commonS (P a) [P b] = P (lcpS a b) := by
  have := common_abs (p := a) (ps := [b]) ha fun q hq => by rw [List.mem_singleton.mp hq]; exact hb
  rw [List.map_cons, List.map_nil, two_lcp] at this
  exact this
/-- the longest that all begin with -/
def IsLcp (l : List (List Str)) (q : List Str) : Prop := (∀ x ∈ l, q <+: x) ∧ ∀ q', (∀ x ∈ l, q' <+: x) → q' <+: q
theorem IsLcp.uniq {l : List (List Str)} {q q' : List Str} (h : IsLcp l q) (h' : IsLcp l q') : q = q' := (h'.2 q h.1).eq_of_length (Nat.le_antisymm (h'.2 q h.1).length_le (h.2 q' h'.1).length_le)
theorem best_lcp (p : List Str) (ps : List (List Str)) : IsLcp (p :: ps) (lcpS (bestOf lltS p ps) (bestOf lgtS p ps)) := by
  refine ⟨fun x hx => ?_, fun q' h => lcpS_max ?_ ?_⟩
  · have h1 : lle (bestOf lltS p ps) x := by
      rcases List.mem_cons.mp hx with rfl | hx
      · exact best_min.1
      · exact best_min.2 x hx
    have h2 : lle x (bestOf lgtS p ps) := by
      rcases List.mem_cons.mp hx with rfl | hx
      · exact best_max.1
      · exact best_max.2 x hx
    rw [lcp_between h1 h2]
    exact List.take_prefix _ _
  · rcases bestOf_mem (bt := lltS) (b := p) (l := ps) with e | e
    · rw [e]; exact h p List.mem_cons_self
    · exact h _ (List.mem_cons_of_mem _ e)
  · rcases bestOf_mem (bt := lgtS) (b := p) (l := ps) with e | e
    · rw [e]; exact h p List.mem_cons_self
    · exact h _ (List.mem_cons_of_mem _ e)
theorem odd_nil {bl : List (List Str)} {nm : List Str} : oddL bl nm = [] ↔ ∀ x ∈ bl, nm <+: x := by
  unfold oddL
  rw [List.filter_eq_nil_iff]
  constructor
  · intro h x hx
    have := h x hx
    have e : x.take nm.length = nm := by simpa using this
    rw [← e]; exact List.take_prefix _ _
  · intro h x hx
    obtain ⟨t, rfl⟩ := h x hx
    simp
theorem cut_lcp {bl : List (List Str)} {p : List Str} (hp : p ∈ bl) : ∀ (f : Nat) (nm : List Str), nm.length = f → nm <+: p → (∀ q, (∀ x ∈ bl, q <+: x) → q <+: nm) → IsLcp bl (cutN bl f nm)
  | 0, nm, hf, hn, hq => by
    have : nm = [] := List.length_eq_zero_iff.mp hf
    subst this
    exact ⟨fun x _ => List.nil_prefix, hq⟩
  | f + 1, nm, hf, hn, hq => by
    rw [cutN]
    split
    · rename_i h; exact ⟨odd_nil.mp h, hq⟩
    · rename_i h
      refine cut_lcp hp f _ (by rw [List.length_take]; omega) ((List.take_prefix _ _).trans hn) fun q h' => ?_
      have h1 := hq q h'
      have hlt : q.length < nm.length := by
        rcases Nat.lt_or_ge q.length nm.length with z | z
        · exact z
        · exact absurd (odd_nil.mpr fun x hx => by rw [← h1.eq_of_length (Nat.le_antisymm h1.length_le z)]; exact h' x hx) h
      exact List.prefix_of_prefix_length_le h1 (List.take_prefix _ _) (by rw [List.length_take]; omega)
theorem names_lcp {p : List Str} {ps : List (List Str)} : namesOf (p :: ps) = lcpS (bestOf lltS p ps) (bestOf lgtS p ps) :=
  IsLcp.uniq (cut_lcp (p := p) List.mem_cons_self _ _ rfl (List.prefix_refl _) fun q h => h p List.mem_cons_self) (best_lcp p ps)
/-! spelled otherwise -/
def spl (l : List Str) : List Str := (tl0 l).flatMap fun x => [".", "", x]
theorem cl_sp : cl ("/.//" : Str) = [47, 46, 47, 47] := by decide +kernel
theorem cl_dot : cl ("." : Str) = [46] := by decide +kernel
theorem spell_eq {l : List Str} (hp : Place l) : spell (P l) = Txt.join "/" (("" : Str) :: spl l) := by
  have key : ∀ (r : List Str) (x : Str), Str.join "/.//" (x :: r) = Txt.join "/" (x :: r.flatMap fun y => [".", "", y]) := by
    intro r
    induction r with
    | nil => intro x; rw [List.flatMap_nil, cl_join_one]; rfl
    | cons y r ih =>
      intro x
      refine cl_inj ?_
      show cl (x ++ "/.//" ++ Str.join "/.//" (y :: r)) = _
      rw [ih y, cl_app, cl_app, cl_sp, List.flatMap_cons]
      show _ = cl (Txt.join "/" (x :: "." :: "" :: y :: r.flatMap fun y => [".", "", y]))
      rw [cl_join_cons, cl_join_cons, cl_join_cons, cl_dot, cl_empty]
      simp
  rw [spell, split_P fun x hx => okN_free (hp x hx), join_eq]
  exact key _ _
theorem spl_free {l : List Str} (hp : Place l) : ∀ x ∈ ("" : Str) :: spl l, free x := by
  intro x hx
  rcases List.mem_cons.mp hx with rfl | hx
  · rw [free, cl_empty]; simp
  · obtain ⟨y, hy, hx⟩ := List.mem_flatMap.mp hx
    simp only [List.mem_cons, List.not_mem_nil, or_false] at hx
    rcases hx with rfl | rfl | rfl
    · decide +kernel
    · rw [free, cl_empty]; simp
    · exact tl0_free (fun z hz => okN_free (hp z hz)) _ (List.mem_cons_of_mem _ hy)
theorem keep_dot : keepP "." = false := by decide +kernel
theorem spl_keep {l : List Str} (hp : Place l) : (spl l).filter keepP = l := by
  have : ∀ r : List Str, (r.flatMap fun x => [(".": Str), "", x]).filter keepP = r.filter keepP := by
    intro r
    induction r with
    | nil => rfl
    | cons x r ih =>
      rw [List.flatMap_cons, List.filter_append, ih]
      rw [List.filter_cons (xs := r), List.filter_cons, if_neg (by rw [keep_dot]; simp), List.filter_cons, if_neg (by rw [keep_empty]; simp), List.filter_cons]
      split <;> rfl
  rw [spl, this]
  have h := parts_P hp
  rw [partsOf, split_P fun x hx => okN_free (hp x hx), List.filter_cons, if_neg (by rw [keep_empty]; simp)] at h
  exact h
theorem parts_spell {l : List Str} (hp : Place l) : partsOf (spell (P l)) = l := by
  rw [partsOf, spell_eq hp, split_join (by simp) (spl_free hp), List.filter_cons, if_neg (by rw [keep_empty]; simp), spl_keep hp]
theorem spl_ne (l : List Str) : spl l ≠ [] := by
  have := tl0_ne l
  unfold spl
  cases e : tl0 l with
  | nil => exact absurd e this
  | cons x r => simp
theorem cl_spell {l : List Str} (hp : Place l) : cl (spell (P l)) = 47 :: cl (Txt.join "/" (spl l)) := by rw [spell_eq hp, cl_cons _ (spl_ne l), cl_empty]; rfl
theorem drop1_spell {l : List Str} (hp : Place l) : drop1 (spell (P l)) = Txt.join "/" (spl l) := cl_inj (by
  have := slice_from (spell (P l)) 1
  rw [cl_spell hp] at this
  exact this)
theorem parts_drop1 {l : List Str} (hp : Place l) : partsOf (drop1 (spell (P l))) = l := by
  rw [partsOf, drop1_spell hp, split_join (spl_ne l) fun x hx => spl_free hp x (List.mem_cons_of_mem _ hx), spl_keep hp]
theorem spl_first (l : List Str) : (cl (Txt.join "/" (spl l)))[0]? = some 46 := by
  unfold spl
  cases e : tl0 l with
  | nil => exact absurd e (tl0_ne l)
  | cons x r =>
    rw [List.flatMap_cons]
    show (cl (Txt.join "/" ("." :: "" :: x :: r.flatMap fun x => [".", "", x])))[0]? = _
    rw [cl_join_cons, cl_dot]; rfl
end Mine
end
section
set_option maxRecDepth 100000
namespace Mine
/-! the spelled keys are fit; what commonpath gives of them -/
theorem lens_join_le (l : List Str) (h : ∀ x ∈ l, x.length ≤ 2) : (Txt.join "/" l).length ≤ 3 * l.length := by
  have h1 := joinLen l
  have h2 : lens l ≤ 3 * l.length := by
    clear h1
    induction l with
    | nil => exact Nat.le_refl _
    | cons x r ih =>
      have := ih fun y hy => h y (List.mem_cons_of_mem _ hy)
      have hx := h x List.mem_cons_self
      unfold lens at this ⊢
      simp only [List.map_cons, List.sum_cons, List.length_cons]
      omega
  omega
theorem P_length {l : List Str} (hp : Place l) : (P l).length ≤ 1 + 3 * l.length := by
  have := lens_join_le l fun x hx => (okN_len (hp x hx)).2
  rw [P, str_len_app]
  have h1 : ("/" : Str).length = 1 := by decide +kernel
  omega
theorem spl_len {l : List Str} (hp : Place l) : ∀ x ∈ spl l, x.length ≤ 2 := by
  intro x hx
  obtain ⟨y, hy, hx⟩ := List.mem_flatMap.mp hx
  simp only [List.mem_cons, List.not_mem_nil, or_false] at hx
  rcases hx with rfl | rfl | rfl
  · decide +kernel
  · decide +kernel
  · unfold tl0 at hy
    split at hy
    · rw [List.mem_singleton.mp hy]; decide +kernel
    · exact (okN_len (hp _ hy)).2
theorem spl_count (l : List Str) : (spl l).length ≤ 3 * l.length + 3 := by
  have : ∀ r : List Str, (r.flatMap fun x => [(".": Str), "", x]).length = 3 * r.length := by
    intro r
    induction r with
    | nil => rfl
    | cons x r ih => rw [List.flatMap_cons, List.length_append, ih, List.length_cons]; simp; omega
  unfold spl
  rw [this]
  unfold tl0
  split <;> simp
theorem cps_ok {x : Str} (h : ∀ c ∈ cl x, c < 0x110000) : okS x = true := by
  show x.cps.all (· < 0x110000) = true
  rw [← Array.all_toList, List.all_eq_true]
  intro c hc
  exact decide_eq_true (h c hc)
theorem ok_cps {x : Str} (h : okS x = true) : ∀ c ∈ cl x, c < 0x110000 := by
  have h : x.cps.all (· < 0x110000) = true := h
  rw [← Array.all_toList, List.all_eq_true] at h
  exact fun c hc => of_decide_eq_true (h c hc)
theorem join_ok {l : List Str} (h : ∀ x ∈ l, okS x = true) : ∀ c ∈ cl (Txt.join "/" l), c < 0x110000 := by
  match l, h with
  | [], _ => rw [join_nil, cl_empty]; intro c hc; cases hc
  | [x], h => rw [cl_join_one]; exact ok_cps (h x List.mem_cons_self)
  | x :: y :: r, h =>
    rw [cl_join_cons]
    intro c hc
    rcases List.mem_append.mp hc with hc | hc
    · exact ok_cps (h x List.mem_cons_self) c hc
    · rcases List.mem_cons.mp hc with rfl | hc
      · decide
      · exact join_ok (fun z hz => h z (List.mem_cons_of_mem _ hz)) c hc
theorem P_ok {l : List Str} (hp : Place l) : okS (P l) = true := cps_ok (by
  rw [cl_P]
  intro c hc
  rcases List.mem_cons.mp hc with rfl | hc
  · decide
  · exact join_ok (fun x hx => okN_ok (hp x hx)) c hc)
theorem spl_okS {l : List Str} (hp : Place l) : ∀ x ∈ spl l, okS x = true := by
  intro x hx
  obtain ⟨y, hy, hx⟩ := List.mem_flatMap.mp hx
  simp only [List.mem_cons, List.not_mem_nil, or_false] at hx
  rcases hx with rfl | rfl | rfl
  · decide +kernel
  · decide +kernel
  · unfold tl0 at hy
    split at hy
    · rw [List.mem_singleton.mp hy]; decide +kernel
    · exact okN_ok (hp _ hy)
theorem spell_abs {l : List Str} (hp : Place l) : Txt.startswith (spell (P l)) "/" = true := by
  refine (starts_iff _).mpr ?_
  rw [cl_spell hp]
  exact List.getElem?_cons_zero
theorem spell_rel {l : List Str} (hp : Place l) : Txt.startswith (drop1 (spell (P l))) "/" = false := by
  refine Bool.eq_false_iff.mpr fun e => ?_
  rw [starts_iff, drop1_spell hp, spl_first] at e
  have : (46 : Nat) = 47 := Option.some.inj e
  omega
theorem spell_okS {l : List Str} (hp : Place l) : okS (spell (P l)) = true := by
  refine cps_ok ?_
  rw [cl_spell hp]
  intro c hc
  rcases List.mem_cons.mp hc with rfl | hc
  · decide
  · exact join_ok (spl_okS hp) c hc
theorem spell_len {l : List Str} (hp : Place l) : (spell (P l)).length ≤ 9 * l.length + 10 := by
  have h1 := lens_join_le (spl l) (spl_len hp)
  have h2 := spl_count l
  have h3 : (spell (P l)).length = (Txt.join "/" (spl l)).length + 1 := by rw [← cl_len, cl_spell hp, List.length_cons, cl_len]
  omega
theorem spell_fit {l : List Str} (hp : Place l) (hl : l.length ≤ 1000) : SpellOk (spell (P l)) := ⟨by have := spell_len hp; omega, spell_okS hp, spell_abs hp, spell_rel hp⟩
theorem map_back {f g : Str → Str} {h : Str → List Str} {r : List (List Str)} (e : ∀ q ∈ r, h (f (g (P q))) = q) : (((r.map P).map g).map f).map h = r := by
  induction r with
  | nil => rfl
  | cons q r ih =>
    simp only [List.map_cons]
    rw [e q List.mem_cons_self]
    have := ih fun x hx => e x (List.mem_cons_of_mem _ hx)
    rw [this]
theorem common_spell {b : List Str} {r : List (List Str)} (hb : Place b) (hr : ∀ q ∈ r, Place q) : commonS (spell (P b)) ((r.map P).map spell) = P (lcpS (bestOf lltS b r) (bestOf lgtS b r)) := by
  have e1 : ((r.map P).map spell).map partsOf = r := by
    have := map_back (f := id) (g := spell) (h := partsOf) (r := r) fun q hq => parts_spell (hr q hq)
    rwa [List.map_id] at this
  rw [commonS, if_pos (spell_abs hb), firstP, lastP, e1, parts_spell hb]; rfl
theorem common_drop {b : List Str} {r : List (List Str)} (hb : Place b) (hr : ∀ q ∈ r, Place q) : commonS (drop1 (spell (P b))) (((r.map P).map spell).map drop1) = Txt.join "/" (lcpS (bestOf lltS b r) (bestOf lgtS b r)) := by
  have e2 := map_back (f := drop1) (g := spell) (h := partsOf) (r := r) fun q hq => parts_drop1 (hr q hq)
  rw [commonS, if_neg (by rw [spell_rel hb]; exact Bool.false_ne_true), firstP, lastP, e2, parts_drop1 hb]
  refine cl_inj ?_
  rw [cl_app, cl_empty]; rfl
theorem shared_place {bs : List (List Str)} (hp : ∀ b ∈ bs, Place b) : sharedD ((bs.map P).map spell) = sharedOf bs := by
  cases bs with
  | nil => rfl
  | cons b r =>
    have hb := hp b List.mem_cons_self
    have hr : ∀ q ∈ r, Place q := fun q hq => hp q (List.mem_cons_of_mem _ hq)
    rw [List.map_cons, List.map_cons, sharedD, common_spell hb hr, common_drop hb hr, sharedOf, if_neg (List.cons_ne_nil _ _), names_lcp]
/-! join('', *names) -/
theorem join_rest {p l : List Str} (hp : Place p) (hne : p ≠ []) (hl : Place l) : joinS (Txt.join "/" p) l = Txt.join "/" (p ++ l) := by
  induction l generalizing p with
  | nil => rw [List.append_nil]; rfl
  | cons x r ih =>
    have hx := hl x List.mem_cons_self
    have hpx : Place (p ++ [x]) := fun y hy => (List.mem_append.mp hy).elim (hp y) fun h => List.mem_singleton.mp h ▸ hx
    have e : join1 (Txt.join "/" p) x = Txt.join "/" (p ++ [x]) := by
      have h1 : ¬ (Txt.startswith x "/" = true ∨ (Txt.join "/" p).length = 0) := by
        rintro (h | h)
        · exact okN_free hx (List.mem_of_getElem? ((starts_iff _).mp h))
        · obtain ⟨c, hc, _⟩ := last_name hp hne
          have : cl (Txt.join "/" p) = [] := List.length_eq_zero_iff.mp (by rw [cl_len]; exact h)
          rw [this] at hc; cases hc
      have h2 : ¬ Txt.endswith (Txt.join "/" p) "/" = true := fun h => by
        obtain ⟨c, hc, hn⟩ := last_name hp hne
        rw [ends_iff, hc] at h
        exact hn (Option.some.inj h)
      rw [join1, if_neg h1, if_neg h2]
      refine cl_inj ?_
      rw [cl_app, cl_app, cl_slash, cl_join_app hne (by simp), cl_join_one]; rfl
    rw [joinS, e, ih hpx (by simp) fun y hy => hl y (List.mem_cons_of_mem _ hy)]
    simp
theorem join_names {l : List Str} (hl : Place l) : joinS "" l = Txt.join "/" l := by
  cases l with
  | nil => rw [join_nil]; rfl
  | cons x r =>
    have hx := hl x List.mem_cons_self
    have e : join1 "" x = Txt.join "/" [x] := by rw [join1, if_pos (.inr (by decide +kernel)), cl_join_one]
    rw [joinS, e, join_rest (p := [x]) (fun y hy => List.mem_singleton.mp hy ▸ hx) (by simp) fun y hy => hl y (List.mem_cons_of_mem _ hy)]
    rfl
end Mine
end
section
set_option maxRecDepth 100000
namespace Mine
abbrev Pl := List Str
abbrev PT := List (Pl × Pl)
def setT (T : PT) (x y : Pl) : PT := if T.any (fun p => p.1 = x) then T.map (fun p => if p.1 = x then (p.1, y) else p) else T ++ [(x, y)]
def popT (T : PT) (x : Pl) : PT := T.filter fun p => decide (p.1 ≠ x)
def getT (T : PT) (x : Pl) : Option Pl := (T.find? fun p => p.1 = x).map (·.2)
def keysT (T : PT) : List Pl := T.map (·.1)
theorem keys_set (T : PT) (x y : Pl) : keysT (setT T x y) = if x ∈ keysT T then keysT T else keysT T ++ [x] := by
  have hany : T.any (fun p => decide (p.1 = x)) = decide (x ∈ keysT T) := by
    rw [Bool.eq_iff_iff, List.any_eq_true, decide_eq_true_eq]
    constructor
    · rintro ⟨p, hp, h⟩; exact List.mem_map.mpr ⟨p, hp, of_decide_eq_true h⟩
    · intro h; obtain ⟨p, hp, h⟩ := List.mem_map.mp h; exact ⟨p, hp, decide_eq_true h⟩
  unfold setT
  rw [hany]
  by_cases h : x ∈ keysT T
  · rw [if_pos (decide_eq_true h), if_pos h]
    unfold keysT
    rw [List.map_map]
    exact List.map_congr_left fun p hp => by by_cases e : p.1 = x <;> simp [e]
  · rw [if_neg (by simpa using h), if_neg h]
    unfold keysT; rw [List.map_append]; rfl
theorem mem_set {T : PT} {x y n m : Pl} : (n, m) ∈ setT T x y ↔ (n = x ∧ m = y) ∨ (n ≠ x ∧ (n, m) ∈ T) := by
  unfold setT
  split
  · rename_i h
    rw [List.mem_map]
    constructor
    · rintro ⟨p, hp, e⟩
      by_cases q : p.1 = x
      · rw [if_pos q] at e; cases e; exact .inl ⟨q, rfl⟩
      · rw [if_neg q] at e; subst e; exact .inr ⟨q, hp⟩
    · rintro (⟨rfl, rfl⟩ | ⟨h1, h2⟩)
      · obtain ⟨p, hp, e⟩ := List.any_eq_true.mp h
        have e := of_decide_eq_true e
        exact ⟨p, hp, by rw [if_pos e, e]⟩
      · exact ⟨(n, m), h2, if_neg h1⟩
  · rename_i h
    rw [List.mem_append, List.mem_singleton]
    constructor
    · rintro (h2 | h2)
      · refine .inr ⟨fun e => h (List.any_eq_true.mpr ⟨_, h2, decide_eq_true e⟩), h2⟩
      · cases h2; exact .inl ⟨rfl, rfl⟩
    · rintro (⟨rfl, rfl⟩ | ⟨_, h2⟩)
      · exact .inr rfl
      · exact .inl h2
theorem mem_pop {T : PT} {x n m : Pl} : (n, m) ∈ popT T x ↔ n ≠ x ∧ (n, m) ∈ T := by
  unfold popT
  rw [List.mem_filter, decide_eq_true_eq]
  exact And.comm
theorem keys_pop {T : PT} {x n : Pl} : n ∈ keysT (popT T x) ↔ n ≠ x ∧ n ∈ keysT T := by
  unfold keysT
  rw [List.mem_map, List.mem_map]
  constructor
  · rintro ⟨⟨a, b⟩, h, rfl⟩; obtain ⟨h1, h2⟩ := mem_pop.mp h; exact ⟨h1, _, h2, rfl⟩
  · rintro ⟨h1, ⟨a, b⟩, h2, rfl⟩; exact ⟨(a, b), mem_pop.mpr ⟨h1, h2⟩, rfl⟩
theorem mem_keys {T : PT} {n : Pl} : n ∈ keysT T ↔ ∃ m, (n, m) ∈ T := by
  unfold keysT
  rw [List.mem_map]
  constructor
  · rintro ⟨⟨a, b⟩, h, rfl⟩; exact ⟨b, h⟩
  · rintro ⟨m, h⟩; exact ⟨(n, m), h, rfl⟩
theorem getT_iff {T : PT} (nd : (keysT T).Nodup) {n m : Pl} : getT T n = some m ↔ (n, m) ∈ T := by
  unfold getT
  induction T with
  | nil => simp
  | cons p r ih =>
    have nd' : p.1 ∉ keysT r ∧ (keysT r).Nodup := List.nodup_cons.mp nd
    rw [List.find?_cons, List.mem_cons]
    by_cases h : p.1 = n
    · simp only [h, decide_true, Option.map_some, Option.some.injEq]
      constructor
      · intro e; exact .inl (by rw [← h, ← e])
      · rintro (e | e)
        · rw [← e]
        · exact absurd (mem_keys.mpr ⟨m, e⟩) (h ▸ nd'.1)
    · simp only [h, decide_false]
      rw [ih nd'.2]
      constructor
      · exact .inr
      · rintro (e | e)
        · exact absurd (by rw [← e]) h
        · exact e
/-! the tree's law -/
structure TB (tr : PT) : Prop where
  nd : (keysT tr).Nodup
  root : ([], []) ∈ tr
  par : ∀ n m, (n, m) ∈ tr → n ≠ [] → m ∈ keysT tr ∧ m <+: n ∧ m ≠ n ∧ ∀ q ∈ keysT tr, q <+: n → q ≠ n → q <+: m
  lcp : ∀ a ∈ keysT tr, ∀ b ∈ keysT tr, lcpS a b ∈ keysT tr
  pl : ∀ n ∈ keysT tr, Place n
theorem TB.fn {tr : PT} (h : TB tr) {n m m' : Pl} (h1 : (n, m) ∈ tr) (h2 : (n, m') ∈ tr) : m = m' := by
  have e1 := (getT_iff h.nd).mpr h1
  have e2 := (getT_iff h.nd).mpr h2
  rw [e1] at e2; exact Option.some.inj e2
def Child (tr : PT) (m c : Pl) : Prop := c ≠ [] ∧ (c, m) ∈ tr
def Two (tr : PT) (n : Pl) : Prop := ∃ c1 c2, c1 ≠ c2 ∧ Child tr n c1 ∧ Child tr n c2
theorem pre_len {a b : Pl} (h : a <+: b) (hne : a ≠ b) : a.length < b.length := Nat.lt_of_le_of_ne h.length_le fun e => hne (h.eq_of_length e)
theorem pre_anti {a b : Pl} (h : a <+: b) (h' : b <+: a) : a = b := h.eq_of_length (Nat.le_antisymm h.length_le h'.length_le)
theorem TB.down {tr : PT} (h : TB tr) {n : Pl} (hn : n ∈ keysT tr) : ∀ (k : Nat) {q : Pl}, q.length = k → q ∈ keysT tr → n <+: q → n ≠ q → ∃ c, Child tr n c ∧ c <+: q := by
  intro k
  induction k using Nat.strongRecOn with
  | ind k ih =>
    intro q hk hq hp hne
    obtain ⟨m, hm⟩ := mem_keys.mp hq
    have hq0 : q ≠ [] := fun e => hne (by rw [e] at hp ⊢; exact List.prefix_nil.mp hp)
    obtain ⟨h1, h2, h3, h4⟩ := h.par q m hm hq0
    have hnm := h4 n hn hp hne
    by_cases e : n = m
    · exact ⟨q, ⟨hq0, e ▸ hm⟩, List.prefix_refl _⟩
    · obtain ⟨c, hc, hcm⟩ := ih m.length (hk ▸ pre_len h2 h3) rfl h1 hnm e
      exact ⟨c, hc, hcm.trans h2⟩
theorem TB.one {tr : PT} (h : TB tr) {n c1 c2 r : Pl} (h1 : Child tr n c1) (h2 : Child tr n c2) (hr1 : r <+: c1) (hr2 : r <+: c2) (hn : n <+: r) (hne : n ≠ r) : c1 = c2 := by
  refine Classical.byContradiction fun hc => ?_
  obtain ⟨a1, a2, a3, a4⟩ := h.par c1 n h1.2 h1.1
  obtain ⟨b1, b2, b3, b4⟩ := h.par c2 n h2.2 h2.1
  have hl := h.lcp c1 (mem_keys.mpr ⟨n, h1.2⟩) c2 (mem_keys.mpr ⟨n, h2.2⟩)
  have hrl := lcpS_max hr1 hr2
  have hne1 : lcpS c1 c2 ≠ c1 := fun e => by
    have hp : c1 <+: c2 := e ▸ lcpS_pre2 c1 c2
    exact a3 (pre_anti a2 (b4 c1 (mem_keys.mpr ⟨n, h1.2⟩) hp hc))
  have := a4 _ hl (lcpS_pre c1 c2) hne1
  exact hne (pre_anti hn (hrl.trans this))
end Mine
end
section
set_option maxRecDepth 100000
namespace Mine
def Need (tr : PT) (K : List Pl) : Prop := ∀ n ∈ keysT tr, n = [] ∨ n ∈ K ∨ Two tr n
def nearT (tr : PT) (node p : Pl) : List Pl := (keysT tr).filter fun one => decide (one ≠ [] ∧ getT tr one = some node ∧ lcpS one p ≠ node)
def growT (p : Pl) : Nat → PT → Pl → Option PT
  | 0, _, _ => none
  | f + 1, T, node => if node = p then some T else
    match nearT T node p with
    | [] => growT p f (setT T p node) p
    | one :: _ => growT p f (if lcpS one p ≠ one then setT (setT T (lcpS one p) node) one (lcpS one p) else T) (lcpS one p)
theorem lcp_eq {a b q : Pl} (h1 : q <+: a) (h2 : q <+: b) (h3 : lcpS a b <+: q) : lcpS a b = q := pre_anti h3 (lcpS_max h1 h2)
theorem near_iff {tr : PT} (h : TB tr) {node p one : Pl} : one ∈ nearT tr node p ↔ Child tr node one ∧ lcpS one p ≠ node := by
  unfold nearT
  rw [List.mem_filter, decide_eq_true_eq, getT_iff h.nd]
  constructor
  · rintro ⟨_, h1, h2, h3⟩; exact ⟨⟨h1, h2⟩, h3⟩
  · rintro ⟨⟨h1, h2⟩, h3⟩; exact ⟨mem_keys.mpr ⟨_, h2⟩, h1, h2, h3⟩
section
variable {tr : PT} {node p c : Pl}
theorem leaf_same (h : TB tr) (hn : node ∈ keysT tr) (hno : nearT tr node p = []) {q r : Pl} (hq : q ∈ keysT tr) (hr1 : r <+: q) (hr2 : r <+: p) (hr3 : node <+: r) : r = node := by
  refine Classical.byContradiction fun hne => ?_
  have hnq : node ≠ q := fun e => hne (pre_anti (e ▸ hr1) hr3)
  obtain ⟨c, hc, hcq⟩ := h.down hn _ rfl hq (hr3.trans hr1) hnq
  obtain ⟨c1, c2, c3, c4⟩ := h.par c node hc.2 hc.1
  have hl : lcpS c p = node := by
    refine Classical.byContradiction fun e => ?_
    have := (near_iff h).mpr ⟨hc, e⟩
    rw [hno] at this; cases this
  rcases List.prefix_or_prefix_of_prefix hcq hr1 with e | e
  · have : c <+: node := hl ▸ lcpS_max (List.prefix_refl _) (e.trans hr2)
    exact c3 (pre_anti c2 this)
  · have : r <+: node := hl ▸ lcpS_max e hr2
    exact hne (pre_anti this hr3)
theorem leaf_new (h : TB tr) (hn : node ∈ keysT tr) (hp : node <+: p) (hne : node ≠ p) (hno : nearT tr node p = []) : p ∉ keysT tr := fun hm =>
  hne (leaf_same h hn hno hm (List.prefix_refl _) (List.prefix_refl _) hp).symm
theorem leaf_keys (h : TB tr) (hn : node ∈ keysT tr) (hp : node <+: p) (hne : node ≠ p) (hno : nearT tr node p = []) : keysT (setT tr p node) = keysT tr ++ [p] := by
  rw [keys_set, if_neg (leaf_new h hn hp hne hno)]
theorem leaf_ok (h : TB tr) (hn : node ∈ keysT tr) (hp : node <+: p) (hne : node ≠ p) (hno : nearT tr node p = []) (hpl : Place p) : TB (setT tr p node) := by
  have hk := leaf_keys h hn hp hne hno
  have hnew := leaf_new h hn hp hne hno
  have same := fun {q r : Pl} (hq : q ∈ keysT tr) (hr1 : r <+: q) (hr2 : r <+: p) (hr3 : node <+: r) => leaf_same h hn hno hq hr1 hr2 hr3
  have mem : ∀ {q}, q ∈ keysT (setT tr p node) ↔ q ∈ keysT tr ∨ q = p := fun {q} => by rw [hk, List.mem_append, List.mem_singleton]
  have hp0 : p ≠ [] := fun e => hne (by rw [e] at hp ⊢; exact List.prefix_nil.mp hp)
  have side : ∀ b ∈ keysT tr, lcpS p b ∈ keysT (setT tr p node) := fun b hb => by
    rcases List.prefix_or_prefix_of_prefix (lcpS_pre p b) hp with e | e
    · refine mem.mpr (.inl ?_)
      have : lcpS p b = lcpS node b := (lcp_eq e (lcpS_pre2 p b) (lcpS_max ((lcpS_pre node b).trans hp) (lcpS_pre2 node b))).symm
      rw [this]; exact h.lcp _ hn _ hb
    · rw [same hb (lcpS_pre2 p b) (lcpS_pre p b) e]; exact mem.mpr (.inl hn)
  refine ⟨?_, mem_set.mpr (.inr ⟨Ne.symm hp0, h.root⟩), fun n m hm hn0 => ?_, fun a ha b hb => ?_, fun n hm => ?_⟩
  · rw [hk]
    exact List.nodup_append.mpr ⟨h.nd, by simp, fun a ha b hb e => hnew (List.mem_singleton.mp hb ▸ e ▸ ha)⟩
  · rcases mem_set.mp hm with ⟨rfl, rfl⟩ | ⟨hnp, hm⟩
    · refine ⟨mem.mpr (.inl hn), hp, hne, fun q hq hqp hqn => ?_⟩
      rcases mem.mp hq with hq | rfl
      · rcases List.prefix_or_prefix_of_prefix hqp hp with e | e
        · exact e
        · rw [same hq (List.prefix_refl _) hqp e]; exact List.prefix_refl _
      · exact absurd rfl hqn
    · obtain ⟨a1, a2, a3, a4⟩ := h.par n m hm hn0
      refine ⟨mem.mpr (.inl a1), a2, a3, fun q hq hqp hqn => ?_⟩
      rcases mem.mp hq with hq | hq
      · exact a4 q hq hqp hqn
      · rw [hq] at hqp
        exact absurd (same (mem_keys.mpr ⟨m, hm⟩) hqp (List.prefix_refl _) hp).symm hne
  · rcases mem.mp ha with ha | ha
    · rcases mem.mp hb with hb | hb
      · exact mem.mpr (.inl (h.lcp a ha b hb))
      · rw [hb, lcpS_comm a]; exact side a ha
    · rcases mem.mp hb with hb | hb
      · rw [ha]; exact side b hb
      · rw [ha, hb, lcpS_self]; exact mem.mpr (.inr rfl)
  · rcases mem.mp hm with hm | hm
    · exact h.pl n hm
    · rw [hm]; exact hpl
theorem fork_keys (h : TB tr) (hc : Child tr node c) (hp : node <+: p) (h1 : lcpS c p ≠ node) (h2 : lcpS c p ≠ c) : lcpS c p ∉ keysT tr ∧ keysT (setT (setT tr (lcpS c p) node) c (lcpS c p)) = keysT tr ++ [lcpS c p] := by
  obtain ⟨c1, c2, c3, c4⟩ := h.par c node hc.2 hc.1
  have hnf : node <+: lcpS c p := lcpS_max c2 hp
  have hnew : lcpS c p ∉ keysT tr := fun hm => h1 (pre_anti (c4 _ hm (lcpS_pre c p) h2) hnf)
  refine ⟨hnew, ?_⟩
  rw [keys_set, keys_set, if_neg hnew, if_pos (List.mem_append_left _ (mem_keys.mpr ⟨_, hc.2⟩))]
theorem fork_mem (h2 : lcpS c p ≠ c) {n m : Pl} : (n, m) ∈ setT (setT tr (lcpS c p) node) c (lcpS c p) ↔ (n = c ∧ m = lcpS c p) ∨ (n = lcpS c p ∧ m = node) ∨ (n ≠ c ∧ n ≠ lcpS c p ∧ (n, m) ∈ tr) := by
  rw [mem_set, mem_set]
  constructor
  · rintro (h | ⟨h, ⟨h3, h4⟩ | ⟨h3, h4⟩⟩)
    · exact .inl h
    · exact .inr (.inl ⟨h3, h4⟩)
    · exact .inr (.inr ⟨h, h3, h4⟩)
  · rintro (h | ⟨h3, h4⟩ | ⟨h, h3, h4⟩)
    · exact .inl h
    · exact .inr ⟨fun e => h2 (h3.symm.trans e), .inl ⟨h3, h4⟩⟩
    · exact .inr ⟨h, .inr ⟨h3, h4⟩⟩
theorem fork_ok (h : TB tr) (hn : node ∈ keysT tr) (hc : Child tr node c) (hp : node <+: p) (h1 : lcpS c p ≠ node) (h2 : lcpS c p ≠ c) : TB (setT (setT tr (lcpS c p) node) c (lcpS c p)) := by
  obtain ⟨hnew, hk⟩ := fork_keys h hc hp h1 h2
  obtain ⟨c1, c2, c3, c4⟩ := h.par c node hc.2 hc.1
  have hcS : c ∈ keysT tr := mem_keys.mpr ⟨_, hc.2⟩
  have hnf : node <+: lcpS c p := lcpS_max c2 hp
  have hfc : lcpS c p <+: c := lcpS_pre c p
  have mem : ∀ {q}, q ∈ keysT (setT (setT tr (lcpS c p) node) c (lcpS c p)) ↔ q ∈ keysT tr ∨ q = lcpS c p := fun {q} => by rw [hk, List.mem_append, List.mem_singleton]
  have hf0 : lcpS c p ≠ [] := fun e => by
    rw [e] at hnf h1
    exact h1 (List.prefix_nil.mp hnf).symm
  have side : ∀ b ∈ keysT tr, lcpS (lcpS c p) b ∈ keysT (setT (setT tr (lcpS c p) node) c (lcpS c p)) := fun b hb => by
    rcases List.prefix_or_prefix_of_prefix hfc (lcpS_pre c b) with e | e
    · have : lcpS (lcpS c p) b = lcpS c p := lcp_eq (List.prefix_refl _) (e.trans (lcpS_pre2 c b)) (lcpS_pre _ _)
      rw [this]; exact mem.mpr (.inr rfl)
    · have : lcpS (lcpS c p) b = lcpS c b := lcp_eq e (lcpS_pre2 c b) (lcpS_max ((lcpS_pre _ _).trans hfc) (lcpS_pre2 _ _))
      rw [this]; exact mem.mpr (.inl (h.lcp c hcS b hb))
  refine ⟨?_, (fork_mem h2).mpr (.inr (.inr ⟨Ne.symm hc.1, Ne.symm hf0, h.root⟩)), fun n m hm hn0 => ?_, fun a ha b hb => ?_, fun n hm => ?_⟩
  · rw [hk]
    exact List.nodup_append.mpr ⟨h.nd, by simp, fun a ha b hb e => hnew (List.mem_singleton.mp hb ▸ e ▸ ha)⟩
  · rcases (fork_mem h2).mp hm with ⟨rfl, rfl⟩ | ⟨rfl, rfl⟩ | ⟨e1, e2, hm⟩
    · refine ⟨mem.mpr (.inr rfl), hfc, h2, fun q hq hqp hqn => ?_⟩
      rcases mem.mp hq with hq | rfl
      · exact (c4 q hq hqp hqn).trans hnf
      · exact List.prefix_refl _
    · refine ⟨mem.mpr (.inl hn), hnf, Ne.symm h1, fun q hq hqp hqn => ?_⟩
      rcases mem.mp hq with hq | rfl
      · exact c4 q hq (hqp.trans hfc) fun e => h2 (pre_anti hfc (e ▸ hqp))
      · exact absurd rfl hqn
    · obtain ⟨a1, a2, a3, a4⟩ := h.par n m hm hn0
      refine ⟨mem.mpr (.inl a1), a2, a3, fun q hq hqp hqn => ?_⟩
      rcases mem.mp hq with hq | rfl
      · exact a4 q hq hqp hqn
      · have hnS : n ∈ keysT tr := mem_keys.mpr ⟨m, hm⟩
        obtain ⟨d, hd, hdn⟩ := h.down hn _ rfl hnS (hnf.trans hqp) fun e => h1 (pre_anti (e ▸ hqp) hnf)
        obtain ⟨d1, d2, d3, d4⟩ := h.par d node hd.2 hd.1
        have hfd : lcpS c p <+: d := by
          rcases List.prefix_or_prefix_of_prefix hqp hdn with e | e
          · exact e
          · have hdc : d <+: c := e.trans hfc
            by_cases z : d = c
            · exact z ▸ hfc
            · exact absurd (pre_anti d2 (c4 d (mem_keys.mpr ⟨_, hd.2⟩) hdc z)) d3
        have hdc : d = c := h.one hd hc hfd hfc hnf (Ne.symm h1)
        rw [hdc] at hdn
        exact hfc.trans (a4 c hcS hdn (Ne.symm e1))
  · rcases mem.mp ha with ha | ha
    · rcases mem.mp hb with hb | hb
      · exact mem.mpr (.inl (h.lcp a ha b hb))
      · rw [hb, lcpS_comm a]; exact side a ha
    · rcases mem.mp hb with hb | hb
      · rw [ha]; exact side b hb
      · rw [ha, hb, lcpS_self]; exact mem.mpr (.inr rfl)
  · rcases mem.mp hm with hm | hm
    · exact h.pl n hm
    · rw [hm]; exact (h.pl c hcS).pre hfc
end
end Mine
end
section
set_option maxRecDepth 100000
namespace Mine
/-- what a grown tree comes to -/
structure Grown (tr tr' : PT) (K : List Pl) (p : Pl) : Prop where
  tb : TB tr'
  need : Need tr' (K ++ [p])
  at_ : p ∈ keysT tr'
  more : ∀ n ∈ keysT tr, n ∈ keysT tr'
  len : tr'.length ≤ tr.length + 2
  pre : ∀ n ∈ keysT tr', n ∈ keysT tr ∨ n <+: p
theorem setT_len (T : PT) (x y : Pl) : (setT T x y).length ≤ T.length + 1 := by unfold setT; split <;> simp
theorem Need.mono {tr : PT} {K K' : List Pl} (h : Need tr K) (hk : ∀ x ∈ K, x ∈ K') : Need tr K' := fun n hn => (h n hn).imp id fun q => q.imp (hk n) id
/-- p as a leaf: node may have wanted one more child -/
theorem leaf_need {tr : PT} {K : List Pl} {node p : Pl} (h : TB tr) (hn : node ∈ keysT tr) (hp : node <+: p) (hne : node ≠ p) (hno : nearT tr node p = [])
    (hN : ∀ n ∈ keysT tr, n = [] ∨ n ∈ K ∨ Two tr n ∨ (n = node ∧ ∃ c, Child tr node c)) : Need (setT tr p node) (K ++ [p]) := by
  have hk := leaf_keys h hn hp hne hno
  have hnew := leaf_new h hn hp hne hno
  have up : ∀ {n c}, Child tr n c → Child (setT tr p node) n c := fun {n c} hc => ⟨hc.1, mem_set.mpr (.inr ⟨fun e => hnew (e ▸ mem_keys.mpr ⟨_, hc.2⟩), hc.2⟩)⟩
  have hp0 : p ≠ [] := fun e => hne (by rw [e] at hp ⊢; exact List.prefix_nil.mp hp)
  have hpc : Child (setT tr p node) node p := ⟨hp0, mem_set.mpr (.inl ⟨rfl, rfl⟩)⟩
  intro n hm
  rw [hk] at hm
  rcases List.mem_append.mp hm with hm | hm
  · rcases hN n hm with q | q | ⟨c1, c2, q1, q2, q3⟩ | ⟨rfl, c, q⟩
    · exact .inl q
    · exact .inr (.inl (List.mem_append_left _ q))
    · exact .inr (.inr ⟨c1, c2, q1, up q2, up q3⟩)
    · exact .inr (.inr ⟨c, p, fun e => hnew (e ▸ mem_keys.mpr ⟨_, q.2⟩), up q, hpc⟩)
  · exact .inr (.inl (List.mem_append_right _ hm))
theorem grow_leaf {tr : PT} {K : List Pl} {node p : Pl} {f : Nat} (h : TB tr) (hn : node ∈ keysT tr) (hp : node <+: p) (hne : node ≠ p) (hno : nearT tr node p = []) (hpl : Place p)
    (hN : ∀ n ∈ keysT tr, n = [] ∨ n ∈ K ∨ Two tr n ∨ (n = node ∧ ∃ c, Child tr node c)) :
    ∃ tr', growT p (f + 2) tr node = some tr' ∧ TB tr' ∧ Need tr' (K ++ [p]) ∧ keysT tr' = keysT tr ++ [p] ∧ tr'.length ≤ tr.length + 1 := by
  refine ⟨setT tr p node, ?_, leaf_ok h hn hp hne hno hpl, leaf_need h hn hp hne hno hN, leaf_keys h hn hp hne hno, setT_len _ _ _⟩
  rw [growT, if_neg hne, hno]
  show growT p (f + 1) (setT tr p node) p = _
  rw [growT, if_pos rfl]
theorem grow_ok {p : Pl} (hpl : Place p) {K : List Pl} : ∀ (f : Nat) {tr : PT} {node : Pl}, TB tr → Need tr K → node ∈ keysT tr → node <+: p → p.length + 3 ≤ f + node.length → ∃ tr', growT p f tr node = some tr' ∧ Grown tr tr' K p
  | 0, tr, node, h, hN, hn, hp, hf => by have := hp.length_le; omega
  | f + 1, tr, node, h, hN, hn, hp, hf => by
    by_cases he : node = p
    · refine ⟨tr, by rw [growT, if_pos he], h, hN.mono fun x hx => List.mem_append_left _ hx, he ▸ hn, fun _ q => q, by omega, fun n q => .inl q⟩
    have hlt := pre_len hp he
    cases hnear : nearT tr node p with
    | nil =>
      obtain ⟨g, rfl⟩ : ∃ g, f = g + 1 := ⟨f - 1, by omega⟩
      obtain ⟨tr', h1, h2, h3, h4, h5⟩ := grow_leaf (K := K) (f := g) h hn hp he hnear hpl fun n hm => (hN n hm).imp id fun q => q.imp id .inl
      refine ⟨tr', h1, h2, h3, by rw [h4]; simp, fun n q => by rw [h4]; exact List.mem_append_left _ q, by omega, fun n q => ?_⟩
      rw [h4] at q
      exact (List.mem_append.mp q).imp id fun z => by rw [List.mem_singleton.mp z]; exact List.prefix_refl _
    | cons c rest =>
      obtain ⟨hc, h1⟩ := (near_iff h).mp (by rw [hnear]; exact List.mem_cons_self : c ∈ nearT tr node p)
      obtain ⟨c1, c2, c3, c4⟩ := h.par c node hc.2 hc.1
      have hcS : c ∈ keysT tr := mem_keys.mpr ⟨_, hc.2⟩
      have hnf : node <+: lcpS c p := lcpS_max c2 hp
      have hfl := pre_len hnf (Ne.symm h1)
      have hstep : growT p (f + 1) tr node = growT p f (if lcpS c p ≠ c then setT (setT tr (lcpS c p) node) c (lcpS c p) else tr) (lcpS c p) := by
        rw [growT, if_neg he, hnear]
      rw [hstep]
      by_cases h2 : lcpS c p = c
      · rw [if_neg (not_not_intro h2)]
        have hcp : c <+: p := h2 ▸ lcpS_pre2 c p
        rw [h2]
        rw [h2] at hfl
        exact grow_ok hpl f h hN hcS hcp (by omega)
      · rw [if_pos h2]
        obtain ⟨hnew, hk⟩ := fork_keys h hc hp h1 h2
        have hT := fork_ok h hn hc hp h1 h2
        have hfc : lcpS c p <+: c := lcpS_pre c p
        have hfp : lcpS c p <+: p := lcpS_pre2 c p
        have hchild : Child (setT (setT tr (lcpS c p) node) c (lcpS c p)) (lcpS c p) c := ⟨hc.1, (fork_mem h2).mpr (.inl ⟨rfl, rfl⟩)⟩
        have hf0 : lcpS c p ≠ [] := fun e => by rw [e] at hnf h1; exact h1 (List.prefix_nil.mp hnf).symm
        have hfn : Child (setT (setT tr (lcpS c p) node) c (lcpS c p)) node (lcpS c p) := ⟨hf0, (fork_mem h2).mpr (.inr (.inl ⟨rfl, rfl⟩))⟩
        have hneed : ∀ n ∈ keysT (setT (setT tr (lcpS c p) node) c (lcpS c p)), n = [] ∨ n ∈ K ∨ Two (setT (setT tr (lcpS c p) node) c (lcpS c p)) n ∨ (n = lcpS c p ∧ ∃ c', Child (setT (setT tr (lcpS c p) node) c (lcpS c p)) (lcpS c p) c') := fun n hm => by
          rw [hk] at hm
          rcases List.mem_append.mp hm with hm | hm
          · rcases hN n hm with q | q | ⟨d1, d2, q1, q2, q3⟩
            · exact .inl q
            · exact .inr (.inl q)
            · refine .inr (.inr (.inl ?_))
              have move : ∀ {d}, Child tr n d → d ≠ c → Child (setT (setT tr (lcpS c p) node) c (lcpS c p)) n d := fun {d} hd hdc =>
                ⟨hd.1, (fork_mem h2).mpr (.inr (.inr ⟨hdc, fun e => hnew (e ▸ mem_keys.mpr ⟨_, hd.2⟩), hd.2⟩))⟩
              have cn : ∀ {d}, Child tr n d → d = c → n = node := fun {d} hd e => h.fn hd.2 (e ▸ hc.2)
              by_cases e1 : d1 = c
              · have := cn q2 e1
                subst this
                exact ⟨lcpS c p, d2, fun e => hnew (e ▸ mem_keys.mpr ⟨_, q3.2⟩), hfn, move q3 fun e => q1 (e1.trans e.symm)⟩
              · by_cases e2 : d2 = c
                · have := cn q3 e2
                  subst this
                  exact ⟨d1, lcpS c p, fun e => hnew (e ▸ mem_keys.mpr ⟨_, q2.2⟩), move q2 e1, hfn⟩
                · exact ⟨d1, d2, q1, move q2 e1, move q3 e2⟩
          · exact .inr (.inr (.inr ⟨List.mem_singleton.mp hm, c, hchild⟩))
        have hl2 : (setT (setT tr (lcpS c p) node) c (lcpS c p)).length = tr.length + 1 := by
          have := congrArg List.length hk
          unfold keysT at this
          simpa using this
        have hfS : lcpS c p ∈ keysT (setT (setT tr (lcpS c p) node) c (lcpS c p)) := by rw [hk]; simp
        by_cases hfe : lcpS c p = p
        · obtain ⟨g, rfl⟩ : ∃ g, f = g + 1 := ⟨f - 1, by omega⟩
          refine ⟨_, by rw [growT, if_pos hfe], hT, fun n hm => ?_, ?_, fun n q => by rw [hk]; exact List.mem_append_left _ q, by omega, fun n q => ?_⟩
          · rcases hneed n hm with q | q | q | ⟨q, _⟩
            · exact .inl q
            · exact .inr (.inl (List.mem_append_left _ q))
            · exact .inr (.inr q)
            · exact .inr (.inl (List.mem_append_right _ (List.mem_singleton.mpr (q.trans hfe))))
          · have := hfS
            generalize keysT (setT (setT tr (lcpS c p) node) c (lcpS c p)) = S at this ⊢
            rwa [hfe] at this
          · rw [hk] at q
            exact (List.mem_append.mp q).imp id fun z => by rw [List.mem_singleton.mp z]; exact hfp
        · have hno : nearT (setT (setT tr (lcpS c p) node) c (lcpS c p)) (lcpS c p) p = [] := by
            refine List.eq_nil_iff_forall_not_mem.mpr fun d hd => ?_
            obtain ⟨hd1, hd2⟩ := (near_iff hT).mp hd
            rcases (fork_mem h2).mp hd1.2 with ⟨rfl, _⟩ | ⟨_, e⟩ | ⟨_, _, e⟩
            · exact hd2 rfl
            · exact h1 e
            · exact hnew (h.par d _ e hd1.1).1
          obtain ⟨g, rfl⟩ : ∃ g, f = g + 2 := ⟨f - 2, by have := pre_len hfp hfe; omega⟩
          obtain ⟨tr', g1, g2, g3, g4, g5⟩ := grow_leaf (K := K) (f := g) hT hfS hfp hfe hno hpl hneed
          refine ⟨tr', g1, g2, g3, by rw [g4]; simp, fun n q => by rw [g4, hk]; exact List.mem_append_left _ (List.mem_append_left _ q), by omega, fun n q => ?_⟩
          rw [g4, hk] at q
          rcases List.mem_append.mp q with q | q
          · exact (List.mem_append.mp q).imp id fun z => by rw [List.mem_singleton.mp z]; exact hfp
          · exact .inr (by rw [List.mem_singleton.mp q]; exact List.prefix_refl _)
end Mine
end
section
set_option maxRecDepth 100000
namespace Mine
def belowT (T : PT) (n : Pl) : List Pl := (keysT T).filter fun one => decide (one ≠ [] ∧ getT T one = some n)
def liftT (g : Pl) (T : PT) (l : List Pl) : PT := l.foldl (fun T one => setT T one g) T
abbrev pruneCT (K : List Pl) (T : PT) (n : Pl) : Prop := n ≠ [] ∧ n ∉ K ∧ (belowT T n).length < 2
def prune1T (K : List Pl) (T : PT) (n : Pl) : PT := if pruneCT K T n then popT (liftT ((getT T n).getD []) T (belowT T n)) n else T
def pruneT (K : List Pl) (T : PT) (nodes : List Pl) : PT := nodes.foldl (prune1T K) T
theorem below_iff {tr : PT} (h : TB tr) {n c : Pl} : c ∈ belowT tr n ↔ Child tr n c := by
  unfold belowT
  rw [List.mem_filter, decide_eq_true_eq, getT_iff h.nd]
  exact ⟨fun q => q.2, fun q => ⟨mem_keys.mpr ⟨_, q.2⟩, q⟩⟩
theorem below_nd {tr : PT} (h : TB tr) (n : Pl) : (belowT tr n).Nodup := h.nd.filter _
theorem below_two {tr : PT} (h : TB tr) {n : Pl} : ¬ (belowT tr n).length < 2 ↔ Two tr n := by
  constructor
  · intro hl
    match hb : belowT tr n with
    | [] => rw [hb] at hl; simp at hl
    | [_] => rw [hb] at hl; simp at hl
    | c1 :: c2 :: r =>
      have nd := below_nd h n
      rw [hb] at nd
      refine ⟨c1, c2, ?_, (below_iff h).mp (by rw [hb]; simp), (below_iff h).mp (by rw [hb]; simp)⟩
      have := (List.nodup_cons.mp nd).1
      exact fun e => this (e ▸ List.mem_cons_self)
  · rintro ⟨c1, c2, hne, h1, h2⟩ hl
    have h1 := (below_iff h).mpr h1
    have h2 := (below_iff h).mpr h2
    match hb : belowT tr n with
    | [] => rw [hb] at h1; cases h1
    | [a] => rw [hb] at h1 h2; exact hne ((List.mem_singleton.mp h1).trans (List.mem_singleton.mp h2).symm)
    | c1 :: c2 :: r => rw [hb] at hl; simp at hl; omega
theorem mem_lift {g : Pl} : ∀ {l : List Pl} {T : PT} {n m : Pl}, (n, m) ∈ liftT g T l ↔ (n ∈ l ∧ m = g) ∨ (n ∉ l ∧ (n, m) ∈ T)
  | [], T, n, m => by simp [liftT]
  | x :: l, T, n, m => by
    show (n, m) ∈ liftT g (setT T x g) l ↔ _
    rw [mem_lift, mem_set, List.mem_cons]
    by_cases h1 : n ∈ l
    · simp [h1]
    · by_cases h2 : n = x
      · subst h2; simp [h1]
      · simp [h1, h2]
theorem keys_lift {g : Pl} : ∀ {l : List Pl} {T : PT}, (∀ x ∈ l, x ∈ keysT T) → keysT (liftT g T l) = keysT T
  | [], T, _ => rfl
  | x :: l, T, h => by
    show keysT (liftT g (setT T x g) l) = _
    have e : keysT (setT T x g) = keysT T := by rw [keys_set, if_pos (h x List.mem_cons_self)]
    rw [keys_lift (fun y hy => by rw [e]; exact h y (List.mem_cons_of_mem _ hy)), e]
theorem keysT_pop (T : PT) (x : Pl) : keysT (popT T x) = (keysT T).filter fun y => decide (y ≠ x) := by
  unfold popT keysT
  rw [List.filter_map]; rfl
/-- n taken out, its children below m -/
def outT (tr : PT) (n m : Pl) : PT := popT (liftT m tr (belowT tr n)) n
theorem below_sub (tr : PT) (n : Pl) : ∀ x ∈ belowT tr n, x ∈ keysT tr := fun x hx => (List.mem_filter.mp hx).1
theorem out_keys (tr : PT) (n m : Pl) : keysT (outT tr n m) = (keysT tr).filter fun y => decide (y ≠ n) := by
  unfold outT; rw [keysT_pop, keys_lift (below_sub tr n)]
theorem out_key {tr : PT} {n m x : Pl} : x ∈ keysT (outT tr n m) ↔ x ∈ keysT tr ∧ x ≠ n := by
  rw [out_keys, List.mem_filter, decide_eq_true_eq]
theorem out_mem {tr : PT} (h : TB tr) {n m x y : Pl} : (x, y) ∈ outT tr n m ↔ x ≠ n ∧ ((Child tr n x ∧ y = m) ∨ (¬ Child tr n x ∧ (x, y) ∈ tr)) := by
  unfold outT; rw [mem_pop, mem_lift, below_iff h]
theorem one_child {tr : PT} {n c1 c2 : Pl} (h2 : ¬ Two tr n) (a : Child tr n c1) (b : Child tr n c2) : c1 = c2 := Classical.byContradiction fun e => h2 ⟨c1, c2, e, a, b⟩
section
variable {tr : PT} {n m : Pl}
theorem out_ok (h : TB tr) (hm : (n, m) ∈ tr) (hn : n ≠ []) (h2 : ¬ Two tr n) : TB (outT tr n m) := by
  have hnS : n ∈ keysT tr := mem_keys.mpr ⟨m, hm⟩
  obtain ⟨m1, m2, m3, m4⟩ := h.par n m hm hn
  have mS : m ∈ keysT (outT tr n m) := out_key.mpr ⟨m1, m3⟩
  refine ⟨by rw [out_keys]; exact h.nd.filter _, (out_mem h).mpr ⟨Ne.symm hn, .inr ⟨fun q => q.1 rfl, h.root⟩⟩, fun x y hxy hx => ?_, fun a ha b hb => ?_, fun x hx => h.pl x (out_key.mp hx).1⟩
  · obtain ⟨hxn, ⟨hc, rfl⟩ | ⟨hc, hxy⟩⟩ := (out_mem h).mp hxy
    · obtain ⟨c1, c2, c3, c4⟩ := h.par x n hc.2 hc.1
      refine ⟨mS, m2.trans c2, fun e => c3 (pre_anti c2 (e ▸ m2)), fun q hq hqx hne => ?_⟩
      obtain ⟨hq1, hq2⟩ := out_key.mp hq
      exact m4 q hq1 (c4 q hq1 hqx hne) hq2
    · obtain ⟨c1, c2, c3, c4⟩ := h.par x y hxy hx
      refine ⟨out_key.mpr ⟨c1, fun e => hc ⟨hx, e ▸ hxy⟩⟩, c2, c3, fun q hq => c4 q (out_key.mp hq).1⟩
  · obtain ⟨ha1, ha2⟩ := out_key.mp ha
    obtain ⟨hb1, hb2⟩ := out_key.mp hb
    refine out_key.mpr ⟨h.lcp a ha1 b hb1, fun e => ?_⟩
    obtain ⟨c1, hc1, hd1⟩ := h.down hnS _ rfl ha1 (e ▸ lcpS_pre a b) (Ne.symm ha2)
    obtain ⟨c2, hc2, hd2⟩ := h.down hnS _ rfl hb1 (e ▸ lcpS_pre2 a b) (Ne.symm hb2)
    have hcc := one_child h2 hc1 hc2
    obtain ⟨_, q2, q3, _⟩ := h.par c1 n hc1.2 hc1.1
    have : c1 <+: n := e ▸ lcpS_max hd1 (hcc ▸ hd2)
    exact q3 (pre_anti q2 this)
theorem out_two (h : TB tr) (hm : (n, m) ∈ tr) (hn : n ≠ []) {x : Pl} (hx : x ≠ n) (h2 : Two tr x) : Two (outT tr n m) x ∨ (x = m ∧ (∀ d, ¬ Child tr n d) ∧ ∃ c, Child (outT tr n m) x c) := by
  have keep : ∀ {c}, Child tr x c → c ≠ n → Child (outT tr n m) x c := fun {c} hc hcn => ⟨hc.1, (out_mem h).mpr ⟨hcn, .inr ⟨fun q => hx (h.fn hc.2 q.2), hc.2⟩⟩⟩
  have side : ∀ {c1 c2}, c1 ≠ c2 → Child tr x c1 → Child tr x c2 → c1 = n → Two (outT tr n m) x ∨ (x = m ∧ (∀ d, ¬ Child tr n d) ∧ ∃ c, Child (outT tr n m) x c) := fun {c1 c2} hne h1 h2 e => by
    subst e
    have hxm : x = m := h.fn h1.2 hm
    subst hxm
    have k2 := keep h2 (Ne.symm hne)
    by_cases hd : ∃ d, Child tr c1 d
    · obtain ⟨d, hd⟩ := hd
      refine .inl ⟨d, c2, fun e => hx ?_, ⟨hd.1, (out_mem h).mpr ⟨fun e => (h.par d c1 hd.2 hd.1).2.2.1 e.symm, .inl ⟨hd, rfl⟩⟩⟩, k2⟩
      subst e
      exact h.fn h2.2 hd.2
    · exact .inr ⟨rfl, fun d q => hd ⟨d, q⟩, c2, k2⟩
  obtain ⟨c1, c2, hne, h1, h2⟩ := h2
  by_cases e1 : c1 = n
  · exact side hne h1 h2 e1
  · by_cases e2 : c2 = n
    · exact side (Ne.symm hne) h2 h1 e2
    · exact .inl ⟨c1, c2, hne, keep h1 e1, keep h2 e2⟩
end
theorem out_len (tr : PT) (n m : Pl) : (outT tr n m).length ≤ tr.length := by
  have := congrArg List.length (out_keys tr n m)
  unfold keysT at this
  rw [List.length_map] at this
  rw [this]
  exact Nat.le_trans (List.length_filter_le _ _) (by rw [List.length_map]; exact Nat.le_refl _)
/-- what a tree without p comes to -/
structure Pruned (tr tr' : PT) (K : List Pl) : Prop where
  tb : TB tr'
  need : Need tr' K
  less : ∀ x ∈ keysT tr', x ∈ keysT tr
  keep : ∀ x ∈ K, x ∈ keysT tr → x ∈ keysT tr'
  len : tr'.length ≤ tr.length
theorem prune1_pop {K : List Pl} {tr : PT} {n m : Pl} (h : TB tr) (hm : (n, m) ∈ tr) (hc : pruneCT K tr n) : prune1T K tr n = outT tr n m := by
  unfold prune1T outT; rw [if_pos hc, (getT_iff h.nd).mpr hm]; rfl
theorem prune1_not {K : List Pl} {tr : PT} {n : Pl} (hc : ¬ pruneCT K tr n) : prune1T K tr n = tr := if_neg hc
theorem prune_ok {K K' : List Pl} {tr : PT} {p m : Pl} (h : TB tr) (hN : Need tr K) (hm : (p, m) ∈ tr) (hK : ∀ x, x ∈ K ↔ x ∈ K' ∨ x = p) (hp : p ∉ K') :
    Pruned tr (prune1T K' tr p) K' ∧ prune1T K' (prune1T K' tr p) m = prune1T K' tr p ∨
    (∃ g, (m, g) ∈ prune1T K' tr p) ∧ TB (prune1T K' tr p) ∧ (prune1T K' tr p).length ≤ tr.length ∧ Pruned tr (prune1T K' (prune1T K' tr p) m) K' := by
  by_cases hc : pruneCT K' tr p
  · have h2 : ¬ Two tr p := fun q => (below_two h).mpr q hc.2.2
    rw [prune1_pop h hm hc]
    have h' := out_ok h hm hc.1 h2
    have hexc : ∀ x ∈ keysT (outT tr p m), x = [] ∨ x ∈ K' ∨ Two (outT tr p m) x ∨ (x = m ∧ ∃ c, Child (outT tr p m) x c) := fun x hx => by
      obtain ⟨hx1, hx2⟩ := out_key.mp hx
      rcases hN x hx1 with q | q | q
      · exact .inl q
      · exact .inr (.inl (((hK x).mp q).resolve_right hx2))
      · rcases out_two h hm hc.1 hx2 q with q | ⟨q1, _, q2⟩
        · exact .inr (.inr (.inl q))
        · exact .inr (.inr (.inr ⟨q1, q2⟩))
    have hless : ∀ x ∈ keysT (outT tr p m), x ∈ keysT tr := fun x hx => (out_key.mp hx).1
    have hkeep : ∀ x ∈ K', x ∈ keysT tr → x ∈ keysT (outT tr p m) := fun x hx hs => out_key.mpr ⟨hs, fun e => hp (e ▸ hx)⟩
    obtain ⟨m1, m2, m3, m4⟩ := h.par p m hm hc.1
    have mS : m ∈ keysT (outT tr p m) := out_key.mpr ⟨m1, m3⟩
    by_cases hc2 : pruneCT K' (outT tr p m) m
    · refine .inr ?_
      obtain ⟨g, hg⟩ := mem_keys.mp mS
      have h22 : ¬ Two (outT tr p m) m := fun q => (below_two h').mpr q hc2.2.2
      refine ⟨⟨g, hg⟩, h', out_len _ _ _, ?_⟩
      rw [prune1_pop h' hg hc2]
      obtain ⟨c, hmc⟩ : ∃ c, Child (outT tr p m) m c := by
        rcases hexc m mS with q | q | q | q
        · exact absurd q hc2.1
        · exact absurd q hc2.2.1
        · exact absurd q h22
        · exact q.2
      refine ⟨out_ok h' hg hc2.1 h22, fun x hx => ?_, fun x hx => hless x (out_key.mp hx).1, fun x hx hs => out_key.mpr ⟨hkeep x hx hs, fun e => hc2.2.1 (e ▸ hx)⟩, Nat.le_trans (out_len _ _ _) (out_len _ _ _)⟩
      obtain ⟨hx1, hx2⟩ := out_key.mp hx
      rcases hexc x hx1 with q | q | q | q
      · exact .inl q
      · exact .inr (.inl q)
      · rcases out_two h' hg hc2.1 hx2 q with q | ⟨_, q2, _⟩
        · exact .inr (.inr q)
        · exact absurd hmc (q2 c)
      · exact absurd q.1 hx2
    · refine .inl ⟨⟨h', fun x hx => ?_, hless, hkeep, out_len _ _ _⟩, prune1_not hc2⟩
      rcases hexc x hx with q | q | q | ⟨rfl, q⟩
      · exact .inl q
      · exact .inr (.inl q)
      · exact .inr (.inr q)
      · by_cases e0 : x = []
        · exact .inl e0
        · by_cases e1 : x ∈ K'
          · exact .inr (.inl e1)
          · exact .inr (.inr ((below_two h').mp fun e2 => hc2 ⟨e0, e1, e2⟩))
  · rw [prune1_not hc]
    have hN' : Need tr K' := fun x hx => by
      rcases hN x hx with q | q | q
      · exact .inl q
      · rcases (hK x).mp q with q | rfl
        · exact .inr (.inl q)
        · by_cases e0 : x = []
          · exact .inl e0
          · exact .inr (.inr ((below_two h).mp fun e2 => hc ⟨e0, hp, e2⟩))
      · exact .inr (.inr q)
    refine .inl ⟨⟨h, hN', fun x hx => hx, fun x _ hx => hx, Nat.le_refl _⟩, prune1_not fun hc2 => ?_⟩
    have mS : m ∈ keysT tr := by
      by_cases e : p = []
      · subst e; rw [h.fn hm h.root]; exact mem_keys.mpr ⟨_, h.root⟩
      · exact (h.par p m hm e).1
    rcases hN' m mS with q | q | q
    · exact hc2.1 q
    · exact hc2.2.1 q
    · exact (below_two h).mpr q hc2.2.2
end Mine
end
section
set_option maxRecDepth 100000
namespace Mine
/-! the tree of places as a tree of strs -/
def tS (T : PT) : TreeS := T.map fun e => (P e.1, P e.2)
def PlT (T : PT) : Prop := ∀ e ∈ T, Place e.1 ∧ Place e.2
theorem P_iff {a b : Pl} (ha : Place a) (hb : Place b) : P a = P b ↔ a = b := ⟨P_inj ha hb, fun e => e ▸ rfl⟩
theorem root_P : ("/" : Str) = P [] := by decide +kernel
theorem place_nil : Place [] := fun _ h => nomatch h
theorem TB.plt {tr : PT} (h : TB tr) : PlT tr := fun e he => by
  obtain ⟨n, m⟩ := e
  have hn := h.pl n (mem_keys.mpr ⟨m, he⟩)
  refine ⟨hn, ?_⟩
  by_cases e : n = []
  · subst e
    have : m = [] := h.fn he h.root
    rw [this]; exact place_nil
  · exact h.pl m (h.par n m he e).1
theorem PlT.key {T : PT} (h : PlT T) {x : Pl} (hx : x ∈ keysT T) : Place x := by
  obtain ⟨m, hm⟩ := mem_keys.mp hx
  exact (h _ hm).1
theorem PlT.get {T : PT} (h : PlT T) {x y : Pl} (hx : getT T x = some y) : Place y := by
  unfold getT at hx
  cases e : T.find? (fun q => decide (q.1 = x)) with
  | none => rw [e] at hx; cases hx
  | some q =>
    rw [e] at hx
    have h2 : q.2 = y := by simpa using hx
    rw [← h2]; exact (h q (List.mem_of_find?_eq_some e)).2
theorem any_tS {x : Pl} (hx : Place x) : ∀ {T : PT}, PlT T → (tS T).any (fun p => decide (p.1 = P x)) = T.any fun p => decide (p.1 = x)
  | [], _ => rfl
  | p :: r, h => by
    show (decide (P p.1 = P x) || (tS r).any _) = (decide (p.1 = x) || r.any _)
    rw [any_tS hx fun e he => h e (List.mem_cons_of_mem _ he), decide_eq_decide.mpr (P_iff (h p List.mem_cons_self).1 hx)]
theorem map_tS {x y : Pl} (hx : Place x) : ∀ {T : PT}, PlT T → (tS T).map (fun p => if p.1 = P x then (p.1, P y) else p) = tS (T.map fun p => if p.1 = x then (p.1, y) else p)
  | [], _ => rfl
  | p :: r, h => by
    show (if P p.1 = P x then (P p.1, P y) else (P p.1, P p.2)) :: (tS r).map _ = (P (if p.1 = x then (p.1, y) else p).1, P (if p.1 = x then (p.1, y) else p).2) :: tS (r.map _)
    rw [map_tS hx fun e he => h e (List.mem_cons_of_mem _ he)]
    congr 1
    by_cases e : p.1 = x
    · rw [if_pos e, if_pos (by rw [e])]
    · rw [if_neg e, if_neg fun q => e (P_inj (h p List.mem_cons_self).1 hx q)]
theorem set_tS {T : PT} (h : PlT T) {x y : Pl} (hx : Place x) : setS (tS T) (P x) (P y) = tS (setT T x y) := by
  unfold setS setT
  rw [any_tS hx h, map_tS hx h]
  split
  · rfl
  · show _ = tS _
    unfold tS; rw [List.map_append]; rfl
theorem PlT.set {T : PT} (h : PlT T) {x y : Pl} (hx : Place x) (hy : Place y) : PlT (setT T x y) := fun e he => by
  obtain ⟨n, m⟩ := e
  rcases mem_set.mp he with ⟨rfl, rfl⟩ | ⟨_, he⟩
  · exact ⟨hx, hy⟩
  · exact h _ he
theorem get_tS {x : Pl} (hx : Place x) : ∀ {T : PT}, PlT T → getS (tS T) (P x) = (getT T x).map P
  | [], _ => rfl
  | p :: r, h => by
    have ih := get_tS hx (T := r) fun e he => h e (List.mem_cons_of_mem _ he)
    unfold getS getT at ih ⊢
    show (List.find? _ ((P p.1, P p.2) :: tS r)).map _ = _
    rw [List.find?_cons, List.find?_cons]
    by_cases e : p.1 = x
    · simp only [e, decide_true]; rfl
    · have e' : ¬ P p.1 = P x := fun q => e (P_inj (h p List.mem_cons_self).1 hx q)
      simp only [e, e', decide_false]
      exact ih
theorem filter_P {l : List Pl} {f : Str → Bool} {g : Pl → Bool} (h : ∀ x ∈ l, f (P x) = g x) : (l.map P).filter f = (l.filter g).map P := by
  induction l with
  | nil => rfl
  | cons x r ih =>
    rw [List.map_cons, List.filter_cons, List.filter_cons, h x List.mem_cons_self, ih fun y hy => h y (List.mem_cons_of_mem _ hy)]
    split <;> rfl
theorem pop_tS {T : PT} (h : PlT T) {x : Pl} (hx : Place x) : popS (tS T) (P x) = tS (popT T x) := by
  unfold popS popT tS
  rw [List.filter_map]
  congr 1
  refine List.filter_congr fun e he => ?_
  show decide (P e.1 ≠ P x) = _
  exact decide_eq_decide.mpr (not_congr (P_iff (h e he).1 hx))
theorem PlT.pop {T : PT} (h : PlT T) (x : Pl) : PlT (popT T x) := fun e he => h e (List.mem_filter.mp he).1
theorem keys_tS (T : PT) : keysS (tS T) = (keysT T).map P := by unfold keysS keysT tS; rw [List.map_map, List.map_map]; rfl
theorem get_is {T : PT} (h : PlT T) {one node : Pl} (ho : Place one) (hn : Place node) : getS (tS T) (P one) = some (P node) ↔ getT T one = some node := by
  rw [get_tS ho h]
  cases e : getT T one with
  | none => simp
  | some y => simp only [Option.map_some, Option.some.injEq]; exact P_iff (h.get e) hn
theorem root_iff {x : Pl} (hx : Place x) : P x ≠ "/" ↔ x ≠ [] := by rw [root_P]; exact not_congr (P_iff hx place_nil)
theorem near_tS {T : PT} (h : PlT T) {node p : Pl} (hn : Place node) (hp : Place p) : nearerS (tS T) (P node) (P p) = (nearT T node p).map P := by
  unfold nearerS nearT
  rw [keys_tS]
  refine filter_P fun one ho => decide_eq_decide.mpr ?_
  have ho := h.key ho
  rw [common_two ho hp, root_iff ho, get_is h ho hn]
  exact and_congr_right fun _ => and_congr_right fun _ => not_congr (P_iff (ho.pre (lcpS_pre _ _)) hn)
theorem grow_tS {p : Pl} (hp : Place p) : ∀ (f : Nat) {T : PT} {node : Pl}, PlT T → Place node → growGo (P p) f (tS T) (P node) = (growT p f T node).map tS
  | 0, _, _, _, _ => rfl
  | f + 1, T, node, h, hn => by
    rw [growGo, growT]
    by_cases e : node = p
    · rw [if_pos e, if_pos (by rw [e])]; rfl
    · rw [if_neg e, if_neg fun q => e (P_inj hn hp q), near_tS h hn hp]
      cases hl : nearT T node p with
      | nil =>
        show growGo (P p) f (setS (tS T) (P p) (P node)) (P p) = (growT p f (setT T p node) p).map tS
        rw [set_tS h hp, grow_tS hp f (h.set hp hn) hp]
      | cons one r =>
        have ho : Place one := h.key (List.mem_filter.mp (by rw [hl]; exact List.mem_cons_self : one ∈ nearT T node p)).1
        have hf : Place (lcpS one p) := ho.pre (lcpS_pre _ _)
        show growGo (P p) f (if commonS (P one) [P p] ≠ P one then setS (setS (tS T) (commonS (P one) [P p]) (P node)) (P one) (commonS (P one) [P p]) else tS T) (commonS (P one) [P p]) = (growT p f (if lcpS one p ≠ one then setT (setT T (lcpS one p) node) one (lcpS one p) else T) (lcpS one p)).map tS
        rw [common_two ho hp]
        by_cases e2 : lcpS one p = one
        · rw [if_neg (not_not_intro e2), if_neg (not_not_intro (by rw [e2])), grow_tS hp f h hf]
        · rw [if_pos e2, if_pos fun q => e2 (P_inj hf ho q), set_tS h hf, set_tS (h.set hf hn) ho, grow_tS hp f ((h.set hf hn).set ho hf) hf]
theorem below_tS {T : PT} (h : PlT T) {n : Pl} (hn : Place n) : belowS (tS T) (P n) = (belowT T n).map P := by
  unfold belowS belowT
  rw [keys_tS]
  refine filter_P fun one ho => decide_eq_decide.mpr ?_
  have ho := h.key ho
  rw [root_iff ho, get_is h ho hn]
theorem lift_tS {g : Pl} (hg : Place g) : ∀ {l : List Pl} {T : PT}, PlT T → (∀ x ∈ l, Place x) → liftS (P g) (tS T) (l.map P) = tS (liftT g T l) ∧ PlT (liftT g T l)
  | [], T, h, _ => ⟨rfl, h⟩
  | x :: l, T, h, hl => by
    have hx := hl x List.mem_cons_self
    show liftS (P g) (setS (tS T) (P x) (P g)) (l.map P) = tS (liftT g (setT T x g) l) ∧ PlT (liftT g (setT T x g) l)
    rw [set_tS h hx]
    exact lift_tS hg (h.set hx hg) fun y hy => hl y (List.mem_cons_of_mem _ hy)
theorem mem_P {K : List Pl} (hK : ∀ x ∈ K, Place x) {n : Pl} (hn : Place n) : P n ∈ K.map P ↔ n ∈ K := by
  rw [List.mem_map]
  exact ⟨fun ⟨x, hx, e⟩ => P_inj (hK x hx) hn e ▸ hx, fun h => ⟨n, h, rfl⟩⟩
theorem pruneC_tS {K : List Pl} (hK : ∀ x ∈ K, Place x) {T : PT} (h : PlT T) {n : Pl} (hn : Place n) : pruneC (K.map P) (tS T) (P n) ↔ pruneCT K T n := by
  unfold pruneC pruneCT
  rw [root_iff hn, mem_P hK hn, below_tS h hn, List.length_map]
theorem prune1_tS {K : List Pl} (hK : ∀ x ∈ K, Place x) {T : PT} (h : PlT T) {n : Pl} (hn : Place n) (hS : n ∈ keysT T) : prune1 (K.map P) (tS T) (P n) = tS (prune1T K T n) ∧ PlT (prune1T K T n) := by
  unfold prune1 prune1T
  by_cases hc : pruneCT K T n
  · rw [if_pos hc, if_pos ((pruneC_tS hK h hn).mpr hc), get_tS hn h, below_tS h hn]
    have hb : ∀ x ∈ belowT T n, Place x := fun x hx => h.key (List.mem_filter.mp hx).1
    cases hg : getT T n with
    | none =>
      exfalso
      obtain ⟨m, hm⟩ := mem_keys.mp hS
      unfold getT at hg
      have := List.find?_eq_none.mp (Option.map_eq_none_iff.mp hg) _ hm
      simp at this
    | some g =>
      have hgp := h.get hg
      obtain ⟨h1, h2⟩ := lift_tS hgp h hb
      show popS (liftS (P g) (tS T) _) _ = tS (popT (liftT g T _) n) ∧ PlT (popT (liftT g T _) n)
      rw [h1, pop_tS h2 hn]
      exact ⟨rfl, h2.pop n⟩
  · rw [if_neg hc, if_neg fun q => hc ((pruneC_tS hK h hn).mp q)]
    exact ⟨rfl, h⟩
end Mine
end
section
set_option maxRecDepth 100000
namespace Mine
/-! label -/
theorem label_place {m : Pl} : ∀ (k : Nat) {n : Pl}, n.length = k → Place n → m <+: n → ∀ (f : Nat) (names : List Str), k + 1 ≤ f + m.length → labelGo (P m) f (P n) names = some (n.drop m.length ++ names) := by
  intro k
  induction k with
  | zero =>
    intro n hk hn hm f names hf
    have hn0 : n = [] := List.length_eq_zero_iff.mp hk
    subst hn0
    have hm0 : m = [] := List.prefix_nil.mp hm
    subst hm0
    obtain ⟨g, rfl⟩ : ∃ g, f = g + 1 := ⟨f - 1, by simp at hf; omega⟩
    rw [labelGo, if_neg fun q => q.1 rfl]; rfl
  | succ k ih =>
    intro n hk hn hm f names hf
    by_cases e : m = n
    · subst e
      obtain ⟨g, rfl⟩ : ∃ g, f = g + 1 := ⟨f - 1, by omega⟩
      rw [labelGo, if_neg fun q => q.1 rfl, List.drop_length]; rfl
    · have hlt := pre_len hm e
      obtain ⟨l, x, rfl⟩ : ∃ l x, n = l ++ [x] := by
        have hn0 : n ≠ [] := fun q => by rw [q] at hk; cases hk
        exact ⟨n.dropLast, n.getLast hn0, (List.dropLast_concat_getLast hn0).symm⟩
      have hl : Place l := fun y hy => hn y (List.mem_append_left _ hy)
      have hll : l.length = k := by simpa using hk
      have hml : m <+: l := by
        rcases List.prefix_concat_iff.mp (by simpa using hm) with q | q
        · exact absurd (by simpa using q) e
        · exact q
      have hcut : headCut (P (l ++ [x])) = P l := by rw [cut_place hn]; simp
      have hne : l ≠ l ++ [x] := fun q => by have := congrArg List.length q; simp at this
      obtain ⟨g, rfl⟩ : ∃ g, f = g + 1 := ⟨f - 1, by omega⟩
      rw [labelGo, if_pos ⟨fun q => e (P_inj hn (hl.pre hml) q).symm, by rw [hcut]; exact fun q => hne (P_inj hl hn q)⟩, hcut, tail_place hn]
      rw [ih hll hl hml g (x :: names) (by omega)]
      rw [List.drop_append_of_le_length hml.length_le]; simp
/-! up the tree -/
theorem up_place {tr : PT} (h : TB tr) {n : Pl} (hn : n ∈ keysT tr) : ∀ (f : Nat) {r : Pl}, r ∈ keysT tr → r.length + 1 ≤ f → ∃ u, upGo (tS tr) (P n) f (P r) = some (P u) ∧ Place u ∧ (u = n ↔ n <+: r)
  | 0, r, _, hf => by omega
  | f + 1, r, hr, hf => by
    have hnp := h.pl n hn
    have hrp := h.pl r hr
    rw [upGo]
    by_cases e1 : r = n
    · refine ⟨r, by rw [if_neg fun q => q.1 (by rw [e1])], hrp, ?_⟩
      subst e1; simp
    · by_cases e2 : r = []
      · refine ⟨r, by rw [if_neg fun q => ((root_iff hrp).mp q.2) e2], hrp, ?_⟩
        subst e2
        exact ⟨fun q => absurd q e1, fun q => absurd (List.prefix_nil.mp q).symm e1⟩
      · rw [if_pos ⟨fun q => e1 (P_inj hrp hnp q), (root_iff hrp).mpr e2⟩]
        obtain ⟨m, hm⟩ := mem_keys.mp hr
        obtain ⟨m1, m2, m3, m4⟩ := h.par r m hm e2
        have hlt := pre_len m2 m3
        obtain ⟨u, h1, h2, h3⟩ := up_place h hn f m1 (by omega)
        rw [get_tS hrp h.plt, (getT_iff h.nd).mpr hm]
        exact ⟨u, h1, h2, h3.trans ⟨fun q => q.trans m2, fun q => m4 n hn q fun e => e1 e.symm⟩⟩
/-! nodes -/
theorem addN_iff {ns : List Pl} {p x : Pl} : x ∈ addN ns p ↔ x ∈ ns ∨ x = p := by
  unfold addN
  split
  · rename_i h; exact ⟨.inl, fun q => q.elim id fun e => e ▸ h⟩
  · rw [List.mem_append, List.mem_singleton]
theorem addN_nd {ns : List Pl} {p : Pl} (h : ns.Nodup) : (addN ns p).Nodup := by
  unfold addN
  split
  · exact h
  · rename_i hp
    exact List.nodup_append.mpr ⟨h, by simp, fun a ha b hb e => hp (List.mem_singleton.mp hb ▸ e ▸ ha)⟩
theorem row_fold {one : Pl} : ∀ {l ns : List Pl}, (ns.Nodup → (l.foldl (fun ns other => addN ns (lcpS one other)) ns).Nodup) ∧ ∀ x, x ∈ l.foldl (fun ns other => addN ns (lcpS one other)) ns ↔ x ∈ ns ∨ ∃ b ∈ l, x = lcpS one b
  | [], ns => ⟨id, fun x => by simp⟩
  | b :: l, ns => by
    obtain ⟨h1, h2⟩ := row_fold (one := one) (l := l) (ns := addN ns (lcpS one b))
    refine ⟨fun h => h1 (addN_nd h), fun x => (h2 x).trans ?_⟩
    rw [addN_iff]
    constructor
    · rintro ((h | h) | ⟨c, hc, h⟩)
      · exact .inl h
      · exact .inr ⟨b, List.mem_cons_self, h⟩
      · exact .inr ⟨c, List.mem_cons_of_mem _ hc, h⟩
    · rintro (h | ⟨c, hc, h⟩)
      · exact .inl (.inl h)
      · rcases List.mem_cons.mp hc with rfl | hc
        · exact .inl (.inr h)
        · exact .inr ⟨c, hc, h⟩
theorem nodes_fold {rows : List Pl} : ∀ {l ns : List Pl}, (ns.Nodup → (l.foldl (nodesRow rows) ns).Nodup) ∧ ∀ x, x ∈ l.foldl (nodesRow rows) ns ↔ x ∈ ns ∨ ∃ a ∈ l, ∃ b ∈ rows, x = lcpS a b
  | [], ns => ⟨id, fun x => by simp⟩
  | a :: l, ns => by
    obtain ⟨h1, h2⟩ := nodes_fold (rows := rows) (l := l) (ns := nodesRow rows ns a)
    have h3 := row_fold (one := a) (l := rows) (ns := ns)
    refine ⟨fun h => h1 (h3.1 h), fun x => (h2 x).trans ?_⟩
    rw [show x ∈ nodesRow rows ns a ↔ _ from h3.2 x]
    constructor
    · rintro ((h | ⟨b, hb, h⟩) | ⟨c, hc, h⟩)
      · exact .inl h
      · exact .inr ⟨a, List.mem_cons_self, b, hb, h⟩
      · exact .inr ⟨c, List.mem_cons_of_mem _ hc, h⟩
    · rintro (h | ⟨c, hc, h⟩)
      · exact .inl (.inl h)
      · rcases List.mem_cons.mp hc with rfl | hc
        · exact .inl (.inr h)
        · exact .inr ⟨c, hc, h⟩
theorem nodes_nd (rows : List Pl) : (nodesS rows).Nodup := nodes_fold.1 (by simp)
theorem nodes_iff {rows : List Pl} {x : Pl} : x ∈ nodesS rows ↔ x = [] ∨ ∃ a ∈ rows, ∃ b ∈ rows, x = lcpS a b := by
  unfold nodesS
  rw [nodes_fold.2 x, List.mem_singleton]
/-! the tree has just those nodes -/
theorem long_of : ∀ l : List Pl, ∃ B, ∀ x ∈ l, x.length ≤ B
  | [] => ⟨0, fun _ h => nomatch h⟩
  | x :: l => by
    obtain ⟨B, h⟩ := long_of l
    refine ⟨max x.length B, fun y hy => ?_⟩
    rcases List.mem_cons.mp hy with rfl | hy
    · exact Nat.le_max_left _ _
    · exact Nat.le_trans (h y hy) (Nat.le_max_right _ _)
theorem row_below {tr : PT} {K : List Pl} (h : TB tr) (hN : Need tr K) {B : Nat} (hB : ∀ x ∈ keysT tr, x.length ≤ B) : ∀ (k : Nat) {n : Pl}, B - n.length = k → n ∈ keysT tr → n ≠ [] → ∃ r ∈ K, n <+: r := by
  intro k
  induction k using Nat.strongRecOn with
  | ind k ih =>
    intro n hk hn h0
    rcases hN n hn with q | q | ⟨c, _, _, hc, _⟩
    · exact absurd q h0
    · exact ⟨n, q, List.prefix_refl _⟩
    · obtain ⟨_, c2, c3, _⟩ := h.par c n hc.2 hc.1
      have hlt := pre_len c2 c3
      have hcS := mem_keys.mpr ⟨_, hc.2⟩
      have hle := hB c hcS
      obtain ⟨r, hr, hcr⟩ := ih (B - c.length) (by omega) rfl hcS hc.1
      exact ⟨r, hr, c2.trans hcr⟩
theorem tree_nodes {tr : PT} {K : List Pl} (h : TB tr) (hN : Need tr K) (hK : ∀ x ∈ K, x ∈ keysT tr) (n : Pl) : n ∈ keysT tr ↔ n ∈ nodesS K := by
  rw [nodes_iff]
  constructor
  · intro hn
    obtain ⟨B, hB⟩ := long_of (keysT tr)
    rcases hN n hn with q | q | ⟨c1, c2, hne, h1, h2⟩
    · exact .inl q
    · exact .inr ⟨n, q, n, q, (lcpS_self n).symm⟩
    · have s1 := mem_keys.mpr ⟨_, h1.2⟩
      have s2 := mem_keys.mpr ⟨_, h2.2⟩
      obtain ⟨_, a2, a3, a4⟩ := h.par c1 n h1.2 h1.1
      obtain ⟨_, b2, b3, b4⟩ := h.par c2 n h2.2 h2.1
      obtain ⟨r1, k1, p1⟩ := row_below h hN hB _ rfl s1 h1.1
      obtain ⟨r2, k2, p2⟩ := row_below h hN hB _ rfl s2 h2.1
      refine .inr ⟨r1, k1, r2, k2, ?_⟩
      have hn1 : n <+: lcpS r1 r2 := lcpS_max (a2.trans p1) (b2.trans p2)
      have apart : ∀ {r}, c1 <+: r → c2 <+: r → False := fun {r} q1 q2 => by
        rcases List.prefix_or_prefix_of_prefix q1 q2 with e | e
        · exact a3 (pre_anti a2 (b4 c1 s1 e hne))
        · exact b3 (pre_anti b2 (a4 c2 s2 e (Ne.symm hne)))
      refine Classical.byContradiction fun hnn => ?_
      rcases List.prefix_or_prefix_of_prefix (lcpS_pre r1 r2) p1 with e1 | e1
      · rcases List.prefix_or_prefix_of_prefix (lcpS_pre2 r1 r2) p2 with e2 | e2
        · exact hne (h.one h1 h2 e1 e2 hn1 hnn)
        · exact apart p1 (e2.trans (lcpS_pre r1 r2))
      · exact apart (e1.trans (lcpS_pre2 r1 r2)) p2
  · rintro (rfl | ⟨a, ha, b, hb, rfl⟩)
    · exact mem_keys.mpr ⟨_, h.root⟩
    · exact h.lcp a (hK a ha) b (hK b hb)
theorem tree_perm {tr : PT} {K : List Pl} (h : TB tr) (hN : Need tr K) (hK : ∀ x ∈ K, x ∈ keysT tr) : (keysT tr).Perm (nodesS K) :=
  (List.perm_ext_iff_of_nodup h.nd (nodes_nd K)).mpr fun n => tree_nodes h hN hK n
/-! the parent -/
theorem pre_iff {a b : Pl} : (a.length < b.length ∧ b.take a.length = a) ↔ (a <+: b ∧ a ≠ b) := by
  constructor
  · rintro ⟨h1, h2⟩
    exact ⟨h2 ▸ List.take_prefix _ _, fun e => by rw [e] at h1; omega⟩
  · rintro ⟨h1, h2⟩
    exact ⟨pre_len h1 h2, (List.prefix_iff_eq_take.mp h1).symm⟩
theorem maxN_le_of {l : List Nat} {b : Nat} (h : ∀ a ∈ l, a ≤ b) : maxN l ≤ b := by
  rcases List.mem_append.mp (maxN_mem l) with q | q
  · exact h _ q
  · rw [List.mem_singleton.mp q]; exact Nat.zero_le _
theorem par_k {tr : PT} {nodes : List Pl} (h : TB tr) (hS : ∀ n, n ∈ keysT tr ↔ n ∈ nodes) {n m : Pl} (hm : (n, m) ∈ tr) : kS nodes n = m.length ∧ m <+: n := by
  by_cases h0 : n = []
  · subst h0
    have : m = [] := h.fn hm h.root
    subst this
    refine ⟨?_, List.prefix_refl _⟩
    unfold kS aboveS
    rw [List.filter_eq_nil_iff.mpr fun a _ => by simp]; rfl
  · obtain ⟨m1, m2, m3, m4⟩ := h.par n m hm h0
    refine ⟨Nat.le_antisymm (maxN_le_of fun a ha => ?_) (maxN_le (List.mem_map.mpr ⟨m, ?_, rfl⟩)), m2⟩
    · obtain ⟨q, hq, rfl⟩ := List.mem_map.mp ha
      obtain ⟨q1, q2⟩ := List.mem_filter.mp hq
      obtain ⟨q3, q4⟩ := pre_iff.mp (of_decide_eq_true q2)
      exact (m4 q ((hS q).mpr q1) q3 q4).length_le
    · exact List.mem_filter.mpr ⟨(hS m).mp m1, decide_eq_true (pre_iff.mpr ⟨m2, m3⟩)⟩
/-! due -/
theorem setK_new {T : KV} {x : Str} {d : PyData} (h : x ∉ T.map (·.1)) : setK T x d = T ++ [(x, d)] := by
  unfold setK
  rw [if_neg]
  intro q
  obtain ⟨p, hp, e⟩ := List.any_eq_true.mp q
  exact h (List.mem_map.mpr ⟨p, hp, of_decide_eq_true e⟩)
theorem due_fold {rows nodes : List Pl} : ∀ {l : List Pl} {acc : KV}, (acc.map (·.1) ++ l.map P).Nodup → l.foldl (fun due node => setK due (P node) (dueV rows nodes node)) acc = acc ++ l.map fun n => (P n, dueV rows nodes n)
  | [], acc, _ => (List.append_nil _).symm
  | n :: l, acc, h => by
    have hnew : P n ∉ acc.map (·.1) := fun q => (List.nodup_append.mp h).2.2 _ q _ List.mem_cons_self rfl
    show l.foldl _ (setK acc (P n) (dueV rows nodes n)) = _
    rw [setK_new hnew, due_fold (by rw [List.map_append, List.append_assoc]; exact h), List.append_assoc]; rfl
theorem nodup_P {l : List Pl} (h : l.Nodup) (hp : ∀ x ∈ l, Place x) : (l.map P).Nodup := by
  induction l with
  | nil => exact List.nodup_nil
  | cons x r ih =>
    obtain ⟨h1, h2⟩ := List.nodup_cons.mp h
    rw [List.map_cons]
    refine List.nodup_cons.mpr ⟨fun q => ?_, ih h2 fun y hy => hp y (List.mem_cons_of_mem _ hy)⟩
    exact h1 ((mem_P (fun y hy => hp y (List.mem_cons_of_mem _ hy)) (hp x List.mem_cons_self)).mp q)
theorem due_list {rows : List Pl} (hp : ∀ x ∈ rows, Place x) : dueS rows = (nodesS rows).map fun n => (P n, dueV rows (nodesS rows) n) := by
  have hpl : ∀ n ∈ nodesS rows, Place n := fun n hn => by
    rcases nodes_iff.mp hn with rfl | ⟨a, ha, b, _, rfl⟩
    · exact place_nil
    · exact (hp a ha).pre (lcpS_pre a b)
  unfold dueS dueGo
  rw [due_fold (by simpa using nodup_P (nodes_nd rows) hpl)]; rfl
theorem below_rows {rows : List Pl} {n : Pl} : belowL rows n = rows.filter fun r => decide (n <+: r) := List.filter_congr fun r _ => decide_eq_decide.mpr ⟨fun q => List.prefix_iff_eq_take.mpr q.symm, fun q => (List.prefix_iff_eq_take.mp q).symm⟩
end Mine
end
section
set_option maxRecDepth 100000
namespace Mine
/-- what holds of the tree, the rows and the place behind i turns -/
structure Inv (tr : PT) (rows : List Pl) (place : Pl) (i : Nat) : Prop where
  tb : TB tr
  need : Need tr rows
  keys : ∀ x ∈ rows, x ∈ keysT tr
  pl : Place place
  plen : place.length ≤ 3 * i
  klen : ∀ x ∈ keysT tr, x.length ≤ 3 * i
  tlen : tr.length ≤ 1 + 2 * i
  rlen : rows.length ≤ i
theorem Inv.start : Inv [([], [])] [] [] 0 where
  tb := by
    refine ⟨by simp [keysT], by simp, fun n m h h0 => ?_, fun a ha b hb => ?_, fun n hn => ?_⟩
    · simp at h; exact absurd h.1 h0
    · have ha : a = [] := by simpa [keysT] using ha
      subst ha
      have : lcpS [] b = [] := List.prefix_nil.mp (lcpS_pre [] b)
      rw [this]; simp [keysT]
    · have hn : n = [] := by simpa [keysT] using hn
      subst hn; exact place_nil
  need := fun n hn => .inl (by simpa [keysT] using hn)
  keys := fun _ h => nomatch h
  pl := place_nil
  plen := Nat.zero_le _
  klen := fun x hx => by have : x = [] := by simpa [keysT] using hx
                         subst this; exact Nat.zero_le _
  tlen := Nat.le_refl _
  rlen := Nat.zero_le _
theorem Inv.rowPl {tr : PT} {rows : List Pl} {place : Pl} {i : Nat} (h : Inv tr rows place i) : ∀ x ∈ rows, Place x := fun x hx => h.tb.pl x (h.keys x hx)
section
variable {tr : PT} {rows : List Pl} {place : Pl} {i : Nat} {pc : List Str}
theorem Inv.set (h : Inv tr rows place i) (hc : Pcs pc) (hl : pc.length ≤ 3) :
    ∃ tr', growT (downS (place.take (place.length - 1)) pc) ((downS (place.take (place.length - 1)) pc).length + 3) tr [] = some tr' ∧ Inv tr' (rows ++ [downS (place.take (place.length - 1)) pc]) (downS (place.take (place.length - 1)) pc) (i + 1) := by
  obtain ⟨d1, d2⟩ := down_place (h.pl.take (place.length - 1)) hc.1
  have d3 : (downS (place.take (place.length - 1)) pc).length ≤ 3 * (i + 1) := by
    have := h.plen
    rw [List.length_take] at d2
    omega
  generalize downS (place.take (place.length - 1)) pc = p at d1 d2 d3
  obtain ⟨tr', g1, g2⟩ := grow_ok d1 (p.length + 3) h.tb h.need (mem_keys.mpr ⟨_, h.tb.root⟩) (List.nil_prefix) (by simp)
  refine ⟨tr', g1, g2.tb, g2.need, fun x hx => ?_, d1, d3, fun x hx => ?_, ?_, ?_⟩
  · rcases List.mem_append.mp hx with hx | hx
    · exact g2.more _ (h.keys x hx)
    · rw [List.mem_singleton.mp hx]; exact g2.at_
  · rcases g2.pre x hx with hx | hx
    · have := h.klen x hx; omega
    · have := hx.length_le; omega
  · have := g2.len; have := h.tlen; omega
  · have := h.rlen; simp; omega
theorem par_stays {K : List Pl} {tr : PT} {p m : Pl} (h : TB tr) (hm : (p, m) ∈ tr) : m ∈ keysT (prune1T K tr p) := by
  by_cases hc : pruneCT K tr p
  · rw [prune1_pop h hm hc]
    obtain ⟨a1, a2, a3, a4⟩ := h.par p m hm hc.1
    exact out_key.mpr ⟨a1, a3⟩
  · rw [prune1_not hc]
    by_cases e : p = []
    · subst e
      rw [h.fn hm h.root]; exact mem_keys.mpr ⟨_, h.root⟩
    · exact (h.par p m hm e).1
theorem getT_key {T : PT} {x : Pl} (h : x ∈ keysT T) : ∃ y, getT T x = some y := by
  obtain ⟨m, hm⟩ := mem_keys.mp h
  unfold getT
  cases e : T.find? (fun q => decide (q.1 = x)) with
  | none => have := List.find?_eq_none.mp e _ hm; simp at this
  | some q => exact ⟨q.2, rfl⟩
theorem tS_len (T : PT) : (tS T).length = T.length := List.length_map ..
theorem filter_ne {rows : List Pl} {p : Pl} (h : p ∉ rows) : rows.filter (fun one => decide (one ≠ p)) = rows := List.filter_eq_self.mpr fun x hx => decide_eq_true fun e => h (e ▸ hx)
theorem Inv.miss (h : Inv tr rows place i) (hc : Pcs pc) (hl : pc.length ≤ 3) (hp : downS place pc ∉ rows) : Inv tr (rows.filter fun one => decide (one ≠ downS place pc)) (downS place pc) (i + 1) := by
  obtain ⟨d1, d2⟩ := down_place h.pl hc.1
  rw [filter_ne hp]
  refine ⟨h.tb, h.need, h.keys, d1, ?_, fun x hx => ?_, ?_, ?_⟩
  · have := h.plen; omega
  · have := h.klen x hx; omega
  · have := h.tlen; omega
  · have := h.rlen; omega
theorem Inv.del (h : Inv tr rows place i) (hi : i ≤ 1000) (hc : Pcs pc) (hl : pc.length ≤ 3) {p : Pl} (hpe : downS place pc = p) (hp : p ∈ rows) {K : List Pl} (hKe : (rows.filter fun one => decide (one ≠ p)) = K) :
    ∃ m tr', Place m ∧ getS (tS tr) (P p) = some (P m) ∧ pruneS (K.map P) (tS tr) [P p, P m] = tS tr' ∧ (∀ j, (pruneS (K.map P) (tS tr) ([P p, P m].take j)).length ≤ 100000) ∧
      (∀ j node, [P p, P m][j]? = some node → pruneC (K.map P) (pruneS (K.map P) (tS tr) ([P p, P m].take j)) node → ∃ g, getS (pruneS (K.map P) (tS tr) ([P p, P m].take j)) node = some g) ∧ Inv tr' K p (i + 1) := by
  obtain ⟨d1, d2⟩ := down_place h.pl hc.1
  rw [hpe] at d1 d2
  have hpS := h.keys p hp
  obtain ⟨m, hm⟩ := mem_keys.mp hpS
  have plt := h.tb.plt
  have hmp : Place m := (plt _ hm).2
  have hK : ∀ x, x ∈ rows ↔ x ∈ K ∨ x = p := fun x => by
    rw [← hKe, List.mem_filter, decide_eq_true_eq]
    by_cases e : x = p
    · subst e; simp [hp]
    · simp [e]
  have hpK : p ∉ K := fun q => by
    rw [← hKe, List.mem_filter, decide_eq_true_eq] at q
    exact q.2 rfl
  have hKp : ∀ x ∈ K, Place x := fun x hx => h.rowPl x ((hK x).mpr (.inl hx))
  obtain ⟨s1, plt1⟩ := prune1_tS hKp plt d1 hpS
  have mS := par_stays (K := K) h.tb hm
  obtain ⟨s2, plt2⟩ := prune1_tS hKp plt1 hmp mS
  have e0 : pruneS (K.map P) (tS tr) [] = tS tr := rfl
  have e1 : pruneS (K.map P) (tS tr) [P p] = tS (prune1T K tr p) := s1
  have e2 : pruneS (K.map P) (tS tr) [P p, P m] = tS (prune1T K (prune1T K tr p) m) := by
    show prune1 (K.map P) (prune1 (K.map P) (tS tr) (P p)) (P m) = _
    rw [s1, s2]
  have g0 : getS (tS tr) (P p) = some (P m) := by rw [get_tS d1 plt, (getT_iff h.tb.nd).mpr hm]; rfl
  have fin : Pruned tr (prune1T K (prune1T K tr p) m) K ∧ (prune1T K tr p).length ≤ tr.length := by
    rcases prune_ok h.tb h.need hm hK hpK with ⟨q1, q2⟩ | ⟨_, _, q2, q1⟩
    · rw [q2]; exact ⟨q1, q1.len⟩
    · exact ⟨q1, q2⟩
  obtain ⟨pr, l1⟩ := fin
  have ht := h.tlen
  refine ⟨m, prune1T K (prune1T K tr p) m, hmp, g0, e2, fun j => ?_, fun j node hj hpc => ?_, pr.tb, pr.need, fun x hx => pr.keep x hx (h.keys x ((hK x).mpr (.inl hx))), d1, ?_, fun x hx => ?_, ?_, ?_⟩
  · match j with
    | 0 => show (pruneS (K.map P) (tS tr) []).length ≤ _; rw [e0, tS_len]; omega
    | 1 => show (pruneS (K.map P) (tS tr) [P p]).length ≤ _; rw [e1, tS_len]; omega
    | j + 2 =>
      have : [P p, P m].take (j + 2) = [P p, P m] := List.take_of_length_le (by simp)
      rw [this, e2, tS_len]
      have := pr.len
      omega
  · match j, hj with
    | 0, hj =>
      have hj : P p = node := by simpa using hj
      subst hj
      exact ⟨_, g0⟩
    | 1, hj =>
      have hj : P m = node := by simpa using hj
      subst hj
      show ∃ g, getS (pruneS (K.map P) (tS tr) [P p]) (P m) = some g
      rw [e1, get_tS hmp plt1]
      obtain ⟨y, hy⟩ := getT_key mS
      rw [hy]; exact ⟨_, rfl⟩
    | j + 2, hj => simp at hj
  · have := h.plen; omega
  · have := h.klen x (pr.less x hx); omega
  · have := pr.len; omega
  · have := h.rlen
    have : K.length ≤ rows.length := by rw [← hKe]; exact List.length_filter_le _ _
    omega
/-! what is told of a node -/
theorem Inv.nodes (h : Inv tr rows place i) (n : Pl) : n ∈ keysT tr ↔ n ∈ nodesS rows := tree_nodes h.tb h.need h.keys n
theorem lens_names {l : List Str} (h : Place l) : lens l ≤ 3 * l.length := by
  induction l with
  | nil => simp [lens]
  | cons x r ih =>
    have h1 := (okN_len (h x List.mem_cons_self)).2
    have h2 := ih fun y hy => h y (List.mem_cons_of_mem _ hy)
    unfold lens at h2 ⊢
    simp only [List.map_cons, List.sum_cons, List.length_cons]
    omega
theorem Inv.told (h : Inv tr rows place i) (hi : i ≤ 1000) {n : Pl} (hn : n ∈ keysT tr) :
    ∃ m, getS (tS tr) (P n) = some (P m) ∧ P m = P (n.take (kS (nodesS rows) n)) ∧ labelGo (P m) (n.length + 1) (P n) [] = some (n.drop (kS (nodesS rows) n)) ∧ joinS "" (n.drop (kS (nodesS rows) n)) = Txt.join "/" (n.drop (kS (nodesS rows) n)) ∧ lens (n.drop (kS (nodesS rows) n)) ≤ 1000000 := by
  obtain ⟨m, hm⟩ := mem_keys.mp hn
  have hnp := h.tb.pl n hn
  obtain ⟨k1, k2⟩ := par_k h.tb h.nodes hm
  refine ⟨m, by rw [get_tS hnp h.tb.plt, (getT_iff h.tb.nd).mpr hm]; rfl, ?_, ?_, join_names (hnp.drop _), ?_⟩
  · rw [k1, ← List.prefix_iff_eq_take.mp k2]
  · rw [k1, label_place n.length rfl hnp k2 (n.length + 1) [] (by omega), List.append_nil]
  · have h1 := lens_names (hnp.drop (kS (nodesS rows) n))
    have h2 := h.klen n hn
    rw [List.length_drop] at h1
    omega
theorem Inv.under (h : Inv tr rows place i) (hi : i ≤ 1000) {n : Pl} (hn : n ∈ keysT tr) : ∃ unders : Str → Str, (∀ key ∈ rows.map P, upGo (tS tr) (P n) 10000 key = some (unders key)) ∧
    sharedD (((rows.map P).filter fun key => decide (unders key = P n)).map spell) = sharedOf (belowL rows n) := by
  have hnp := h.tb.pl n hn
  have up : ∀ r ∈ rows, ∃ u, upGo (tS tr) (P n) 10000 (P r) = some (P u) ∧ Place u ∧ (u = n ↔ n <+: r) := fun r hr => up_place h.tb hn 10000 (h.keys r hr) (by have := h.klen r (h.keys r hr); omega)
  refine ⟨fun key => (upGo (tS tr) (P n) 10000 key).getD "", fun key hk => ?_, ?_⟩
  · obtain ⟨r, hr, rfl⟩ := List.mem_map.mp hk
    obtain ⟨u, e, _⟩ := up r hr
    show _ = some ((upGo (tS tr) (P n) 10000 (P r)).getD "")
    rw [e]; rfl
  · rw [filter_P (g := fun r => decide (n <+: r)) fun r hr => ?_, ← below_rows, shared_place (bs := belowL rows n) fun b hb => h.rowPl b (List.mem_filter.mp hb).1]
    obtain ⟨u, e, q1, q2⟩ := up r hr
    show decide ((upGo (tS tr) (P n) 10000 (P r)).getD "" = P n) = _
    rw [e]
    exact decide_eq_decide.mpr ((P_iff q1 hnp).trans q2)
end
end Mine
end
section
set_option maxRecDepth 100000
namespace Mine
def leS (p q : Str × PyData) : Bool := !decide (sLt q p)
theorem sort_ex (l : KV) (nd : (l.map (·.1)).Nodup) : ∃ zs : KV, zs.Perm l ∧ zs.Pairwise sLt := by
  have hp := List.mergeSort_perm l leS
  have hs := List.pairwise_mergeSort (le := leS) (fun a b c h1 h2 => by
    have h1 : ¬ sLt b a := by simpa [leS] using h1
    have h2 : ¬ sLt c b := by simpa [leS] using h2
    have h3 : a.1.cps.toList ≤ c.1.cps.toList := List.le_trans (List.not_lt.mp h1) (List.not_lt.mp h2)
    have : ¬ sLt c a := fun q => (List.not_lt.mpr h3) q
    simpa [leS] using this) (fun a b => by
    by_cases h : sLt a b
    · have : ¬ sLt b a := fun q => List.lt_irrefl _ (List.lt_trans h q)
      simp [leS, this]
    · simp [leS, h]) l
  refine ⟨l.mergeSort leS, hp, ?_⟩
  have nd2 : ((l.mergeSort leS).map (·.1)).Nodup := (hp.map _).nodup_iff.mpr nd
  have ne := List.pairwise_map.mp nd2
  refine List.Pairwise.imp₂ (fun a b h1 h2 => ?_) hs ne
  have h1 : ¬ sLt b a := by simpa [leS] using h1
  exact Classical.byContradiction fun q => h2 (str_cps_inj (List.le_antisymm (List.not_lt.mp h1) (List.not_lt.mp q)))
/-! the pairs told and due -/
def toldS (rows : List Pl) (n : Pl) : Str × PyData := (P n, dueV rows (nodesS rows) n)
theorem names_place {bl : List Pl} (h : ∀ b ∈ bl, Place b) : Place (namesOf bl) := by
  cases bl with
  | nil => exact fun x hx => by simp [namesOf, cutN] at hx
  | cons b r =>
    rw [names_lcp]
    exact (h b List.mem_cons_self).pre ((best_lcp b r).1 b List.mem_cons_self)
theorem joined_ok {l : List Str} (h : Place l) : okS (Txt.join "/" l) = true := cps_ok (join_ok fun x hx => okN_ok (h x hx))
theorem shared_lay {bl : List Pl} (h : ∀ b ∈ bl, Place b) : (sharedOf bl).canLay0 = true := by
  unfold sharedOf
  split
  · rfl
  · have hn := names_place h
    show (okS _ && (okS _ && true)) = true
    rw [P_ok hn, joined_ok hn]; rfl
theorem told_lay {rows : List Pl} (h : ∀ b ∈ rows, Place b) {n : Pl} (hn : Place n) : (pairD (toldS rows n)).canLay0 = true := by
  show (okS (P n) && ((okS _ && (okS _ && ((sharedOf (belowL rows n)).canLay0 && true))) && true)) = true
  rw [P_ok hn, P_ok (hn.take _), joined_ok (hn.drop _), shared_lay (bl := belowL rows n) fun b hb => h b (List.mem_filter.mp hb).1]; rfl
theorem shared_depth (bl : List Pl) : (sharedOf bl).depth ≤ 1 := by
  unfold sharedOf
  split <;> simp [PyData.depth, PyData.depthAll]
theorem told_depth (rows : List Pl) (n : Pl) : (pairD (toldS rows n)).depth ≤ 5 := by
  have := shared_depth (belowL rows n)
  unfold toldS dueV pairD
  simp only [PyData.depth, PyData.depthAll]
  omega
theorem all_lay {l : List PyData} (h : ∀ d ∈ l, d.canLay0 = true) : PyData.canLayAll0 l = true := by
  induction l with
  | nil => rfl
  | cons d r ih =>
    rw [PyData.canLayAll0, h d List.mem_cons_self, ih fun e he => h e (List.mem_cons_of_mem _ he)]; rfl
theorem all_depth {l : List PyData} {m : Nat} (h : ∀ d ∈ l, d.depth ≤ m) : PyData.depthAll l ≤ m := by
  induction l with
  | nil => exact Nat.zero_le _
  | cons d r ih =>
    rw [PyData.depthAll]
    exact Nat.max_le.mpr ⟨h d List.mem_cons_self, ih fun e he => h e (List.mem_cons_of_mem _ he)⟩
/-- both sorted lists are one list, and it equals itself -/
theorem Inv.both {tr : PT} {rows : List Pl} {place : Pl} {i : Nat} (h : Inv tr rows place i) : ∃ zs : KV, zs.Perm ((keysT tr).map (toldS rows)) ∧ zs.Perm (dueS rows) ∧ zs.Pairwise sLt ∧
    (PyData.list (zs.map pairD)).canLay0 = true ∧ (PyData.list (zs.map pairD)).depth ≤ 64 := by
  have nd : (((keysT tr).map (toldS rows)).map (·.1)).Nodup := by
    rw [List.map_map]
    exact nodup_P h.tb.nd h.tb.pl
  obtain ⟨zs, h1, h2⟩ := sort_ex _ nd
  have pm := (tree_perm h.tb h.need h.keys).map (toldS rows)
  have hmem : ∀ d ∈ zs.map pairD, ∃ n ∈ keysT tr, d = pairD (toldS rows n) := fun d hd => by
    obtain ⟨p, hp, rfl⟩ := List.mem_map.mp hd
    obtain ⟨n, hn, rfl⟩ := List.mem_map.mp (h1.mem_iff.mp hp)
    exact ⟨n, hn, rfl⟩
  refine ⟨zs, h1, ?_, h2, all_lay fun d hd => ?_, ?_⟩
  · rw [due_list h.rowPl]
    exact h1.trans pm
  · obtain ⟨n, hn, rfl⟩ := hmem d hd
    exact told_lay h.rowPl (h.tb.pl n hn)
  · have := all_depth (l := zs.map pairD) (m := 5) fun d hd => by
      obtain ⟨n, hn, rfl⟩ := hmem d hd
      exact told_depth rows n
    rw [PyData.depth]; omega
end Mine
end
section
set_option maxRecDepth 100000
namespace Mine
def nums (ns : List Int) : List Nat := 60 :: 16 :: (ns.take 6).map Int.natAbs
abbrev encN (n : Nat) : PyData := .int (n : Int)
theorem nums_len (ns : List Int) : (nums ns).length ≤ 8 := by unfold nums; simp; omega
theorem nums_get {xs : List Nat} {i : Nat} {d : PyData} (h : (xs.map encN)[i]? = some d) : ∃ n, d = encN n ∧ i < xs.length := by
  rw [List.getElem?_map] at h
  cases e : xs[i]? with
  | none => rw [e] at h; cases h
  | some n => rw [e] at h; exact ⟨n, by simpa using h.symm, (List.getElem?_eq_some_iff.mp e).1⟩
theorem nums_data (ns : List Int) : PyData.list ([PyData.int 60, PyData.int 16] ++ ((ns.take 6).filter fun _ => true).map fun x => PyData.int (if x < 0 then -x else x)) = .list ((nums ns).map encN) := by
  unfold nums
  rw [List.filter_eq_self.mpr fun _ _ => rfl, List.map_cons, List.map_cons, List.map_map]
  congr 1
  show _ :: _ :: _ = _
  congr 2
  refine List.map_congr_left fun x _ => ?_
  show PyData.int _ = PyData.int _
  congr 1
  split <;> omega
abbrev lawVars (rows : List Pl) (place : Pl) : Vars := [("keys", .list ((rows.map P).map .str)), ("rows", .list (rows.map encL)), ("last", .str (P place)), ("place", encL place)]
def LawJ (a : Addr) (i : Nat) (V : Vars) (ow : Own) : Prop := ∃ tr rows place, ow = .dict "tree" a (kvD (tv (tS tr))) ∧ Knows V (lawVars rows place) ∧ Inv tr rows place i
def okP (s : Str) : Prop := ∃ l, Place l ∧ l.length ≤ 1000 ∧ s = P l
theorem okP_len (s : Str) (h : okP s) : s.length ≤ 1000000 := by
  obtain ⟨l, h1, h2, rfl⟩ := h
  have := P_length h1; omega
theorem goods : Goods okP where
  len := okP_len
  abs := fun s ⟨l, _, _, e⟩ => by rw [e]; exact P_abs l
  com := fun a b ⟨l, h1, h2, e1⟩ ⟨m, h3, h4, e2⟩ => ⟨lcpS l m, h1.pre (lcpS_pre l m), Nat.le_trans (lcpS_pre l m).length_le h2, by rw [e1, e2, common_two h1 h3]⟩
theorem okP_cut (s : Str) (h : okP s) : okP (headCut s) := by
  obtain ⟨l, h1, h2, rfl⟩ := h
  exact ⟨_, h1.take _, by rw [List.length_take]; omega, cut_place h1⟩
theorem okP_ok (s : Str) (h : okP s) : okS s = true := by
  obtain ⟨l, h1, h2, rfl⟩ := h
  exact P_ok h1
theorem pc_len {x : Str} (h : okPc x) : x.length ≤ 2 := by
  rcases h with h | rfl | rfl | rfl
  · exact (okN_len h).2
  · decide +kernel
  · decide +kernel
  · decide +kernel
theorem lens_two {l : List Str} (h : ∀ x ∈ l, x.length ≤ 2) : lens l ≤ 3 * l.length := by
  induction l with
  | nil => simp [lens]
  | cons x r ih =>
    have h1 := h x List.mem_cons_self
    have h2 := ih fun y hy => h y (List.mem_cons_of_mem _ hy)
    unfold lens at h2 ⊢
    simp only [List.map_cons, List.sum_cons, List.length_cons]
    omega
theorem tl0_len (l : List Str) : (tl0 l).length ≤ l.length + 1 := by unfold tl0; split <;> simp_all
theorem joined_len {l pc : List Str} (hp : Place l) (hc : Pcs pc) : (joinS (P l) [Txt.join "/" pc]).length ≤ 3 * (l.length + pc.length + 2) := by
  rw [joinS_P hp hc]
  have h1 := lens_join_le (("" : Str) :: (l ++ tl0 pc)) fun x hx => by
    rcases List.mem_cons.mp hx with rfl | hx
    · decide +kernel
    · rcases List.mem_append.mp hx with hx | hx
      · exact (okN_len (hp x hx)).2
      · unfold tl0 at hx
        split at hx
        · rw [List.mem_singleton.mp hx]; decide +kernel
        · exact pc_len (hc.1 x hx)
  have h2 := tl0_len pc
  simp only [List.length_cons, List.length_append] at h1
  omega
theorem place_row {l : Pl} (h : Place l) (hl : l.length ≤ 1000) : rowOk l := ⟨fun x hx => okN_ok (h x hx), by have := lens_names h; omega⟩
theorem mem_any (keys : List Str) (node : Str) : ((keys.map PyData.str).any fun y => PyData.eqv y (.str node)) = decide (node ∈ keys) := by
  have := mem_any_str keys node
  rw [decide_not] at this
  simpa using this
theorem Inv.okAll {tr : PT} {rows : List Pl} {place : Pl} {i : Nat} (h : Inv tr rows place i) (hi : i ≤ 100) : ∀ e ∈ tS tr, okP e.1 ∧ okP e.2 := fun e he => by
  obtain ⟨⟨n, m⟩, hm, rfl⟩ := List.mem_map.mp he
  obtain ⟨p1, p2⟩ := h.tb.plt _ hm
  have hn := mem_keys.mpr ⟨m, hm⟩
  have k1 := h.klen n hn
  refine ⟨⟨n, p1, by omega, rfl⟩, ⟨m, p2, ?_, rfl⟩⟩
  by_cases e : n = []
  · subst e
    rw [h.tb.fn hm h.tb.root]; exact Nat.zero_le _
  · have := h.klen m (h.tb.par n m hm e).1
    omega
section
variable {prog : Program} {w : World} {D : Md prog w} {k : Nat} {env : Env} {V : Vars} {ow : Own} {R : Fl → Vars → Own → Prop}
theorem hd28 : Hd 28 ["script"] where
  bind := by intro pm cd doc vals h; match vals, h with | [v1], _ => rfl
  nd := by decide +kernel
  kinds := by decide +kernel
  cells := by decide +kernel
  fn := by rfl
  co := by rfl
  gen := by rfl
set_option maxHeartbeats 8000000 in
theorem law_call (T : Text D) {fa : Addr} {pm cd doc : Value} (F : Fn D 28 fa pm cd doc) (ns : List Int) (hz : ns.length ≤ 63) : CallTo D (k + 8) (.ref fa) [.list (ns.map .int)] (.bool true) := by
  refine F.call hd28 rfl fun L => ?_
  have ok : EnvOk (fe 28 fa L pm cd doc) := fenv_ok hd28.fn
  refine Ex.cons (Ex1.newDict1 ok (by exact ⟨rfl, .inr ⟨rfl, _, rfl⟩⟩) rfl fun b => ?_)
  refine Ex.cons (Ex1.assign (d := .list ((([] : List Pl).map P).map .str)) ok (by exact ⟨rfl, .inr ⟨rfl, _, rfl⟩⟩) (EvS.of (Ev.list EvL.nil (Nat.zero_le _))) ?_ (nameNeD (by decide)))
  refine Ex.cons (Ex1.assign (d := .list (([] : List Pl).map encL)) ok (by exact ⟨rfl, .inl rfl⟩) (EvS.of (Ev.list EvL.nil (Nat.zero_le _))) ?_ (nameNeD (by decide)))
  refine Ex.cons (Ex1.assign (d := .str "/") ok (by exact ⟨rfl, .inr ⟨rfl, _, rfl⟩⟩) (EvS.of Ev.cstr) ?_ (nameNeD (by decide)))
  refine Ex.cons (Ex1.assign (d := encL []) ok (by exact ⟨rfl, .inr ⟨rfl, _, rfl⟩⟩) (EvS.of (Ev.list EvL.nil (Nat.zero_le _))) ?_ (nameNeD (by decide)))
  refine Ex.cons (Ex1.forItr (xs := (nums ns).map encN) ok (by exact ⟨rfl, .inl rfl⟩)
    (EvS.of (Ev.to (Ev.bin (Ev.list (EvL.cons Ev.cint (EvL.cons Ev.cint EvL.nil)) (small (by simp)))
      (Ev.comp (xs := ns.take 6) (enc := .int) (p := fun _ => true) (f := fun x => .int (if x < 0 then -x else x)) (V' := []) ⟨rfl, by decide +kernel, rfl, by decide +kernel, rfl, by decide, Got.nil⟩
        (Ev.to (d' := .list ((ns.take 6).map .int)) (Ev.upto (n := 6) (Ev.name (d := .list (ns.map .int)) ok rfl) Ev.cint (small (by rw [List.length_map]; omega))) (by rw [List.map_take])) Itr.list (small (by rw [List.length_take]; omega))
        (fun C x hx => Tests.nil) (fun C x hx _ => Ev.callB (EvV.boot (compOk ok rfl) rfl (T.free _ (by decide)) PyProof.Rows.Boot.«abs») (EvL.cons (Ev.name (compOk ok rfl) rfl) EvL.nil) CallTo.abs))
      (BinR.addList (small (by have h1 := List.length_filter_le (fun _ : Int => true) (ns.take 6); simp only [List.length_cons, List.length_nil, List.length_map, List.length_take] at h1 ⊢; omega)))) (nums_data ns))) Itr.list (LawJ b) ?_ ?_ ?_ ?_)
  · refine ⟨[([], [])], [], [], ?_, .cons rfl (.cons rfl (.cons ?_ (.cons rfl .nil))), Inv.start⟩
    · show Own.dict _ _ (kvD [(("/" : Str), PyData.str "/")]) = Own.dict _ _ (kvD [(P [], PyData.str (P []))])
      rw [root_P]
    · show some (PyData.str "/") = some (PyData.str (P []))
      rw [root_P]
  · rintro i V ow ⟨_, _, _, rfl, _⟩
    exact nameNeD (by decide)
  · rintro i d V ow hd ⟨tr, rows, place, rfl, hk, h⟩
    obtain ⟨n, rfl, hi⟩ := nums_get hd
    have hi8 : i < 8 := Nat.lt_of_lt_of_le hi (nums_len ns)
    obtain ⟨hpc, hpl⟩ := pieces_pcs (n / 4)
    have hplen := h.plen
    have hrl := h.rlen
    refine Ex.weak (V' := ("n", encN n) :: lawVars rows place) ?_ (Knows.more _ _ hk)
    refine Ex.cons (Ex1.assign ok (by exact ⟨rfl, .inl rfl⟩) (EvS.of (Ev.callT T 21 ok (EvL.cons ((Ev.bin (Ev.name ok rfl) Ev.cint (BinR.fdiv (by decide) (PyProof.noPylong_small (by decide)))).to (d' := .int ((n / 4 : Nat) : Int)) (by rw [Int.fdiv_eq_ediv_of_nonneg _ (by decide)]; rfl)) EvL.nil) (law_pieces T (n / 4)))) ?_ (nameNeD (by decide)))
    generalize piecesS (n / 4) = pc at hpc hpl
    have hpl2 := lens_two fun x hx => pc_len (hpc.1 x hx)
    refine Ex.cons (Ex1.ite (c := decide (n % 4 = 3)) (TrS.of (Tr.to (Tr.cmp (Ev.bin (Ev.name ok rfl) Ev.cint (BinR.mod (by decide))) Ev.cint CmpR.eqInt) ?_)) (fun hc => ?_) (fun hc => ?_))
    · refine decide_eq_decide.mpr ?_
      rw [Int.fmod_eq_emod_of_nonneg _ (by decide)]
      omega
    · -- a key taken away
      have dp := down_place h.pl hpc.1
      have norm := norm_P h.pl hpc
      have jlen := joined_len h.pl hpc
      have P1 := P_length h.pl
      have jl := lens_join_le pc fun x hx => pc_len (hpc.1 x hx)
      refine Ex.cons (Ex1.assign (d := .str (P (downS place pc))) ok (by exact ⟨rfl, .inr ⟨rfl, _, rfl⟩⟩) (EvS.of ((Ev.callT T 18 ok (EvL.cons (Ev.callT (ds := .str (P place) :: [Txt.join "/" pc].map .str) T 14 ok (EvL.cons (Ev.name ok rfl) (EvL.cons (Ev.join Ev.cstr (Ev.name (d := .list (pc.map .str)) ok rfl) (lens_joinOk (by omega))) EvL.nil)) (join_ T (P place) [Txt.join "/" pc] (by simp [lens]; omega) (by simp))) EvL.nil) (normpath T _ (by omega))).to (by rw [norm]))) ?_ (nameNeD (by decide)))
      refine Ex.cons (Ex1.assign (d := encL (downS place pc)) ok (by exact ⟨rfl, .inr ⟨rfl, _, rfl⟩⟩) (EvS.of (Ev.callT T 22 ok (EvL.cons (Ev.name (d := encL place) ok rfl) (EvL.cons (Ev.name ok rfl) EvL.nil)) (down_call (T.fn 22 (by decide)) place pc (by omega)))) ?_ (nameNeD (by decide)))
      have hrow : ∀ r ∈ rows, rowOk r := fun r hr => place_row (h.rowPl r hr) (by have := h.klen r (h.keys r hr); omega)
      have dpl := dp.1
      have prow : rowOk (downS place pc) := place_row dpl (by omega)
      have dplen : (downS place pc).length ≤ 100 := by omega
      generalize hpe : downS place pc = p at dpl prow dplen
      have hkl : ((rows.map P).map PyData.str).length ≤ 100 := by rw [List.length_map, List.length_map]; omega
      have hkok : ∀ s ∈ rows.map P, okS s = true := fun s hs => by
        obtain ⟨r, hr, rfl⟩ := List.mem_map.mp hs
        exact P_ok (h.rowPl r hr)
      have hin : CmpR D (k + 7) .In (.str (P p)) (.list ((rows.map P).map .str)) (decide (p ∈ rows)) := (CmpR.isIn (by exact P_ok dpl) (lay_strs hkok) (by simp [PyData.depth])).to ((mem_any _ _).trans (decide_eq_decide.mpr (mem_P h.rowPl dpl)))
      refine Ex.cons (Ex1.ite (TrS.of (Tr.cmp (Ev.name ok rfl) (Ev.name ok rfl) hin)) (fun hp => ?_) (fun hp => ?_))
      · have hp := of_decide_eq_true hp
        obtain ⟨m, tr', hm, hg, hpr, hlen, hget, h'⟩ := h.del (by omega) hpc hpl hpe hp rfl
        have hmok : okS (P m) = true := P_ok hm
        have hKl := h'.rlen
        have hKp := h'.rowPl
        refine Ex.cons (Ex1.assign ok (by exact ⟨rfl, .inr ⟨rfl, _, rfl⟩⟩) (EvS.of (Ev.to (Ev.comp (xs := rows.map P) (enc := .str) (p := fun one => decide (one ≠ P p)) (f := .str) (V' := [("last", .str (P p))])
          ⟨rfl, by decide +kernel, rfl, by decide +kernel, rfl, by decide, Got.cons rfl rfl rfl rfl .nil⟩ (Ev.name ok rfl) Itr.list (small (by rw [List.length_map]; omega)) (fun C one ho => ?_) (fun C one ho _ => ?_)) (d' := .list (((rows.filter fun one => decide (one ≠ p)).map P).map .str)) ?_)) ?_ (nameNeD (by decide)))
        · exact Tests.one (Tr.to (Tr.cmp (Ev.name (compOk ok rfl) rfl) (Ev.name (compOk ok rfl) rfl) CmpR.neStr) (by rw [← decide_not]))
        · exact Ev.name (compOk ok rfl) rfl
        · rw [filter_P (g := fun one => decide (one ≠ p)) fun x hx => decide_eq_decide.mpr (not_congr (P_iff (h.rowPl x hx) dpl))]
        generalize hKe : (rows.filter fun one => decide (one ≠ p)) = K at hpr hlen hget h' hKl hKp
        refine Ex.cons (Ex1.turnT (ds := [.list ((K.map P).map .str), .str (P p)]) T 24 ok (EvL.cons (Ev.name ok rfl) (EvL.cons (Ev.name ok rfl) EvL.nil)) (law_prune T (K.map P) (P p) (P m) ?_ (tS tr) hg (P_ok dpl) hmok (by rw [tS_len]; have := h.tlen; omega) (by rw [List.length_map]; omega) hlen hget) ?_)
        · intro s hs
          obtain ⟨r, hr, rfl⟩ := List.mem_map.mp hs
          exact P_ok (hKp r hr)
        rw [hpr]
        refine Ex.nil (Ex.cons (Ex1.assignComp ok (by exact ⟨rfl, .inl rfl⟩) (CompU.to (CompU.mk (xs := rows) (enc := encL) (p := fun one => decide (one ≠ p)) (f := encL) (V' := [("place", encL p)])
          ⟨rfl, by decide +kernel, rfl, by decide +kernel, rfl, by decide, Got.cons rfl rfl rfl rfl .nil⟩ (Ev.name ok rfl) Itr.list (small (by omega)) (fun C one ho => ?_) (fun C one ho _ => ?_)) (d' := .list (K.map encL)) (by rw [hKe])) ?_ (nameNeD (by decide))))
        · exact Tests.one (Tr.cmp (Ev.name (compOk ok rfl) rfl) (Ev.name (compOk ok rfl) rfl) (neL (hrow one ho) prow))
        · exact Ev.name (compOk ok rfl) rfl
        exact Ex.nil (Ex.nil ⟨tr', K, p, rfl, .cons rfl (.cons rfl (.cons rfl (.cons rfl .nil))), h'⟩)
      · have hp := of_decide_eq_false hp
        have h' := h.miss hpc hpl (by rw [hpe]; exact hp)
        rw [hpe, filter_ne hp] at h'
        refine Ex.nil (Ex.cons (Ex1.assignComp ok (by exact ⟨rfl, .inl rfl⟩) (CompU.to (CompU.mk (xs := rows) (enc := encL) (p := fun one => decide (one ≠ p)) (f := encL) (V' := [("place", encL p)])
          ⟨rfl, by decide +kernel, rfl, by decide +kernel, rfl, by decide, Got.cons rfl rfl rfl rfl .nil⟩ (Ev.name ok rfl) Itr.list (small (by omega)) (fun C one ho => ?_) (fun C one ho _ => ?_)) (d' := .list (rows.map encL)) (by rw [filter_ne hp])) ?_ (nameNeD (by decide))))
        · exact Tests.one (Tr.cmp (Ev.name (compOk ok rfl) rfl) (Ev.name (compOk ok rfl) rfl) (neL (hrow one ho) prow))
        · exact Ev.name (compOk ok rfl) rfl
        exact Ex.nil (Ex.nil ⟨tr, rows, p, rfl, .cons rfl (.cons rfl (.cons rfl (.cons rfl .nil))), h'⟩)
    · -- a key set
      have dp := down_place (h.pl.take (place.length - 1)) hpc.1
      have norm := norm_P (h.pl.take (place.length - 1)) hpc
      have jlen := joined_len (h.pl.take (place.length - 1)) hpc
      have P1 := P_length h.pl
      have P2 := P_length (h.pl.take (place.length - 1))
      have jl := lens_join_le pc fun x hx => pc_len (hpc.1 x hx)
      have tl : (place.take (place.length - 1)).length ≤ place.length := by rw [List.length_take]; omega
      have hcut := cut_place h.pl
      obtain ⟨tr', hgr, h'⟩ := h.set hpc hpl
      refine Ex.cons (Ex1.assign (d := .str (P (downS (place.take (place.length - 1)) pc))) ok (by exact ⟨rfl, .inr ⟨rfl, _, rfl⟩⟩) (EvS.of ((Ev.callT T 18 ok (EvL.cons (Ev.callT (ds := .str (P (place.take (place.length - 1))) :: [Txt.join "/" pc].map .str) T 14 ok (EvL.cons ((Ev.callT T 17 ok (EvL.cons (Ev.name (d := .str (P place)) ok rfl) EvL.nil) (dirname T (P place) (by omega))).to (by rw [hcut])) (EvL.cons (Ev.join Ev.cstr (Ev.name (d := .list (pc.map .str)) ok rfl) (lens_joinOk (by omega))) EvL.nil)) (join_ T (P (place.take (place.length - 1))) [Txt.join "/" pc] (by simp only [lens, List.map_cons, List.map_nil, List.sum_cons, List.sum_nil]; omega) (by simp))) EvL.nil) (normpath T _ (by omega))).to (by rw [norm]))) ?_ (nameNeD (by decide)))
      refine Ex.cons (Ex1.assign (d := encL (downS (place.take (place.length - 1)) pc)) ok (by exact ⟨rfl, .inr ⟨rfl, _, rfl⟩⟩) (EvS.of (Ev.callT T 22 ok (EvL.cons ((Ev.butLast (Ev.name (d := encL place) ok rfl) (Ev.neg Ev.cint) (small (by rw [List.length_map]; omega))).to (d' := encL (place.take (place.length - 1))) (by rw [encL, List.length_map, List.map_take])) (EvL.cons (Ev.name ok rfl) EvL.nil)) (down_call (T.fn 22 (by decide)) (place.take (place.length - 1)) pc (by omega)))) ?_ (nameNeD (by decide)))
      have dpl := dp.1
      have dplen : (downS (place.take (place.length - 1)) pc).length ≤ 100 := by omega
      generalize downS (place.take (place.length - 1)) pc = p at hgr h' dpl dplen
      have hg2 : growGo (P p) (p.length + 3) (tS tr) "/" = some (tS tr') := by
        rw [root_P, grow_tS dpl _ h.tb.plt place_nil, hgr]; rfl
      refine Ex.cons (Ex1.turnT (ds := [.str (P p)]) T 23 ok (EvL.cons (Ev.name ok rfl) EvL.nil) (law_grow goods T (P p) ⟨p, dpl, by omega, rfl⟩ ⟨[], place_nil, Nat.zero_le _, root_P⟩ okP_ok (tS tr) (tS tr') (p.length + 3) hg2 (h.okAll (by omega)) (by rw [tS_len]; have := h.tlen; omega)) ?_)
      refine Ex.cons (Ex1.assign (d := .list (((rows ++ [p]).map P).map .str)) ok (by exact ⟨rfl, .inr ⟨rfl, _, rfl⟩⟩) (EvS.of ((Ev.bin (Ev.name (d := .list ((rows.map P).map .str)) ok rfl) (Ev.list (EvL.cons (Ev.name (d := .str (P p)) ok rfl) EvL.nil) (small (by simp))) (BinR.addList (small (by simp; omega)))).to (by rw [List.map_append, List.map_append]; rfl))) ?_ (nameNeD (by decide)))
      refine Ex.cons (Ex1.assign (d := .list ((rows ++ [p]).map encL)) ok (by exact ⟨rfl, .inl rfl⟩) (EvS.of ((Ev.bin (Ev.name (d := .list (rows.map encL)) ok rfl) (Ev.list (EvL.cons (Ev.name (d := encL p) ok rfl) EvL.nil) (small (by simp))) (BinR.addList (small (by simp; omega)))).to (by rw [List.map_append]; rfl))) ?_ (nameNeD (by decide)))
      exact Ex.nil (Ex.nil ⟨tr', rows ++ [p], p, rfl, .cons rfl (.cons rfl (.cons rfl (.cons rfl .nil))), h'⟩)
  · rintro V ow ⟨tr, rows, place, rfl, hk, h⟩
    rw [List.length_map] at h
    have hn8 := nums_len ns
    generalize (nums ns).length = N at h hn8
    have htl := h.tlen
    have hrl := h.rlen
    obtain ⟨zs, z1, z2, z3, z4, z5⟩ := h.both
    have hkeys : ∀ key ∈ rows.map P, ∃ r ∈ rows, key = P r := fun key hkk => by
      obtain ⟨r, hr, rfl⟩ := List.mem_map.mp hkk
      exact ⟨r, hr, rfl⟩
    have hk1 : ∀ key ∈ rows.map P, key.length ≤ 1000 := fun key hkk => by
      obtain ⟨r, hr, rfl⟩ := hkeys key hkk
      have q1 := P_length (h.rowPl r hr)
      have q2 := h.klen r (h.keys r hr)
      omega
    have hk2 : ∀ key ∈ rows.map P, SpellOk (spell key) := fun key hkk => by
      obtain ⟨r, hr, rfl⟩ := hkeys key hkk
      exact spell_fit (h.rowPl r hr) (by have := h.klen r (h.keys r hr); omega)
    have hkt : (keysT tr).length = tr.length := List.length_map ..
    refine Ex.freezeD (Ex.weak (V' := [("tree", .dict (kvD (tv (tS tr)))), ("keys", .list ((rows.map P).map .str)), ("rows", .list (rows.map encL))]) ?_ (Knows.more _ _ (Knows.cons (hk "keys" _ rfl) (.cons (hk "rows" _ rfl) .nil))))
    refine Ex.cons (Ex1.assignComp ok (by exact ⟨rfl, .inl rfl⟩) (CompU.to (CompU.mk (xs := keysT tr) (enc := fun n => .str (P n)) (p := fun _ => true) (f := fun n => pairD (toldS rows n)) (V' := [("tree", .dict (kvD (tv (tS tr)))), ("keys", .list ((rows.map P).map .str))])
      ⟨rfl, by decide +kernel, rfl, by decide +kernel, rfl, by decide, Got.cons rfl rfl rfl rfl (Got.cons rfl rfl rfl rfl .nil)⟩ (Ev.name ok rfl) (by
        have e : (kvD (tv (tS tr))).map (·.1) = (keysT tr).map fun n => PyData.str (P n) := by rw [tv_keys, keys_tS, List.map_map]; rfl
        rw [← e]; exact Itr.keys) (small (by omega)) (fun C n hn => Tests.nil) (fun C n hn _ => ?_)) (d' := .list (((keysT tr).map (toldS rows)).map pairD)) ?_) ?_)
    · obtain ⟨m, q1, q2, q3, q4, q5⟩ := h.told (by omega) hn
      obtain ⟨unders, u1, u2⟩ := h.under (by omega) hn
      have hnp := h.tb.pl n hn
      have hnl := h.klen n hn
      refine Ev.tuple (EvL.cons (Ev.name (compOk ok rfl) rfl) (EvL.cons (Ev.tuple (EvL.cons ((Ev.sub (Ev.name (d := .dict (kvD (tv (tS tr)))) (compOk ok rfl) rfl) (Ev.name (d := .str (P n)) (compOk ok rfl) rfl) (GetR.dict (d := .str (P m)) (by rw [tv_get, q1]; rfl))).to (by rw [q2]))
        (EvL.cons ((Ev.callT T 25 (compOk ok rfl) (EvL.cons (Ev.name (compOk ok rfl) rfl) (EvL.cons (Ev.name (compOk ok rfl) rfl) EvL.nil)) (law_label T okP_len okP_cut (tS tr) (P n) (P m) _ ⟨n, hnp, by omega, rfl⟩ q1 (n.length + 1) (by omega) q3 q5)).to (by rw [q4]))
        (EvL.cons ((Ev.callT T 26 (compOk ok rfl) (EvL.cons (Ev.name (compOk ok rfl) rfl) (EvL.cons (Ev.name (compOk ok rfl) rfl) (EvL.cons (Ev.name (compOk ok rfl) rfl) EvL.nil))) (law_shared T (tS tr) (rows.map P) (P n) unders 10000 (by rw [List.length_map]; omega) hk1 u1 hk2)).to u2) EvL.nil))) (small (by simp))) EvL.nil)) (small (by simp))
    · rw [List.filter_eq_self.mpr fun _ _ => rfl, List.map_map]; rfl
    refine Ex.cons (Ex1.assign ok (by exact ⟨rfl, .inl rfl⟩) (EvS.of (Ev.callT T 27 ok (EvL.cons (Ev.name ok rfl) EvL.nil) (law_due T rows (fun r hr => place_row (h.rowPl r hr) (by have := h.klen r (h.keys r hr); omega)) (by omega)))) ?_)
    have l1 : ((keysT tr).map (toldS rows)).length < 64 := by rw [List.length_map, hkt]; omega
    have l2 : (dueS rows).length < 64 := by rw [← z2.length_eq, z1.length_eq]; exact l1
    exact Ex.cons (Ex1.ret (EvS.of (Ev.cmp (Ev.callB (EvV.boot ok rfl (T.free _ (by decide)) PyProof.Rows.Boot.«sorted») (EvL.cons (Ev.name ok rfl) EvL.nil) (CallTo.sortedList z1 z3 l1))
      (Ev.sortedItems ok (EvV.boot ok rfl (T.free _ (by decide)) PyProof.Rows.Boot.«sorted») (Ev.name ok rfl) z2 z3 l2) ((CmpR.eq z4 z4 z5).to (PySem.SeqAt.eqv_refl _ z4)))) rfl)
end
end Mine
end
section
set_option maxRecDepth 100000
namespace Mine
theorem room_caller : Room 8 callerA := ⟨rfl, by decide +kernel, by decide +kernel⟩
theorem rd_ints {prog : Program} {w : World} {G : Gh} : ∀ {vs : List Value} {ns : List Int}, IntsAre vs ns → RdAll prog w G vs (ns.map .int)
  | _, _, .nil => .nil
  | _, _, .cons n t r => .cons (.int n t) (rd_ints r)
/-- what the top says of the defs, read as a text -/
theorem text_of {p : Program} {loose : List Str} {mean : ExcName → Option Value} {mg mb : Str → Option Value} {h : Heap} (prog : Program) (w : World) (T : Top p loose mean mg mb h)
    (hrec : ∀ i ∈ 28 :: textDefs, ∃ d ∈ recsOf p, d.name = dName (stm i) ∧ d.params = dParams (stm i) ∧ d.body = dBody (stm i) ∧ d.scope = dScope (stm i)) (hfree : ∀ x ∈ bootNames, mg x = none)
    {fa : Addr} (hmg : mg (dName (stm 28)) = some (.ref fa)) : ∃ D : Md prog w, D.H = h ∧ ∃ _ : Text D, ∃ pm cd doc, Fn D 28 fa pm cd doc := by
  let D : Md prog w := ⟨h, mg, mb, T.g, T.b, T.nolimit, T.builtins⟩
  have ex : ∀ i, ∃ q : Addr × Value × Value × Value, i ∈ 28 :: textDefs → Fn D i q.1 q.2.1 q.2.2.1 q.2.2.2 := fun i => by
    by_cases hi : i ∈ 28 :: textDefs
    · obtain ⟨d, hd, e1, e2, e3, e4⟩ := hrec i hi
      obtain ⟨a, o, pm, code, doc, q1, q2, q3, q4⟩ := T.fn d hd
      refine ⟨(a, pm, code, doc), fun _ => ⟨?_, ⟨o, q2, ?_⟩, ?_⟩⟩
      · rw [← e1]; exact q1
      · rw [← e1, ← e2, ← e3, ← e4]; exact q3
      · rw [← e1]; exact q4
    · exact ⟨(0, .none, .none, .none), fun z => absurd z hi⟩
  refine ⟨D, rfl, ⟨fun i => (Classical.choose (ex i)).1, fun i => (Classical.choose (ex i)).2.1, fun i => (Classical.choose (ex i)).2.2.1, fun i => (Classical.choose (ex i)).2.2.2, fun i hi => Classical.choose_spec (ex i) (List.mem_cons_of_mem _ hi), hfree⟩, ?_⟩
  obtain ⟨⟨a, pm, cd, doc⟩, F⟩ := ex 28
  have F := F List.mem_cons_self
  have e : a = fa := by
    have := F.mg.symm.trans hmg
    simpa using this
  subst e
  exact ⟨pm, cd, doc, F⟩
theorem finish {p : Program} {loose : List Str} {mean : ExcName → Option Value} {mg mb : Str → Option Value} {prog : Program} {w : World} {s₁ : Shared} (T : Top p loose mean mg mb s₁.heap)
    (hrec : ∀ i ∈ 28 :: textDefs, ∃ d ∈ recsOf p, d.name = dName (stm i) ∧ d.params = dParams (stm i) ∧ d.body = dBody (stm i) ∧ d.scope = dScope (stm i)) (hfree : ∀ x ∈ bootNames, mg x = none)
    {fa a : Addr} (hmg : mg (dName (stm 28)) = some (.ref fa)) {vs : List Value} {ns : List Int} (hL : s₁.heap.IsList a vs.toArray) (hI : IntsAre vs ns) (hz : ¬ ((63 : Nat) : Int) < (ns.length : Int)) {Q E : Value → Shared → Prop}
    (hQ : ∀ s', (∀ b o, s₁.heap.get? b = some o → s'.heap.get? b = some o) → s'.os = s₁.os → s'.gens = s₁.gens → Q (.bool true) s') : wpAny (model prog w) callerA (call (.ref fa) [.ref a]) Q E s₁ := by
  obtain ⟨D, hD, X, pm, cd, doc, F⟩ := text_of prog w T hrec hfree hmg
  obtain ⟨o, ho, hc, n, hd⟩ := hL
  refine law_call (k := 0) X F ns (by omega) callerA room_caller (fun b => s₁.heap.get? b) s₁ [.ref a] Q E (fun b o e => by rw [hD] at e; exact e) (fun _ _ e => e) (.cons (.list ho hc hd (rd_ints hI)) .nil) fun G' s' v t r => ?_
  cases r
  obtain ⟨h, tk, rfl⟩ := t.shp
  exact hQ _ t.kp rfl rfl
theorem recs_of {p : Program} (L : List Nat) (h : (recsOf p).map (fun d => (d.name, d.params, d.body, d.scope)) = L.map fun i => (dName (stm i), dParams (stm i), dBody (stm i), dScope (stm i))) (hL : ∀ i ∈ 28 :: textDefs, i ∈ L) :
    ∀ i ∈ 28 :: textDefs, ∃ d ∈ recsOf p, d.name = dName (stm i) ∧ d.params = dParams (stm i) ∧ d.body = dBody (stm i) ∧ d.scope = dScope (stm i) := fun i hi => by
  have hm : (dName (stm i), dParams (stm i), dBody (stm i), dScope (stm i)) ∈ (recsOf p).map fun d => (d.name, d.params, d.body, d.scope) := by
    rw [h]; exact List.mem_map.mpr ⟨i, hL i hi, rfl⟩
  obtain ⟨d, hd, e⟩ := List.mem_map.mp hm
  injection e with e1 e
  injection e with e2 e
  injection e with e3 e4
  exact ⟨d, hd, e1, e2, e3, e4⟩
theorem free_of {p : Program} {loose : List Str} {mean : ExcName → Option Value} {mg mb : Str → Option Value} {h : Heap} (T : Top p loose mean mg mb h)
    (hc : (bootNames.all fun x => !(startupNames.contains x) && !(loose.contains x) && !(((recsOf p).map (·.name)).contains x) && !(((litsOf p).map (·.1)).contains x) && !(((clssOf p loose).map (·.name)).contains x)) = true) : ∀ x ∈ bootNames, mg x = none := fun x hx => by
  have := List.all_eq_true.mp hc x hx
  simp only [Bool.and_eq_true, Bool.not_eq_true', List.contains_eq_mem, decide_eq_false_iff_not] at this
  obtain ⟨⟨⟨⟨h1, h2⟩, h3⟩, h4⟩, h5⟩ := this
  exact T.free x h1 h2 h3 h4 h5
theorem view_recs : ∀ i ∈ 28 :: textDefs, ∃ d ∈ recsOf view, d.name = dName (stm i) ∧ d.params = dParams (stm i) ∧ d.body = dBody (stm i) ∧ d.scope = dScope (stm i) :=
  recs_of [0, 2, 7, 9, 11, 13, 14, 15, 16, 17, 18, 19, 21, 22, 23, 24, 25, 26, 27, 28] (by kernel_rfl) (by decide)
end Mine
end
end
set_option maxRecDepth 100000 in
set_option maxHeartbeats 8000000 in
theorem PySem.Challenge.cw_il0030_01_holds : PySem.Challenge.rw_il0030_01.Holds := by
  w_on
  o_law
  refine holds_open (q := Mine.view) (loose := []) (Xt := Mine.look) (XP := XL Mine.view []) (Yf := Hook.obs Hook.none) (Ya := Hook.val Hook.none) (YP := Hook.says Hook.none) (N := 2488) Mine.left_ok (Hook.of Hook.none) (Hook.keeps Hook.none) (fun s e => xl_of s (Bool.and_eq_true_iff.mp e).1) XL.keeps
    (by rfl) (by rfl) (by rfl) (fun s e => recFacts_of (Bool.and_eq_true_iff.mp e).2) (by rfl) (by assumption) (by decide +kernel) ⟨rfl, rfl, rfl, rfl, rfl, by decide +kernel⟩ ?hw ?hc
  case hw => w_witness2
  intro w s₀ s₁ mg mb G Y fa o pm cd doc dV kV ho hd hcd hD hmg hg args vals as hpre hlay hrd hwl hlo
  refine Ground.open G ?_
  intro T B D TE TW
  wrow_args hpre hlay hrd hwl hlo
  refine Mine.finish T Mine.view_recs ?hf hmg (by assumption) (by assumption) (by assumption) fun s' k1 k2 k3 => ?_
  case hf => exact Mine.free_of T (by decide +kernel)
  exact GoodW.toG ⟨.inl ⟨.bool true, .bool true, [], rfl, fun _ => rfl, .bool true, postW_of (by rfl) (w_eq_bool (w_res rfl) w_lit) rfl, fun _ => ⟨List.nodup_nil, fun _ h => nomatch h⟩⟩, k1, k2, k3.trans hg⟩
