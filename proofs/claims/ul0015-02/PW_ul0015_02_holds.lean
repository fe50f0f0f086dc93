import PyProof.Rows.All
import Wide.All
import OpenK.AllK
import Wide.FinOn
import KE.KNest
import KE.IntBitsLaws
import KE.KRevIter
import PyProof.ZipIter
import PyProof.WalksPairs
import PyProof.StrWalks
import PyProof.ListTruth
import KE.KItem
import PyProof.ListOps
import PyProof.GenQ
import PyProof.EnumMake
import PyProof.Draws
import PyProof.OldK
import PyProof.Rows.RegRaiseClass
import Lean
import PySem.Challenge.RW_ul0015_02
open PySem PySem.W PySem.Calls PyProof.Rows
set_option Elab.async false
set_option linter.unusedVariables false
set_option maxRecDepth 100000
set_option maxHeartbeats 4000000
set_option compiler.extract_closed false
set_option genInjectivity false
set_option genSizeOfSpec false
namespace Mine
local macro_rules | `(tactic| walk_at "m_om") => `(tactic| first | (with_reducible first | assumption | exact Nat.zero_le _ | exact Int.natCast_nonneg _) | ((with_reducible show (_ : Nat) ≤ _); first | exact Nat.le_of_ble_eq_true rfl | exact Nat.le_trans (by assumption) (by exact Nat.le_of_ble_eq_true rfl)) | lia | omega)
/- B1 -/
section
theorem runs_size {M : Model} {Γ : Ctx} {p : Pos} {t : Sem Fin} {fs : List Frame} {s s' : Shared} {e : End} (h : Runs M Γ p t fs s e s') : s.heap.objs.size ≤ s'.heap.objs.size := by
  induction h <;> (try simp only [Shared.setGen, Heap.size_push, Heap.size_after_update] at *) <;> walk_at "m_om"
theorem wakes_size {M : Model} {Γ : Ctx} {p : Pos} {g : Nat} {r : Resume} {s s' : Shared} {res : GenResult} (h : Wakes M Γ p g r s res s') : s.heap.objs.size ≤ s'.heap.objs.size := by
  unfold Wakes at h
  split at h
  · exact h.elim
  · split at h
    · obtain ⟨e₁, s₁, hr, _, _, rfl⟩ := h; exact (runs_size hr : (s.setGen g .running).heap.objs.size ≤ s₁.heap.objs.size)
    · rw [h.2]; exact Nat.le_refl _
    · rw [h.2]; exact Nat.le_refl _
  · obtain ⟨e₁, s₁, hr, _, _, rfl⟩ := h; exact (runs_size hr : (s.setGen g .running).heap.objs.size ≤ s₁.heap.objs.size)
  · rw [h.2]; exact Nat.le_refl _
  · rw [h.2]; exact Nat.le_refl _
theorem wp_size {α : Type} (M : Model) (Γ : Ctx) (n : Nat) (t : Sem α) : ∀ (Q : α → Pos → Shared → Prop) (E : Value → Pos → Shared → Prop) (p : Pos) (s : Shared), n ≤ s.heap.objs.size → Sem.wp M Γ t Q E p s →
    Sem.wp M Γ t (fun a p' s' => n ≤ s'.heap.objs.size ∧ Q a p' s') (fun e p' s' => n ≤ s'.heap.objs.size ∧ E e p' s') p s := by
  induction t with
  | pure a => intro Q E p s hn h; exact ⟨hn, h⟩
  | raise e => intro Q E p s hn h; exact ⟨hn, h⟩
  | unsupported _ => intro Q E p s _ h; exact h
  | finish _ => intro Q E p s _ h; exact h
  | rule _ k ih => intro Q E p s hn h; exact ih () Q E p s hn h
  | «at» p' k ih => intro Q E p s hn h; exact ih () Q E p' s hn h
  | load a _ k ih => intro Q E p s hn h; obtain ⟨o, ho, h⟩ := h; exact ⟨o, ho, ih o Q E p s hn h⟩
  | update a _ f k ih => intro Q E p s hn h; exact ⟨h.1, ih () Q E p _ (by rw [Heap.size_after_update]; exact hn) h.2⟩
  | loadIfAlive a k ih => intro Q E p s hn h; exact ih _ Q E p s hn h
  | point _ k ih => intro Q E p s hn h; exact ih () Q E p s hn h
  | register _ _ => intro Q E p s _ h; exact h
  | alloc o k ih => intro Q E p s hn h; exact ih _ Q E p _ (by rw [Heap.size_push]; walk_at "m_om") h
  | fresh k ih => intro Q E p s hn h; exact ih _ Q E p _ hn h
  | ask k ih => intro Q E p s hn h; exact ih _ Q E p s hn h
  | choose src m k ih => intro Q E p s hn h; exact ⟨h.1, ih _ Q E p _ hn h.2⟩
  | os q _ k ih => intro Q E p s hn h; exact ih _ Q E p _ hn h
  | call c hd _ _ k ih => intro Q E p s hn h; obtain ⟨r, s', hr, h⟩ := h; exact ⟨r, s', hr, ih r Q E p s' (Nat.le_trans hn (runs_size hr)) h⟩
  | handled own k ih => intro Q E p s hn h; exact ih _ Q E p s hn h
  | genState g k ih => intro Q E p s hn h; obtain ⟨st, hs, h⟩ := h; exact ⟨st, hs, ih _ Q E p s hn h⟩
  | newGen c k ih => intro Q E p s hn h; exact ih _ Q E p _ hn h
  | resume g r _ k ih => intro Q E p s hn h; obtain ⟨res, s', hw, h⟩ := h; exact ⟨res, s', hw, ih res Q E p s' (Nat.le_trans hn (wakes_size hw)) h⟩
  | yield _ _ _ _ => intro Q E p s _ h; exact h
  | stack k ih => intro Q E p s hn h; exact ih _ Q E p s hn h
  | fork _ _ => intro Q E p s _ h; exact h
  | thread k ih => intro Q E p s hn h; exact ih _ Q E p s hn h
  | await _ _ _ _ _ => intro Q E p s _ h; exact h
theorem wpAny_with_size {α : Type} {M : Model} {A : Around} {s : Shared} {t : Sem α} {Q : α → Shared → Prop} {E : Value → Shared → Prop} {n : Nat} (hn : n ≤ s.heap.objs.size)
    (h : wpAny M A t (fun a s' => n ≤ s'.heap.objs.size → Q a s') (fun e s' => n ≤ s'.heap.objs.size → E e s') s) : wpAny M A t Q E s :=
  fun Γ p hΓ => Sem.wp_mono M Γ t (fun a _ s' x => x.2 x.1) (fun e _ s' x => x.2 x.1) p s (wp_size M Γ n t _ _ p s hn (h Γ p hΓ))
/-- heap and tokens only grow -/
theorem wpAny_grows {α : Type} {M : Model} {A : Around} {s : Shared} {t : Sem α} {Q : α → Shared → Prop} {E : Value → Shared → Prop}
    (h : wpAny M A t (fun a s' => s.heap.objs.size ≤ s'.heap.objs.size → s.toks ≤ s'.toks → Q a s') (fun e s' => s.heap.objs.size ≤ s'.heap.objs.size → s.toks ≤ s'.toks → E e s') s) : wpAny M A t Q E s :=
  wpAny_with_toks (Nat.le_refl _) (wpAny_with_size (Nat.le_refl _) (wpAny_mono h (fun _ _ x h1 h2 => x h1 h2) fun _ _ x h1 h2 => x h1 h2))


/-- pure data -/
inductive D where
  | none
  | bool (b : Bool)
  | int (i : Int)
  | str (x : Str)
  | tup (l : List D)
  | lst (l : List D)
  | fn (f : Addr)

abbrev lObj (vs : List Value) (n : Nat) : Obj := { cls := .type "list", data := .seq vs.toArray n }
abbrev tObj (vs : List Value) (n : Nat) : Obj := { cls := .type "tuple", data := .seq vs.toArray n }

/-- the frozen part of the heap -/
abbrev Fz := Addr → Option Obj

mutual
inductive Rd (F : Fz) : Value → D → Prop where
  | none : Rd F .none .none
  | bool {b : Bool} : Rd F (.bool b) (.bool b)
  | int {i : Int} {t : Tok} : Rd F (.int i t) (.int i)
  | str {x : Str} {t : Tok} : Rd F (.str x t) (.str x)
  | tup {a : Addr} {vs : List Value} {n : Nat} {ds : List D} : F a = some (tObj vs n) → RdL F vs ds → Rd F (.ref a) (.tup ds)
  | lst {a : Addr} {vs : List Value} {n : Nat} {ds : List D} : F a = some (lObj vs n) → RdL F vs ds → Rd F (.ref a) (.lst ds)
  | fn {a : Addr} {o : Obj} {fd : FuncData} : F a = some o → o.data = .func fd → Rd F (.ref a) (.fn a)
inductive RdL (F : Fz) : List Value → List D → Prop where
  | nil : RdL F [] []
  | cons {v : Value} {vs : List Value} {d : D} {ds : List D} : Rd F v d → RdL F vs ds → RdL F (v :: vs) (d :: ds)
end

def Fz.le (F F' : Fz) : Prop := ∀ a o, F a = some o → F' a = some o
theorem Fz.le.refl (F : Fz) : F.le F := fun _ _ e => e
theorem Fz.le.trans {F F' F'' : Fz} (x : F.le F') (y : F'.le F'') : F.le F'' := fun a o e => y a o (x a o e)

mutual
theorem Rd.mono {F F' : Fz} (k : F.le F') : ∀ {v : Value} {d : D}, Rd F v d → Rd F' v d
  | _, _, .none => .none
  | _, _, .bool => .bool
  | _, _, .int => .int
  | _, _, .str => .str
  | _, _, .tup h l => .tup (k _ _ h) (l.mono k)
  | _, _, .lst h l => .lst (k _ _ h) (l.mono k)
  | _, _, .fn h e => .fn (k _ _ h) e
theorem RdL.mono {F F' : Fz} (k : F.le F') : ∀ {vs : List Value} {ds : List D}, RdL F vs ds → RdL F' vs ds
  | _, _, .nil => .nil
  | _, _, .cons h l => .cons (h.mono k) (l.mono k)
end

theorem RdL.length {F : Fz} : ∀ {vs : List Value} {ds : List D}, RdL F vs ds → vs.length = ds.length
  | _, _, .nil => rfl
  | _, _, .cons _ l => congrArg (· + 1) l.length
theorem RdL.get {F : Fz} : ∀ {vs : List Value} {ds : List D}, RdL F vs ds → ∀ {i : Nat} {d : D}, ds[i]? = some d → ∃ v, vs[i]? = some v ∧ Rd F v d
  | _, _, .nil, i, d, e => by simp at e
  | _, _, .cons (v := v) h l, 0, d, e => by
    simp at e; subst e; exact ⟨v, by simp, h⟩
  | _, _, .cons h l, i + 1, d, e => by
    simp at e
    obtain ⟨u, hu, hr⟩ := l.get e
    exact ⟨u, by simpa using hu, hr⟩
theorem RdL.append {F : Fz} : ∀ {vs : List Value} {ds : List D} {vs' : List Value} {ds' : List D}, RdL F vs ds → RdL F vs' ds' → RdL F (vs ++ vs') (ds ++ ds')
  | _, _, _, _, .nil, y => y
  | _, _, _, _, .cons h l, y => .cons h (l.append y)
theorem RdL.drop {F : Fz} : ∀ {vs : List Value} {ds : List D}, RdL F vs ds → ∀ n, RdL F (vs.drop n) (ds.drop n)
  | _, _, .nil, n => by simp; exact .nil
  | _, _, .cons h l, 0 => .cons h l
  | _, _, .cons h l, n + 1 => by simpa using l.drop n
theorem RdL.take {F : Fz} : ∀ {vs : List Value} {ds : List D}, RdL F vs ds → ∀ n, RdL F (vs.take n) (ds.take n)
  | _, _, .nil, n => by simp; exact .nil
  | _, _, .cons h l, 0 => by simp; exact .nil
  | _, _, .cons h l, n + 1 => by simpa using RdL.cons h (l.take n)
theorem RdL.reverse {F : Fz} : ∀ {vs : List Value} {ds : List D}, RdL F vs ds → RdL F vs.reverse ds.reverse
  | _, _, .nil => .nil
  | _, _, .cons h l => by simpa using l.reverse.append (.cons h .nil)
theorem RdL.flatten {F : Fz} : ∀ {n : Nat} {vs : List Value} {ds : List D}, RdL F vs ds → RdL F (List.replicate n vs).flatten (List.replicate n ds).flatten
  | 0, _, _, _ => .nil
  | n + 1, _, _, h => by simpa [List.replicate_succ] using h.append (RdL.flatten (n := n) h)

/-- a table of code constants: the one kind of old object that a call may let grow -/
def isTab (o : Obj) : Bool := match o.cls, o.data with
  | .none, .fields _ => true
  | _, _ => false

abbrev tabObj (vs : Array Value) : Obj := { cls := .none, data := .fields vs }
/-- what stays from one heap to a later one -/
structure Kp (T : List Addr) (h h' : Heap) : Prop where
  size : h.objs.size ≤ h'.objs.size
  keep : ∀ b o, h.get? b = some o → isTab o = false → h'.get? b = some o
  tab : ∀ b o, h.get? b = some o → isTab o = true → h'.get? b = some o ∨ (b ∈ T ∧ ∃ vs more, o = tabObj vs ∧ h'.get? b = some (tabObj (vs ++ more)))

theorem isTab_tabObj (vs : Array Value) : isTab (tabObj vs) = true := rfl

theorem Kp.refl (T : List Addr) (h : Heap) : Kp T h h := ⟨Nat.le_refl _, fun _ _ e _ => e, fun _ _ e _ => .inl e⟩
theorem Kp.trans {T : List Addr} {h h' h'' : Heap} (x : Kp T h h') (y : Kp T h' h'') : Kp T h h'' := by
  refine ⟨Nat.le_trans x.size y.size, fun b o e n => y.keep b o (x.keep b o e n) n, fun b o e n => ?_⟩
  rcases x.tab b o e n with e1 | ⟨hT, vs, more, rfl, e1⟩
  · exact y.tab b o e1 n
  · rcases y.tab b _ e1 (isTab_tabObj _) with e2 | ⟨_, vs2, more2, q, e2⟩
    · exact .inr ⟨hT, vs, more, rfl, e2⟩
    · have : vs2 = vs ++ more := by injection q with _ _ q3; injection q3 with q4; exact q4.symm
      subst this
      exact .inr ⟨hT, vs, more ++ more2, rfl, by rw [e2, Array.append_assoc]⟩
theorem Kp.of_keeps {T : List Addr} {h h' : Heap} (k : ∀ b o, h.get? b = some o → h'.get? b = some o) (hz : h.objs.size ≤ h'.objs.size) : Kp T h h' :=
  ⟨hz, fun b o e _ => k b o e, fun b o e _ => .inl (k b o e)⟩
theorem Kp.push (T : List Addr) (h : Heap) (o : Obj) : Kp T h (h.push o) :=
  .of_keeps (fun _ _ e => Heap.get?_push_of_some o e) (by rw [Heap.size_push]; walk_at "m_om")

theorem isTab_dict {o : Obj} {es : Array DictEntry} {n : Nat} (h : o.data = .dict es n) : isTab o = false := by
  unfold isTab; rw [h]; cases o.cls <;> rfl
theorem isTab_cls {o : Obj} {T : String} (h : o.cls = .type T) : isTab o = false := by
  unfold isTab; rw [h]
theorem isTab_cell {o : Obj} {v : Option Value} (h : o.data = .cell v) : isTab o = false := by
  unfold isTab; rw [h]; cases o.cls <;> rfl
theorem isTab_func {o : Obj} {f : FuncData} (h : o.data = .func f) : isTab o = false := by
  unfold isTab; rw [h]; cases o.cls <;> rfl

theorem Kp.ns {T : List Addr} {h h' : Heap} (k : Kp T h h') {a : Addr} {m : Str → Option Value} (x : h.Ns a m) : h'.Ns a m := by
  obtain ⟨o, es, ep, ho, hd, r⟩ := x
  exact ⟨o, es, ep, k.keep _ _ ho (isTab_dict hd), hd, r⟩
theorem Kp.cell {T : List Addr} {h h' : Heap} (k : Kp T h h') {c : Addr} {v : Option Value} (x : h.IsCell c v) : h'.IsCell c v := by
  obtain ⟨o, ho, hd⟩ := x
  exact ⟨o, k.keep _ _ ho (isTab_cell hd), hd⟩
theorem Kp.noLimit {T : List Addr} {h h' : Heap} (k : Kp T h h') (x : h.NoLimit) : h'.NoLimit := by
  obtain ⟨mc, hn, e⟩ := x
  exact ⟨mc, k.ns hn, e⟩

/-- a code object that bears its qualified name -/
def CodeOk (h : Heap) (cd : Value) (q : Str) : Prop := ∃ c o vs t, cd = .ref c ∧ h.get? c = some o ∧ o.cls = .type "code" ∧ o.data = .fields vs ∧ vs[1]? = some (.str q t)
theorem CodeOk.rec' {h : Heap} {cd : Value} {q : Str} (x : CodeOk h cd q) : h.CodeRec cd q := by
  obtain ⟨c, o, vs, t, a, b, _, d, e⟩ := x
  exact ⟨c, o, vs, t, a, b, d, e⟩
theorem Kp.code {T : List Addr} {h h' : Heap} (k : Kp T h h') {cd : Value} {q : Str} (x : CodeOk h cd q) : CodeOk h' cd q := by
  obtain ⟨c, o, vs, t, a, b, e, r⟩ := x
  exact ⟨c, o, vs, t, a, k.keep _ _ b (isTab_cls e), e, r⟩
theorem Kp.list {T : List Addr} {h h' : Heap} (k : Kp T h h') {a : Addr} {items : Array Value} (x : h.IsList a items) : h'.IsList a items := by
  obtain ⟨o, ho, hc, r⟩ := x
  exact ⟨o, k.keep _ _ ho (isTab_cls hc), hc, r⟩
theorem Kp.get_func {T : List Addr} {h h' : Heap} (k : Kp T h h') {a : Addr} {o : Obj} {fd : FuncData} (x : h.get? a = some o) (e : o.data = .func fd) : h'.get? a = some o := k.keep _ _ x (isTab_func e)

/-- code objects and their tables -/
def codey (o : Obj) : Bool := match o.cls, o.data with
  | .none, .fields _ => true
  | .type t, .fields _ => t == "code"
  | _, _ => false
theorem codey_dict {o : Obj} {es : Array DictEntry} {n : Nat} (h : o.data = .dict es n) : codey o = false := by
  unfold codey; rw [h]; cases o.cls <;> rfl
theorem codey_cell {o : Obj} {v : Option Value} (h : o.data = .cell v) : codey o = false := by
  unfold codey; rw [h]; cases o.cls <;> rfl
theorem codey_seq {o : Obj} {v : Array Value} {n : Nat} (h : o.data = .seq v n) : codey o = false := by
  unfold codey; rw [h]; cases o.cls <;> rfl
theorem isTab_seq {o : Obj} {v : Array Value} {n : Nat} (h : o.data = .seq v n) : isTab o = false := by
  unfold isTab; rw [h]; cases o.cls <;> rfl

/-- the fixed surroundings of a proof: program, world, the names of the module and of the built-ins, the tables that may grow, the heap at the law's call -/
structure Gx where
  prog : Program
  w : World
  mg : Str → Option Value
  mb : Str → Option Value
  T : List Addr
  h₁ : Heap
  low : mainGlobals < h₁.objs.size ∧ builtinsNs < h₁.objs.size ∧ cStatics < h₁.objs.size
  os : OsState
  F₀ : Fz
  inv : Heap → Prop
  invK : ∀ h h', inv h → (∀ b o, h.get? b = some o → codey o = true → h'.get? b = some o) → inv h'
  tk : Nat

structure Good (G : Gx) (s : Shared) (F : Fz) : Prop where
  base : Kp G.T G.h₁ s.heap
  g : s.heap.Ns mainGlobals G.mg
  b : s.heap.Ns builtinsNs G.mb
  nolimit : s.heap.NoLimit
  bare : AllBare s.gens
  toks : G.tk ≤ s.toks
  os : s.os = G.os
  fz : ∀ a o, F a = some o → s.heap.get? a = some o
  nt : ∀ a o, F a = some o → isTab o = false
  ff : G.F₀.le F
  inv : G.inv s.heap

/-- from one good state to a later one; what lies at places of M may have been changed -/
structure Ex (G : Gx) (M : Addr → Prop) (s : Shared) (F : Fz) (s' : Shared) (F' : Fz) : Prop where
  size : s.heap.objs.size ≤ s'.heap.objs.size
  keep : ∀ b o, ¬ M b → s.heap.get? b = some o → isTab o = false → s'.heap.get? b = some o
  tab : ∀ b o, s.heap.get? b = some o → isTab o = true → s'.heap.get? b = some o ∨ (b ∈ G.T ∧ ∃ vs more, o = tabObj vs ∧ s'.heap.get? b = some (tabObj (vs ++ more)))
  le : F.le F'
  fresh : ∀ a o, F' a = some o → F a = some o ∨ s.heap.objs.size ≤ a ∨ M a
  good : Good G s' F'
  gens : ∀ (i : Nat) x, s.gens[i]? = some x → s'.gens[i]? = some x

abbrev nowhere : Addr → Prop := fun _ => False

theorem Ex.kp {G : Gx} {s : Shared} {F : Fz} {s' : Shared} {F' : Fz} (x : Ex G nowhere s F s' F') : Kp G.T s.heap s'.heap :=
  ⟨x.size, fun b o e n => x.keep b o id e n, x.tab⟩
theorem Ex.refl {G : Gx} {M : Addr → Prop} {s : Shared} {F : Fz} (h : Good G s F) : Ex G M s F s F :=
  ⟨Nat.le_refl _, fun _ _ _ e _ => e, fun _ _ e _ => .inl e, Fz.le.refl F, fun _ _ e => .inl e, h, fun _ _ e => e⟩
theorem Ex.weaken {G : Gx} {M M' : Addr → Prop} {s : Shared} {F : Fz} {s' : Shared} {F' : Fz} (x : Ex G M s F s' F') (hM : ∀ a, M a → M' a) : Ex G M' s F s' F' :=
  ⟨x.size, fun b o n => x.keep b o fun m => n (hM b m), x.tab, x.le, fun a o e => (x.fresh a o e).imp_right fun r => r.imp_right (hM a), x.good, x.gens⟩
/-- what the second step may change is what the first may, or is new -/
theorem Ex.trans {G : Gx} {M M' : Addr → Prop} {s s' s'' : Shared} {F F' F'' : Fz} (x : Ex G M s F s' F') (y : Ex G M' s' F' s'' F'') (hM : ∀ a, M' a → M a ∨ s.heap.objs.size ≤ a) : Ex G M s F s'' F'' := by
  refine ⟨Nat.le_trans x.size y.size, fun b o n e t => ?_, fun b o e t => ?_, x.le.trans y.le, fun a o e => ?_, y.good, fun i v e => y.gens i v (x.gens i v e)⟩
  · refine y.keep b o (fun m => ?_) (x.keep b o n e t) t
    rcases hM b m with m' | m'
    · exact n m'
    · exact absurd (Heap.lt_size e) (Nat.not_lt.mpr m')
  · rcases x.tab b o e t with e1 | ⟨hT, vs, more, rfl, e1⟩
    · exact y.tab b o e1 t
    · rcases y.tab b _ e1 rfl with e2 | ⟨_, vs2, more2, q, e2⟩
      · exact .inr ⟨hT, vs, more, rfl, e2⟩
      · have : vs2 = vs ++ more := by injection q with _ _ q3; injection q3 with q4; exact q4.symm
        subst this
        exact .inr ⟨hT, vs, more ++ more2, rfl, by rw [e2, Array.append_assoc]⟩
  · rcases y.fresh a o e with e1 | e1 | e1
    · exact x.fresh a o e1
    · exact .inr (.inl (Nat.le_trans x.size e1))
    · exact (hM a e1).elim (fun m => .inr (.inr m)) fun m => .inr (.inl m)
theorem Ex.trans' {G : Gx} {M : Addr → Prop} {s s' s'' : Shared} {F F' F'' : Fz} (x : Ex G M s F s' F') (y : Ex G M s' F' s'' F'') : Ex G M s F s'' F'' := x.trans y fun _ m => .inl m

def Fz.put (F : Fz) (a : Addr) (o : Obj) : Fz := fun b => if b = a then some o else F b
theorem Fz.put_self (F : Fz) (a : Addr) (o : Obj) : F.put a o a = some o := by simp [Fz.put]
theorem Good.lt {G : Gx} {s : Shared} {F : Fz} (h : Good G s F) {a : Addr} {o : Obj} (e : F a = some o) : a < s.heap.objs.size := Heap.lt_size (h.fz a o e)
theorem Good.none_of {G : Gx} {s : Shared} {F : Fz} (h : Good G s F) {a : Addr} (e : s.heap.objs.size ≤ a) : F a = none := by
  cases q : F a with
  | none => rfl
  | some o => exact absurd (h.lt q) (Nat.not_lt.mpr e)
theorem Good.put_le {G : Gx} {s : Shared} {F : Fz} (h : Good G s F) {a : Addr} (e : s.heap.objs.size ≤ a) (o : Obj) : F.le (F.put a o) := fun b o' q => by
  unfold Fz.put
  by_cases hb : b = a
  · subst hb; rw [h.none_of e] at q; cases q
  · rw [if_neg hb]; exact q

/-- the plain step: heap, tokens; all that stood stands -/
theorem Good.step {G : Gx} {s : Shared} {F : Fz} (h : Good G s F) {h' : Heap} {tk : Nat} {F' : Fz} (k : Kp G.T s.heap h') (hi : G.inv h') (hF : ∀ a o, F' a = some o → h'.get? a = some o) (hN : ∀ a o, F' a = some o → isTab o = false) (hL : F.le F')
    (ht : s.toks ≤ tk := by first | exact Nat.le_refl _ | exact Nat.le_succ _ | walk_at "m_om") : Good G { s with heap := h', toks := tk } F' :=
  ⟨h.base.trans k, k.ns h.g, k.ns h.b, k.noLimit h.nolimit, h.bare, Nat.le_trans h.toks ht, h.os, hF, hN, h.ff.trans hL, hi⟩

/-- all that stood stands; nothing new is frozen -/
theorem ex_heap {G : Gx} {s : Shared} {F : Fz} (h : Good G s F) {h' : Heap} {tk : Nat} (k : ∀ b o, s.heap.get? b = some o → h'.get? b = some o) (hz : s.heap.objs.size ≤ h'.objs.size) {M : Addr → Prop}
    (ht : s.toks ≤ tk := by first | exact Nat.le_refl _ | exact Nat.le_succ _ | walk_at "m_om") : Ex G M s F { s with heap := h', toks := tk } F :=
  ⟨hz, fun b o _ e _ => k b o e, fun b o e _ => .inl (k b o e), Fz.le.refl F, fun _ _ e => .inl e,
    h.step (.of_keeps k hz) ((G.invK _ _ h.inv fun b o e _ => k b o e)) (fun a o e => k a o (h.fz a o e)) h.nt (Fz.le.refl F) ht, fun _ _ e => e⟩
theorem ex_toks {G : Gx} {s : Shared} {F : Fz} (h : Good G s F) {tk : Nat} {M : Addr → Prop} (ht : s.toks ≤ tk := by first | exact Nat.le_refl _ | exact Nat.le_succ _ | walk_at "m_om") : Ex G M s F { s with toks := tk } F := ex_heap h (fun _ _ e => e) (Nat.le_refl _) ht
/-- the same; a new object is frozen -/
theorem ex_new {G : Gx} {s : Shared} {F : Fz} (h : Good G s F) {h' : Heap} {tk : Nat} {a : Addr} {o : Obj} (k : ∀ b o, s.heap.get? b = some o → h'.get? b = some o) (hz : s.heap.objs.size ≤ h'.objs.size)
    (ha : s.heap.objs.size ≤ a) (ho : h'.get? a = some o) {M : Addr → Prop}
    (ht : s.toks ≤ tk := by first | exact Nat.le_refl _ | exact Nat.le_succ _ | walk_at "m_om") (hit : isTab o = false := by rfl) : Ex G M s F { s with heap := h', toks := tk } (F.put a o) :=
  ⟨hz, fun b o _ e _ => k b o e, fun b o e _ => .inl (k b o e), h.put_le ha o, fun b o' e => by
      unfold Fz.put at e
      by_cases hb : b = a
      · exact .inr (.inl (hb ▸ ha))
      · rw [if_neg hb] at e; exact .inl e,
    h.step (.of_keeps k hz) (G.invK _ _ h.inv fun b o e _ => k b o e) (fun b o' e => by
      unfold Fz.put at e
      by_cases hb : b = a
      · rw [if_pos hb] at e; cases e; rw [hb]; exact ho
      · rw [if_neg hb] at e; exact k b o' (h.fz b o' e)) (fun b o' e => by
      unfold Fz.put at e
      by_cases hb : b = a
      · rw [if_pos hb] at e; cases e; exact hit
      · rw [if_neg hb] at e; exact h.nt b o' e) (h.put_le ha o) ht, fun _ _ e => e⟩
/-- the object at one place is changed: no code, none of the base's, not frozen -/
theorem ex_at {G : Gx} {s : Shared} {F : Fz} (h : Good G s F) {h' : Heap} {tk : Nat} {a : Addr} {oa : Obj} (hs : Heap.SameBut a s.heap h') (ha : G.h₁.objs.size ≤ a) (hFa : F a = none)
    (hg : s.heap.get? a = some oa) (hc : codey oa = false) (hit : isTab oa = false) {M : Addr → Prop} (hM : M a)
    (ht : s.toks ≤ tk := by first | exact Nat.le_refl _ | exact Nat.le_succ _ | walk_at "m_om") : Ex G M s F { s with heap := h', toks := tk } F := by
  have kb : ∀ b o, s.heap.get? b = some o → codey o = true → h'.get? b = some o := fun b o e c => by
    refine (hs.2 b fun q => ?_).trans e
    subst q; rw [hg] at e; cases e; rw [hc] at c; cases c
  have ne : ∀ b o, G.h₁.get? b = some o → b ≠ a := fun b o e => Nat.ne_of_lt (Nat.lt_of_lt_of_le (Heap.lt_size e) ha)
  have st : ∀ {b m}, s.heap.Ns b m → b < G.h₁.objs.size → h'.Ns b m := fun x hb => x.sameBut hs (Nat.ne_of_lt (Nat.lt_of_lt_of_le hb ha))
  refine ⟨Nat.le_of_eq hs.1.symm, fun b o n e _ => ?_, fun b o e t => ?_, Fz.le.refl F, fun _ _ e => .inl e, ⟨⟨?_, fun b o e t => ?_, fun b o e t => ?_⟩, ?_, ?_, ?_, h.bare, Nat.le_trans h.toks ht, h.os, fun b o e => ?_, h.nt, h.ff, G.invK _ _ h.inv kb⟩, fun _ _ e => e⟩
  · exact (hs.2 b fun q => n (q ▸ hM)).trans e
  · refine .inl ((hs.2 b fun q => ?_).trans e)
    subst q; rw [hg] at e; cases e; rw [hit] at t; cases t
  · exact Nat.le_trans h.base.size (Nat.le_of_eq hs.1.symm)
  · exact (hs.2 b (ne b o e)).trans (h.base.keep b o e t)
  · rcases h.base.tab b o e t with q | ⟨x, vs, more, y, q⟩
    · exact .inl ((hs.2 b (ne b o e)).trans q)
    · exact .inr ⟨x, vs, more, y, (hs.2 b (ne b o e)).trans q⟩
  · exact st h.g (G.low.1)
  · exact st h.b (G.low.2.1)
  · obtain ⟨mc, hn, e⟩ := h.nolimit
    exact ⟨mc, st hn G.low.2.2, e⟩
  · refine (hs.2 b fun q => ?_).trans (h.fz b o e)
    subst q; rw [hFa] at e; cases e
end
/- B2 -/
section

/-- what a name of the frame holds: data, or a list that the frame owns and may still change -/
inductive En where
  | v (d : D)
  | own (a : Addr) (ds : List D)
abbrev Ro := List (Str × En)

/-- the frames that are looked at: of a def or of a comprehension in one -/
structure EnvF (env : Env) : Prop where
  kind : env.scope.kind = .function
  globals : env.globals = mainGlobals
  builtins : env.builtins = builtinsNs
  dbg : env.kindOf "__debug__" = none
  cd : env.kindOf "__classdict__" = none

def VarAt (env : Env) (h : Heap) (x : Str) (v : Value) : Prop :=
  (env.kindOf x = some .local ∧ ∃ m, h.Ns env.locals m ∧ m x = some v) ∨
  ((env.kindOf x = some .cell ∨ env.kindOf x = some .free) ∧ ∃ c, env.cells.lookup x = some c ∧ h.IsCell c (some v))

def EnAt (G : Gx) (env : Env) (h : Heap) (F : Fz) (x : Str) : En → Prop
  | .v d => ∃ v, VarAt env h x v ∧ Rd F v d
  | .own a ds => VarAt env h x (.ref a) ∧ F a = none ∧ G.h₁.objs.size ≤ a ∧ ∃ vs n, h.get? a = some (lObj vs n) ∧ RdL F vs ds

def owns (ρ : Ro) : List Addr := ρ.filterMap fun p => match p.2 with | .own a _ => some a | .v _ => none

structure Vars (G : Gx) (env : Env) (h : Heap) (F : Fz) (ρ : Ro) : Prop where
  at' : ∀ p ∈ ρ, EnAt G env h F p.1 p.2
  names : (ρ.map (·.1)).Nodup
  owns : (owns ρ).Nodup

theorem EnvF.ne_dbg {env : Env} (e : EnvF env) {x : Str} {k : NameKind} (h : env.kindOf x = some k) : (x == ("__debug__" : Str)) = false := by
  cases q : x == ("__debug__" : Str) with
  | false => rfl
  | true => rw [eq_of_beq q, e.dbg] at h; cases h
theorem EnvF.ne_cd {env : Env} (e : EnvF env) {x : Str} {k : NameKind} (h : env.kindOf x = some k) : (x == ("__classdict__" : Str)) = false := by
  cases q : x == ("__classdict__" : Str) with
  | false => rfl
  | true => rw [eq_of_beq q, e.cd] at h; cases h

theorem VarAt.kp {env : Env} {h h' : Heap} {x : Str} {v : Value} {T : List Addr} (k : Kp T h h') (q : VarAt env h x v) : VarAt env h' x v := by
  rcases q with ⟨a, m, b, c⟩ | ⟨a, c, b, e⟩
  · exact .inl ⟨a, m, k.ns b, c⟩
  · exact .inr ⟨a, c, b, k.cell e⟩

theorem EnAt.ex {G : Gx} {env : Env} {s s' : Shared} {F F' : Fz} {x : Str} {e : En} (k : Ex G nowhere s F s' F') (q : EnAt G env s.heap F x e) : EnAt G env s'.heap F' x e := by
  cases e with
  | v d => obtain ⟨v, a, r⟩ := q; exact ⟨v, a.kp k.kp, r.mono k.le⟩
  | own a ds =>
    obtain ⟨h1, h2, h3, vs, n, h4, h5⟩ := q
    refine ⟨h1.kp k.kp, ?_, h3, vs, n, k.keep _ _ id h4 rfl, h5.mono k.le⟩
    cases q : F' a with
    | none => rfl
    | some o =>
      rcases k.fresh a o q with e | e | e
      · rw [h2] at e; cases e
      · exact absurd (Heap.lt_size h4) (Nat.not_lt.mpr e)
      · exact e.elim
theorem Vars.ex {G : Gx} {env : Env} {s s' : Shared} {F F' : Fz} {ρ : Ro} (q : Vars G env s.heap F ρ) (k : Ex G nowhere s F s' F') : Vars G env s'.heap F' ρ :=
  ⟨fun p hp => (q.at' p hp).ex k, q.names, q.owns⟩

/-- room for k more frames -/
structure Room (A : Around) (k : Nat) : Prop where
  handled : A.handled = none
  depth : A.depth + k < recursionLimit
  units : A.units + 10 * k + 100 < cLine
theorem Room.le {A : Around} {k j : Nat} (r : Room A k) (h : j ≤ k) : Room A j :=
  ⟨r.handled, by have := r.depth; walk_at "m_om", by have := r.units; walk_at "m_om"⟩

section
variable (G : Gx) (A : Around) (env : Env) (ρ : Ro)

/-- in every good state whose names hold ρ the expression yields d, and all that stood stands -/
structure Evals (e : Expr) (d : D) : Prop where
  run : ∀ s F, Good G s F → Vars G env s.heap F ρ → ∀ (Q : Value → Shared → Prop) (E : Value → Shared → Prop), (∀ v s' F', Ex G nowhere s F s' F' → Rd F' v d → Q v s') → wpAny (model G.prog G.w) A (eval e env) Q E s
/-- the same for a test -/
structure Tests (e : Expr) (b : Bool) : Prop where
  run : ∀ s F, Good G s F → Vars G env s.heap F ρ → ∀ (Q : Bool → Shared → Prop) (E : Value → Shared → Prop), (∀ s' F', Ex G nowhere s F s' F' → Q b s') → wpAny (model G.prog G.w) A (isTrue e env (eval e env)) Q E s
/-- expressions one after the other -/
def EvalsL : List Expr → List D → Prop
  | [], [] => True
  | e :: es, d :: ds => Evals G A env ρ e d ∧ EvalsL es ds
  | _, _ => False
end
/-- an operation on two values -/
structure Op2 (G : Gx) (A : Around) (t : Value → Value → Sem Value) (d1 d2 d : D) : Prop where
  run : ∀ s F v1 v2, Good G s F → Rd F v1 d1 → Rd F v2 d2 → ∀ (Q : Value → Shared → Prop) (E : Value → Shared → Prop), (∀ v s' F', Ex G nowhere s F s' F' → Rd F' v d → Q v s') → wpAny (model G.prog G.w) A (t v1 v2) Q E s
structure Op1 (G : Gx) (A : Around) (t : Value → Sem Value) (d1 d : D) : Prop where
  run : ∀ s F v1, Good G s F → Rd F v1 d1 → ∀ (Q : Value → Shared → Prop) (E : Value → Shared → Prop), (∀ v s' F', Ex G nowhere s F s' F' → Rd F' v d → Q v s') → wpAny (model G.prog G.w) A (t v1) Q E s

section
variable {G : Gx} {A : Around} {env : Env} {ρ : Ro}

theorem ev_int {i : Int} {k : Nat} {pos : Pos} : Evals G A env ρ (.Constant (.int i) k pos) (.int i) :=
  .mk fun s F g _ Q E h => wpAny_Constant_int (h _ _ F (ex_toks g) .int)
theorem ev_str {x : Str} {k : Nat} {pos : Pos} : Evals G A env ρ (.Constant (.str x) k pos) (.str x) :=
  .mk fun s F g _ Q E h => Constant_str (h _ _ F (ex_toks g) .str)
theorem ev_none {k : Nat} {pos : Pos} : Evals G A env ρ (.Constant .none k pos) .none :=
  .mk fun s F g _ Q E h => wpAny_pure (h _ _ F (Ex.refl g) .none)
theorem ev_bool {b : Bool} {k : Nat} {pos : Pos} : Evals G A env ρ (.Constant (.bool b) k pos) (.bool b) :=
  .mk fun s F g _ Q E h => wpAny_pure (h _ _ F (Ex.refl g) .bool)

theorem load_var {h : Heap} {x : Str} {v : Value} (he : EnvF env) (q : VarAt env h x v) {s : Shared} (hs : s.heap = h) {M : Model} {Q : Value → Shared → Prop} {E : Value → Shared → Prop} (k : Q v s) :
    wpAny M A (loadName env x) Q E s := by
  subst hs
  rcases q with ⟨a, m, b, c⟩ | ⟨a, c, b, e⟩
  · exact wpAny_loadName_local he.kind a b c k
  · rcases a with a | a
    · exact wpAny_loadName_cell he.kind a b e k
    · exact wpAny_loadName_free he.kind a b e k (he.ne_cd a)
theorem VarAt.dbg {h : Heap} {x : Str} {v : Value} (he : EnvF env) (q : VarAt env h x v) : (x == ("__debug__" : Str)) = false := by
  rcases q with ⟨a, _⟩ | ⟨a | a, _⟩ <;> exact he.ne_dbg a

theorem ev_name {x : Str} {pos : Pos} {d : D} (he : EnvF env) (hx : (x, En.v d) ∈ ρ) : Evals G A env ρ (.Name x pos) d := .mk fun s F g hv Q E h => by
  obtain ⟨v, a, r⟩ := hv.at' _ hx
  exact wpAny_Name (load_var he a rfl (h _ _ F (Ex.refl g) r)) (a.dbg he)

theorem ev_bin {l r : Expr} {op : Operator} {pos : Pos} {d1 d2 d : D} (hl : Evals G A env ρ l d1) (hr : Evals G A env ρ r d2) (ho : Op2 G A (binaryOp op) d1 d2 d) : Evals G A env ρ (.BinOp l op r pos) d :=
  .mk fun s F g hv Q E h => wpAny_BinOp (hl.run s F g hv _ _ fun v1 s1 F1 x1 r1 => hr.run s1 F1 x1.good (hv.ex x1) _ _ fun v2 s2 F2 x2 r2 => ho.run s2 F2 v1 v2 x2.good (r1.mono x2.le) r2 _ _ fun v s3 F3 x3 r3 =>
    h v s3 F3 (x1.trans' (x2.trans' x3)) r3)

theorem ev_cmp {l r : Expr} {op : CmpOp} {pos : Pos} {d1 d2 d : D} (hl : Evals G A env ρ l d1) (hr : Evals G A env ρ r d2) (ho : Op2 G A (compareOp op) d1 d2 d) (hm : behindInMarks op r = false := by with_unfolding_all rfl) :
    Evals G A env ρ (.Compare l [op] [r] pos) d :=
  .mk fun s F g hv Q E h => wpAny_Compare1 (hl.run s F g hv _ _ fun v1 s1 F1 x1 r1 => hr.run s1 F1 x1.good (hv.ex x1) _ _ fun v2 s2 F2 x2 r2 => ho.run s2 F2 v1 v2 x2.good (r1.mono x2.le) r2 _ _ fun v s3 F3 x3 r3 =>
    h v s3 F3 (x1.trans' (x2.trans' x3)) r3) hm

theorem ts_cmp {l r : Expr} {op : CmpOp} {pos : Pos} {d1 d2 : D} {b : Bool} (hl : Evals G A env ρ l d1) (hr : Evals G A env ρ r d2) (ho : Op2 G A (compareOp op) d1 d2 (.bool b)) (hm : behindInMarks op r = false := by with_unfolding_all rfl) :
    Tests G A env ρ (.Compare l [op] [r] pos) b :=
  .mk fun s F g hv Q E h => wpAny_isTrue_Compare1 (hl.run s F g hv _ _ fun v1 s1 F1 x1 r1 => hr.run s1 F1 x1.good (hv.ex x1) _ _ fun v2 s2 F2 x2 r2 => ho.run s2 F2 v1 v2 x2.good (r1.mono x2.le) r2 _ _ fun v s3 F3 x3 r3 => by
    cases r3
    exact wpAny_truthy_bool (h s3 F3 (x1.trans' (x2.trans' x3)))) hm

/-- the truth of data -/
def Tru : D → Bool
  | .none => false
  | .bool b => b
  | .int i => i != 0
  | .str x => x.length != 0
  | .tup l => !l.isEmpty
  | .lst l => !l.isEmpty
  | .fn _ => true

theorem truth_int {s : Shared} {i : Int} {t : Tok} {Q : Bool → Shared → Prop} {E : Value → Shared → Prop} (h : Q (i != 0) s) : wpAny (model G.prog G.w) A (truthy (.int i t)) Q E s := PyProof.Rows.truthy_int h

theorem op_int {t : Value → Value → Sem Value} {a b c : Int}
    (h : ∀ (s : Shared) (t1 t2 : Tok) (Q : Value → Shared → Prop) (E : Value → Shared → Prop), Q (.int c s.toks) { s with toks := s.toks + 1 } → wpAny (model G.prog G.w) A (t (.int a t1) (.int b t2)) Q E s) :
    Op2 G A t (.int a) (.int b) (.int c) := .mk fun s F v1 v2 g r1 r2 Q E k => by
  cases r1; cases r2
  exact h s _ _ Q E (k _ _ F (ex_toks g) .int)
theorem op_cmp {t : Value → Value → Sem Value} {a b : Int} {c : Bool}
    (h : ∀ (s : Shared) (t1 t2 : Tok) (Q : Value → Shared → Prop) (E : Value → Shared → Prop), Q (.bool c) s → wpAny (model G.prog G.w) A (t (.int a t1) (.int b t2)) Q E s) :
    Op2 G A t (.int a) (.int b) (.bool c) := .mk fun s F v1 v2 g r1 r2 Q E k => by
  cases r1; cases r2
  exact h s _ _ Q E (k _ _ F (Ex.refl g) .bool)

theorem o_add {a b : Int} : Op2 G A (binaryOp .Add) (.int a) (.int b) (.int (a + b)) := op_int fun _ _ _ _ _ h => wpAny_add_int h
theorem o_sub {a b : Int} : Op2 G A (binaryOp .Sub) (.int a) (.int b) (.int (a - b)) := op_int fun _ _ _ _ _ h => sub_int' h
theorem o_mul {a b : Int} (hm : IntMulOk a b) : Op2 G A (binaryOp .Mult) (.int a) (.int b) (.int (a * b)) := op_int fun _ _ _ _ _ h => PyProof.Rows.mul_int h hm
theorem o_div {a b : Int} (hb : b ≠ 0) (hp : Builtin.divisionGoesByPylong a b = false) : Op2 G A (binaryOp .FloorDiv) (.int a) (.int b) (.int (a.fdiv b)) := op_int fun _ _ _ _ _ h => floordiv_int hb h (.inl hp)
theorem o_mod {a b : Int} (hb : b ≠ 0) : Op2 G A (binaryOp .Mod) (.int a) (.int b) (.int (a.fmod b)) := op_int fun _ _ _ _ _ h => mod_int' hb h
theorem o_pow {a n : Int} (hn : 0 ≤ n) (hz : (Builtin.Int.intBits a : Int) * n ≤ 2 ^ 27) : Op2 G A (binaryOp .Pow) (.int a) (.int n) (.int (a ^ n.toNat)) := op_int fun _ _ _ _ _ h => pow_int hn hz h
theorem o_shl {a n : Int} (hn : 0 ≤ n) (hz : (Builtin.Int.intBits a : Int) + n ≤ 2 ^ 27) : Op2 G A (binaryOp .LShift) (.int a) (.int n) (.int (a * 2 ^ n.toNat)) := op_int fun _ _ _ _ _ h => lshift_int hn hz h
theorem o_shr {a n : Int} (hn : 0 ≤ n) : Op2 G A (binaryOp .RShift) (.int a) (.int n) (.int (a.fdiv (2 ^ n.toNat))) := op_int fun _ _ _ _ _ h => rshift_int hn h
theorem o_and {a b : Int} : Op2 G A (binaryOp .BitAnd) (.int a) (.int b) (.int (Builtin.bitAnd a b)) := op_int fun _ _ _ _ _ h => and_int h
theorem o_or {a b : Int} : Op2 G A (binaryOp .BitOr) (.int a) (.int b) (.int (Builtin.bitOr a b)) := op_int fun _ _ _ _ _ h => or_int h
theorem o_xor {a b : Int} : Op2 G A (binaryOp .BitXor) (.int a) (.int b) (.int (Builtin.bitXor a b)) := op_int fun _ _ _ _ _ h => xor_int h
theorem i_add {a b : Int} : Op2 G A (inplaceOp .Add) (.int a) (.int b) (.int (a + b)) := op_int fun _ _ _ _ _ h => wpAny_iadd_int h
theorem i_sub {a b : Int} : Op2 G A (inplaceOp .Sub) (.int a) (.int b) (.int (a - b)) := op_int fun _ _ _ _ _ h => PyProof.Rows.isub_int h
theorem i_mul {a b : Int} (hm : IntMulOk a b) : Op2 G A (inplaceOp .Mult) (.int a) (.int b) (.int (a * b)) := op_int fun _ _ _ _ _ h => PyProof.Rows.imul_int h hm
theorem i_shl {a n : Int} (hn : 0 ≤ n) (hz : (Builtin.Int.intBits a : Int) + n ≤ 2 ^ 27) : Op2 G A (inplaceOp .LShift) (.int a) (.int n) (.int (a * 2 ^ n.toNat)) := op_int fun _ _ _ _ _ h => ilshift_int hn hz h
theorem i_shr {a n : Int} (hn : 0 ≤ n) : Op2 G A (inplaceOp .RShift) (.int a) (.int n) (.int (a.fdiv (2 ^ n.toNat))) := op_int fun _ _ _ _ _ h => irshift_int hn h

theorem c_lt {a b : Int} : Op2 G A (compareOp .Lt) (.int a) (.int b) (.bool (decide (a < b))) := op_cmp fun _ _ _ _ _ h => wpAny_lt_int h
theorem c_le {a b : Int} : Op2 G A (compareOp .LtE) (.int a) (.int b) (.bool (decide (a ≤ b))) := op_cmp fun _ _ _ _ _ h => PyProof.Rows.le_int h
theorem c_gt {a b : Int} : Op2 G A (compareOp .Gt) (.int a) (.int b) (.bool (decide (b < a))) := op_cmp fun _ _ _ _ _ h => PyProof.Rows.gt_int h
theorem c_ge {a b : Int} : Op2 G A (compareOp .GtE) (.int a) (.int b) (.bool (decide (b ≤ a))) := op_cmp fun _ _ _ _ _ h => PyProof.Rows.ge_int h
theorem c_eq {a b : Int} : Op2 G A (compareOp .Eq) (.int a) (.int b) (.bool (a == b)) := op_cmp fun _ _ _ _ _ h => wpAny_eq_int h
theorem c_ne {a b : Int} : Op2 G A (compareOp .NotEq) (.int a) (.int b) (.bool (a != b)) := op_cmp fun _ _ _ _ _ h => PyProof.Rows.ne_int h
theorem c_is_bool {a b : Bool} : Op2 G A (compareOp .Is) (.bool a) (.bool b) (.bool (a == b)) := .mk fun s F v1 v2 g r1 r2 Q E k => by
  cases r1; cases r2; exact is_bool (k _ _ F (Ex.refl g) .bool)
theorem c_isnot_bool {a b : Bool} : Op2 G A (compareOp .IsNot) (.bool a) (.bool b) (.bool (a != b)) := .mk fun s F v1 v2 g r1 r2 Q E k => by
  cases r1; cases r2; exact isnot_bool (k _ _ F (Ex.refl g) .bool)
def D.isNone : D → Bool
  | .none => true
  | _ => false
theorem c_is_none {d : D} : Op2 G A (compareOp .Is) d .none (.bool d.isNone) := .mk fun s F v1 v2 g r1 r2 Q E k => by
  cases r2
  refine is_none_gen ?_
  cases r1 <;> exact k _ _ F (Ex.refl g) .bool

end
end
/- B3 -/
section
section
variable {G : Gx} {A : Around} {env : Env} {ρ : Ro}

theorem ev_un {x : Expr} {op : UnaryOp} {pos : Pos} {d1 d : D} (hx : Evals G A env ρ x d1) (ho : Op1 G A (unaryOp op) d1 d) : Evals G A env ρ (.UnaryOp op x pos) d := .mk fun s F g hv Q E h => by
  rw [arm_eval_UnaryOp]
  exact wpAny_bind (hx.run s F g hv _ _ fun v1 s1 F1 x1 r1 => wpAny_bind (wpAny_standAt (wpAny_holding (ho.run s1 F1 v1 x1.good r1 _ _ fun v s' F' x' r' => h v s' F' (x1.trans' x') r'))))
theorem u_neg {a : Int} : Op1 G A (unaryOp .USub) (.int a) (.int (-a)) := .mk fun s F v1 g r1 Q E k => by
  cases r1; exact PyProof.Rows.neg_int (k _ _ F (ex_toks g) .int)
theorem u_inv {a : Int} : Op1 G A (unaryOp .Invert) (.int a) (.int (Builtin.bitNot a)) := .mk fun s F v1 g r1 Q E k => by
  cases r1; exact invert_int (k _ _ F (ex_toks g) .int)

/-- a test that is a plain value -/
theorem ts_val {e : Expr} {d : D} {b : Bool} (he : Evals G A env ρ e d) (hb : d = .int i ∧ b = (i != 0) ∨ d = .bool b)
    (hi : isTrue e env (eval e env) = (do let v ← eval e env; standAt e.pos; holding [v] (truthy v)) := by rfl) : Tests G A env ρ e b := .mk fun s F g hv Q E h =>
  wpAny_isTrue_value (he.run s F g hv _ _ fun v s1 F1 x1 r1 => by
    rcases hb with ⟨rfl, rfl⟩ | rfl
    · cases r1; exact truth_int (h s1 F1 x1)
    · cases r1; exact wpAny_truthy_bool (h s1 F1 x1)) hi
theorem ts_int {e : Expr} {i : Int} (he : Evals G A env ρ e (.int i)) (hi : isTrue e env (eval e env) = (do let v ← eval e env; standAt e.pos; holding [v] (truthy v)) := by rfl) : Tests G A env ρ e (i != 0) :=
  ts_val he (.inl ⟨rfl, rfl⟩) hi
theorem ts_bool {e : Expr} {b : Bool} (he : Evals G A env ρ e (.bool b)) (hi : isTrue e env (eval e env) = (do let v ← eval e env; standAt e.pos; holding [v] (truthy v)) := by rfl) : Tests G A env ρ e b :=
  ts_val (i := 0) he (.inr rfl) hi

theorem allTrue_Or_cons {M : Model} {s : Shared} {E : Value → Shared → Prop} {x : Expr} {rest : List Expr} {Q : Bool → Shared → Prop}
    (h : wpAny M A (isTrue x env (eval x env)) (fun b s₁ => if b then Q true s₁ else wpAny M A (allTrue .Or rest env) Q E s₁) E s) : wpAny M A (allTrue .Or (x :: rest) env) Q E s := by
  show wpAny M A (do match BoolOp.Or, ← isTrue x env (eval x env) with | .And, false => pure false | .Or, true => pure true | _, _ => allTrue .Or rest env) Q E s
  refine wpAny_bind (wpAny_mono h (fun b s₁ h₁ => ?_) fun _ _ x => x)
  cases b
  · exact h₁
  · exact wpAny_pure h₁
theorem ts_and {x y : Expr} {pos : Pos} {a b : Bool} (hx : Tests G A env ρ x a) (hy : a = true → Tests G A env ρ y b) : Tests G A env ρ (.BoolOp .And [x, y] pos) (a && b) := .mk fun s F g hv Q E h => by
  refine wpAny_isTrue_BoolOp (wpAny_allTrue_And_cons (hx.run s F g hv _ _ fun s1 F1 x1 => ?_))
  cases a with
  | false => exact h s1 F1 x1
  | true =>
    refine wpAny_allTrue_And_cons ((hy rfl).run s1 F1 x1.good (hv.ex x1) _ _ fun s2 F2 x2 => ?_)
    cases b with
    | false => exact h s2 F2 (x1.trans' x2)
    | true => exact wpAny_allTrue_And_nil (h s2 F2 (x1.trans' x2))
theorem ts_or {x y : Expr} {pos : Pos} {a b : Bool} (hx : Tests G A env ρ x a) (hy : a = false → Tests G A env ρ y b) : Tests G A env ρ (.BoolOp .Or [x, y] pos) (a || b) := .mk fun s F g hv Q E h => by
  refine wpAny_isTrue_BoolOp (allTrue_Or_cons (hx.run s F g hv _ _ fun s1 F1 x1 => ?_))
  cases a with
  | true => exact h s1 F1 x1
  | false =>
    refine allTrue_Or_cons ((hy rfl).run s1 F1 x1.good (hv.ex x1) _ _ fun s2 F2 x2 => ?_)
    cases b with
    | true => exact h s2 F2 (x1.trans' x2)
    | false => exact wpAny_allTrue_Or_nil (h s2 F2 (x1.trans' x2))

theorem boolOp_two (pos : Pos) (op : BoolOp) (x y : Sem Value) : boolOp pos op [x, y] = (do
    let v ← x
    standAt pos
    let t ← holding [v] (truthy v)
    match op, t with
    | .And, false | .Or, true => pure v
    | _, _ => y) := rfl
theorem ev_and {x y : Expr} {pos : Pos} {a b : Bool} (hx : Evals G A env ρ x (.bool a)) (hy : a = true → Evals G A env ρ y (.bool b)) : Evals G A env ρ (.BoolOp .And [x, y] pos) (.bool (a && b)) := .mk fun s F g hv Q E h => by
  rw [arm_eval_BoolOp, arm_evalEach_cons, arm_evalEach_cons, arm_evalEach_nil, boolOp_two]
  refine wpAny_bind (hx.run s F g hv _ _ fun v s1 F1 x1 r1 => wpAny_bind (wpAny_standAt (wpAny_bind (wpAny_holding ?_))))
  cases r1
  refine wpAny_truthy_bool ?_
  cases a with
  | false => exact wpAny_pure (h _ s1 F1 x1 .bool)
  | true => exact (hy rfl).run s1 F1 x1.good (hv.ex x1) _ _ fun v2 s2 F2 x2 r2 => h v2 s2 F2 (x1.trans' x2) r2
theorem ev_or {x y : Expr} {pos : Pos} {a b : Bool} (hx : Evals G A env ρ x (.bool a)) (hy : a = false → Evals G A env ρ y (.bool b)) : Evals G A env ρ (.BoolOp .Or [x, y] pos) (.bool (a || b)) := .mk fun s F g hv Q E h => by
  rw [arm_eval_BoolOp, arm_evalEach_cons, arm_evalEach_cons, arm_evalEach_nil, boolOp_two]
  refine wpAny_bind (hx.run s F g hv _ _ fun v s1 F1 x1 r1 => wpAny_bind (wpAny_standAt (wpAny_bind (wpAny_holding ?_))))
  cases r1
  refine wpAny_truthy_bool ?_
  cases a with
  | true => exact wpAny_pure (h _ s1 F1 x1 .bool)
  | false => exact (hy rfl).run s1 F1 x1.good (hv.ex x1) _ _ fun v2 s2 F2 x2 r2 => h v2 s2 F2 (x1.trans' x2) r2

theorem ev_if {t x y : Expr} {pos : Pos} {b : Bool} {d : D} (ht : Tests G A env ρ t b) (hx : b = true → Evals G A env ρ x d) (hy : b = false → Evals G A env ρ y d) : Evals G A env ρ (.IfExp t x y pos) d := .mk fun s F g hv Q E h => by
  rw [arm_eval_IfExp]
  refine wpAny_bind (ht.run s F g hv _ _ fun s1 F1 x1 => ?_)
  cases b with
  | true => exact (hx rfl).run s1 F1 x1.good (hv.ex x1) _ _ fun v2 s2 F2 x2 r2 => h v2 s2 F2 (x1.trans' x2) r2
  | false => exact (hy rfl).run s1 F1 x1.good (hv.ex x1) _ _ fun v2 s2 F2 x2 r2 => h v2 s2 F2 (x1.trans' x2) r2

theorem spl_ (es : List Expr) : ∀ (ds : List D), EvalsL G A env ρ es ds → ∀ s F, Good G s F → Vars G env s.heap F ρ → ∀ (Q : List Value → Shared → Prop) (E : Value → Shared → Prop),
    (∀ vs s' F', Ex G nowhere s F s' F' → RdL F' vs ds → Q vs s') → wpAny (model G.prog G.w) A (spliced (es.map fun e => (false, eval e env))) Q E s := by
  induction es with
  | nil =>
    intro ds hl s F g hv Q E h
    cases ds with
    | nil => exact spliced_nil (h [] s F (Ex.refl g) .nil)
    | cons => exact hl.elim
  | cons e es ih =>
    intro ds hl s F g hv Q E h
    cases ds with
    | nil => exact hl.elim
    | cons d ds =>
      exact spliced_cons (hl.1.run s F g hv _ _ fun v s1 F1 x1 r1 => ih ds hl.2 s1 F1 x1.good (hv.ex x1) _ _ fun vs s2 F2 x2 r2 => h (v :: vs) s2 F2 (x1.trans' x2) (.cons (r1.mono x2.le) r2))

/-- no star among the items -/
abbrev NoStar (pos : Pos) (es : List Expr) (env : Env) : Prop := backTo pos (starEach es env) = es.map fun e => (false, eval e env)

theorem ev_tuple {es : List Expr} {k : Nat} {pos : Pos} {ds : List D} (hl : EvalsL G A env ρ es ds) (hz : ds.length ≤ 1000 := by decide) (hs : NoStar pos es env := by rfl) : Evals G A env ρ (.Tuple es k pos) (.tup ds) := .mk fun s F g hv Q E h => by
  refine wpAny_Tuple ?_
  rw [hs]
  refine spl_ es ds hl s F g hv _ _ fun vs s1 F1 x1 r1 => ⟨by rw [r1.length, sizeLine_eq]; walk_at "m_om", ?_⟩
  have g1 := x1.good
  exact h _ _ (F1.put s1.heap.objs.size (tObj vs 0)) (x1.trans' (ex_new (tk := s1.toks) g1 (fun _ _ e => Heap.get?_push_of_some _ e) (by rw [Heap.size_push]; walk_at "m_om") (Nat.le_refl _) (Heap.get?_push_size _ rfl)))
    (.tup (Fz.put_self ..) (r1.mono (g1.put_le (Nat.le_refl _) _)))
theorem ev_list {es : List Expr} {pos : Pos} {ds : List D} (hl : EvalsL G A env ρ es ds) (hz : ds.length ≤ 1000 := by decide) (hs : NoStar pos es env := by rfl) : Evals G A env ρ (.List es pos) (.lst ds) := .mk fun s F g hv Q E h => by
  refine wpAny_List ?_
  rw [hs]
  refine spl_ es ds hl s F g hv _ _ fun vs s1 F1 x1 r1 => ⟨by rw [r1.length, sizeLine_eq]; walk_at "m_om", ?_⟩
  have g1 := x1.good
  exact h _ _ (F1.put s1.heap.objs.size (lObj vs 0)) (x1.trans' (ex_new (tk := s1.toks) g1 (fun _ _ e => Heap.get?_push_of_some _ e) (by rw [Heap.size_push]; walk_at "m_om") (Nat.le_refl _) (Heap.get?_push_size _ rfl)))
    (.lst (Fz.put_self ..) (r1.mono (g1.put_le (Nat.le_refl _) _)))

/-- a value that a call of data yields -/
structure CallV (G : Gx) (A : Around) (f : Value) (ds : List D) (d : D) : Prop where
  run : ∀ s F vs, Good G s F → RdL F vs ds → ∀ (Q : Value → Shared → Prop) (E : Value → Shared → Prop), (∀ v s' F', Ex G nowhere s F s' F' → Rd F' v d → Q v s') → wpAny (model G.prog G.w) A (call f vs) Q E s

/-- the contract of a def of the module: with room for k frames, data ds in, d out -/
def Fn (G : Gx) (k : Nat) (f : Str) (ds : List D) (d : D) : Prop :=
  ∃ (a : Addr) (o : Obj) (fd : FuncData), G.mg f = some (.ref a) ∧ G.h₁.get? a = some o ∧ o.data = .func fd ∧ ∀ A, Room A k → CallV G A (.ref a) ds d

theorem ev_global {x : Str} {pos : Pos} {M : Model} {s : Shared} {F : Fz} {v : Value} {Q : Value → Shared → Prop} {E : Value → Shared → Prop} (he : EnvF env) (g : Good G s F) (hx : env.kindOf x = some .globalImplicit) (hm : G.mg x = some v) (h : Q v s) :
    wpAny M A (eval (.Name x pos) env) Q E s :=
  Name_function_global he.kind hx (loadGlobal_global (by rw [he.globals]; exact g.g) hm h) (he.ne_dbg hx)
theorem ev_builtin {x : Str} {pos : Pos} {M : Model} {s : Shared} {F : Fz} {v : Value} {Q : Value → Shared → Prop} {E : Value → Shared → Prop} (he : EnvF env) (g : Good G s F) (hx : env.kindOf x = some .globalImplicit) (hm : G.mg x = none) (hb : G.mb x = some v) (h : Q v s) :
    wpAny M A (eval (.Name x pos) env) Q E s :=
  Name_function_global he.kind hx (loadGlobal_builtin (by rw [he.globals]; exact g.g) hm (by rw [he.builtins]; exact g.b) hb h) (he.ne_dbg hx)

theorem evalArgs_ {f : Value} {e : Expr} {es : List Expr} {pos : Pos} {ds : List D} {s : Shared} {F : Fz} (hl : EvalsL G A env ρ (e :: es) ds) (hs : NoStar pos (e :: es) env) (g : Good G s F) (hv : Vars G env s.heap F ρ) {Q : Args → Shared → Prop} {E : Value → Shared → Prop}
    (h : ∀ vs s' F', Ex G nowhere s F s' F' → RdL F' vs ds → Q ⟨vs, []⟩ s') : wpAny (model G.prog G.w) A (evalArgs f true (backTo pos (starEach (e :: es) env)) []) Q E s := by
  rw [hs]
  exact evalArgs_plain (spl_ (e :: es) ds hl s F g hv _ _ fun vs s' F' x r => h vs s' F' x r)

theorem ev_call {f : Str} {p pos : Pos} {e : Expr} {es : List Expr} {ds : List D} {d : D} {k : Nat} (he : EnvF env) (hx : env.kindOf f = some .globalImplicit) (hl : EvalsL G A env ρ (e :: es) ds) (hf : Fn G k f ds d) (hr : Room A k)
    (hs : NoStar pos (e :: es) env := by rfl) : Evals G A env ρ (.Call (.Name f p) (e :: es) [] pos) d := .mk fun s F g hv Q E h => by
  obtain ⟨a, o, fd, hm, ho, hd, hc⟩ := hf
  show wpAny _ _ (eval (.Name f p) env >>= fun fv => callWith pos fv [] (backTo pos (starEach (e :: es) env)) (backToKw pos (keywordEach [] env))) _ _ _
  refine wpAny_bind (ev_global he g hx hm ?_)
  refine callWith_function (o := o) (fd := fd) (evalArgs_ hl hs g hv fun vs s1 F1 x1 r1 => ⟨⟨x1.good.base.get_func ho hd, hd⟩, ?_⟩)
  exact (hc A hr).run s1 F1 vs x1.good r1 _ _ fun v s' F' x' r' => h v s' F' (x1.trans' x') r'

/-- the contract of a built-in function by its name -/
def Bi (G : Gx) (A : Around) (f : Str) (ds : List D) (d : D) : Prop :=
  ∃ id : String, bootBuiltins f = some (.builtin id) ∧ CallV G A (.builtin id) ds d

theorem ev_bi {f : Str} {p pos : Pos} {e : Expr} {es : List Expr} {ds : List D} {d : D} (he : EnvF env) (hx : env.kindOf f = some .globalImplicit) (hm : G.mg f = none) (hb : G.mb f = bootBuiltins f) (hl : EvalsL G A env ρ (e :: es) ds) (hf : Bi G A f ds d)
    (hs : NoStar pos (e :: es) env := by rfl) : Evals G A env ρ (.Call (.Name f p) (e :: es) [] pos) d := .mk fun s F g hv Q E h => by
  obtain ⟨id, hid, hc⟩ := hf
  show wpAny _ _ (eval (.Name f p) env >>= fun fv => callWith pos fv [] (backTo pos (starEach (e :: es) env)) (backToKw pos (keywordEach [] env))) _ _ _
  refine wpAny_bind (ev_builtin he g hx hm (hb.trans hid) ?_)
  refine callWith_builtin (by rw [hs]; simp) (evalArgs_ hl hs g hv fun vs s1 F1 x1 r1 => ?_)
  exact hc.run s1 F1 vs x1.good r1 _ _ fun v s' F' x' r' => h v s' F' (x1.trans' x') r'
end
end
/- B4 -/
section
section
variable {G : Gx} {A : Around} {env : Env} {ρ : Ro}

theorem isList_of {s : Shared} {F : Fz} (g : Good G s F) {a : Addr} {vs : List Value} {n : Nat} (h : F a = some (lObj vs n)) : s.heap.IsList a vs.toArray := ⟨_, g.fz _ _ h, rfl, n, rfl⟩
theorem isTup_of {s : Shared} {F : Fz} (g : Good G s F) {a : Addr} {vs : List Value} {n : Nat} (h : F a = some (tObj vs n)) : IsTup s.heap a vs.toArray := ⟨_, g.fz _ _ h, rfl, n, rfl⟩

/-- an item: the container's data, the index, the item's data -/
inductive ItemD : D → Int → D → Prop where
  | lst {ds : List D} {i : Nat} {d : D} : ds[i]? = some d → i < 2 ^ 62 → ItemD (.lst ds) i d
  | tup {ds : List D} {i : Nat} {d : D} : ds[i]? = some d → i < 2 ^ 62 → ItemD (.tup ds) i d
  | str {x : Str} {i : Nat} {c : Nat} : x.cps[i]? = some c → i < 2 ^ 62 → ItemD (.str x) i (.str ⟨#[c]⟩)

theorem seqIndex_nat {i n : Nat} (h : i < n) : seqIndex? (i : Int) n = some i := by
  unfold seqIndex?
  have h0 : ¬ ((i : Int) < 0) := by walk_at "m_om"
  rw [if_neg h0]
  simp only [Int.toNat_natCast]
  rw [if_pos (by simp only [Bool.and_eq_true, decide_eq_true_eq]; walk_at "m_om")]

theorem tail_item {value slice : Expr} {s : Shared} {F : Fz} (g : Good G s F) {v1 v2 : Value} {d1 d : D} {i : Int} (r1 : Rd F v1 d1) (r2 : Rd F v2 (.int i)) (hi : ItemD d1 i d)
    (hs : ∀ o i, subscripted slice false o i = operate [o, i] (getItem o i)) {Q : Value → Shared → Prop} {E : Value → Shared → Prop} (k : ∀ v s' F', Ex G nowhere s F s' F' → Rd F' v d → Q v s') :
    wpAny (model G.prog G.w) A (subscriptTail value slice v1 v2) Q E s := by
  cases r2
  cases hi with
  | lst h hb =>
    cases r1 with
    | lst hF hl =>
      obtain ⟨v, hv, r⟩ := hl.get h
      have il := isList_of g hF
      exact tail_any il.typeIs slot_list_getitem.lookup (wpAny_getItem_list (x := v) il (by walk_at "m_om") (by walk_at "m_om") (by simpa using hv) (k v s F (Ex.refl g) r)) (hs _ _)
  | tup h hb =>
    cases r1 with
    | tup hF hl =>
      obtain ⟨v, hv, r⟩ := hl.get h
      have il := isTup_of g hF
      obtain ⟨hlt, _⟩ := List.getElem?_eq_some_iff.mp hv
      exact tail_any il.typeIs slot_tuple_getitem.lookup (getItem_tuple (x := v) il (by walk_at "m_om") (by walk_at "m_om") (seqIndex_nat (by simpa using hlt)) (by simpa using hv) (k v s F (Ex.refl g) r)) (hs _ _)
  | @str x n c h hb =>
    cases r1 with
    | @str _ u =>
      have hlt : n < x.length := (Array.getElem?_eq_some_iff.mp h).1
      have e : Txt.charAt x n = some c := by
        unfold Txt.charAt; rw [seqIndex_nat hlt]; exact h
      refine tail_any (typeIs_str s x u) PySem.F.slot_str_getitem.lookup (SB.getItem (i := (n : Int)) ?_ (by rw [e]; rfl) ?_) (hs _ _)
      · unfold fitsSsize
        rw [Bool.not_eq_true', Bool.or_eq_false_iff]
        exact ⟨decide_eq_false (by walk_at "m_om"), decide_eq_false (by walk_at "m_om")⟩
      · have : Txt.item x n = ⟨#[c]⟩ := by unfold Txt.item; rw [e]; rfl
        rw [this]
        exact k _ _ F (ex_toks g) .str

theorem ev_item {value slice : Expr} {pos : Pos} {d1 d : D} {i : Int} (hv : Evals G A env ρ value d1) (hi : Evals G A env ρ slice (.int i)) (h : ItemD d1 i d)
    (hs : ∀ o i, subscripted slice false o i = operate [o, i] (getItem o i) := by intro _ _; rfl) : Evals G A env ρ (.Subscript value slice pos) d := .mk fun s F g hV Q E k =>
  Subscript_ (hv.run s F g hV _ _ fun v1 s1 F1 x1 r1 => hi.run s1 F1 x1.good (hV.ex x1) _ _ fun v2 s2 F2 x2 r2 => tail_item x2.good (r1.mono x2.le) r2 h hs fun v s3 F3 x3 r3 => k v s3 F3 (x1.trans' (x2.trans' x3)) r3)

/-- the last item of a list that the frame owns -/
theorem ev_own_last {x : Str} {p p' q pos : Pos} {a : Addr} {ds : List D} {d : D} {kk : Nat} (he : EnvF env) (hx : (x, En.own a ds) ∈ ρ) (hd : ds.getLast? = some d) (hz : ds.length < 2 ^ 62) :
    Evals G A env ρ (.Subscript (.Name x p) (.UnaryOp .USub (.Constant (.int 1) kk p') q) pos) d := .mk fun s F g hV Q E k => by
  obtain ⟨va, hF, hb, vs, n, ho, hl⟩ := hV.at' _ hx
  refine Subscript_ (wpAny_Name (load_var he va rfl ?_) (va.dbg he))
  refine (ev_un ev_int u_neg).run s F g hV _ _ fun v2 s2 F2 x2 r2 => ?_
  cases r2
  have ho2 := x2.keep _ _ id ho rfl
  have il : s2.heap.IsList a vs.toArray := ⟨_, ho2, rfl, n, rfl⟩
  have hlen := hl.length
  have hne : ds ≠ [] := by rintro rfl; cases hd
  have hpos : 0 < ds.length := List.length_pos_iff.mpr hne
  obtain ⟨v, hv, r⟩ := hl.get (i := ds.length - 1) (d := d) (by rw [← List.getLast?_eq_getElem?]; exact hd)
  refine tail_any (ops := _) il.typeIs slot_list_getitem.lookup (wpAny_getItem_list_neg (x := v) il (by walk_at "m_om") ?_ (by walk_at "m_om") ?_ (k v s2 F2 x2 (r.mono x2.le))) rfl
  · simp only [List.size_toArray]; walk_at "m_om"
  · simp only [List.size_toArray]
    have : ((-1 : Int) + (vs.length : Int)).toNat = ds.length - 1 := by walk_at "m_om"
    rw [this]; simpa using hv

/-- a part of a slice -/
def Part (G : Gx) (A : Around) (env : Env) (ρ : Ro) : Option Expr → Option Int → Prop
  | none, none => True
  | some e, some i => Evals G A env ρ e (.int i)
  | _, _ => False

theorem part_ {e : Option Expr} {i : Option Int} (h : Part G A env ρ e i) : ∀ s F, Good G s F → Vars G env s.heap F ρ → ∀ (Q : Value → Shared → Prop) (E : Value → Shared → Prop),
    (∀ v s' F', Ex G nowhere s F s' F' → IsPart v i → (∃ l : Option (Int × Tok), v = partValue l ∧ l.map (·.1) = i) → Q v s') → wpAny (model G.prog G.w) A (valueOrNone (evalOpt e env)) Q E s := fun s F g hV Q E k => by
  cases e with
  | none =>
    cases i with
    | none => exact wpAny_pure (k _ s F (Ex.refl g) .none ⟨none, rfl, rfl⟩)
    | some i => exact h.elim
  | some e =>
    cases i with
    | none => exact h.elim
    | some i =>
      refine Evals.run h s F g hV _ _ fun v s1 F1 x1 r1 => ?_
      cases r1
      rename_i t
      exact k _ s1 F1 x1 (.int i t) ⟨some (i, t), rfl, rfl⟩

theorem slice_ {lo hi : Option Expr} {p : Pos} {l u : Option Int} (h1 : Part G A env ρ lo l) (h2 : Part G A env ρ hi u) : ∀ s F, Good G s F → Vars G env s.heap F ρ → ∀ (Q : Value → Shared → Prop) (E : Value → Shared → Prop),
    (∀ a vl vu s' , (∃ F', Ex G nowhere s F s' F') → IsPart vl l → IsPart vu u → (∃ l' : Option (Int × Tok), vl = partValue l' ∧ l'.map (·.1) = l) → (∃ l' : Option (Int × Tok), vu = partValue l' ∧ l'.map (·.1) = u) →
      s'.heap.get? a = some { cls := .type "slice", data := .fields #[vl, vu, .none] } → Q (.ref a) s') → wpAny (model G.prog G.w) A (eval (.Slice lo hi none p) env) Q E s := fun s F g hV Q E k => by
  rw [arm_eval_Slice]
  refine wpAny_bind (part_ h1 s F g hV _ _ fun vl s1 F1 x1 p1 q1 => ?_)
  refine wpAny_bind (wpAny_holding (part_ h2 s1 F1 x1.good (hV.ex x1) _ _ fun vu s2 F2 x2 p2 q2 => ?_))
  refine wpAny_bind (wpAny_holding (wpAny_pure ?_))
  refine wpAny_newObj_type ?_
  refine k s2.heap.objs.size vl vu _ ⟨F2, x1.trans' (x2.trans' (ex_heap (tk := s2.toks) x2.good (fun _ _ e => Heap.get?_push_of_some _ e) (by rw [Heap.size_push]; walk_at "m_om")))⟩ p1 p2 q1 q2 (Heap.get?_push_size _ rfl)

theorem ev_slice_list {value : Expr} {lo hi : Option Expr} {p pos : Pos} {ds : List D} {l u : Option Int} {es : List D} (hv : Evals G A env ρ value (.lst ds)) (h1 : Part G A env ρ lo l) (h2 : Part G A env ρ hi u)
    (hp : ∀ (F : Fz) (vs : List Value), RdL F vs ds → RdL F (slicePick vs.toArray l u none).toList es) (hz : ds.length ≤ 16777216) :
    Evals G A env ρ (.Subscript value (.Slice lo hi none p) pos) (.lst es) := .mk fun s F g hV Q E k => by
  refine Subscript_ (hv.run s F g hV _ _ fun v1 s1 F1 x1 r1 => slice_ h1 h2 s1 F1 x1.good (hV.ex x1) _ _ fun a vl vu s2 hx2 p1 p2 _ _ ho => ?_)
  obtain ⟨F2, x2⟩ := hx2
  have r2 := r1.mono x2.le
  cases r2 with
  | lst hF hl =>
    rename_i b vs n
    have il := isList_of x2.good hF
    have e : (slicePick vs.toArray l u none) = (slicePick vs.toArray l u none).toList.toArray := by simp
    refine tail_any (ops := _) il.typeIs slot_list_getitem.lookup (wpAny_getItem_list_slice il ⟨_, ho, rfl, rfl⟩ p1 p2 .none (by simp) ?_ (by rw [sizeLine_eq, List.size_toArray, hl.length]; exact hz)) rfl
    rw [e]
    exact k _ _ (F2.put s2.heap.objs.size (lObj (slicePick vs.toArray l u none).toList 0)) (x1.trans' (x2.trans' (ex_new (tk := s2.toks) x2.good (fun _ _ e => Heap.get?_push_of_some _ e) (by rw [Heap.size_push]; walk_at "m_om") (Nat.le_refl _) (Heap.get?_push_size _ rfl))))
      (.lst (Fz.put_self ..) ((hp F2 vs hl).mono (x2.good.put_le (Nat.le_refl _) _)))

theorem ev_list_from {value : Expr} {lo : Expr} {p pos : Pos} {ds : List D} {a : Nat} (hv : Evals G A env ρ value (.lst ds)) (h1 : Evals G A env ρ lo (.int a)) (ha : a ≤ ds.length) (hz : ds.length ≤ 16777216) :
    Evals G A env ρ (.Subscript value (.Slice (some lo) none none p) pos) (.lst (ds.drop a)) :=
  ev_slice_list hv (l := some (a : Int)) (u := none) h1 trivial (fun F vs hl => by
    rw [slicePick_from vs.toArray a (by rw [List.size_toArray, hl.length]; exact ha)]; exact hl.drop a) hz
theorem ev_list_upto {value : Expr} {hi : Expr} {p pos : Pos} {ds : List D} {a : Nat} (hv : Evals G A env ρ value (.lst ds)) (h1 : Evals G A env ρ hi (.int a)) (ha : a ≤ ds.length) (hz : ds.length ≤ 16777216) :
    Evals G A env ρ (.Subscript value (.Slice none (some hi) none p) pos) (.lst (ds.take a)) :=
  ev_slice_list hv (l := none) (u := some (a : Int)) trivial h1 (fun F vs hl => by
    rw [slicePick_upto vs.toArray a (by rw [List.size_toArray, hl.length]; exact ha)]; exact hl.take a) hz

theorem slicePick_last (items : Array Value) : slicePick items none (some (-1)) none = (items.toList.take (items.size - 1)).toArray := by
  cases h : items.size with
  | zero =>
    have : items = #[] := Array.eq_empty_of_size_eq_zero h
    subst this; decide +kernel
  | succ n =>
    have e : slicePick items none (some (-1)) none = slicePick items none (some ((n : Nat) : Int)) none := by
      unfold slicePick sliceBounds
      simp only [h]
      have e1 : (-1 : Int) + ((n + 1 : Nat) : Int) = (n : Int) := by walk_at "m_om"
      have e2 : ¬ ((n : Int) < 0) := by walk_at "m_om"
      simp +decide [e2]
      first | done | (try simp_all) <;> walk_at "m_om"
    rw [e, slicePick_upto items n (by walk_at "m_om")]
    simp

theorem ev_list_butlast {value e : Expr} {p pos : Pos} {ds : List D} (hv : Evals G A env ρ value (.lst ds)) (h1 : Evals G A env ρ e (.int (-1))) (hz : ds.length ≤ 16777216) :
    Evals G A env ρ (.Subscript value (.Slice none (some e) none p) pos) (.lst (ds.take (ds.length - 1))) :=
  ev_slice_list hv (l := none) (u := some (-1)) trivial h1 (fun F vs hl => by
    rw [slicePick_last]
    have := hl.take (ds.length - 1)
    simpa [hl.length] using this) hz

/-- a part of a text -/
theorem ev_slice_str {value : Expr} {lo hi : Option Expr} {p pos : Pos} {x : Str} {l u : Option Int} (hv : Evals G A env ρ value (.str x)) (h1 : Part G A env ρ lo l) (h2 : Part G A env ρ hi u) (hz : x.length ≤ 16777216) :
    Evals G A env ρ (.Subscript value (.Slice lo hi none p) pos) (.str (Txt.slice x l u)) := .mk fun s F g hV Q E k => by
  refine Subscript_ (hv.run s F g hV _ _ fun v1 s1 F1 x1 r1 => slice_ h1 h2 s1 F1 x1.good (hV.ex x1) _ _ fun a vl vu s2 hx2 p1 p2 q1 q2 ho => ?_)
  obtain ⟨F2, x2⟩ := hx2
  have r2 := r1.mono x2.le
  cases r2 with
  | @str _ t =>
    obtain ⟨l', rfl, rfl⟩ := q1
    obtain ⟨u', rfl, rfl⟩ := q2
    refine tail_any (ops := _) (typeIs_str s2 x t) PySem.F.slot_str_getitem.lookup (wpAny_with_toks (Nat.le_refl _) (wpAny_getItem_str_slice (l := l') (u := u') (st := none) ⟨_, ho, rfl, rfl⟩ rfl ?_)) rfl
    have fin : ∀ t' tk, s2.toks ≤ tk → Q (.str (Txt.slice x (l'.map (·.1)) (u'.map (·.1))) t') { s2 with toks := tk } := fun t' tk htk => k _ _ F2 (x1.trans' (x2.trans' (ex_toks x2.good htk))) .str
    cases l' <;> cases u' <;> exact post_val_or_str ⟨Nat.le_trans (Txt.slice_le x _ _) (by rw [sizeLine_eq]; exact hz), fun t' tk htk => fin t' tk htk⟩
end
end
/- B5 -/
section
section
variable {G : Gx} {A : Around} {env : Env} {ρ : Ro}

theorem o_cat {x y : Str} (hz : x.length + y.length ≤ 16777216) : Op2 G A (binaryOp .Add) (.str x) (.str y) (.str (x ++ y)) := .mk fun s F v1 v2 g r1 r2 Q E k => by
  cases r1; cases r2
  exact wpAny_with_toks (Nat.le_refl _) (SB.add (fun t' tk htk => k _ _ F (ex_toks g htk) .str) (by rw [sizeLine_eq]; exact hz))
theorem i_cat {x y : Str} (hz : x.length + y.length ≤ 16777216) : Op2 G A (inplaceOp .Add) (.str x) (.str y) (.str (x ++ y)) := .mk fun s F v1 v2 g r1 r2 Q E k => by
  cases r1; cases r2
  exact wpAny_with_toks (Nat.le_refl _) (SB.iadd (fun t' tk htk => k _ _ F (ex_toks g htk) .str) (by rw [sizeLine_eq]; exact hz))
theorem o_rep {x : Str} {n : Int} (hm : MulOk x n) : Op2 G A (binaryOp .Mult) (.str x) (.int n) (.str (Txt.mul x n)) := .mk fun s F v1 v2 g r1 r2 Q E k => by
  cases r1; cases r2
  exact wpAny_with_toks (Nat.le_refl _) (SB.mul hm (fun t' tk htk => k _ _ F (ex_toks g htk) .str))
theorem c_in {x y : Str} : Op2 G A (compareOp .In) (.str y) (.str x) (.bool (Txt.contains x y)) := .mk fun s F v1 v2 g r1 r2 Q E k => by
  cases r1; cases r2
  exact SB.contains (k _ _ F (Ex.refl g) .bool)
theorem c_notin {x y : Str} : Op2 G A (compareOp .NotIn) (.str y) (.str x) (.bool (!Txt.contains x y)) := .mk fun s F v1 v2 g r1 r2 Q E k => by
  cases r1; cases r2
  exact SB.notContains (k _ _ F (Ex.refl g) .bool)
theorem c_eq_str {x y : Str} : Op2 G A (compareOp .Eq) (.str x) (.str y) (.bool (x.cps.toList == y.cps.toList)) := .mk fun s F v1 v2 g r1 r2 Q E k => by
  cases r1; cases r2
  exact P.eq_str (k _ _ F (Ex.refl g) .bool)
theorem c_ne_str {x y : Str} : Op2 G A (compareOp .NotEq) (.str x) (.str y) (.bool (x.cps.toList != y.cps.toList)) := .mk fun s F v1 v2 g r1 r2 Q E k => by
  cases r1; cases r2
  exact P.ne_str (k _ _ F (Ex.refl g) .bool)

theorem o_addl {l m : List D} (hz : l.length + m.length ≤ 16777216) : Op2 G A (binaryOp .Add) (.lst l) (.lst m) (.lst (l ++ m)) := .mk fun s F v1 v2 g r1 r2 Q E k => by
  cases r1 with
  | @lst a vs n _ hF hl =>
    cases r2 with
    | @lst b us n' _ hF' hl' =>
      have e : (vs.toArray ++ us.toArray) = (vs ++ us).toArray := by simp
      refine P.add_list (items := vs.toArray) (items2 := us.toArray) (g.fz _ _ hF) (g.fz _ _ hF') ?_ (by simp only [List.size_toArray, sizeLine_eq, hl.length, hl'.length]; exact hz)
      rw [e]
      exact k _ _ (F.put s.heap.objs.size (lObj (vs ++ us) 0)) (ex_new (tk := s.toks) g (fun _ _ e => Heap.get?_push_of_some _ e) (by rw [Heap.size_push]; walk_at "m_om") (Nat.le_refl _) (Heap.get?_push_size _ rfl))
        (.lst (Fz.put_self ..) ((hl.append hl').mono (g.put_le (Nat.le_refl _) _)))

theorem intsAre_of {F : Fz} : ∀ {ns : List Int} {vs : List Value}, RdL F vs (ns.map D.int) → IntsAre vs ns := by
  intro ns
  induction ns with
  | nil => intro vs h; cases h; exact .nil
  | cons n ns ih =>
    intro vs h
    cases h with
    | cons h1 h2 => cases h1; exact .cons n _ (ih h2)

theorem c_eq_ints {l m : List Int} (hr : Room A 0) : Op2 G A (compareOp .Eq) (.lst (l.map D.int)) (.lst (m.map D.int)) (.bool (decide (l = m))) := .mk fun s F v1 v2 g r1 r2 Q E k => by
  cases r1 with
  | @lst a vs n _ hF hl =>
    cases r2 with
    | @lst b us n' _ hF' hl' => exact eq_intsK (isList_of g hF) (intsAre_of hl) (isList_of g hF') (intsAre_of hl') (by have := hr.units; walk_at "m_om") (k _ _ F (Ex.refl g) .bool)
theorem c_ne_ints {l m : List Int} (hr : Room A 0) : Op2 G A (compareOp .NotEq) (.lst (l.map D.int)) (.lst (m.map D.int)) (.bool (!decide (l = m))) := .mk fun s F v1 v2 g r1 r2 Q E k => by
  cases r1 with
  | @lst a vs n _ hF hl =>
    cases r2 with
    | @lst b us n' _ hF' hl' => exact ne_intsK (isList_of g hF) (intsAre_of hl) (isList_of g hF') (intsAre_of hl') (by have := hr.units; walk_at "m_om") (k _ _ F (Ex.refl g) .bool)

theorem reads_tup {h : Heap} {a : Addr} {vs : List Value} {ns : List Int} (hl : IsTup h a vs.toArray) (hi : IntsAre vs ns) : Reads h (.ref a) (.tuple (ns.map PyData.int)) [] := by
  obtain ⟨o, ho, hc, n, hd⟩ := hl
  exact Reads.tuple ho hc hd (by simpa using readsAll_of_ints hi)
theorem shaped_tup (ns : List Int) : PySem.SeqAt.shaped (.tuple (ns.map PyData.int)) = true := by
  have h1 := PySem.W.depthAll_ints ns
  have h2 : PyData.depth (.tuple (ns.map PyData.int)) ≤ 64 := by simp only [PyData.depth]; walk_at "m_om"
  show (PyData.canLay0 (.tuple (ns.map PyData.int)) && decide (PyData.depth (.tuple (ns.map PyData.int)) ≤ 64)) = true
  rw [Bool.and_eq_true]
  exact ⟨by simp only [PyData.canLay0]; exact canLayAll0_ints ns, decide_eq_true h2⟩
theorem c_eq_tints {l m : List Int} (hr : Room A 0) : Op2 G A (compareOp .Eq) (.tup (l.map D.int)) (.tup (m.map D.int)) (.bool (decide (l = m))) := .mk fun s F v1 v2 g r1 r2 Q E k => by
  cases r1 with
  | @tup a vs n _ hF hl =>
    cases r2 with
    | @tup b us n' _ hF' hl' =>
      exact PyProof.Rows.eq_dataH_same (reads_tup (isTup_of g hF) (intsAre_of hl)) (reads_tup (isTup_of g hF') (intsAre_of hl')) (shaped_tup l) (shaped_tup m) (by have := hr.units; walk_at "m_om")
        (by simp only [PySem.SeqAt.noMix]; exact noMix_ints l m) (by simp only [PySem.Spec.same]; rw [same_ints]; exact k _ _ F (Ex.refl g) .bool)
theorem c_ne_tints {l m : List Int} (hr : Room A 0) : Op2 G A (compareOp .NotEq) (.tup (l.map D.int)) (.tup (m.map D.int)) (.bool (!decide (l = m))) := .mk fun s F v1 v2 g r1 r2 Q E k => by
  cases r1 with
  | @tup a vs n _ hF hl =>
    cases r2 with
    | @tup b us n' _ hF' hl' =>
      exact PyProof.Rows.ne_dataH_same (reads_tup (isTup_of g hF) (intsAre_of hl)) (reads_tup (isTup_of g hF') (intsAre_of hl')) (shaped_tup l) (shaped_tup m) (by have := hr.units; walk_at "m_om")
        (by simp only [PySem.SeqAt.noMix]; exact noMix_ints l m) (by simp only [PySem.Spec.same]; rw [same_ints]; exact k _ _ F (Ex.refl g) .bool)

theorem foldl_append_replicate {α : Type} (xs : Array α) : ∀ (n : Nat) (acc : Array α), List.foldl (fun x1 x2 => x1 ++ x2) acc (List.replicate n xs) = acc ++ (List.replicate n xs.toList).flatten.toArray
  | 0, acc => by simp
  | n + 1, acc => by
    rw [List.replicate_succ, List.foldl_cons, foldl_append_replicate xs n, List.replicate_succ, List.flatten_cons]
    apply Array.ext'
    simp
theorem o_repl {l : List D} {n : Int} (h0 : 0 ≤ n) (hz : (l.length : Int) * n ≤ 16777216) (hn : n ≤ 16777216) : Op2 G A (binaryOp .Mult) (.lst l) (.int n) (.lst (List.replicate n.toNat l).flatten) := .mk fun s F v1 v2 g r1 r2 Q E k => by
  cases r2 with
  | @int _ u =>
  cases r1 with
  | @lst a vs m _ hF hl =>
    have hsz : vs.toArray.size * n.toNat ≤ 2 ^ 24 := by
      have h1 : (vs.toArray.size : Int) * n ≤ 16777216 := by rw [List.size_toArray, hl.length]; exact hz
      have h2 : ((vs.toArray.size * n.toNat : Nat) : Int) = (vs.toArray.size : Int) * n := by rw [Int.natCast_mul, Int.toNat_of_nonneg h0]
      walk_at "m_om"
    have e : List.foldl (fun x1 x2 => x1 ++ x2) #[] (List.replicate (if vs.toArray.isEmpty = true then 0 else n.toNat) vs.toArray) = (List.replicate n.toNat vs).flatten.toArray := by
      rw [foldl_append_replicate]
      cases vs with
      | nil => simp
      | cons v vs => simp
    refine wpAny_binaryOp_repeat_ref (T := "list") (U := "int") (by decide) ⟨_, g.fz _ _ hF, rfl⟩ (fun s' => typeIs_int s' n u) noFill_list_mul PySem.F.fills_int_mul PySem.F.slot_int_rmul repeat_list PySem.F.slot_int_index.lookup
      (call_meets PySem.F.slot_int_rmul (typeIs_int s n u) PySem.F.entry_int_rmul (PySem.F.args_int_rmul_2 _ _) (int___rmul___int_list n u a vs.toArray m)
        ⟨g.fz _ _ hF, rfl, ⟨_, g.fz _ _ hF, rfl⟩, call_meets PySem.F.slot_list_mul ⟨_, g.fz _ _ hF, rfl⟩ PySem.F.entry_list_mul (PySem.F.args_list_mul_2 _ _)
          (AutoListH.list___mul___list_int_3 a vs.toArray m n u (by simp [Builtin.List.listFitsIndex]; walk_at "m_om") (by walk_at "m_om") (by simp [Builtin.List.listTooLong, sizeLine]; walk_at "m_om"))
          ⟨g.fz _ _ hF, ?_⟩⟩)
    rw [e]
    exact k _ _ (F.put s.heap.objs.size (lObj (List.replicate n.toNat vs).flatten 0)) (ex_new (tk := s.toks) g (fun _ _ e => Heap.get?_push_of_some _ e) (by rw [Heap.size_push]; walk_at "m_om") (Nat.le_refl _) (Heap.get?_push_size _ rfl))
      (.lst (Fz.put_self ..) ((hl.flatten (n := n.toNat)).mono (g.put_le (Nat.le_refl _) _)))
end
end
/- B6 -/
section
section
variable {G : Gx} {A : Around} {env : Env} {ρ : Ro}

theorem b_len_str {x : Str} (hz : x.length < 2 ^ 62) : Bi G A "len" [.str x] (.int x.length) :=
  ⟨"len", rfl, .mk fun s F vs g r Q E k => by
    cases r with
    | cons r1 r2 =>
    cases r2; cases r1
    exact call_len_gives (typeIs_str _ _ _) PySem.F.slot_str_len PySem.F.entry_str_len (PySem.F.args_str_len_1 _) (gives_str_len x _) (by walk_at "m_om") (by walk_at "m_om") (k _ _ F (ex_toks g) .int)⟩
theorem b_len_list {l : List D} (hz : l.length < 2 ^ 62) : Bi G A "len" [.lst l] (.int l.length) :=
  ⟨"len", rfl, .mk fun s F vs g r Q E k => by
    cases r with
    | cons r1 r2 =>
    cases r2
    cases r1 with
    | @lst a vs n _ hF hl =>
      have e : vs.toArray.size = l.length := by rw [List.size_toArray, hl.length]
      refine call_len_list (isList_of g hF) (by rw [e]; walk_at "m_om") ?_
      have z := k (.int l.length (s.toks + 1)) { s with toks := s.toks + 1 + 1 } F (ex_toks g) .int
      rw [← e] at z
      exact z⟩

theorem b_max2 {a b : Int} (hr : Room A 0) : Bi G A "max" [.int a, .int b] (.int (max a b)) :=
  ⟨"max", rfl, .mk fun s F vs g r Q E k => by
    cases r with
    | cons r1 r2 =>
    cases r2 with
    | cons r2 r3 =>
    cases r3; cases r1; cases r2
    refine wpAny_grows (max_two_ints hr.handled fun h' tk keeps hs ht => ?_)
    split
    · rw [show max a b = b by walk_at "m_om"] at k; exact k _ _ F (ex_heap g keeps hs ht) .int
    · rw [show max a b = a by walk_at "m_om"] at k; exact k _ _ F (ex_heap g keeps hs ht) .int⟩
theorem b_min2 {a b : Int} (hr : Room A 0) : Bi G A "min" [.int a, .int b] (.int (min a b)) :=
  ⟨"min", rfl, .mk fun s F vs g r Q E k => by
    cases r with
    | cons r1 r2 =>
    cases r2 with
    | cons r2 r3 =>
    cases r3; cases r1; cases r2
    refine wpAny_grows (min_two_ints hr.handled fun h' tk keeps hs ht => ?_)
    split
    · rw [show min a b = b by walk_at "m_om"] at k; exact k _ _ F (ex_heap g keeps hs ht) .int
    · rw [show min a b = a by walk_at "m_om"] at k; exact k _ _ F (ex_heap g keeps hs ht) .int⟩

theorem b_divmod {a b : Int} (hb : b ≠ 0) (hp : Builtin.divisionGoesByPylong a b = false) : Bi G A "divmod" [.int a, .int b] (.tup [.int (a.fdiv b), .int (a.fmod b)]) :=
  ⟨"divmod", rfl, .mk fun s F vs g r Q E k => by
    cases r with
    | cons r1 r2 =>
    cases r2 with
    | cons r2 r3 =>
    cases r3; cases r1; cases r2
    refine divmod_int hb ?_ (.inl hp)
    exact k _ _ (F.put s.heap.objs.size (tObj [.int (a.fdiv b) s.toks, .int (a.fmod b) (s.toks + 1)] 0)) (ex_new g (fun _ _ e => Heap.get?_push_of_some _ e) (by rw [Heap.size_push]; walk_at "m_om") (Nat.le_refl _) (Heap.get?_push_size _ rfl))
      (.tup (Fz.put_self ..) (.cons .int (.cons .int .nil)))⟩

theorem int_at {F : Fz} {vs : List Value} {ns : List Int} (h : RdL F vs (ns.map D.int)) {i : Nat} {v : Value} (hv : vs.toArray[i]? = some v) : ∃ t, v = .int ((ns[i]?).getD 0) t := by
  have hlen := h.length
  simp only [List.length_map] at hlen
  have hv' : vs[i]? = some v := by simpa using hv
  obtain ⟨hlt, he⟩ := List.getElem?_eq_some_iff.mp hv'
  have hn : i < ns.length := by walk_at "m_om"
  obtain ⟨u, hu, r⟩ := h.get (i := i) (d := .int ns[i]) (by simp [hn])
  rw [hv'] at hu; cases hu
  cases r with
  | @int _ t => exact ⟨t, by simp [hn]⟩

theorem preSum_eq (ns : List Int) : ∀ k, k ≤ ns.length → preSum (fun i => (ns[i]?).getD 0) k = (ns.take k).sum
  | 0, _ => by simp [preSum]
  | k + 1, h => by
    have hk : k < ns.length := by walk_at "m_om"
    rw [preSum, preSum_eq ns k (by walk_at "m_om"), List.take_succ_eq_append_getElem hk, List.sum_append]
    simp [hk]

/-- the iterator over a list that is frozen -/
theorem list_walk {A' : Around} (hh : A'.handled = none) {s : Shared} {F : Fz} (g : Good G s F) {a : Addr} {vs : List Value} {n : Nat} (hF : F a = some (lObj vs n)) {Q : Value → Shared → Prop} {E : Value → Shared → Prop}
    (h : ∀ s₂ : Shared, s₂ = { s with heap := s.heap.push { cls := .type "list_iterator", data := .fields #[.ref a, .int 0 0] } } → Walks G.prog G.w A' s.heap.objs.size [s.heap.objs.size, a] [s.heap.objs.size] vs.toArray.size (fun i v => vs.toArray[i]? = some v) (fun i h => h.IsListIter s.heap.objs.size a i ∧ h.IsList a vs.toArray) →
      (s₂.heap.IsListIter s.heap.objs.size a 0 ∧ s₂.heap.IsList a vs.toArray) → (∀ b ∈ [s.heap.objs.size, a], b < s₂.heap.objs.size) → (∀ b o, s.heap.get? b = some o → s₂.heap.get? b = some o) → a ≠ s.heap.objs.size → Q (.ref s.heap.objs.size) s₂) :
    wpAny (model G.prog G.w) A (pyIter (.ref a)) Q E s := by
  have il := isList_of g hF
  have hlt : a < s.heap.objs.size := g.lt hF
  refine wpAny_pyIter_list il (h _ rfl (Walks.list hh _ a (Nat.ne_of_lt hlt) vs.toArray) ⟨⟨_, Heap.get?_push_size _ rfl, rfl, rfl⟩, il.push _⟩ (fun b hb => ?_) (fun _ _ e => Heap.get?_push_of_some _ e) (Nat.ne_of_lt hlt))
  show b < (s.heap.push _).objs.size
  rw [Heap.size_push]
  rcases List.mem_cons.mp hb with rfl | hb
  · exact Nat.lt_succ_self _
  · rcases List.mem_cons.mp hb with rfl | hb
    · exact Nat.lt_succ_of_lt hlt
    · cases hb

theorem b_sum {ns : List Int} (hr : Room A 0) : Bi G A "sum" [.lst (ns.map .int)] (.int ns.sum) :=
  ⟨"sum", rfl, .mk fun s F vs g r Q E k => by
    cases r with
    | cons r1 r2 =>
    cases r2
    cases r1 with
    | @lst a vs n _ hF hl =>
      have hlen : vs.length = ns.length := by rw [hl.length, List.length_map]
      refine wpAny_grows (call_sum_walkAnyS (list_walk (A' := A.in1) hr.handled g hF fun s₂ e2 W st hfp kp hne => ?_))
      refine ⟨_, _, _, _, _, _, _, fun i => (ns[i]?).getD 0, rfl, W.toS, st, hfp, fun i v hv => int_at hl hv, fun s' t' hm hs ht => ?_⟩
      have e : preSum (fun i => (ns[i]?).getD 0) vs.toArray.size = ns.sum := by
        rw [List.size_toArray, hlen, preSum_eq ns ns.length (Nat.le_refl _), List.take_length]
      rw [e]
      have hg : s'.gens = s.gens := by rw [hm.gens, e2]
      have hos : s'.os = s.os := by rw [hm.os, e2]
      have hdr : s'.drawn = s.drawn := by rw [hm.drawn, e2]
      have es : s' = { s with heap := s'.heap, toks := s'.toks } := by
        cases s'; simp only at hg hos hdr; subst hg; subst hos; subst hdr; rfl
      have kk : ∀ b o, s.heap.get? b = some o → s'.heap.get? b = some o := fun b o q => hm.heap b o (by
        intro hb; rw [List.mem_singleton] at hb; subst hb
        exact absurd (Heap.lt_size q) (Nat.lt_irrefl _)) (kp b o q)
      have := ex_heap (M := nowhere) (tk := s'.toks) g kk hs ht
      rw [← es] at this
      exact k _ _ F this .int⟩

/-- a method of a text without arguments that are kept: name, its type's place -/
theorem evM_count {o : Expr} {y : Expr} {apos pos : Pos} {x z : Str} (ho : Evals G A env ρ o (.str x)) (hy : Evals G A env ρ y (.str z))
    (hbase : attributeBase o "count" env (eval o env) = eval o env := by rfl) (hs : starEach [y] env = [(false, eval y env)] := by rfl) (hline : (apos.endLine == pos.line) = true := by rfl) :
    Evals G A env ρ (.Call (.Attribute o "count" apos) [y] [] pos) (.int (Txt.count x z)) := .mk fun s F g hv Q E k => by
  refine Call_method1 hbase hs hline (ho.run s F g hv _ _ fun v1 s1 F1 x1 r1 => ?_)
  cases r1
  refine SB.count (hy.run s1 F1 x1.good (hv.ex x1) _ _ fun v2 s2 F2 x2 r2 => ?_)
  cases r2
  exact ⟨_, _, rfl, k _ _ F2 (x1.trans' (x2.trans' (ex_toks x2.good))) .int⟩

theorem evM_bits {o : Expr} {apos pos : Pos} {n : Int} (ho : Evals G A env ρ o (.int n))
    (hbase : attributeBase o "bit_length" env (eval o env) = eval o env := by rfl) (hline : (apos.endLine == pos.line) = true := by rfl) :
    Evals G A env ρ (.Call (.Attribute o "bit_length" apos) [] [] pos) (.int (Builtin.Int.intBits n)) := .mk fun s F g hv Q E k => by
  rw [arm_eval_Call, hbase]
  refine wpAny_bind (ho.run s F g hv _ _ fun v1 s1 F1 x1 r1 => wpAny_bind (wpAny_standAt ?_))
  cases r1
  have hform : methodCallForm (([] : List Expr).length + ([] : List Keyword).length) (backTo pos (starEach [] env)) (backToKw pos (keywordEach [] env)) = true := rfl
  have hpos : methodCallPos true o env apos pos = pure pos := by unfold methodCallPos; simp [hline]
  unfold methodCall
  rw [hform]
  refine wpAny_bind (wpAny_holding ?_)
  show wpAny _ _ (getMethod (.int n _) (Str.ofString "bit_length") _) _ _ _
  with_reducible refine getMethod_int_bit_length ?_
  refine wpAny_bind (wpAny_of_eq hpos (callWith_method0 (call_int_bit_length (k _ _ F1 (x1.trans' (ex_toks x1.good)) .int))))

/-- replace, both arguments written -/
theorem evM_replace {o : Expr} {apos pos p1 p2 : Pos} {k1 k2 : Nat} {x y z : Str} (hG : 1 ≤ G.tk) (ho : Evals G A env ρ o (.str x)) (hyz : (y == z) = false) (hb : x.length + (x.length + 1) * z.length ≤ 16777216)
    (hbase : attributeBase o "replace" env (eval o env) = eval o env := by rfl) (hline : (apos.endLine == pos.line) = true := by rfl) :
    Evals G A env ρ (.Call (.Attribute o "replace" apos) [.Constant (.str y) k1 p1, .Constant (.str z) k2 p2] [] pos) (.str (Txt.replace x y z)) := .mk fun s F g hv Q E k => by
  rw [arm_eval_Call, hbase]
  refine wpAny_bind (ho.run s F g hv _ _ fun v1 s1 F1 x1 r1 => wpAny_bind (wpAny_standAt ?_))
  cases r1
  have hform : methodCallForm (([.Constant (.str y) k1 p1, .Constant (.str z) k2 p2] : List Expr).length + ([] : List Keyword).length) (backTo pos (starEach [.Constant (.str y) k1 p1, .Constant (.str z) k2 p2] env)) (backToKw pos (keywordEach [] env)) = true := rfl
  have hpos : methodCallPos true o env apos pos = pure pos := by unfold methodCallPos; simp [hline]
  unfold methodCall
  rw [hform]
  refine wpAny_bind (wpAny_holding ?_)
  show wpAny _ _ (getMethod (.str x _) (Str.ofString "replace") _) _ _ _
  with_reducible refine GM.replace ?_
  refine wpAny_bind (wpAny_of_eq hpos ?_)
  refine callWith_builtin rfl ?_
  refine evalArgs_plain (x := eval (.Constant (.str y) k1 p1) env) (rest := [(false, eval (.Constant (.str z) k2 p2) env)]) ?_
  refine spliced_cons (Constant_str (spliced_cons (Constant_str (spliced_nil ?_))))
  have g1 := x1.good
  have ht := Nat.le_trans hG g1.toks
  refine wpAny_with_toks (n := s1.toks) (by show s1.toks ≤ s1.toks + 1 + 1; walk_at "m_om") (SC.replace (by show s1.toks ≠ 0; walk_at "m_om") (by show s1.toks + 1 ≠ 0; walk_at "m_om") (by show s1.toks ≠ s1.toks + 1; walk_at "m_om") hyz hb fun t' tk htk => ?_)
  exact k _ _ F1 (x1.trans' (ex_toks g1 htk)) .str

theorem strs_of {F : Fz} : ∀ {xs : List Str} {vs : List Value}, RdL F vs (xs.map D.str) → ∃ l : List (Str × Tok), vs = strValues l ∧ l.map (·.1) = xs := by
  intro xs
  induction xs with
  | nil => intro vs h; cases h; exact ⟨[], rfl, rfl⟩
  | cons x xs ih =>
    intro vs h
    cases h with
    | cons h1 h2 =>
      cases h1 with
      | @str _ t =>
        obtain ⟨q, e1, e2⟩ := ih h2
        exact ⟨(x, t) :: q, by rw [e1]; rfl, by rw [List.map_cons, e2]⟩
/-- ''.join of a list of texts -/
theorem evM_join {o y : Expr} {apos pos : Pos} {x : Str} {xs : List Str} (ho : Evals G A env ρ o (.str x)) (hy : Evals G A env ρ y (.lst (xs.map D.str))) (hok : JoinOk x xs = true)
    (hbase : attributeBase o "join" env (eval o env) = eval o env := by rfl) (hs : starEach [y] env = [(false, eval y env)] := by rfl) (hline : (apos.endLine == pos.line) = true := by rfl) :
    Evals G A env ρ (.Call (.Attribute o "join" apos) [y] [] pos) (.str (Txt.join x xs)) := .mk fun s F g hv Q E k => by
  rw [arm_eval_Call, hbase]
  refine wpAny_bind (ho.run s F g hv _ _ fun v1 s1 F1 x1 r1 => wpAny_bind (wpAny_standAt ?_))
  cases r1
  have hform : methodCallForm (([y] : List Expr).length + ([] : List Keyword).length) (backTo pos (starEach [y] env)) (backToKw pos (keywordEach [] env)) = true := by rw [hs]; rfl
  have hpos : methodCallPos true o env apos pos = pure pos := by unfold methodCallPos; simp [hline]
  unfold methodCall
  rw [hform]
  refine wpAny_bind (wpAny_holding ?_)
  show wpAny _ _ (getMethod (.str x _) (Str.ofString "join") _) _ _ _
  with_reducible refine GM.join ?_
  refine wpAny_bind (wpAny_of_eq hpos ?_)
  refine callWith_builtin (by rw [hs]; rfl) ?_
  rw [hs]
  refine evalArgs_plain (x := eval y env) (rest := []) ?_
  refine spliced_cons (hy.run s1 F1 x1.good (hv.ex x1) _ _ fun v2 s2 F2 x2 r2 => spliced_nil ?_)
  have g2 := x2.good
  cases r2 with
  | @lst a vs n _ hF hl =>
    obtain ⟨l, e1, e2⟩ := strs_of hl
    subst e1
    exact wpAny_with_toks (Nat.le_refl _) (SC.join (isList_of g2 hF) e2 hok fun t' tk htk => k _ _ F2 (x1.trans' (x2.trans' (ex_toks g2 htk))) .str)
end
end
/- B7 -/
section

/-- how statements end -/
inductive Out where
  | next (ρ : Ro)
  | brk (ρ : Ro)
  | cont (ρ : Ro)
  | ret (d : D)

/-- what the statements of a frame may change -/
def Mod (env : Env) (N : Nat) (ρ : Ro) (a : Addr) : Prop := a = env.locals ∨ (∃ x, env.kindOf x = some .cell ∧ env.cells.lookup x = some a ∧ N ≤ a) ∨ a ∈ owns ρ
/-- a place for a name that the frame may set -/
abbrev Holds (env : Env) (N : Nat) (x : Str) : Prop := env.kindOf x = some .local ∨ (env.kindOf x = some .cell ∧ ∀ c, env.cells.lookup x = some c → N ≤ c)

/-- a frame over a heap whose first N places are not the frame's -/
structure FrOk (G : Gx) (env : Env) (N : Nat) : Prop extends EnvF env where
  base : G.h₁.objs.size ≤ N
  loc : N ≤ env.locals
  cell : ∀ x c, env.kindOf x = some .cell → env.cells.lookup x = some c → N ≤ c → c ≠ env.locals
  apart : ∀ x y c, env.kindOf x = some .cell → env.kindOf y = some .cell → env.cells.lookup x = some c → env.cells.lookup y = some c → N ≤ c → x = y
  free : ∀ x c, env.kindOf x = some .free → env.cells.lookup x = some c → c < N

theorem FrOk.ne_locals {G : Gx} {env : Env} {N : Nat} (fr : FrOk G env N) {x : Str} {c : Addr} (k : env.kindOf x = some .cell ∨ env.kindOf x = some .free) (h : env.cells.lookup x = some c) : c ≠ env.locals := by
  rcases k with k | k
  · by_cases q : N ≤ c
    · exact fr.cell x c k h q
    · exact fun e => q (e ▸ fr.loc)
  · exact fun e => absurd (fr.free x c k h) (Nat.not_lt.mpr (e ▸ fr.loc))

structure Frm (env : Env) (N : Nat) (s : Shared) (F : Fz) : Prop where
  ns : ∃ m, s.heap.Ns env.locals m
  cell : ∀ x, env.kindOf x = some .cell → ∃ c v, env.cells.lookup x = some c ∧ s.heap.IsCell c v
  fl : F env.locals = none
  fc : ∀ x c, env.kindOf x = some .cell → env.cells.lookup x = some c → N ≤ c → F c = none

theorem Frm.ex {G : Gx} {env : Env} {N : Nat} {s s' : Shared} {F F' : Fz} (q : Frm env N s F) (k : Ex G nowhere s F s' F') : Frm env N s' F' := by
  have keepNone : ∀ a o, F a = none → s.heap.get? a = some o → F' a = none := fun a o h1 h2 => by
    cases e : F' a with
    | none => rfl
    | some o' =>
      rcases k.fresh a o' e with e' | e' | e'
      · rw [h1] at e'; cases e'
      · exact absurd (Heap.lt_size h2) (Nat.not_lt.mpr e')
      · exact e'.elim
  refine ⟨let ⟨m, h⟩ := q.ns; ⟨m, k.kp.ns h⟩, fun x hx => let ⟨c, v, h1, h2⟩ := q.cell x hx; ⟨c, v, h1, k.kp.cell h2⟩, ?_, fun x c hx hc hN => ?_⟩
  · obtain ⟨m, o, _, _, ho, _⟩ := q.ns; exact keepNone _ o q.fl ho
  · obtain ⟨c', v, h1, o, ho, _⟩ := q.cell x hx
    rw [hc] at h1; cases h1
    exact keepNone _ o (q.fc x c hx hc hN) ho

theorem ns_unique {h : Heap} {a : Addr} {m m' : Str → Option Value} (x : h.Ns a m) (y : h.Ns a m') : m = m' := by
  obtain ⟨o, es, ep, ho, hd, _, hm⟩ := x
  obtain ⟨o', es', ep', ho', hd', _, hm'⟩ := y
  rw [ho] at ho'; cases ho'
  rw [hd] at hd'; cases hd'
  funext n
  rw [← hm n, ← hm' n]

/-- ρ' is ρ with x set to e -/
inductive Put (x : Str) (e : En) : Ro → Ro → Prop where
  | nil : Put x e [] [(x, e)]
  | head {e' : En} {ρ : Ro} : Put x e ((x, e') :: ρ) ((x, e) :: ρ)
  | tail {y : Str} {e' : En} {ρ ρ' : Ro} : x ≠ y → Put x e ρ ρ' → Put x e ((y, e') :: ρ) ((y, e') :: ρ')

theorem Put.names {x : Str} {e : En} {ρ ρ' : Ro} (h : Put x e ρ ρ') : ∀ y, y ∈ ρ'.map (·.1) → y = x ∨ y ∈ ρ.map (·.1) := by
  induction h with
  | nil => intro y hy; simp at hy; exact .inl hy
  | head => intro y hy; exact .inr hy
  | tail _ _ ih =>
    intro y hy
    simp only [List.map_cons, List.mem_cons] at hy ⊢
    rcases hy with hy | hy
    · exact .inr (.inl hy)
    · exact (ih y hy).imp_right .inr
theorem Put.nodup {x : Str} {e : En} {ρ ρ' : Ro} (h : Put x e ρ ρ') : (ρ.map (·.1)).Nodup → (ρ'.map (·.1)).Nodup := by
  induction h with
  | nil => intro _; simp
  | head => exact id
  | tail hne hp ih =>
    intro hn
    simp only [List.map_cons, List.nodup_cons] at hn ⊢
    refine ⟨fun hm => ?_, ih hn.2⟩
    rcases hp.names _ hm with e | e
    · exact hne e.symm
    · exact hn.1 e
theorem Put.mem {x : Str} {e : En} {ρ ρ' : Ro} (h : Put x e ρ ρ') : (ρ.map (·.1)).Nodup → ∀ p ∈ ρ', p = (x, e) ∨ (p ∈ ρ ∧ p.1 ≠ x) := by
  induction h with
  | nil => intro _ p hp; simp at hp; exact .inl hp
  | @head e' ρ =>
    intro hn p hp
    simp only [List.map_cons, List.nodup_cons] at hn
    rcases List.mem_cons.mp hp with rfl | hp
    · exact .inl rfl
    · exact .inr ⟨List.mem_cons_of_mem _ hp, fun q => hn.1 (q ▸ List.mem_map_of_mem hp)⟩
  | @tail y e' ρ ρ' hne hp ih =>
    intro hn p hp'
    simp only [List.map_cons, List.nodup_cons] at hn
    rcases List.mem_cons.mp hp' with rfl | hp'
    · exact .inr ⟨List.mem_cons_self, fun q => hne q.symm⟩
    · rcases ih hn.2 p hp' with q | q
      · exact .inl q
      · exact .inr ⟨List.mem_cons_of_mem _ q.1, q.2⟩
theorem owns_mem {ρ : Ro} {a : Addr} : a ∈ owns ρ ↔ ∃ x ds, (x, En.own a ds) ∈ ρ := by
  unfold owns
  rw [List.mem_filterMap]
  constructor
  · rintro ⟨⟨x, e⟩, hp, h⟩
    cases e with
    | v d => cases h
    | own b ds => simp only [Option.some.injEq] at h; subst h; exact ⟨x, ds, hp⟩
  · rintro ⟨x, ds, h⟩
    exact ⟨_, h, rfl⟩
theorem owns_cons_v {x : Str} {d : D} {ρ : Ro} : owns ((x, En.v d) :: ρ) = owns ρ := rfl
theorem owns_cons_own {x : Str} {a : Addr} {ds : List D} {ρ : Ro} : owns ((x, En.own a ds) :: ρ) = a :: owns ρ := rfl
theorem owns_cons {p : Str × En} {ρ : Ro} : (owns ρ).Sublist (owns (p :: ρ)) := by
  obtain ⟨x, e⟩ := p
  cases e with
  | v d => exact List.Sublist.refl _
  | own a ds => exact List.sublist_cons_self _ _
theorem Put.owns_v {x : Str} {d : D} {ρ ρ' : Ro} (h : Put x (.v d) ρ ρ') : (owns ρ').Sublist (owns ρ) := by
  induction h with
  | nil => exact List.Sublist.refl _
  | head => exact owns_cons
  | @tail y e' ρ ρ' _ _ ih =>
    cases e' with
    | v d => exact ih
    | own a ds => exact ih.cons_cons _
theorem Put.owns_own {x : Str} {a : Addr} {ds : List D} {ρ ρ' : Ro} (h : Put x (.own a ds) ρ ρ') : (owns ρ).Nodup → a ∉ owns ρ → (owns ρ').Nodup ∧ ∀ b ∈ owns ρ', b = a ∨ b ∈ owns ρ := by
  induction h with
  | nil => intro _ _; exact ⟨by simp [owns], fun b hb => by simp [owns] at hb; exact .inl hb⟩
  | @head e' ρ =>
    intro hn ha
    have hs := owns_cons (p := (x, e')) (ρ := ρ)
    rw [owns_cons_own]
    refine ⟨List.nodup_cons.mpr ⟨fun q => ha (hs.subset q), hn.sublist hs⟩, fun b hb => ?_⟩
    rcases List.mem_cons.mp hb with q | q
    · exact .inl q
    · exact .inr (hs.subset q)
  | @tail y e' ρ ρ' _ hp ih =>
    intro hn ha
    cases e' with
    | v d => exact ih hn ha
    | own b es =>
      rw [owns_cons_own] at hn ha ⊢
      obtain ⟨i1, i2⟩ := ih (List.nodup_cons.mp hn).2 (fun q => ha (List.mem_cons_of_mem _ q))
      refine ⟨List.nodup_cons.mpr ⟨fun q => ?_, i1⟩, fun c hc => ?_⟩
      · rcases i2 _ q with e | e
        · exact ha (e ▸ List.mem_cons_self)
        · exact (List.nodup_cons.mp hn).1 e
      · rcases List.mem_cons.mp hc with q | q
        · exact .inr (q ▸ List.mem_cons_self)
        · exact (i2 c q).imp_right (List.mem_cons_of_mem _)

/-- the state of a frame fits ρ -/
structure In (G : Gx) (env : Env) (N : Nat) (s : Shared) (F : Fz) (ρ : Ro) : Prop where
  good : Good G s F
  vars : Vars G env s.heap F ρ
  frm : Frm env N s F
  own : ∀ a ∈ owns ρ, N ≤ a
  size : N ≤ s.heap.objs.size

theorem In.ex {G : Gx} {env : Env} {N : Nat} {s s' : Shared} {F F' : Fz} {ρ : Ro} (q : In G env N s F ρ) (k : Ex G nowhere s F s' F') : In G env N s' F' ρ :=
  ⟨k.good, q.vars.ex k, q.frm.ex k, q.own, Nat.le_trans q.size k.size⟩

/-- how the ends of statements show in the state -/
def OutOk (G : Gx) (env : Env) (N : Nat) (o : Out) (fl : Flow) (s : Shared) (F : Fz) : Prop := match o with
  | .next ρ => fl = .next ∧ In G env N s F ρ
  | .brk ρ => fl = .brk ∧ In G env N s F ρ
  | .cont ρ => fl = .cont ∧ In G env N s F ρ
  | .ret d => ∃ v, fl = .ret v ∧ Rd F v d
/-- the owned lists of the end are those of the start or new -/
def OutOwn (ρ : Ro) (n : Nat) (o : Out) : Prop := match o with
  | .next ρ' | .brk ρ' | .cont ρ' => ∀ a ∈ owns ρ', a ∈ owns ρ ∨ n ≤ a
  | .ret _ => True

section
variable (G : Gx) (A : Around) (env : Env) (N : Nat)
/-- a piece of a frame's work on statements -/
structure Does (t : Sem Flow) (ρ : Ro) (P : Out → Prop) : Prop where
  run : ∀ s F, In G env N s F ρ → ∀ (Q : Flow → Shared → Prop) (E : Value → Shared → Prop), (∀ o fl s' F', P o → OutOwn ρ s.heap.objs.size o → Ex G (Mod env N ρ) s F s' F' → OutOk G env N o fl s' F' → Q fl s') → wpAny (model G.prog G.w) A t Q E s
abbrev Xs (stmts : List Stmt) (ρ : Ro) (P : Out → Prop) : Prop := Does G A env N (execs stmts env) ρ P
abbrev X1 (st : Stmt) (ρ : Ro) (P : Out → Prop) : Prop := Does G A env N (exec st env) ρ P
end

section
variable {G : Gx} {A : Around} {env : Env} {N : Nat} {ρ : Ro} {P : Out → Prop}

theorem Does.mono {t : Sem Flow} {P' : Out → Prop} (h : Does G A env N t ρ P') (hP : ∀ o, P' o → P o) : Does G A env N t ρ P := .mk fun s F i Q E k => h.run s F i Q E fun o fl s' F' p => k o fl s' F' (hP o p)

theorem OutOwn.trans {ρ' : Ro} {n n' : Nat} {o : Out} (h : OutOwn ρ' n' o) (hρ : ∀ a ∈ owns ρ', a ∈ owns ρ ∨ n ≤ a) (hn : n ≤ n') : OutOwn ρ n o := by
  cases o with
  | ret => trivial
  | next ρ'' => intro a ha; rcases h a ha with q | q; exact hρ a q; exact .inr (Nat.le_trans hn q)
  | brk ρ'' => intro a ha; rcases h a ha with q | q; exact hρ a q; exact .inr (Nat.le_trans hn q)
  | cont ρ'' => intro a ha; rcases h a ha with q | q; exact hρ a q; exact .inr (Nat.le_trans hn q)

theorem mod_sub {ρ' : Ro} {n : Nat} (hρ : ∀ a ∈ owns ρ', a ∈ owns ρ ∨ n ≤ a) : ∀ a, Mod env N ρ' a → Mod env N ρ a ∨ n ≤ a := fun a h => by
  rcases h with h | h | h
  · exact .inl (.inl h)
  · exact .inl (.inr (.inl h))
  · exact (hρ a h).imp_left fun q => .inr (.inr q)

/-- no statement left -/
theorem xs_nil (h : P (.next ρ)) : Xs G A env N [] ρ P := .mk fun s F i Q E k => wpAny_execs_nil (k (.next ρ) .next s F h (fun a ha => .inl ha) (Ex.refl i.good) ⟨rfl, i⟩)

/-- what the rest makes of the end of a statement -/
def Then (G : Gx) (A : Around) (env : Env) (N : Nat) (rest : List Stmt) (P : Out → Prop) (o : Out) : Prop := match o with
  | .next ρ' => Xs G A env N rest ρ' P
  | o => P o

theorem xs_cons {st : Stmt} {rest : List Stmt} (h : X1 G A env N st ρ (Then G A env N rest P)) : Xs G A env N (st :: rest) ρ P := .mk fun s F i Q E k => by
  refine wpAny_execs_cons (h.run s F i _ _ fun o fl s1 F1 p w x ok => ?_)
  cases o with
  | next ρ' =>
    obtain ⟨rfl, i1⟩ := ok
    refine p.run s1 F1 i1 Q E fun o' fl' s2 F2 p' w' x' ok' => k o' fl' s2 F2 p' (w'.trans w x.size) (x.trans x' (mod_sub w)) ok'
  | brk ρ' => obtain ⟨rfl, i1⟩ := ok; exact k (.brk ρ') _ s1 F1 p w x ⟨rfl, i1⟩
  | cont ρ' => obtain ⟨rfl, i1⟩ := ok; exact k (.cont ρ') _ s1 F1 p w x ⟨rfl, i1⟩
  | ret d => obtain ⟨v, rfl, r⟩ := ok; exact k (.ret d) _ s1 F1 p w x ⟨v, rfl, r⟩

theorem x_return {e : Expr} {pos : Pos} {d : D} (he : Evals G A env ρ e d) (h : P (.ret d)) : X1 G A env N (.Return (some e) pos) ρ P := .mk fun s F i Q E k =>
  wpAny_Return_some (he.run s F i.good i.vars _ _ fun v s' F' x r => k (.ret d) (.ret v) s' F' h trivial (x.weaken fun _ f => f.elim) ⟨v, rfl, r⟩)
theorem x_return_none {pos : Pos} (h : P (.ret .none)) : X1 G A env N (.Return none pos) ρ P := .mk fun s F i Q E k =>
  wpAny_Return_none (k (.ret .none) (.ret .none) s F h trivial (Ex.refl i.good) ⟨.none, rfl, .none⟩)

theorem x_if {t : Expr} {body orelse : List Stmt} {pos : Pos} {b : Bool} (ht : Tests G A env ρ t b) (h1 : b = true → Xs G A env N body ρ P) (h2 : b = false → Xs G A env N orelse ρ P) : X1 G A env N (.If t body orelse pos) ρ P := .mk fun s F i Q E k => by
  refine wpAny_If (ht.run s F i.good i.vars _ _ fun s1 F1 x1 => ?_)
  have fin : ∀ {body}, Xs G A env N body ρ P → wpAny (model G.prog G.w) A (execs body env) Q E s1 := fun h =>
    h.run s1 F1 (i.ex x1) Q E fun o fl s' F' p w x ok => k o fl s' F' p (w.trans (fun a ha => .inl ha) x1.size) ((x1.weaken fun _ f => f.elim).trans' x) ok
  cases b with
  | true => exact fin (h1 rfl)
  | false => exact fin (h2 rfl)

/-- a store into a name -/
theorem storeE_tk {s : Shared} {F : Fz} (fr : FrOk G env N) (i : In G env N s F ρ) {x : Str} {v : Value} {e : En} {ρ' : Ro} (hk : Holds env N x)
    (hE : ∀ h', VarAt env h' x v → (∀ a vs n, s.heap.get? a = some (lObj vs n) → h'.get? a = some (lObj vs n)) → EnAt G env h' F x e) (hO : (owns ρ').Nodup) (hOb : ∀ a ∈ owns ρ', N ≤ a) (hp : Put x e ρ ρ') {Q : Unit → Shared → Prop} {E : Value → Shared → Prop}
    (k : ∀ s', Ex G (Mod env N ρ) s F s' F → In G env N s' F ρ' → (env.kindOf x = some .local → s.toks < s'.toks) → Q () s') : wpAny (model G.prog G.w) A (storeName env x v) Q E s := by
  have g := i.good
  have main : ∀ (c : Addr) (oc : Obj) (h' : Heap) (tk : Nat), s.toks ≤ tk → (env.kindOf x = some .local → s.toks < tk) → Heap.SameBut c s.heap h' → N ≤ c → s.heap.get? c = some oc → isTab oc = false → codey oc = false → F c = none → Mod env N ρ c → (∀ vs n, oc ≠ lObj vs n) →
      (∀ y, y ≠ x → ∀ u, VarAt env s.heap y u → VarAt env h' y u) → VarAt env h' x v → (∃ m, h'.Ns env.locals m) → (∀ y, env.kindOf y = some .cell → ∃ c' v', env.cells.lookup y = some c' ∧ h'.IsCell c' v') → Q () { s with heap := h', toks := tk } := by
    intro c oc h' tk htk htl hs hN ho hct hcc hFc hM hno hvar hx hns hcell
    have ex : Ex G (Mod env N ρ) s F { s with heap := h', toks := tk } F := ex_at g hs (Nat.le_trans fr.base hN) hFc ho hcc hct hM htk
    have hl : ∀ a vs n, s.heap.get? a = some (lObj vs n) → h'.get? a = some (lObj vs n) := fun a vs n q => (hs.2 a fun z => by subst z; rw [ho] at q; cases q; exact hno vs n rfl).trans q
    refine k _ ex ⟨ex.good, ⟨fun p hp' => ?_, hp.nodup i.vars.names, hO⟩, ⟨hns, hcell, i.frm.fl, i.frm.fc⟩, hOb, Nat.le_trans i.size (Nat.le_of_eq hs.1.symm)⟩ htl
    rcases hp.mem i.vars.names p hp' with rfl | ⟨hm, hne⟩
    · exact hE h' hx hl
    · have q := i.vars.at' p hm
      obtain ⟨y, e'⟩ := p
      cases e' with
      | v d' => obtain ⟨u, hu, ru⟩ := q; exact ⟨u, hvar y hne u hu, ru⟩
      | own a ds =>
        obtain ⟨hu, hFa, hb, vs, n, hl', rl⟩ := q
        exact ⟨hvar y hne _ hu, hFa, hb, vs, n, hl a vs n hl', rl⟩
  rcases hk with hk | hk
  · obtain ⟨m, hn⟩ := i.frm.ns
    refine wpAny_storeName_local hk hn (fun h' hn' hs => ?_) (by rw [fr.kind]; rfl)
    obtain ⟨o, es, ep, ho, hd, hrest⟩ := id hn
    refine main env.locals o h' (s.toks + 1) (Nat.le_succ _) (fun _ => Nat.lt_succ_self _) hs fr.loc ho (isTab_dict hd) (codey_dict hd) i.frm.fl (.inl rfl) (fun vs n e => by rw [e] at hd; cases hd) (fun y hne u hu => ?_) (.inl ⟨hk, _, hn', by simp⟩) ⟨_, hn'⟩ (fun y hy => ?_)
    · rcases hu with ⟨ky, m', hm', e⟩ | ⟨ky, c, hc, hcell⟩
      · have := ns_unique hn hm'; subst this
        exact .inl ⟨ky, _, hn', by rw [if_neg hne]; exact e⟩
      · exact .inr ⟨ky, c, hc, hcell.sameBut hs (fr.ne_locals ky hc)⟩
    · obtain ⟨c, v', h1, h2⟩ := i.frm.cell y hy
      exact ⟨c, v', h1, h2.sameBut hs (fr.ne_locals (.inl hy) h1)⟩
  · obtain ⟨hk, hown⟩ := hk
    obtain ⟨c, v₀, hc, hcell⟩ := i.frm.cell x hk
    refine wpAny_storeName_cell fr.kind hk hc hcell fun h' hn' hs => ?_
    obtain ⟨o, ho, hd⟩ := id hcell
    have hNc := hown c hc
    have hcl := fr.cell x c hk hc hNc
    refine main c o h' s.toks (Nat.le_refl _) (fun q => by rw [hk] at q; cases q) hs hNc ho (isTab_cell hd) (codey_cell hd) (i.frm.fc x c hk hc hNc) (.inr (.inl ⟨x, hk, hc, hNc⟩)) (fun vs n e => by rw [e] at hd; cases hd) (fun y hne u hu => ?_) (.inr ⟨.inl hk, c, hc, hn'⟩) ?_ (fun y hy => ?_)
    · rcases hu with ⟨ky, m', hm', e⟩ | ⟨ky, c', hc', hcell'⟩
      · exact .inl ⟨ky, m', hm'.sameBut hs (Ne.symm hcl), e⟩
      · refine .inr ⟨ky, c', hc', hcell'.sameBut hs fun q => ?_⟩
        subst q
        rcases ky with ky | ky
        · exact hne (fr.apart y x c' ky hk hc' hc hNc)
        · exact absurd (fr.free y c' ky hc') (Nat.not_lt.mpr hNc)
    · obtain ⟨m, hn⟩ := i.frm.ns
      exact ⟨m, hn.sameBut hs (Ne.symm hcl)⟩
    · obtain ⟨c', v', h1, h2⟩ := i.frm.cell y hy
      by_cases q : c' = c
      · subst q; exact ⟨c', _, h1, hn'⟩
      · exact ⟨c', v', h1, h2.sameBut hs q⟩
theorem storeE {s : Shared} {F : Fz} (fr : FrOk G env N) (i : In G env N s F ρ) {x : Str} {v : Value} {e : En} {ρ' : Ro} (hk : Holds env N x)
    (hE : ∀ h', VarAt env h' x v → (∀ a vs n, s.heap.get? a = some (lObj vs n) → h'.get? a = some (lObj vs n)) → EnAt G env h' F x e) (hO : (owns ρ').Nodup) (hOb : ∀ a ∈ owns ρ', N ≤ a) (hp : Put x e ρ ρ') {Q : Unit → Shared → Prop} {E : Value → Shared → Prop}
    (k : ∀ s', Ex G (Mod env N ρ) s F s' F → In G env N s' F ρ' → Q () s') : wpAny (model G.prog G.w) A (storeName env x v) Q E s := storeE_tk fr i hk hE hO hOb hp fun s' x i' _ => k s' x i'
theorem store_ {s : Shared} {F : Fz} (fr : FrOk G env N) (i : In G env N s F ρ) {x : Str} {v : Value} {d : D} {ρ' : Ro} (hk : Holds env N x) (r : Rd F v d) (hp : Put x (.v d) ρ ρ') {Q : Unit → Shared → Prop} {E : Value → Shared → Prop}
    (k : ∀ s', Ex G (Mod env N ρ) s F s' F → In G env N s' F ρ' → Q () s') : wpAny (model G.prog G.w) A (storeName env x v) Q E s :=
  storeE (e := .v d) fr i hk (fun _ hx _ => ⟨v, hx, r⟩) (i.vars.owns.sublist hp.owns_v) (fun a ha => i.own a (hp.owns_v.subset ha)) hp k

theorem Put.owns_le {x : Str} {d : D} {ρ ρ' : Ro} (h : Put x (.v d) ρ ρ') {n : Nat} : ∀ a ∈ owns ρ', a ∈ owns ρ ∨ n ≤ a := fun a ha => .inl (h.owns_v.subset ha)

theorem x_assign {x : Str} {px pos : Pos} {e : Expr} {d : D} {ρ' : Ro} (fr : FrOk G env N) (he : Evals G A env ρ e d) (hk : Holds env N x) (hp : Put x (.v d) ρ ρ') (h : P (.next ρ'))
    (hs : swapsWith e (some (.Name x px)) pos.line env = pure false := by rfl) : X1 G A env N (.Assign [.Name x px] e pos) ρ P := .mk fun s F i Q E k =>
  wpAny_Assign_Name (he.run s F i.good i.vars _ _ fun v s1 F1 x1 r1 => store_ fr (i.ex x1) hk r1 hp fun s2 x2 i2 =>
    k (.next ρ') .next s2 F1 h hp.owns_le ((x1.weaken fun _ f => f.elim).trans' x2) ⟨rfl, i2⟩) hs

theorem x_aug {x : Str} {px pos : Pos} {op : Operator} {e : Expr} {d0 d1 d : D} {ρ' : Ro} (fr : FrOk G env N) (hx : (x, En.v d0) ∈ ρ) (he : Evals G A env ρ e d1) (ho : Op2 G A (inplaceOp op) d0 d1 d) (hk : Holds env N x)
    (hp : Put x (.v d) ρ ρ') (h : P (.next ρ')) : X1 G A env N (.AugAssign (.Name x px) op e pos) ρ P := .mk fun s F i Q E k => by
  obtain ⟨v0, a0, r0⟩ := i.vars.at' _ hx
  exact wpAny_AugAssign_Name (load_var fr.toEnvF a0 rfl (he.run s F i.good i.vars _ _ fun v1 s1 F1 x1 r1 => ho.run s1 F1 v0 v1 x1.good (r0.mono x1.le) r1 _ _ fun v s2 F2 x2 r2 =>
    store_ fr ((i.ex x1).ex x2) hk r2 hp fun s3 x3 i3 => k (.next ρ') .next s3 F2 h hp.owns_le ((x1.weaken fun _ f => f.elim).trans' ((x2.weaken fun _ f => f.elim).trans' x3)) ⟨rfl, i3⟩))
end
end
/- B8 -/
section
/-- names set in a row -/
inductive PutL (env : Env) (N : Nat) : List Str → List D → Ro → Ro → Prop where
  | nil {ρ : Ro} : PutL env N [] [] ρ ρ
  | cons {x : Str} {xs : List Str} {d : D} {ds : List D} {ρ ρ' ρ'' : Ro} : Holds env N x → Put x (.v d) ρ ρ' → PutL env N xs ds ρ' ρ'' → PutL env N (x :: xs) (d :: ds) ρ ρ''

def tgt : Expr → Str
  | .Name x _ => x
  | _ => ""
def isName : Expr → Bool
  | .Name _ _ => true
  | _ => false

/-- a target set to data -/
inductive Asg (env : Env) (N : Nat) : Expr → D → Ro → Ro → Prop where
  | name {x : Str} {p : Pos} {d : D} {ρ ρ' : Ro} : Holds env N x → Put x (.v d) ρ ρ' → Asg env N (.Name x p) d ρ ρ'
  | tup {es : List Expr} {k : Nat} {p : Pos} {ds : List D} {ρ ρ' : Ro} : es.all isName = true → PutL env N (es.map tgt) ds ρ ρ' → Asg env N (.Tuple es k p) (.tup ds) ρ ρ'

theorem PutL.owns {env : Env} {N : Nat} {xs : List Str} {ds : List D} {ρ ρ' : Ro} (h : PutL env N xs ds ρ ρ') : (owns ρ').Sublist (owns ρ) := by
  induction h with
  | nil => exact List.Sublist.refl _
  | cons _ hp _ ih => exact ih.trans hp.owns_v
theorem PutL.length {env : Env} {N : Nat} {xs : List Str} {ds : List D} {ρ ρ' : Ro} (h : PutL env N xs ds ρ ρ') : xs.length = ds.length := by
  induction h with
  | nil => rfl
  | cons _ _ _ ih => simp [ih]
theorem Asg.owns {env : Env} {N : Nat} {t : Expr} {d : D} {ρ ρ' : Ro} (h : Asg env N t d ρ ρ') : (owns ρ').Sublist (owns ρ) := by
  cases h with
  | name _ hp => exact hp.owns_v
  | tup _ hp => exact hp.owns

/-- a value that a loop or a call hands on: data, or a tuple that is not frozen -/
inductive VT (F : Fz) (h : Heap) : Value → D → Prop where
  | rd {v : Value} {d : D} : Rd F v d → VT F h v d
  | tup {T : Addr} {vals : Array Value} {ds : List D} : h.IsTuple T vals → RdL F vals.toList ds → VT F h (.ref T) (.tup ds)

theorem assignEach_names (env : Env) : ∀ {es : List Expr}, es.all isName = true → assignEach es env = es.map fun e => (false, assign e env)
  | [], _ => rfl
  | .Name x p :: es, h => by
    have h' : es.all isName = true := by simpa [isName] using h
    show (false, assign (.Name x p) env) :: assignEach es env = _
    rw [assignEach_names env h']; rfl
  | .BoolOp .. :: _, h | .NamedExpr .. :: _, h | .BinOp .. :: _, h | .UnaryOp .. :: _, h | .Lambda .. :: _, h | .IfExp .. :: _, h | .Dict .. :: _, h | .Set .. :: _, h | .ListComp .. :: _, h
  | .SetComp .. :: _, h | .DictComp .. :: _, h | .GeneratorExp .. :: _, h | .Await .. :: _, h | .Yield .. :: _, h | .YieldFrom .. :: _, h | .Compare .. :: _, h | .Call .. :: _, h
  | .FormattedValue .. :: _, h | .JoinedStr .. :: _, h | .Constant .. :: _, h | .Attribute .. :: _, h | .Subscript .. :: _, h | .Starred .. :: _, h | .List .. :: _, h | .Tuple .. :: _, h | .Slice .. :: _, h => by simp [isName] at h

section
variable {G : Gx} {A : Around} {env : Env} {N : Nat} {ρ : Ro} {P : Out → Prop}

theorem storeL : ∀ (es : List Expr) {vs : List Value} {ds : List D} {ρ ρ' : Ro} {s : Shared} {F : Fz}, FrOk G env N → In G env N s F ρ → es.all isName = true → RdL F vs ds → PutL env N (es.map tgt) ds ρ ρ' → ∀ {Q : Unit → Shared → Prop} {E : Value → Shared → Prop},
    (∀ s', Ex G (Mod env N ρ) s F s' F → In G env N s' F ρ' → Q () s') → wpAny (model G.prog G.w) A (assignInOrder (es.map fun e => assign e env) vs) Q E s
  | [], _, _, _, _, s, F, fr, i, _, r, hp, Q, E, k => by
    cases hp
    exact wpAny_pure (k s (Ex.refl i.good) i)
  | e :: es, vs, ds, ρ, ρ', s, F, fr, i, hn, r, hp, Q, E, k => by
    cases hp with
    | cons hk hp hl =>
      cases r with
      | cons r rl =>
        rw [List.all_cons, Bool.and_eq_true] at hn
        cases e <;> first | (exact absurd hn.1 Bool.false_ne_true) | skip
        rename_i x p
        refine assignInOrder_cons (wpAny_assign_Name (store_ fr i hk r hp fun s1 x1 i1 => ?_))
        refine storeL es fr i1 hn.2 rl hl fun s2 x2 i2 => k s2 (x1.trans x2 fun a m => ?_) i2
        exact mod_sub (fun a ha => .inl (hp.owns_v.subset ha)) a m
theorem isTuple_of {s : Shared} {F : Fz} (g : Good G s F) {a : Addr} {vs : List Value} {n : Nat} (h : F a = some (tObj vs n)) : s.heap.IsTuple a vs.toArray := ⟨_, g.fz _ _ h, rfl, n, rfl⟩

theorem assign_ {t : Expr} {d : D} {ρ ρ' : Ro} {s : Shared} {F : Fz} {v : Value} (hh : A.handled = none) (fr : FrOk G env N) (i : In G env N s F ρ) (r : VT F s.heap v d) (ha : Asg env N t d ρ ρ') (hname : isName t = true → Rd F v d) {Q : Unit → Shared → Prop} {E : Value → Shared → Prop}
    (k : ∀ s', Ex G (Mod env N ρ) s F s' F → In G env N s' F ρ' → Q () s') : wpAny (model G.prog G.w) A (assign t env v) Q E s := by
  cases ha with
  | name hk hp => exact wpAny_assign_Name (store_ fr i hk (hname rfl) hp k)
  | @tup es kk p ds _ _ hn hp =>
    obtain ⟨T, vals, rfl, hT, hr⟩ : ∃ T vals, v = .ref T ∧ s.heap.IsTuple T vals ∧ RdL F vals.toList ds := by
      cases r with
      | tup h1 h2 => exact ⟨_, _, rfl, h1, h2⟩
      | rd r =>
        cases r with
        | tup hF hl => exact ⟨_, _, rfl, isTuple_of i.good hF, by simpa using hl⟩
    have hlen : es.length = vals.size := by
      have h1 := hp.length
      have h2 := hr.length
      simp only [List.length_map] at h1
      rw [h1, ← h2]; simp
    rw [arm_assign_Tuple]
    refine wpAny_bind (wpAny_standAt ?_)
    unfold unpack
    rw [assignEach_names env hn, List.length_map, hlen, show (es.map fun e => (false, assign e env)).findIdx? (·.1) = none by
      rw [List.findIdx?_eq_none_iff]; intro p hp; obtain ⟨e, _, rfl⟩ := List.mem_map.mp hp; rfl, List.map_map]
    refine wpAny_bind (wpAny_holding (wpAny_grows (wpAny_unpackItems_tuple hh hT fun h' hx hz ht => ?_)))
    have e0 : ∀ {M : Addr → Prop}, Ex G M s F { s with heap := h' } F := ex_heap (tk := s.toks) i.good (fun b o e => hx b o (Nat.ne_of_lt (Heap.lt_size e)) e) hz
    exact storeL es fr (i.ex e0) hn hr hp fun s2 x2 i2 => k s2 (e0.trans' x2) i2
end
end
/- B9 -/
section
section
variable {G : Gx} {A : Around} {env : Env} {N : Nat} {ρ : Ro} {P : Out → Prop}

theorem owns_le {ρ ρ' : Ro} (h : (owns ρ').Sublist (owns ρ)) {n : Nat} : ∀ a ∈ owns ρ', a ∈ owns ρ ∨ n ≤ a := fun a ha => .inl (h.subset ha)

theorem x_unpack {elts : List Expr} {k : Nat} {tpos pos : Pos} {value : Expr} {d : D} {ρ' : Ro} (hr : Room A 0) (fr : FrOk G env N) (he : Evals G A env ρ value d) (ha : Asg env N (.Tuple elts k tpos) d ρ ρ') (h : P (.next ρ'))
    (hs : swapsWithSole [.Tuple elts k tpos] value pos.line env = pure false := by rfl) (hw : swappedStores [.Tuple elts k tpos] value env = pure none := by rfl) :
    X1 G A env N (.Assign [.Tuple elts k tpos] value pos) ρ P := .mk fun s F i Q E kk =>
  Assign_Tuple (he.run s F i.good i.vars _ _ fun v s1 F1 x1 r1 => assign_ hr.handled fr (i.ex x1) (.rd r1) ha (fun _ => r1) fun s2 x2 i2 =>
    kk (.next ρ') .next s2 F1 h (owns_le ha.owns) ((x1.weaken fun _ f => f.elim).trans' x2) ⟨rfl, i2⟩) hs hw

theorem storeN : ∀ (xs : List Str) {vs : List Value} {ds : List D} {ρ ρ' : Ro} {s : Shared} {F : Fz}, FrOk G env N → In G env N s F ρ → RdL F vs ds → PutL env N xs ds ρ ρ' → ∀ {Q : Unit → Shared → Prop} {E : Value → Shared → Prop},
    (∀ s', Ex G (Mod env N ρ) s F s' F → In G env N s' F ρ' → Q () s') → wpAny (model G.prog G.w) A (assignInOrder (xs.map fun n => bindName env n) vs) Q E s
  | [], _, _, _, _, s, F, fr, i, r, hp, Q, E, k => by
    cases hp
    exact wpAny_pure (k s (Ex.refl i.good) i)
  | x :: xs, vs, ds, ρ, ρ', s, F, fr, i, r, hp, Q, E, k => by
    cases hp with
    | cons hk hp hl =>
      cases r with
      | cons r rl =>
        refine assignInOrder_cons (wpAny_bindName (store_ fr i hk r hp fun s1 x1 i1 => ?_))
        refine storeN xs fr i1 rl hl fun s2 x2 i2 => k s2 (x1.trans x2 fun a m => ?_) i2
        exact mod_sub (fun a ha => .inl (hp.owns_v.subset ha)) a m

/-- names set from a tuple that is written out -/
theorem x_swap {elts : List Expr} {k : Nat} {tpos pos : Pos} {value : Expr} {ds : List D} {ρ' : Ro} {names : List Str} (hr : Room A 0) (fr : FrOk G env N) (he : Evals G A env ρ value (.tup ds)) (ha : PutL env N names.reverse ds.reverse ρ ρ') (h : P (.next ρ'))
    (hw : swappedStores [.Tuple elts k tpos] value env = pure (some names) := by rfl) (hs : swapsWithSole [.Tuple elts k tpos] value pos.line env = pure false := by rfl) :
    X1 G A env N (.Assign [.Tuple elts k tpos] value pos) ρ P := .mk fun s F i Q E kk => by
  refine Assign_Tuple_swapped (he.run s F i.good i.vars _ _ fun v s1 F1 x1 r1 => ?_) hs hw
  cases r1 with
  | @tup a vs n _ hF hl =>
    have hlen : names.length = vs.toArray.size := by
      have h1 := ha.length
      have h2 := hl.length
      simp only [List.length_reverse] at h1
      rw [h1, ← h2]; simp
    rw [hlen]
    have i1 := i.ex x1
    refine wpAny_grows (wpAny_unpackItems_tuple hr.handled (isTuple_of i1.good hF) fun h' hx hz ht => ?_)
    have e0 : ∀ {M : Addr → Prop}, Ex G M s1 F1 { s1 with heap := h' } F1 := ex_heap (tk := s1.toks) i1.good (fun b o e => hx b o (Nat.ne_of_lt (Heap.lt_size e)) e) hz
    refine storeN names.reverse fr (i1.ex e0) (by simpa using hl.reverse) ha fun s2 x2 i2 =>
      kk (.next ρ') .next s2 F1 h (owns_le ha.owns) ((x1.weaken fun _ f => f.elim).trans' (e0.trans' x2)) ⟨rfl, i2⟩

theorem owns_sub {ρ ρ' : Ro} (h : ρ'.Sublist ρ) : (owns ρ').Sublist (owns ρ) := h.filterMap _
/-- what a frame holds beyond need may be forgotten -/
theorem Vars.sub {h : Heap} {F : Fz} {ρ' : Ro} (hv : Vars G env h F ρ) (hs : ρ'.Sublist ρ) : Vars G env h F ρ' :=
  ⟨fun p hp => hv.at' p (hs.subset hp), hv.names.sublist (hs.map _), hv.owns.sublist (hs.filterMap _)⟩
theorem In.sub {s : Shared} {F : Fz} {ρ' : Ro} (i : In G env N s F ρ) (hs : ρ'.Sublist ρ) : In G env N s F ρ' := ⟨i.good, i.vars.sub hs, i.frm, fun a ha => i.own a ((owns_sub hs).subset ha), i.size⟩

/-- an iterator over items that stand fast: what it may change, how its state reads, one turn of it -/
structure Iter (G : Gx) (A : Around) (t : Expr) (it : Value) (wr : List Addr) (St : List D → Shared → Fz → Prop) : Prop where
  un : ∀ {ds s F}, St ds s F → ∀ b ∈ wr, b < s.heap.objs.size ∧ F b = none
  frame : ∀ {ds s F s' F'} {M : Addr → Prop}, St ds s F → Ex G M s F s' F' → (∀ b ∈ wr, ¬ M b) → St ds s' F'
  item : ∀ {d ds s F}, Good G s F → St (d :: ds) s F → ∀ (Q : Option Value → Shared → Prop) (E : Value → Shared → Prop),
    (∀ v s', (∀ (Q' : Unit → Shared → Prop) (E' : Value → Shared → Prop), (∀ s'' F'', Ex G (· ∈ wr) s F s'' F'' → VT F'' s''.heap v d → (isName t = true → Rd F'' v d) → St ds s'' F'' → Q' () s'') → wpAny (model G.prog G.w) A (letOwnedTupleGo t it v) Q' E' s') → Q (some v) s') →
    wpAny (model G.prog G.w) A (pyNext it) Q E s
  done : ∀ {s F}, Good G s F → St [] s F → ∀ (Q : Option Value → Shared → Prop) (E : Value → Shared → Prop), (∀ s' F', Ex G (· ∈ wr) s F s' F' → Q none s') → wpAny (model G.prog G.w) A (pyNext it) Q E s
  self : ∀ {ds s F}, Good G s F → St ds s F → ∀ (Q : Value → Shared → Prop) (E : Value → Shared → Prop), Q it s → wpAny (model G.prog G.w) A (pyIter it) Q E s

/-- an expression whose items are ds -/
structure Items (G : Gx) (A : Around) (env : Env) (ρ : Ro) (t iter : Expr) (ds : List D) : Prop where
  run : ∀ s F, Good G s F → Vars G env s.heap F ρ → ∀ (Q : Value → Shared → Prop) (E : Value → Shared → Prop),
    (∀ it wr St s' F', Ex G nowhere s F s' F' → (∀ b ∈ wr, s.heap.objs.size ≤ b) → Iter G A t it wr St → St ds s' F' → Q it s') →
    wpAny (model G.prog G.w) A (eval iter env) (fun x s1 => wpAny (model G.prog G.w) A (pyIter x) Q E s1) E s

/-- a loop's turns, one after the other -/
def Loop (G : Gx) (A : Around) (env : Env) (N : Nat) (t : Expr) (body : List Stmt) : List D → Ro → (Out → Prop) → Prop
  | [], ρ, P => P (.next ρ)
  | d :: ds, ρ, P => ∃ ρ0 ρ', ρ0.Sublist ρ ∧ Asg env N t d ρ0 ρ' ∧ Xs G A env N body ρ' fun o => match o with
    | .next ρ'' | .cont ρ'' => Loop G A env N t body ds ρ'' P
    | .brk ρ'' => P (.next ρ'')
    | .ret d => P (.ret d)

theorem keep_none {M : Addr → Prop} {s s' : Shared} {F F' : Fz} (k : Ex G M s F s' F') {b : Addr} (h : F b = none) (hlt : b < s.heap.objs.size) (hM : ¬ M b) : F' b = none := by
  cases e : F' b with
  | none => rfl
  | some o =>
    rcases k.fresh b o e with e' | e' | e'
    · rw [h] at e'; cases e'
    · exact absurd hlt (Nat.not_lt.mpr e')
    · exact absurd e' hM

theorem Ex.keep' {M : Addr → Prop} {s s' : Shared} {F F' : Fz} (x : Ex G M s F s' F') {b : Addr} {o : Obj} (hb : ¬ M b) (e : s.heap.get? b = some o) (t : isTab o = false) : s'.heap.get? b = some o := x.keep b o hb e t

/-- what a frame reads stands while other places change -/
def NotIn (env : Env) (ρ : Ro) (a : Addr) : Prop := a ≠ env.locals ∧ (∀ x, env.kindOf x = some .cell ∨ env.kindOf x = some .free → env.cells.lookup x ≠ some a) ∧ a ∉ owns ρ
theorem NotIn.mod {a : Addr} (h : NotIn env ρ a) : ¬ Mod env N ρ a := fun m => by
  rcases m with m | ⟨x, kx, m, _⟩ | m
  · exact h.1 m
  · exact h.2.1 x (.inl kx) m
  · exact h.2.2 m
theorem In.exM' {M : Addr → Prop} {s s' : Shared} {F F' : Fz} (i : In G env N s F ρ) (x : Ex G M s F s' F') (hM : ∀ a, M a → NotIn env ρ a) : In G env N s' F' ρ := by
  have nl : ¬ M env.locals := fun m => (hM _ m).1 rfl
  have nc : ∀ y c, (env.kindOf y = some .cell ∨ env.kindOf y = some .free) → env.cells.lookup y = some c → ¬ M c := fun y c k h m => (hM _ m).2.1 y k h
  have ns : ∀ {a m}, s.heap.Ns a m → ¬ M a → s'.heap.Ns a m := fun ⟨o, es, ep, ho, hd, r⟩ ha => ⟨o, es, ep, x.keep _ _ ha ho (isTab_dict hd), hd, r⟩
  have cell : ∀ {c v}, s.heap.IsCell c v → ¬ M c → s'.heap.IsCell c v := fun ⟨o, ho, hd⟩ hc => ⟨o, x.keep _ _ hc ho (isTab_cell hd), hd⟩
  have var : ∀ {y v}, VarAt env s.heap y v → VarAt env s'.heap y v := fun h => by
    rcases h with ⟨a, m, b, c⟩ | ⟨a, c, b, e⟩
    · exact .inl ⟨a, m, ns b nl, c⟩
    · exact .inr ⟨a, c, b, cell e (nc _ _ a b)⟩
  refine ⟨x.good, ⟨fun p hp => ?_, i.vars.names, i.vars.owns⟩, ⟨?_, fun y hy => ?_, ?_, fun y c k h hN => ?_⟩, i.own, Nat.le_trans i.size x.size⟩
  · have q := i.vars.at' p hp
    obtain ⟨y, e⟩ := p
    cases e with
    | v d => obtain ⟨v, a, r⟩ := q; exact ⟨v, var a, r.mono x.le⟩
    | own a ds =>
      obtain ⟨h1, h2, h3, vs, n, h4, h5⟩ := q
      have na : ¬ M a := fun m => (hM _ m).2.2 (owns_mem.mpr ⟨y, ds, hp⟩)
      exact ⟨var h1, keep_none x h2 (Heap.lt_size h4) na, h3, vs, n, x.keep _ _ na h4 rfl, h5.mono x.le⟩
  · obtain ⟨m, h⟩ := i.frm.ns; exact ⟨m, ns h nl⟩
  · obtain ⟨c, v, h1, h2⟩ := i.frm.cell y hy; exact ⟨c, v, h1, cell h2 (nc y c (.inl hy) h1)⟩
  · obtain ⟨m, o, _, _, ho, _⟩ := i.frm.ns; exact keep_none x i.frm.fl (Heap.lt_size ho) nl
  · obtain ⟨c', v, h1, o, ho, _⟩ := i.frm.cell y k
    rw [h] at h1; cases h1
    exact keep_none x (i.frm.fc y c k h hN) (Heap.lt_size ho) (nc y c (.inl k) h)

/-- places that are newer than the frame's are none of its own -/
theorem In.notIn {s : Shared} {F : Fz} (fr : FrOk G env N) (i : In G env N s F ρ) {b : Addr} (hb : s.heap.objs.size ≤ b) : NotIn env ρ b := by
  refine ⟨fun e => ?_, fun y k h => ?_, fun m => ?_⟩
  · subst e; obtain ⟨m, o, _, _, ho, _⟩ := i.frm.ns; exact absurd (Heap.lt_size ho) (Nat.not_lt.mpr hb)
  · rcases k with k | k
    · obtain ⟨c, v, h1, o, ho, _⟩ := i.frm.cell y k
      rw [h] at h1; cases h1
      exact absurd (Heap.lt_size ho) (Nat.not_lt.mpr hb)
    · exact absurd (Nat.lt_of_lt_of_le (fr.free y b k h) i.size) (Nat.not_lt.mpr hb)
  · obtain ⟨x, es, hm⟩ := owns_mem.mp m
    obtain ⟨_, _, _, _, _, ho, _⟩ := i.vars.at' _ hm
    exact absurd (Heap.lt_size ho) (Nat.not_lt.mpr hb)
theorem NotIn.sub {ρ' : Ro} {b : Addr} (h : NotIn env ρ b) (hs : ∀ a ∈ owns ρ', a ∈ owns ρ ∨ a ≠ b) : NotIn env ρ' b := ⟨h.1, h.2.1, fun m => (hs b m).elim h.2.2 fun q => q rfl⟩

theorem x_for {t iter : Expr} {body : List Stmt} {pos : Pos} {ds : List D} (hr : Room A 0) (fr : FrOk G env N) (hi : Items G A env ρ t iter ds) (hl : Loop G A env N t body ds ρ P)
    (hs : ∀ x, foldedSetIterable iter env x = pure x := by intro _; rfl) : X1 G A env N (.For t iter body [] pos) ρ P := .mk fun s F i Q E k => by
  refine wpAny_For (hi.run s F i.good i.vars _ _ fun it wr St s1 F1 x1 hwr W hst => ?_) hs
  have i1 := i.ex x1
  -- places of the iterator are none of the frame's
  have apart0 : ∀ b ∈ wr, NotIn env ρ b := fun b hb => i.notIn fr (hwr b hb)
  refine codeAny_forLoop_any (fun n s' => ∃ ds' ρ' F', n = ds'.length ∧ In G env N s' F' ρ' ∧ St ds' s' F' ∧ Loop G A env N t body ds' ρ' P ∧ Ex G (fun a => Mod env N ρ a ∨ a ∈ wr) s1 F1 s' F' ∧ 
      (∀ a ∈ owns ρ', a ∈ owns ρ ∨ s1.heap.objs.size ≤ a) ∧ ∀ b ∈ wr, NotIn env ρ' b) ?_ ds.length
    ⟨ds, ρ, F1, rfl, i1, hst, hl, Ex.refl i1.good, fun a ha => .inl ha, apart0⟩
  rintro n s2 ⟨ds2, ρ2, F2, rfl, i2, hst2, hl2, x2, ho2, ha2⟩
  have back : ∀ {s3 F3}, Ex G (fun a => Mod env N ρ a ∨ a ∈ wr) s1 F1 s3 F3 → Ex G (Mod env N ρ) s F s3 F3 := fun x => (x1.weaken fun _ f => f.elim).trans x fun a m => m.imp_right fun m => hwr a m
  cases ds2 with
  | nil =>
    refine W.done i2.good hst2 _ _ fun s3 F3 x3 => wpAny_execs_nil ?_
    have x3' := x2.trans x3 fun a m => .inl (.inr m)
    exact k (.next ρ2) .next s3 F3 hl2 (fun a ha => (ho2 a ha).imp_right fun q => Nat.le_trans x1.size q) (back x3') ⟨rfl, i2.exM' x3 ha2⟩
  | cons d ds2 =>
    obtain ⟨ρ2', ρ3, hsub, ha, hb⟩ := hl2
    have i2 := i2.sub hsub
    have ho2 : ∀ a ∈ owns ρ2', a ∈ owns ρ ∨ s1.heap.objs.size ≤ a := fun a h => ho2 a ((owns_sub hsub).subset h)
    have ha2 : ∀ b ∈ wr, NotIn env ρ2' b := fun b hb => (ha2 b hb).sub fun a m => .inl ((owns_sub hsub).subset m)
    refine W.item i2.good hst2 _ _ fun v s2' go => go _ _ fun s3 F3 x3 vt hv hst3 => ?_
    have i3 := i2.exM' x3 ha2
    have x3' := x2.trans x3 fun a m => .inl (.inr m)
    refine assign_ hr.handled fr i3 vt ha hv fun s4 x4 i4 => ?_
    have x4' := x3'.trans x4 fun a m => (mod_sub (n := s1.heap.objs.size) ho2 a m).imp_left .inl
    have hst4 := W.frame hst3 x4 fun b hb => (ha2 b hb).mod
    have hw4 : ∀ b ∈ wr, b < s4.heap.objs.size ∧ F3 b = none := W.un hst4
    have ho3 : ∀ a ∈ owns ρ3, a ∈ owns ρ ∨ s1.heap.objs.size ≤ a := fun a h => ho2 a (ha.owns.subset h)
    have ha3 : ∀ b ∈ wr, NotIn env ρ3 b := fun b hb => (ha2 b hb).sub fun a m => .inl (ha.owns.subset m)
    refine hb.run s4 F3 i4 _ _ fun o fl s5 F5 p w x5 ok => ?_
    have x5' := x4'.trans x5 fun a m => (mod_sub (n := s1.heap.objs.size) ho3 a m).imp_left .inl
    have fin : ∀ ρ5, OutOwn ρ3 s4.heap.objs.size (.next ρ5) → In G env N s5 F5 ρ5 → Loop G A env N t body ds2 ρ5 P → ∃ m, m < (d :: ds2).length ∧ ∃ ds' ρ' F', m = ds'.length ∧ In G env N s5 F' ρ' ∧ St ds' s5 F' ∧ Loop G A env N t body ds' ρ' P ∧ Ex G (fun a => Mod env N ρ a ∨ a ∈ wr) s1 F1 s5 F' ∧
      (∀ a ∈ owns ρ', a ∈ owns ρ ∨ s1.heap.objs.size ≤ a) ∧ ∀ b ∈ wr, NotIn env ρ' b := fun ρ5 w5 i5 l5 =>
      ⟨ds2.length, Nat.lt_succ_self _, ds2, ρ5, F5, rfl, i5, W.frame hst4 x5 fun b hb => (ha3 b hb).mod, l5, x5',
        fun a h => (w5 a h).elim (ho3 a) fun q => .inr (Nat.le_trans (Nat.le_trans x2.size (Nat.le_trans x3.size x4.size)) q), fun b hb => (ha3 b hb).sub fun a m => (w5 a m).imp_right fun q e => by subst e; exact absurd (hw4 a hb).1 (Nat.not_lt.mpr q)⟩
    have own5 : ∀ ρ5, OutOwn ρ3 s4.heap.objs.size (.next ρ5) → ∀ a ∈ owns ρ5, a ∈ owns ρ ∨ s.heap.objs.size ≤ a := fun ρ5 w5 a h => (w5 a h).elim (fun q => (ho3 a q).imp_right fun q => Nat.le_trans x1.size q) fun q => .inr (Nat.le_trans (Nat.le_trans x1.size (Nat.le_trans x2.size (Nat.le_trans x3.size x4.size))) q)
    cases o with
    | next ρ5 => obtain ⟨rfl, i5⟩ := ok; exact fin ρ5 w i5 p
    | cont ρ5 => obtain ⟨rfl, i5⟩ := ok; exact fin ρ5 w i5 p
    | brk ρ5 => obtain ⟨rfl, i5⟩ := ok; exact k (.next ρ5) .next s5 F5 p (own5 ρ5 w) (back x5') ⟨rfl, i5⟩
    | ret d => obtain ⟨v, rfl, r⟩ := ok; exact k (.ret d) (.ret v) s5 F5 p trivial (back x5') ⟨v, rfl, r⟩
theorem does_forget {t : Sem Flow} {ρ' : Ro} (hs : ρ'.Sublist ρ) (h : Does G A env N t ρ' P) : Does G A env N t ρ P := .mk fun s F i Q E k =>
  h.run s F (i.sub hs) Q E fun o fl s' F' p w x ok => k o fl s' F' p (w.trans (owns_le (owns_sub hs)) (Nat.le_refl _)) (x.weaken fun a m => by
    rcases m with m | m | m
    · exact .inl m
    · exact .inr (.inl m)
    · exact .inr (.inr ((owns_sub hs).subset m))) ok
end
end
/- B10 -/
section
section
variable {G : Gx} {A : Around} {env : Env} {N : Nat} {ρ : Ro} {P : Out → Prop}

theorem wpAny_While {M : Model} {A : Around} {env : Env} {test : Expr} {body orelse : List Stmt} {pos : Pos} {s : Shared} {Q : Flow → Shared → Prop} {E : Value → Shared → Prop}
    (h : codeAny M A (.whileLoop test body orelse env) (fun r s' => match r with | .ok f => Q f s' | .error e => cameBackBy M A env E e s') s) : wpAny M A (exec (.While test body orelse pos) env) Q E s := by
  show wpAny M A (standAt pos >>= fun _ => runOwn (.whileLoop test body orelse env) env) Q E s
  exact wpAny_bind (wpAny_standAt (wpAny_runOwn h))

/-- a while loop by a measure -/
theorem x_while {test : Expr} {body : List Stmt} {pos : Pos} (fr : FrOk G env N) (I : Nat → Ro → Prop)
    (step : ∀ n ρ', I n ρ' → ∃ b, Tests G A env ρ' test b ∧ (b = false → P (.next ρ')) ∧ (b = true → Xs G A env N body ρ' fun o => match o with
      | .next ρ'' | .cont ρ'' => ∃ m, m < n ∧ I m ρ''
      | .brk ρ'' => P (.next ρ'')
      | .ret d => P (.ret d))) (n : Nat) (h : I n ρ) : X1 G A env N (.While test body [] pos) ρ P := .mk fun s F i Q E k => by
  refine wpAny_While ?_
  refine codeAny_loop' rfl (fun n s' => ∃ ρ' F', I n ρ' ∧ In G env N s' F' ρ' ∧ Ex G (Mod env N ρ) s F s' F' ∧ ∀ a ∈ owns ρ', a ∈ owns ρ ∨ s.heap.objs.size ≤ a) ?_ n ⟨ρ, F, h, i, Ex.refl i.good, fun a ha => .inl ha⟩
  rintro n s2 ⟨ρ2, F2, hI, i2, x2, ho2⟩
  show wpAny _ _ ((whileTurn test body [] env).onRaise (fun x => do noteFrame x env; theTreesLotGoes x)) _ _ s2
  refine wpAny_noted ?_
  obtain ⟨b, ht, h0, h1⟩ := step n ρ2 hI
  unfold whileTurn
  refine wpAny_bind (ht.run s2 F2 i2.good i2.vars _ _ fun s3 F3 x3 => ?_)
  have x3' := x2.trans (x3.weaken (M' := nowhere) fun _ f => f) fun a f => f.elim
  cases b with
  | false => exact wpAny_bind (wpAny_execs_nil (wpAny_pure (k (.next ρ2) .next s3 F3 (h0 rfl) ho2 x3' ⟨rfl, i2.ex x3⟩)))
  | true =>
    refine wpAny_bind ((h1 rfl).run s3 F3 (i2.ex x3) _ _ fun o fl s5 F5 p w x5 ok => ?_)
    have x5' := x3'.trans x5 fun a m => mod_sub (n := s.heap.objs.size) ho2 a m
    have own5 : ∀ ρ5, OutOwn ρ2 s3.heap.objs.size (.next ρ5) → ∀ a ∈ owns ρ5, a ∈ owns ρ ∨ s.heap.objs.size ≤ a := fun ρ5 w5 a h => (w5 a h).elim (ho2 a) fun q => .inr (Nat.le_trans x3'.size q)
    cases o with
    | next ρ5 => obtain ⟨rfl, i5⟩ := ok; obtain ⟨m, hm, hI'⟩ := p; exact wpAny_pure (.inl ⟨rfl, m, hm, ρ5, F5, hI', i5, x5', own5 ρ5 w⟩)
    | cont ρ5 => obtain ⟨rfl, i5⟩ := ok; obtain ⟨m, hm, hI'⟩ := p; exact wpAny_pure (.inl ⟨rfl, m, hm, ρ5, F5, hI', i5, x5', own5 ρ5 w⟩)
    | brk ρ5 => obtain ⟨rfl, i5⟩ := ok; exact wpAny_pure (k (.next ρ5) .next s5 F5 p (own5 ρ5 w) x5' ⟨rfl, i5⟩)
    | ret d => obtain ⟨v, rfl, r⟩ := ok; exact wpAny_pure (k (.ret d) (.ret v) s5 F5 p trivial x5' ⟨v, rfl, r⟩)

/-- a new list that the frame owns -/
theorem x_new {x : Str} {px pos p : Pos} {es : List Expr} {ds : List D} {ρ' : Addr → Ro} (fr : FrOk G env N) (hl : EvalsL G A env ρ es ds) (hk : Holds env N x) (hp : ∀ a, Put x (.own a ds) ρ (ρ' a)) (h : ∀ a, P (.next (ρ' a)))
    (hz : ds.length ≤ 1000 := by decide) (hs : NoStar p es env := by rfl) (hw : swapsWith (.List es p) (some (.Name x px)) pos.line env = pure false := by rfl) : X1 G A env N (.Assign [.Name x px] (.List es p) pos) ρ P := .mk fun s F i Q E k => by
  refine wpAny_Assign_Name ?_ hw
  refine wpAny_List ?_
  rw [hs]
  refine spl_ es ds hl s F i.good i.vars _ _ fun vs s1 F1 x1 r1 => ⟨by rw [r1.length, sizeLine_eq]; walk_at "m_om", ?_⟩
  have i1 := i.ex x1
  have g1 := x1.good
  have e1 : ∀ {M : Addr → Prop}, Ex G M s1 F1 { s1 with heap := s1.heap.push (lObj vs 0), toks := s1.toks } F1 := ex_heap g1 (fun _ _ e => Heap.get?_push_of_some _ e) (by rw [Heap.size_push]; walk_at "m_om")
  have fresh : s1.heap.objs.size ∉ owns ρ := fun m => by
    obtain ⟨y, es, hm⟩ := owns_mem.mp m
    obtain ⟨_, _, _, _, _, ho, _⟩ := i1.vars.at' _ hm
    exact absurd (Heap.lt_size ho) (Nat.lt_irrefl _)
  obtain ⟨hO, hOs⟩ := (hp s1.heap.objs.size).owns_own i1.vars.owns fresh
  refine storeE (e := .own s1.heap.objs.size ds) fr (i1.ex e1) hk (fun h' hv hl => ⟨hv, g1.none_of (Nat.le_refl _), Nat.le_trans fr.base i1.size, vs, 0, hl _ _ _ (Heap.get?_push_size _ rfl), r1⟩) hO (fun a ha => (hOs a ha).elim (fun e => e ▸ i1.size) (i1.own a)) (hp s1.heap.objs.size) fun s2 x2 i2 => ?_
  exact k (.next (ρ' s1.heap.objs.size)) .next s2 F1 (h _) (fun a ha => (hOs a ha).elim (fun e => .inr (e ▸ x1.size)) .inl) ((x1.weaken fun _ f => f.elim).trans' (e1.trans' x2)) ⟨rfl, i2⟩

/-- the last use of an owned list as one that changes -/
theorem Fz.put_le' {F : Fz} {a : Addr} (h : F a = none) (o : Obj) : F.le (F.put a o) := fun b o' q => by
  unfold Fz.put
  by_cases hb : b = a
  · subst hb; rw [h] at q; cases q
  · rw [if_neg hb]; exact q
theorem does_freeze {t : Sem Flow} {x : Str} {a : Addr} {ds : List D} {ρ' : Ro} (fr : FrOk G env N) (hx : (x, En.own a ds) ∈ ρ) (hp : Put x (.v (.lst ds)) ρ ρ') (h : Does G A env N t ρ' P) : Does G A env N t ρ P := .mk fun s F i Q E k => by
  obtain ⟨hv, hF, hb, vs, n, ho, hl⟩ := i.vars.at' _ hx
  have hle : F.le (F.put a (lObj vs n)) := Fz.put_le' hF _
  have hfz : ∀ b o, F.put a (lObj vs n) b = some o → s.heap.get? b = some o := fun b o e => by
    unfold Fz.put at e
    by_cases q : b = a
    · subst q; rw [if_pos rfl] at e; cases e; exact ho
    · rw [if_neg q] at e; exact i.good.fz b o e
  have hnt : ∀ b o, F.put a (lObj vs n) b = some o → isTab o = false := fun b o e => by
    unfold Fz.put at e
    by_cases q : b = a
    · rw [if_pos q] at e; cases e; rfl
    · rw [if_neg q] at e; exact i.good.nt b o e
  have g' : Good G s (F.put a (lObj vs n)) := { i.good with fz := hfz, nt := hnt, ff := i.good.ff.trans hle }
  have x1 : Ex G (Mod env N ρ) s F s (F.put a (lObj vs n)) := ⟨Nat.le_refl _, fun _ _ _ e _ => e, fun _ _ e _ => .inl e, hle, fun b o e => by
    unfold Fz.put at e
    by_cases q : b = a
    · subst q; exact .inr (.inr (.inr (.inr (owns_mem.mpr ⟨x, ds, hx⟩))))
    · rw [if_neg q] at e; exact .inl e, g', fun _ _ e => e⟩
  have na : a ≠ env.locals := fun q => by
    subst q; obtain ⟨m, o, _, _, ho', hd, _⟩ := i.frm.ns; rw [ho] at ho'; cases ho'; cases hd
  have noneAt : ∀ b, F b = none → b ≠ a → F.put a (lObj vs n) b = none := fun b e q => by unfold Fz.put; rw [if_neg q]; exact e
  have hsub := hp.owns_v
  have nodup := i.vars.owns
  have names := i.vars.names
  have nota : ∀ y e, (y, e) ∈ ρ' → ∀ b es, e = En.own b es → b ≠ a := by
    intro y e hm b es he q
    subst he; subst q
    rcases hp.mem names _ hm with q | ⟨hm', hne⟩
    · cases q
    · -- two names own one list
      have : ∀ (ρ : Ro), (owns ρ).Nodup → ∀ y es x ds, (y, En.own b es) ∈ ρ → (x, En.own b ds) ∈ ρ → y = x := by
        intro ρ hn y es x ds h1 h2
        induction ρ with
        | nil => cases h1
        | cons p ρ ih =>
          rcases List.mem_cons.mp h1 with e1 | e1 <;> rcases List.mem_cons.mp h2 with e2 | e2
          · rw [← e1] at e2; cases e2; rfl
          · subst e1; rw [owns_cons_own] at hn
            exact absurd (owns_mem.mpr ⟨_, _, e2⟩) (List.nodup_cons.mp hn).1
          · subst e2; rw [owns_cons_own] at hn
            exact absurd (owns_mem.mpr ⟨_, _, e1⟩) (List.nodup_cons.mp hn).1
          · exact ih (hn.sublist owns_cons) e1 e2
      exact hne (this ρ nodup y es x ds hm' hx)
  refine h.run s (F.put a (lObj vs n)) ⟨g', ⟨fun p hm => ?_, hp.nodup names, nodup.sublist hsub⟩, ⟨i.frm.ns, i.frm.cell, noneAt _ i.frm.fl (Ne.symm na), fun y c ky hc hN => ?_⟩, fun b hb => i.own b (hsub.subset hb), i.size⟩ Q E fun o fl s' F' p w x ok => ?_
  · rcases hp.mem names p hm with rfl | ⟨hm', hne⟩
    · exact ⟨.ref a, hv, .lst (Fz.put_self ..) (hl.mono hle)⟩
    · have q := i.vars.at' p hm'
      obtain ⟨y, e⟩ := p
      cases e with
      | v d => obtain ⟨v, av, r⟩ := q; exact ⟨v, av, r.mono hle⟩
      | own b es =>
        obtain ⟨h1, h2, h3, us, m, h4, h5⟩ := q
        exact ⟨h1, noneAt b h2 (nota _ _ hm b es rfl), h3, us, m, h4, h5.mono hle⟩
  · refine noneAt c (i.frm.fc y c ky hc hN) fun q => ?_
    subst q
    obtain ⟨c', v', h1, o, ho', hd⟩ := i.frm.cell y ky
    rw [hc] at h1; cases h1; rw [ho] at ho'; cases ho'; cases hd
  · refine k o fl s' F' p (w.trans (owns_le hsub) (Nat.le_refl _)) (x1.trans x fun b m => ?_) ok
    rcases m with m | m | m
    · exact .inl (.inl m)
    · exact .inl (.inr (.inl m))
    · exact .inl (.inr (.inr (hsub.subset m)))

/-- append to an owned list -/
theorem x_append {x : Str} {p apos cpos pos : Pos} {a : Addr} {ds : List D} {d : D} {e : Expr} {ρ' : Ro} (fr : FrOk G env N) (hx : (x, En.own a ds) ∈ ρ) (he : Evals G A env ρ e d) (hp : Put x (.own a (ds ++ [d])) ρ ρ') (h : P (.next ρ')) (hz : ds.length ≤ 16777216)
    (hbase : attributeBase (.Name x p) "append" env (eval (.Name x p) env) = eval (.Name x p) env := by rfl) (hst : starEach [e] env = [(false, eval e env)] := by rfl) (hline : (apos.endLine == cpos.line) = true := by rfl)
    (hi : interactive env = false := by rfl) (hs : swapsWith (.Call (.Attribute (.Name x p) "append" apos) [e] [] cpos) none pos.line env = pure false := by rfl) :
    X1 G A env N (.Expr (.Call (.Attribute (.Name x p) "append" apos) [e] [] cpos) pos) ρ P := .mk fun s F i Q E k => by
  refine wpAny_Expr ?_ hi hs
  rw [arm_eval_Call, hbase]
  obtain ⟨va, hF, hb, vs, n, ho, hl⟩ := i.vars.at' _ hx
  refine wpAny_bind (wpAny_Name (load_var fr.toEnvF va rfl (wpAny_bind (wpAny_standAt ?_))) (va.dbg fr.toEnvF))
  have hform : methodCallForm (([e] : List Expr).length + ([] : List Keyword).length) (backTo cpos (starEach [e] env)) (backToKw cpos (keywordEach [] env)) = true := by rw [hst]; rfl
  have hpos : methodCallPos true (.Name x p) env apos cpos = pure cpos := by unfold methodCallPos; simp [hline]
  unfold methodCall
  rw [hform]
  refine wpAny_bind (wpAny_holding ?_)
  show wpAny _ _ (getMethod (.ref a) (Str.ofString "append") _) _ _ _
  refine getMethod_list_append ho rfl rfl ?_
  refine wpAny_bind (wpAny_of_eq hpos ?_)
  refine callWith_method1 ?_ hst rfl
  rw [hst]
  refine spliced_cons (he.run s F i.good i.vars _ _ fun v s1 F1 x1 r1 => spliced_nil ?_)
  have i1 := i.ex x1
  have g1 := x1.good
  have ho1 : s1.heap.get? a = some (lObj vs n) := x1.keep _ _ id ho rfl
  have hF1 : F1 a = none := keep_none x1 hF (Heap.lt_size ho) id
  refine wpAny_list_append_plain (items := vs.toArray) ⟨n, ho1⟩ (fun h' hpl hsb => ?_) (by rw [List.size_toArray, hl.length, sizeLine_eq]; exact hz)
  obtain ⟨n', ho'⟩ := hpl
  have e' : vs.toArray.push v = (vs ++ [v]).toArray := by simp
  rw [e'] at ho'
  have ex : Ex G (Mod env N ρ) s1 F1 { s1 with heap := h', toks := s1.toks } F1 := ex_at g1 hsb hb hF1 ho1 rfl rfl (.inr (.inr (owns_mem.mpr ⟨x, ds, hx⟩)))
  have own' : ∀ {a' : Addr} {y es}, (y, En.own a' es) ∈ ρ' → a' ∈ owns ρ := by
    intro a' y es hm
    rcases hp.mem i1.vars.names _ hm with q | ⟨hm', _⟩
    · cases q; exact owns_mem.mpr ⟨x, ds, hx⟩
    · exact owns_mem.mpr ⟨y, es, hm'⟩
  have na : a ≠ env.locals := fun q => by
    subst q; obtain ⟨m, o, _, _, ho', hd, _⟩ := i1.frm.ns; rw [ho1] at ho'; cases ho'; cases hd
  have nc : ∀ c v, s1.heap.IsCell c v → c ≠ a := fun c v ⟨o, q1, q2⟩ q => by subst q; rw [ho1] at q1; cases q1; cases q2
  have var : ∀ {y v}, VarAt env s1.heap y v → VarAt env h' y v := fun h => by
    rcases h with ⟨q, m, b, c⟩ | ⟨q, c, b, e⟩
    · exact .inl ⟨q, m, b.sameBut hsb (Ne.symm na), c⟩
    · exact .inr ⟨q, c, b, e.sameBut hsb (nc _ _ e)⟩
  have ownsEq : ∀ {ρ ρ' : Ro}, (ρ.map (·.1)).Nodup → Put x (.own a (ds ++ [d])) ρ ρ' → (x, En.own a ds) ∈ ρ → owns ρ' = owns ρ := by
    intro ρ ρ' hn hp hx
    induction hp with
    | nil => cases hx
    | @head e' ρ =>
      rcases List.mem_cons.mp hx with q | q
      · cases q; rfl
      · exact absurd (List.mem_map_of_mem (f := (·.1)) q) (List.nodup_cons.mp hn).1
    | @tail y e' ρ ρ' hne hp ih =>
      rcases List.mem_cons.mp hx with q | q
      · cases q; exact absurd rfl hne
      · have := ih (List.nodup_cons.mp hn).2 q
        cases e' with
        | v d => exact this
        | own b es => rw [owns_cons_own, owns_cons_own, this]
  have oe := ownsEq i1.vars.names hp hx
  refine k (.next ρ') .next { s1 with heap := h', toks := s1.toks } F1 h (fun b hb => .inl (oe ▸ hb)) ((x1.weaken fun _ f => f.elim).trans' ex) ⟨rfl, ex.good, ⟨fun p hm => ?_, hp.nodup i1.vars.names, oe ▸ i1.vars.owns⟩, ⟨?_, fun y hy => ?_, i1.frm.fl, i1.frm.fc⟩, fun b hb => i1.own b (oe ▸ hb), Nat.le_trans i1.size ex.size⟩
  · rcases hp.mem i1.vars.names p hm with rfl | ⟨hm', hne⟩
    · exact ⟨var (va.kp x1.kp), hF1, hb, vs ++ [v], n', ho', (hl.mono x1.le).append (.cons r1 .nil)⟩
    · have q := i1.vars.at' p hm'
      obtain ⟨y, e⟩ := p
      cases e with
      | v d => obtain ⟨u, hu, ru⟩ := q; exact ⟨u, var hu, ru⟩
      | own b es =>
        obtain ⟨h1, h2, h3, us, m, h4, h5⟩ := q
        refine ⟨var h1, h2, h3, us, m, (hsb.2 b fun q => ?_).trans h4, h5⟩
        subst q
        have : ∀ (ρ : Ro), (owns ρ).Nodup → ∀ y es x ds, (y, En.own b es) ∈ ρ → (x, En.own b ds) ∈ ρ → y = x := by
          intro ρ hn y es x ds h1 h2
          induction ρ with
          | nil => cases h1
          | cons p ρ ih =>
            rcases List.mem_cons.mp h1 with e1 | e1 <;> rcases List.mem_cons.mp h2 with e2 | e2
            · rw [← e1] at e2; cases e2; rfl
            · subst e1; rw [owns_cons_own] at hn
              exact absurd (owns_mem.mpr ⟨_, _, e2⟩) (List.nodup_cons.mp hn).1
            · subst e2; rw [owns_cons_own] at hn
              exact absurd (owns_mem.mpr ⟨_, _, e1⟩) (List.nodup_cons.mp hn).1
            · exact ih (hn.sublist owns_cons) e1 e2
        exact hne (this ρ i1.vars.owns y es x ds hm' hx)
  · obtain ⟨m, hn⟩ := i1.frm.ns; exact ⟨m, hn.sameBut hsb (Ne.symm na)⟩
  · obtain ⟨c, v, h1, h2⟩ := i1.frm.cell y hy; exact ⟨c, v, h1, h2.sameBut hsb (nc _ _ h2)⟩
end
end
/- B11 -/
section
section
variable {G : Gx} {A : Around} {env : Env} {N : Nat} {ρ : Ro} {P : Out → Prop}

/-- several places changed at once -/
theorem ex_wr {s : Shared} {F : Fz} (g : Good G s F) {h' : Heap} {tk : Nat} {W M : Addr → Prop} (k : ∀ b o, ¬ W b → s.heap.get? b = some o → h'.get? b = some o) (hz : s.heap.objs.size ≤ h'.objs.size)
    (hW : ∀ b, W b → G.h₁.objs.size ≤ b ∧ F b = none ∧ ∀ o, s.heap.get? b = some o → isTab o = false ∧ codey o = false) (hM : ∀ b, W b → M b) (ht : s.toks ≤ tk) : Ex G M s F { s with heap := h', toks := tk } F := by
  have tabk : ∀ b o, s.heap.get? b = some o → isTab o = true → h'.get? b = some o := fun b o e t => k b o (fun w => by rw [((hW b w).2.2 o e).1] at t; cases t) e
  have ck : ∀ b o, s.heap.get? b = some o → codey o = true → h'.get? b = some o := fun b o e t => k b o (fun w => by rw [((hW b w).2.2 o e).2] at t; cases t) e
  have low : ∀ b, b < G.h₁.objs.size → ¬ W b := fun b hb w => absurd hb (Nat.not_lt.mpr (hW b w).1)
  have st : ∀ {b m}, s.heap.Ns b m → b < G.h₁.objs.size → h'.Ns b m := fun ⟨o, es, ep, ho, r⟩ hb => ⟨o, es, ep, k _ _ (low _ hb) ho, r⟩
  refine ⟨hz, fun b o n e _ => k b o (fun w => n (hM b w)) e, fun b o e t => .inl (tabk b o e t), Fz.le.refl F, fun _ _ e => .inl e, ⟨⟨Nat.le_trans g.base.size hz, fun b o e t => ?_, fun b o e t => ?_⟩, st g.g G.low.1, st g.b G.low.2.1, ?_, g.bare, Nat.le_trans g.toks ht, g.os, fun b o e => ?_, g.nt, g.ff, G.invK _ _ g.inv ck⟩, fun _ _ e => e⟩
  · exact k b o (low b (Heap.lt_size e)) (g.base.keep b o e t)
  · rcases g.base.tab b o e t with q | ⟨x, vs, more, y, q⟩
    · exact .inl (k b o (low b (Heap.lt_size e)) q)
    · exact .inr ⟨x, vs, more, y, k b _ (low b (Heap.lt_size e)) q⟩
  · obtain ⟨mc, hn, e⟩ := g.nolimit
    exact ⟨mc, st hn G.low.2.2, e⟩
  · refine k b o (fun w => ?_) (g.fz b o e)
    rw [(hW b w).2.1] at e; cases e

def Plainly (h : Heap) (b : Addr) : Prop := ∃ T o, h.get? b = some o ∧ o.cls = .type T ∧ codey o = false

/-- the library's walks as iterators here -/
structure StW (G : Gx) (fp wr : List Addr) (n : Nat) (P : Nat → Value → Prop) (St : Nat → Heap → Prop) (ds : List D) (s : Shared) (F : Fz) : Prop where
  at' : ∃ i, St i s.heap ∧ i + ds.length = n ∧ ∀ j d v, ds[j]? = some d → P (i + j) v → Rd F v d
  old : ∀ b ∈ fp, b ∉ wr → ∃ o, F b = some o ∧ s.heap.get? b = some o
  un : ∀ b ∈ wr, b < s.heap.objs.size ∧ F b = none
  base : ∀ b ∈ wr, G.h₁.objs.size ≤ b

theorem Iter.of_walks {t : Expr} {I : Addr} {fp wr : List Addr} {n : Nat} {P : Nat → Value → Prop} {St : Nat → Heap → Prop} (W : Walks G.prog G.w A I fp wr n P St) (hw : ∀ i h, St i h → ∀ b ∈ wr, Plainly h b)
    (hgo : ∀ i v (s : Shared) (Q : Unit → Shared → Prop) (E : Value → Shared → Prop), St i s.heap → (isName t = false → ∃ a, v = Value.ref a) → Q () s → wpAny (model G.prog G.w) A (letOwnedTupleGo t (.ref I) v) Q E s) (hv : isName t = false → ∀ i v, P i v → ∃ a, v = Value.ref a) :
    Iter G A t (.ref I) wr (StW G fp wr n P St) where
  un := fun st => st.un
  frame := fun {ds s F s' F' M} st x hM => by
    obtain ⟨i, h1, h2, h3⟩ := st.at'
    have kp : ∀ b ∈ fp, ∀ o, s.heap.get? b = some o → s'.heap.get? b = some o := fun b hb o e => by
      by_cases hbw : b ∈ wr
      · obtain ⟨T, o', e', hc, _⟩ := hw i _ h1 b hbw
        rw [e] at e'; cases e'
        exact x.keep b o (hM b hbw) e (isTab_cls hc)
      · obtain ⟨o', e1, e2⟩ := st.old b hb hbw
        rw [e] at e2; cases e2
        exact x.good.fz b _ (x.le b _ e1)
    refine ⟨⟨i, W.frame _ _ _ h1 kp, h2, fun j d v e p => (h3 j d v e p).mono x.le⟩, fun b hb hbw => ?_, fun b hb => ?_, st.base⟩
    · obtain ⟨o, e1, e2⟩ := st.old b hb hbw; exact ⟨o, x.le b o e1, kp b hb o e2⟩
    · exact ⟨Nat.lt_of_lt_of_le (st.un b hb).1 x.size, keep_none x (st.un b hb).2 (st.un b hb).1 (hM b hb)⟩
  item := fun {d ds s F} g st Q E k => by
    obtain ⟨i, h1, h2, h3⟩ := st.at'
    refine wpAny_grows (W.item i s _ _ (by simp at h2; walk_at "m_om") h1 fun v h' tk hp hst hk hz ht => ?_)
    have x : Ex G (· ∈ wr) s F { s with heap := h', toks := tk } F := ex_wr g hk hz (fun b hb => ⟨st.base b hb, (st.un b hb).2, fun o e => by
      obtain ⟨T, o', e', hc, hcc⟩ := hw i _ h1 b hb
      rw [e] at e'; cases e'; exact ⟨isTab_cls hc, hcc⟩⟩) (fun _ hb => hb) ht
    refine k v _ fun Q' E' k' => hgo (i + 1) v _ Q' E' hst (fun hn => hv hn i v hp) (k' _ F x (.rd (h3 0 d v rfl hp)) (fun _ => h3 0 d v rfl hp) ⟨⟨i + 1, hst, by simp at h2 ⊢; walk_at "m_om", fun j d' v' e p => h3 (j + 1) d' v' (by simpa using e) (by rw [show i + (j + 1) = i + 1 + j by walk_at "m_om"]; exact p)⟩, fun b hb hbw => ?_, fun b hb => ⟨Nat.lt_of_lt_of_le (st.un b hb).1 hz, (st.un b hb).2⟩, st.base⟩)
    obtain ⟨o, e1, e2⟩ := st.old b hb hbw; exact ⟨o, e1, hk b o hbw e2⟩
  done := fun {s F} g st Q E k => by
    obtain ⟨i, h1, h2, h3⟩ := st.at'
    have : i = n := by simpa using h2
    subst this
    refine wpAny_grows (W.done s _ _ h1 fun h' tk hk hz ht => k _ F (ex_wr g hk hz (fun b hb => ⟨st.base b hb, (st.un b hb).2, fun o e => by
      obtain ⟨T, o', e', hc, hcc⟩ := hw i _ h1 b hb
      rw [e] at e'; cases e'; exact ⟨isTab_cls hc, hcc⟩⟩) (fun _ hb => hb) ht))
  self := fun {ds s F} g st Q E k => by
    obtain ⟨i, h1, h2, h3⟩ := st.at'
    exact W.self i s Q E h1 k

theorem go_name {t : Expr} (hn : isName t = true) (I v : Value) : letOwnedTupleGo t I v = pure () := by
  cases t <;> first | exact absurd hn Bool.false_ne_true | rfl

/-- targets of loops: a name or a tuple -/
def okTgt : Expr → Bool
  | .Name _ _ => true
  | .Tuple _ _ _ => true
  | _ => false

theorem codey_iter {T : String} {o : Obj} (hc : o.cls = .type T) (h : (T == "code") = false) : codey o = false := by
  unfold codey; rw [hc]
  cases o.data <;> first | rfl | exact h

theorem isRef_of_tup {F : Fz} {v : Value} {d : D} (h : Rd F v d) (hd : ∃ l, d = .tup l) : ∃ a, v = Value.ref a := by
  obtain ⟨l, rfl⟩ := hd
  cases h with
  | tup => exact ⟨_, rfl⟩

theorem it_list {t iter : Expr} {ds : List D} (hr : Room A 0) (he : Evals G A env ρ iter (.lst ds)) (hok : okTgt t = true := by rfl) (ht : isName t = false → ∀ d ∈ ds, ∃ l, d = .tup l := by intro h; exact absurd h (by decide)) : Items G A env ρ t iter ds := .mk fun s F g hv Q E k =>
  he.run s F g hv _ _ fun v s1 F1 x1 r1 => by
    cases r1 with
    | @lst a vs n _ hF hl =>
      have g1 := x1.good
      refine list_walk (A' := A) hr.handled g1 hF fun s₂ e2 W st hfp kp hne => ?_
      have x2 : Ex G nowhere s1 F1 s₂ F1 := by
        have := ex_heap (M := nowhere) (tk := s1.toks) g1 (h' := s₂.heap) kp (by rw [e2]; show s1.heap.objs.size ≤ (s1.heap.push _).objs.size; rw [Heap.size_push]; walk_at "m_om")
        rwa [show s₂ = { s1 with heap := s₂.heap, toks := s1.toks } by rw [e2]]
      have hat : ∀ j d v, ds[j]? = some d → vs.toArray[0 + j]? = some v → Rd F1 v d := fun j d v e p => by
        obtain ⟨u, hu, r⟩ := hl.get e
        rw [Nat.zero_add] at p
        have : vs[j]? = some v := by simpa using p
        rw [hu] at this; cases this; exact r
      refine k (.ref s1.heap.objs.size) [s1.heap.objs.size] (StW G [s1.heap.objs.size, a] [s1.heap.objs.size] vs.toArray.size (fun i v => vs.toArray[i]? = some v) (fun i h => h.IsListIter s1.heap.objs.size a i ∧ h.IsList a vs.toArray)) s₂ F1 (x1.trans' x2) (fun b hb => by rw [List.mem_singleton] at hb; subst hb; exact x1.size) ?_ ?_
      · -- of walks
        have : ∀ (i : Nat) (v : Value), vs.toArray[i]? = some v → isName t = false → ∃ a, v = Value.ref a := fun i v e hn => by
          have e' : vs[i]? = some v := by simpa using e
          have hi : i < ds.length := by rw [← hl.length]; exact (List.getElem?_eq_some_iff.mp e').1
          have r := hat i ds[i] v (by simp [hi]) (by rw [Nat.zero_add]; exact e)
          exact isRef_of_tup r (ht hn _ (List.getElem_mem hi))
        refine Iter.of_walks W (fun i h st b hb => ?_) (fun i v s Q E st hn q => ?_) (fun hn i v p => this i v p hn)
        · rw [List.mem_singleton] at hb; subst hb
          obtain ⟨o, ho, hc, hd⟩ := st.1
          exact ⟨_, o, ho, hc, codey_iter hc rfl⟩
        · cases t <;> first | exact absurd hok Bool.false_ne_true | skip
          · exact wpAny_of_eq (go_name rfl _ _) q
          · obtain ⟨b, rfl⟩ := hn rfl
            exact wpAny_letOwnedTupleGo_listiter st.1 q
      · have hlt : a < s1.heap.objs.size := g1.lt hF
        refine ⟨⟨0, st, by rw [List.size_toArray, hl.length, Nat.zero_add], hat⟩, fun b hb hbw => ?_, fun b hb => ?_, fun b hb => ?_⟩
        · rcases List.mem_cons.mp hb with rfl | hb
          · exact absurd (List.mem_singleton.mpr rfl) hbw
          · rw [List.mem_singleton] at hb; subst hb
            exact ⟨_, hF, kp _ _ (g1.fz _ _ hF)⟩
        · rw [List.mem_singleton] at hb; subst hb
          exact ⟨hfp _ (by simp), g1.none_of (Nat.le_refl _)⟩
        · rw [List.mem_singleton] at hb; subst hb
          exact g1.base.size

/-- signs of a text -/
def signs (x : Str) : List D := x.cps.toList.map fun c => .str ⟨#[c]⟩
theorem it_str {xn : Str} {px : Pos} {iter : Expr} {x : Str} (hr : Room A 0) (he : Evals G A env ρ iter (.str x)) : Items G A env ρ (.Name xn px) iter (signs x) := .mk fun s F g hv Q E k =>
  he.run s F g hv _ _ fun v s1 F1 x1 r1 => by
    cases r1 with
    | @str _ u =>
      have g1 := x1.good
      have main : ∀ (T : String) (o : Obj), (T == "code") = false → o.cls = .type T → o.data = .fields #[.str x u, .int 0 0] → (Walks G.prog G.w A s1.heap.objs.size [s1.heap.objs.size] [s1.heap.objs.size] x.cps.size (SignAt x) (fun i h => h.IsStrIter s1.heap.objs.size T x u i)) → (s1.heap.push o).IsStrIter s1.heap.objs.size T x u 0 → 
          Q (.ref s1.heap.objs.size) { s1 with heap := s1.heap.push o } := by
        intro T o hT hc hd W st
        have x2 : Ex G nowhere s1 F1 { s1 with heap := s1.heap.push o, toks := s1.toks } F1 := ex_heap g1 (fun _ _ e => Heap.get?_push_of_some _ e) (by rw [Heap.size_push]; walk_at "m_om")
        refine k (.ref s1.heap.objs.size) [s1.heap.objs.size] (StW G [s1.heap.objs.size] [s1.heap.objs.size] x.cps.size (SignAt x) (fun i h => h.IsStrIter s1.heap.objs.size T x u i)) _ F1 (x1.trans' x2) (fun b hb => by rw [List.mem_singleton] at hb; subst hb; exact x1.size) ?_ ?_
        · refine Iter.of_walks W (fun i h st b hb => ?_) (fun i v s Q E st hn q => wpAny_of_eq (go_name rfl _ _) q) (fun hn => by cases hn)
          rw [List.mem_singleton] at hb; subst hb
          obtain ⟨o, ho, hc, _⟩ := st
          exact ⟨_, o, ho, hc, codey_iter hc hT⟩
        · refine ⟨⟨0, st, by simp [signs], fun j d v e p => ?_⟩, fun b hb hbw => absurd hb hbw, fun b hb => ?_, fun b hb => ?_⟩
          · obtain ⟨c, u', h1, rfl⟩ := p
            rw [Nat.zero_add] at h1
            have : d = .str ⟨#[c]⟩ := by
              unfold signs at e
              rw [List.getElem?_map] at e
              have : x.cps.toList[j]? = some c := by simpa using h1
              rw [this] at e
              exact (Option.some.inj e).symm
            subst this; exact .str
          · rw [List.mem_singleton] at hb; subst hb
            exact ⟨by show _ < (s1.heap.push o).objs.size; rw [Heap.size_push]; walk_at "m_om", g1.none_of (Nat.le_refl _)⟩
          · rw [List.mem_singleton] at hb; subst hb
            exact g1.base.size
      cases ha : x.cps.all (· < 128)
      · exact wpAny_pyIter_wide ha (main "str_iterator" _ rfl rfl rfl (Walks.strWide hr.handled _ x u) ⟨_, Heap.get?_push_size _ rfl, rfl, rfl⟩)
      · exact wpAny_pyIter_ascii ha (main "str_ascii_iterator" _ rfl rfl rfl (Walks.strAscii hr.handled _ x u) ⟨_, Heap.get?_push_size _ rfl, rfl, rfl⟩)
end
end
/- B12 -/
section
section
variable {G : Gx} {A : Around} {env : Env} {N : Nat} {ρ : Ro} {P : Out → Prop}

/-- one fresh iterator object over old or no frozen place -/
theorem it_one {t : Expr} {s1 : Shared} {F1 : Fz} (g1 : Good G s1 F1) {h' : Heap} {tk : Nat} {I : Addr} {old : List Addr} {n : Nat} {Pn : Nat → Value → Prop} {St : Nat → Heap → Prop} {ds : List D} (W : Walks G.prog G.w A I (I :: old) [I] n Pn St)
    (kp : ∀ b o, s1.heap.get? b = some o → h'.get? b = some o) (hI : s1.heap.objs.size ≤ I) (hlt : I < h'.objs.size) (hz : s1.heap.objs.size ≤ h'.objs.size) (ht : s1.toks ≤ tk)
    (hp : ∀ i h, St i h → Plainly h I) (hn : isName t = true) (hst : St 0 h') (hlen : ds.length = n) (hd : ∀ j d v, ds[j]? = some d → Pn j v → Rd F1 v d) (hold : ∀ b ∈ old, ∃ o, F1 b = some o)
    {s : Shared} {F : Fz} (x1 : Ex G nowhere s F s1 F1) {Q : Value → Shared → Prop}
    (k : ∀ it wr St s' F', Ex G nowhere s F s' F' → (∀ b ∈ wr, s.heap.objs.size ≤ b) → Iter G A t it wr St → St ds s' F' → Q it s') : Q (.ref I) { s1 with heap := h', toks := tk } := by
  have x2 : Ex G nowhere s1 F1 { s1 with heap := h', toks := tk } F1 := ex_heap g1 kp hz ht
  refine k (.ref I) [I] (StW G (I :: old) [I] n Pn St) _ F1 (x1.trans' x2) (fun b hb => by rw [List.mem_singleton] at hb; subst hb; exact Nat.le_trans x1.size hI) ?_ ?_
  · refine Iter.of_walks W (fun i h st b hb => ?_) (fun i v s Q E st hn' q => wpAny_of_eq (go_name hn _ _) q) (fun hn' => by rw [hn] at hn'; cases hn')
    rw [List.mem_singleton] at hb; subst hb; exact hp i h st
  · refine ⟨⟨0, hst, by walk_at "m_om", fun j d v e p => hd j d v e (by rw [Nat.zero_add] at p; exact p)⟩, fun b hb hbw => ?_, fun b hb => ?_, fun b hb => ?_⟩
    · rcases List.mem_cons.mp hb with rfl | hb
      · exact absurd (List.mem_singleton.mpr rfl) hbw
      · obtain ⟨o, ho⟩ := hold b hb; exact ⟨o, ho, kp _ _ (g1.fz _ _ ho)⟩
    · rw [List.mem_singleton] at hb; subst hb
      exact ⟨hlt, g1.none_of hI⟩
    · rw [List.mem_singleton] at hb; subst hb
      exact Nat.le_trans g1.base.size hI

def spanInts (a c : Int) (n : Nat) : List D := (List.range n).map fun i => D.int (a + (i : Nat) * c)

theorem range_items {t : Expr} (hr : Room A 0) (hn : isName t = true) {s1 : Shared} {F1 : Fz} (g1 : Good G s1 F1) {a b c : Int} {t' u v : Tok} {r : Addr} {h' : Heap} {tk : Nat} (hrr : IsRange h' r a b c t' u v) (hsm : Builtin.Range.small a b c = true)
    (kp : ∀ b o, s1.heap.get? b = some o → h'.get? b = some o) (hz : s1.heap.objs.size ≤ h'.objs.size) (ht : s1.toks ≤ tk) {s : Shared} {F : Fz} (x1 : Ex G nowhere s F s1 F1) {Q : Value → Shared → Prop} {E : Value → Shared → Prop}
    (k : ∀ it wr St s' F', Ex G nowhere s F s' F' → (∀ b ∈ wr, s.heap.objs.size ≤ b) → Iter G A t it wr St → St (spanInts a c (Builtin.Range.rangeSize a b c).toNat) s' F' → Q it s') :
    wpAny (model G.prog G.w) A (pyIter (.ref r)) Q E { s1 with heap := h', toks := tk } := by
  refine wpAny_pyIter_range hrr hsm ?_
  have h0 : 0 ≤ Builtin.Range.rangeSize a b c := by
    unfold Builtin.Range.rangeSize
    split <;> split <;> first | walk_at "m_om" | skip
    · have := Int.ediv_nonneg (a := b - a - 1) (b := c) (by walk_at "m_om") (by walk_at "m_om"); walk_at "m_om"
    · have := Int.ediv_nonneg (a := a - b - 1) (b := -c) (by walk_at "m_om") (by walk_at "m_om"); walk_at "m_om"
  refine it_one (t := t) (I := h'.objs.size) (old := []) g1 (Walks.range hr.handled h'.objs.size a c (Builtin.Range.rangeSize a b c).toNat) (fun b o e => Heap.get?_push_of_some _ (kp b o e)) hz (Nat.lt_of_lt_of_eq (Nat.lt_succ_self _) (Heap.size_push ..).symm) (Nat.le_trans hz (Nat.le_of_lt (Nat.lt_of_lt_of_eq (Nat.lt_succ_self _) (Heap.size_push ..).symm))) ht
    (fun i h st => ⟨_, _, st, rfl, codey_iter rfl rfl⟩) hn ?_ (by simp [spanInts]) (fun j d v e p => ?_) (fun b hb => by cases hb) x1 k
  · show IsRangeIter _ _ _ _ _
    have e1 : a + ((0 : Nat) : Int) * c = a := by simp
    have e2 : ((Builtin.Range.rangeSize a b c).toNat : Int) - ((0 : Nat) : Int) = Builtin.Range.rangeSize a b c := by rw [Int.toNat_of_nonneg h0]; simp
    rw [e1, e2]
    exact Heap.get?_push_size _ rfl
  · obtain ⟨t', rfl⟩ := p
    unfold spanInts at e
    rw [List.getElem?_map] at e
    cases q : (List.range (Builtin.Range.rangeSize a b c).toNat)[j]? with
    | none => rw [q] at e; cases e
    | some i =>
      rw [q] at e
      have hi : i = j := by
        obtain ⟨hlt, he⟩ := List.getElem?_eq_some_iff.mp q
        rw [List.getElem_range] at he; exact he.symm
      subst hi
      cases e
      exact .int

theorem it_range1 {t e : Expr} {p pos : Pos} {n : Int} (hr : Room A 0) (he : EnvF env) (hx : env.kindOf "range" = some .globalImplicit) (hm : G.mg "range" = none) (hb : G.mb "range" = bootBuiltins "range") (hl : Evals G A env ρ e (.int n)) (h0 : -(2 ^ 62) ≤ n) (h1 : n < 2 ^ 62)
    (hn : isName t = true := by rfl) (hs : NoStar pos [e] env := by rfl) : Items G A env ρ t (.Call (.Name "range" p) [e] [] pos) (spanInts 0 1 n.toNat) := .mk fun s F g hv Q E k => by
  have hsm := small_one (a := 0) (b := n) (by walk_at "m_om") (by walk_at "m_om") h0 h1
  have hsz : (Builtin.Range.rangeSize 0 n 1).toNat = n.toNat := by rw [rangeSize_one]; split <;> walk_at "m_om"
  rw [← hsz] at k
  show wpAny _ _ (eval (.Name "range" p) env >>= fun fv => callWith pos fv [] (backTo pos (starEach [e] env)) (backToKw pos (keywordEach [] env))) _ _ _
  refine wpAny_bind (ev_builtin he g hx hm (hb.trans (show bootBuiltins "range" = some (.type "range") from rfl)) ?_)
  refine PySem.callWith_type (by rw [hs]; simp) (evalArgs_ (ds := [.int n]) (show EvalsL G A env ρ [e] [.int n] from ⟨hl, trivial⟩) hs g hv fun vs s1 F1 x1 r1 => ?_)
  cases r1 with
  | cons r1 r2 =>
  cases r2; cases r1
  exact call_range_1 (range_items hr hn x1.good (Heap.get?_push_size _ rfl) hsm (fun _ _ e => Heap.get?_push_of_some _ e) (by rw [Heap.size_push]; walk_at "m_om") (by walk_at "m_om") x1 k)
theorem it_range2 {t e e2 : Expr} {p pos : Pos} {a n : Int} (hr : Room A 0) (he : EnvF env) (hx : env.kindOf "range" = some .globalImplicit) (hm : G.mg "range" = none) (hb : G.mb "range" = bootBuiltins "range") (hl : Evals G A env ρ e (.int a)) (hl2 : Evals G A env ρ e2 (.int n)) (ha : -(2 ^ 62) ≤ a) (ha' : a < 2 ^ 62) (h0 : -(2 ^ 62) ≤ n) (h1 : n < 2 ^ 62)
    (hn : isName t = true := by rfl) (hs : NoStar pos [e, e2] env := by rfl) : Items G A env ρ t (.Call (.Name "range" p) [e, e2] [] pos) (spanInts a 1 (n - a).toNat) := .mk fun s F g hv Q E k => by
  have hsm := small_one (a := a) (b := n) ha ha' h0 h1
  have hsz : (Builtin.Range.rangeSize a n 1).toNat = (n - a).toNat := by rw [rangeSize_one]; split <;> walk_at "m_om"
  rw [← hsz] at k
  show wpAny _ _ (eval (.Name "range" p) env >>= fun fv => callWith pos fv [] (backTo pos (starEach [e, e2] env)) (backToKw pos (keywordEach [] env))) _ _ _
  refine wpAny_bind (ev_builtin he g hx hm (hb.trans (show bootBuiltins "range" = some (.type "range") from rfl)) ?_)
  refine PySem.callWith_type (by rw [hs]; simp) (evalArgs_ (show EvalsL G A env ρ [e, e2] [.int a, .int n] from ⟨hl, hl2, trivial⟩) hs g hv fun vs s1 F1 x1 r1 => ?_)
  cases r1 with
  | cons r1 r2 =>
  cases r2 with
  | cons r2 r3 =>
  cases r3; cases r1; cases r2
  exact call_range_2 (range_items hr hn x1.good (Heap.get?_push_size _ rfl) hsm (fun _ _ e => Heap.get?_push_of_some _ e) (by rw [Heap.size_push]; walk_at "m_om") (by walk_at "m_om") x1 k)
theorem it_range3 {t e e2 e3 : Expr} {p pos : Pos} {a n c : Int} (hr : Room A 0) (he : EnvF env) (hx : env.kindOf "range" = some .globalImplicit) (hm : G.mg "range" = none) (hb : G.mb "range" = bootBuiltins "range") (hl : Evals G A env ρ e (.int a)) (hl2 : Evals G A env ρ e2 (.int n)) (hl3 : Evals G A env ρ e3 (.int c))
    (hc : c ≠ 0) (hsm : Builtin.Range.small a n c = true) (hpl : Builtin.divisionGoesByPylong (n - a) c = false)
    (hn : isName t = true := by rfl) (hs : NoStar pos [e, e2, e3] env := by rfl) : Items G A env ρ t (.Call (.Name "range" p) [e, e2, e3] [] pos) (spanInts a c (Builtin.Range.rangeSize a n c).toNat) := .mk fun s F g hv Q E k => by
  show wpAny _ _ (eval (.Name "range" p) env >>= fun fv => callWith pos fv [] (backTo pos (starEach [e, e2, e3] env)) (backToKw pos (keywordEach [] env))) _ _ _
  refine wpAny_bind (ev_builtin he g hx hm (hb.trans (show bootBuiltins "range" = some (.type "range") from rfl)) ?_)
  refine PySem.callWith_type (by rw [hs]; simp) (evalArgs_ (show EvalsL G A env ρ [e, e2, e3] [.int a, .int n, .int c] from ⟨hl, hl2, hl3, trivial⟩) hs g hv fun vs s1 F1 x1 r1 => ?_)
  cases r1 with
  | cons r1 r2 =>
  cases r2 with
  | cons r2 r3 =>
  cases r3 with
  | cons r3 r4 =>
  cases r4; cases r1; cases r2; cases r3
  exact call_range_3 hc (range_items hr hn x1.good (Heap.get?_push_size _ rfl) hsm (fun _ _ e => Heap.get?_push_of_some _ e) (by rw [Heap.size_push]; walk_at "m_om") (Nat.le_refl _) x1 k) (.inl hpl)

theorem it_reversed {t e : Expr} {p pos : Pos} {ds : List D} (hr : Room A 0) (he : EnvF env) (hx : env.kindOf "reversed" = some .globalImplicit) (hm : G.mg "reversed" = none) (hb : G.mb "reversed" = bootBuiltins "reversed") (hl : Evals G A env ρ e (.lst ds))
    (hn : isName t = true := by rfl) (hs : NoStar pos [e] env := by rfl) : Items G A env ρ t (.Call (.Name "reversed" p) [e] [] pos) ds.reverse := .mk fun s F g hv Q E k => by
  show wpAny _ _ (eval (.Name "reversed" p) env >>= fun fv => callWith pos fv [] (backTo pos (starEach [e] env)) (backToKw pos (keywordEach [] env))) _ _ _
  refine wpAny_bind (ev_builtin he g hx hm (hb.trans (show bootBuiltins "reversed" = some (.type "reversed") from rfl)) ?_)
  refine PySem.callWith_type (by rw [hs]; simp) (evalArgs_ (show EvalsL G A env ρ [e] [.lst ds] from ⟨hl, trivial⟩) hs g hv fun vs s1 F1 x1 r1 => ?_)
  cases r1 with
  | cons r1 r2 =>
  cases r2
  cases r1 with
  | @lst a vs n _ hF hl =>
    have g1 := x1.good
    have il := isList_of g1 hF
    have hlt : a < s1.heap.objs.size := g1.lt hF
    refine call_reversed_list il (wpAny_pyIter_revIter (l := a) (i := (vs.toArray.size : Int) - 1) ⟨_, Heap.get?_push_size _ rfl, rfl, rfl⟩ ?_)
    refine it_one (t := t) (tk := s1.toks) (I := s1.heap.objs.size) (old := [a]) g1 (Walks.listRev hr.handled s1.heap.objs.size a (Nat.ne_of_lt hlt) vs.toArray) (fun b o e => Heap.get?_push_of_some _ e) (Nat.le_refl _) (Nat.lt_of_lt_of_eq (Nat.lt_succ_self _) (Heap.size_push ..).symm) (Nat.le_of_lt (Nat.lt_of_lt_of_eq (Nat.lt_succ_self _) (Heap.size_push ..).symm)) (Nat.le_refl _)
      (fun i h st => ?_) hn ?_ (by simp [hl.length]) (fun j d v e p => ?_) (fun b hb => by rw [List.mem_singleton] at hb; subst hb; exact ⟨_, hF⟩) x1 k
    · obtain ⟨_, ⟨o, ho, hc, _⟩, _⟩ := st
      exact ⟨_, o, ho, hc, codey_iter hc rfl⟩
    · refine ⟨Nat.zero_le _, ⟨_, Heap.get?_push_size _ rfl, rfl, ?_⟩, il.push _⟩
      simp [revObj]
    · have e' : vs[vs.length - 1 - j]? = some v := by simpa using p
      have hj : j < ds.length := by have := (List.getElem?_eq_some_iff.mp e).1; simpa using this
      rw [List.getElem?_reverse hj] at e
      obtain ⟨u, hu, r⟩ := hl.get e
      rw [← hl.length] at hu
      rw [hu] at e'; cases e'; exact r
end
end
/- B13 -/
section
section
variable {G : Gx} {A : Around} {env : Env} {N : Nat} {ρ : Ro} {P : Out → Prop}

structure StT (G : Gx) (fp wr : List Addr) (n : Nat) (Pt : Nat → Array Value → Prop) (St : Nat → Heap → Prop) (ds : List D) (s : Shared) (F : Fz) : Prop where
  at' : ∃ i, St i s.heap ∧ i + ds.length = n ∧ ∀ j d v, ds[j]? = some d → Pt (i + j) v → ∃ l, d = .tup l ∧ RdL F v.toList l
  old : ∀ b ∈ fp, b ∉ wr → ∃ o, (F b = some o ∨ s.heap.get? b = some o ∧ b < G.h₁.objs.size ∧ False) ∧ s.heap.get? b = some o
  un : ∀ b ∈ wr, b < s.heap.objs.size ∧ F b = none
  base : ∀ b ∈ wr, G.h₁.objs.size ≤ b

theorem Iter.of_walksT {elts : List Expr} {kk : Nat} {tp : Pos} {I : Addr} {fp wr : List Addr} {n : Nat} {Pt : Nat → Array Value → Prop} {St : Nat → Heap → Prop} {Mid : Nat → Addr → Heap → Prop} (W : WalksT G.prog G.w A I fp wr n Pt St Mid) (hw : ∀ i h, St i h → ∀ b ∈ wr, Plainly h b) :
    Iter G A (.Tuple elts kk tp) (.ref I) wr (StT G fp wr n Pt St) where
  un := fun st => st.un
  frame := fun {ds s F s' F' M} st x hM => by
    obtain ⟨i, h1, h2, h3⟩ := st.at'
    have kp : ∀ b ∈ fp, ∀ o, s.heap.get? b = some o → s'.heap.get? b = some o := fun b hb o e => by
      by_cases hbw : b ∈ wr
      · obtain ⟨T, o', e', hc, _⟩ := hw i _ h1 b hbw
        rw [e] at e'; cases e'
        exact x.keep b o (hM b hbw) e (isTab_cls hc)
      · obtain ⟨o', e1, e2⟩ := st.old b hb hbw
        rw [e] at e2; cases e2
        rcases e1 with e1 | ⟨_, _, f⟩
        · exact x.good.fz b _ (x.le b _ e1)
        · exact f.elim
    refine ⟨⟨i, W.frame _ _ _ h1 kp, h2, fun j d v e p => let ⟨l, a, b⟩ := h3 j d v e p; ⟨l, a, b.mono x.le⟩⟩, fun b hb hbw => ?_, fun b hb => ?_, st.base⟩
    · obtain ⟨o, e1, e2⟩ := st.old b hb hbw
      exact ⟨o, .inl (e1.elim (x.le b o) fun q => q.2.2.elim), kp b hb o e2⟩
    · exact ⟨Nat.lt_of_lt_of_le (st.un b hb).1 x.size, keep_none x (st.un b hb).2 (st.un b hb).1 (hM b hb)⟩
  item := fun {d ds s F} g st Q E k => by
    obtain ⟨i, h1, h2, h3⟩ := st.at'
    refine wpAny_grows (W.item i s _ _ (by simp at h2; walk_at "m_om") h1 fun T vals h' tk hp hTf hT hm hk hz ht => ?_)
    refine k (.ref T) _ fun Q' E' k' => ?_
    refine wpAny_grows (W.go elts kk tp i T _ _ _ hm fun h'' hst hk' hz' ht' => ?_)
    have hk2 : ∀ b o, ¬ b ∈ wr → s.heap.get? b = some o → h''.get? b = some o := fun b o hb e => hk' b o hb (hk b o hb e)
    have x : Ex G (· ∈ wr) s F { s with heap := h'', toks := tk } F := ex_wr g hk2 (Nat.le_trans hz hz') (fun b hb => ⟨st.base b hb, (st.un b hb).2, fun o e => by
      obtain ⟨T, o', e', hc, hcc⟩ := hw i _ h1 b hb
      rw [e] at e'; cases e'; exact ⟨isTab_cls hc, hcc⟩⟩) (fun _ hb => hb) ht
    obtain ⟨l, rfl, hl⟩ := h3 0 d vals rfl hp
    have hTw : T ∉ wr := W.apart i T _ hm
    have hT' : h''.IsTuple T vals := by obtain ⟨o, ho, r⟩ := hT; exact ⟨o, hk' T o hTw ho, r⟩
    refine k' _ F x (.tup hT' hl) (fun hn => by cases hn) ⟨⟨i + 1, hst, by simp at h2 ⊢; walk_at "m_om", fun j d' v' e p => h3 (j + 1) d' v' (by simpa using e) (by rw [show i + (j + 1) = i + 1 + j by walk_at "m_om"]; exact p)⟩, fun b hb hbw => ?_, fun b hb => ⟨Nat.lt_of_lt_of_le (st.un b hb).1 (Nat.le_trans hz hz'), (st.un b hb).2⟩, st.base⟩
    obtain ⟨o, e1, e2⟩ := st.old b hb hbw; exact ⟨o, .inl (e1.elim id fun q => q.2.2.elim), hk2 b o hbw e2⟩
  done := fun {s F} g st Q E k => by
    obtain ⟨i, h1, h2, h3⟩ := st.at'
    have : i = n := by simpa using h2
    subst this
    refine wpAny_grows (W.done s _ _ h1 fun h' tk hk hz ht => k _ F (ex_wr g hk hz (fun b hb => ⟨st.base b hb, (st.un b hb).2, fun o e => by
      obtain ⟨T, o', e', hc, hcc⟩ := hw i _ h1 b hb
      rw [e] at e'; cases e'; exact ⟨isTab_cls hc, hcc⟩⟩) (fun _ hb => hb) ht))
  self := fun {ds s F} g st Q E k => by
    obtain ⟨i, h1, h2, h3⟩ := st.at'
    exact W.self i s Q E h1 k

def zipD : List D → List D → List D
  | a :: as, b :: bs => .tup [a, b] :: zipD as bs
  | _, _ => []
theorem zipD_length : ∀ as bs, (zipD as bs).length = min as.length bs.length
  | a :: as, b :: bs => by simp [zipD, zipD_length as bs]
  | [], _ => by simp [zipD]
  | _ :: _, [] => by simp [zipD]
theorem zipD_get : ∀ (as bs : List D) (j : Nat) (d : D), (zipD as bs)[j]? = some d → ∃ a b, d = .tup [a, b] ∧ as[j]? = some a ∧ bs[j]? = some b
  | a :: as, b :: bs, 0, d, h => by simp [zipD] at h; exact ⟨a, b, h.symm, rfl, rfl⟩
  | a :: as, b :: bs, j + 1, d, h => by simp [zipD] at h; simpa using zipD_get as bs j d h
  | [], _, _, _, h => by simp [zipD] at h
  | _ :: _, [], _, _, h => by simp [zipD] at h

theorem it_zip {elts : List Expr} {kk : Nat} {tp : Pos} {e e2 : Expr} {p pos : Pos} {as bs : List D} (hr : Room A 0) (he : EnvF env) (hx : env.kindOf "zip" = some .globalImplicit) (hm : G.mg "zip" = none) (hb : G.mb "zip" = bootBuiltins "zip") (hl : Evals G A env ρ e (.lst as)) (hl2 : Evals G A env ρ e2 (.lst bs))
    (hs : NoStar pos [e, e2] env := by rfl) : Items G A env ρ (.Tuple elts kk tp) (.Call (.Name "zip" p) [e, e2] [] pos) (zipD as bs) := .mk fun s F g hv Q E k => by
  show wpAny _ _ (eval (.Name "zip" p) env >>= fun fv => callWith pos fv [] (backTo pos (starEach [e, e2] env)) (backToKw pos (keywordEach [] env))) _ _ _
  refine wpAny_bind (ev_builtin he g hx hm (hb.trans (show bootBuiltins "zip" = some (.type "zip") from rfl)) ?_)
  refine PySem.callWith_type (by rw [hs]; simp) (evalArgs_ (show EvalsL G A env ρ [e, e2] [.lst as, .lst bs] from ⟨hl, hl2, trivial⟩) hs g hv fun vs s1 F1 x1 r1 => ?_)
  cases r1 with
  | cons r1 r2 =>
  cases r2 with
  | cons r2 r3 =>
  cases r3
  cases r1 with
  | @lst l1 xs n1 _ hF1 hl1 =>
  cases r2 with
  | @lst l2 ys n2 _ hF2 hl2 =>
    have g1 := x1.good
    have il1 := isList_of g1 hF1
    have il2 := isList_of g1 hF2
    have lt1 : l1 < s1.heap.objs.size := g1.lt hF1
    have lt2 : l2 < s1.heap.objs.size := g1.lt hF2
    refine call_zip_2 il1 il2 fun h' a1 a2 a3 a4 a5 hz5 kp => ?_
    refine wpAny_pyIter_zip a1 ?_
    have hz : s1.heap.objs.size ≤ h'.objs.size := by walk_at "m_om"
    have x2 : Ex G nowhere s1 F1 { s1 with heap := h', toks := s1.toks } (F1.put (s1.heap.objs.size + 2) _) := ex_new g1 kp hz (Nat.le_add_right _ _) a2
    have le2 := x2.le
    have ap : ZipApart (s1.heap.objs.size + 4) (s1.heap.objs.size + 2) (s1.heap.objs.size + 3) s1.heap.objs.size (s1.heap.objs.size + 1) l1 l2 := by
      have o1 : ∀ i j : Nat, i ≠ j → s1.heap.objs.size + i ≠ s1.heap.objs.size + j := fun i j h q => h (Nat.add_left_cancel q)
      have o2 : ∀ i : Nat, l1 ≠ s1.heap.objs.size + i := fun i => Nat.ne_of_lt (Nat.lt_of_lt_of_le lt1 (Nat.le_add_right _ _))
      have o3 : ∀ i : Nat, l2 ≠ s1.heap.objs.size + i := fun i => Nat.ne_of_lt (Nat.lt_of_lt_of_le lt2 (Nat.le_add_right _ _))
      constructor <;> first | exact o1 _ _ (by decide) | exact o1 _ 0 (by decide) | exact o1 0 _ (by decide) | exact o2 _ | exact o2 0 | exact o3 _ | exact o3 0
    have W := WalksT.zip2 (prog := G.prog) (w := G.w) hr.handled _ _ _ _ _ l1 l2 ap xs.toArray ys.toArray
    refine k (.ref (s1.heap.objs.size + 4)) _ _ _ _ (x1.trans' x2) (fun b hb => ?_) (Iter.of_walksT (elts := elts) (kk := kk) (tp := tp) W fun i h st b hb => ?_) ⟨⟨0, ⟨a1, a2, ⟨_, _, a3⟩, a4, a5, il1.at fun o e => kp _ _ e, il2.at fun o e => kp _ _ e⟩, ?_, fun j d v e p => ?_⟩, fun b hb hbw => ?_, fun b hb => ?_, fun b hb => ?_⟩
    · simp only [List.mem_cons, List.not_mem_nil, or_false] at hb
      have := x1.size
      rcases hb with rfl | rfl | rfl | rfl <;> first | exact this | exact Nat.le_trans this (Nat.le_add_right _ _)
    · obtain ⟨hz, hTI, ⟨_, _, hTO⟩, ⟨o1, h1, c1, _⟩, ⟨o2, h2, c2, _⟩, _⟩ := st
      simp only [List.mem_cons, List.not_mem_nil, or_false] at hb
      rcases hb with rfl | rfl | rfl | rfl
      · exact ⟨_, _, hz, rfl, codey_iter rfl rfl⟩
      · exact ⟨_, _, hTO, rfl, codey_iter rfl rfl⟩
      · exact ⟨_, _, h1, c1, codey_iter c1 rfl⟩
      · exact ⟨_, _, h2, c2, codey_iter c2 rfl⟩
    · rw [zipD_length]; simp [hl1.length, hl2.length]
    · obtain ⟨x, y, h1, h2, rfl⟩ := p
      obtain ⟨da, db, rfl, q1, q2⟩ := zipD_get _ _ _ _ e
      rw [Nat.zero_add] at h1 h2
      have h1' : xs[j]? = some x := by simpa using h1
      have h2' : ys[j]? = some y := by simpa using h2
      obtain ⟨u1, e1, r1⟩ := hl1.get q1
      obtain ⟨u2, e2, r2⟩ := hl2.get q2
      rw [h1'] at e1; cases e1; rw [h2'] at e2; cases e2
      exact ⟨_, rfl, .cons (r1.mono le2) (.cons (r2.mono le2) .nil)⟩
    · simp only [List.mem_cons, List.not_mem_nil, or_false, not_or] at hb hbw
      rcases hb with rfl | rfl | rfl | rfl | rfl | rfl | rfl
      · exact absurd rfl hbw.1
      · exact ⟨_, .inl (Fz.put_self ..), a2⟩
      · exact absurd rfl hbw.2.1
      · exact absurd rfl hbw.2.2.1
      · exact absurd rfl hbw.2.2.2
      · exact ⟨_, .inl (le2 _ _ hF1), kp _ _ (g1.fz _ _ hF1)⟩
      · exact ⟨_, .inl (le2 _ _ hF2), kp _ _ (g1.fz _ _ hF2)⟩
    · simp only [List.mem_cons, List.not_mem_nil, or_false] at hb
      have hz' : h'.objs.size = s1.heap.objs.size + 5 := hz5
      have nn : ∀ b : Nat, s1.heap.objs.size ≤ b → ¬ b = s1.heap.objs.size + 2 → ∀ {o}, F1.put (s1.heap.objs.size + 2) o b = none := fun b h1 h2 o => by
        unfold Fz.put; rw [if_neg h2]; exact g1.none_of h1
      rcases hb with rfl | rfl | rfl | rfl
      · exact ⟨by show s1.heap.objs.size + 4 < h'.objs.size; walk_at "m_om", nn _ (Nat.le_add_right _ _) (by walk_at "m_om")⟩
      · exact ⟨by show s1.heap.objs.size + 3 < h'.objs.size; walk_at "m_om", nn _ (Nat.le_add_right _ _) (by walk_at "m_om")⟩
      · exact ⟨by show s1.heap.objs.size < h'.objs.size; walk_at "m_om", nn _ (Nat.le_refl _) (by walk_at "m_om")⟩
      · exact ⟨by show s1.heap.objs.size + 1 < h'.objs.size; walk_at "m_om", nn _ (Nat.le_add_right _ _) (by walk_at "m_om")⟩
    · simp only [List.mem_cons, List.not_mem_nil, or_false] at hb
      have := g1.base.size
      rcases hb with rfl | rfl | rfl | rfl <;> first | exact this | exact Nat.le_trans this (Nat.le_add_right _ _)
end
end
/- B14 -/
section
section
variable {G : Gx} {A : Around} {env : Env} {N : Nat} {ρ : Ro} {P : Out → Prop}

theorem cellsFrom_append : ∀ (names : List (Str × NameKind)) (n : Nat) (acc : List (Str × Addr)), cellsFrom n names acc = cellsFrom n names [] ++ acc
  | [], _, _ => rfl
  | (x, k) :: r, n, acc => by
    unfold cellsFrom
    split
    · rw [cellsFrom_append r (n + 1) ((x, n) :: acc), cellsFrom_append r (n + 1) [(x, n)], List.append_assoc]; rfl
    · exact cellsFrom_append r n acc
theorem cellsFrom_mem : ∀ (names : List (Str × NameKind)) (n : Nat) (x : Str), (x, NameKind.cell) ∈ names → ∃ c, (x, c) ∈ cellsFrom n names []
  | (y, k) :: r, n, x, h => by
    unfold cellsFrom
    rcases List.mem_cons.mp h with e | e
    · cases e
      rw [if_pos (show (NameKind.cell == NameKind.cell) = true by decide), cellsFrom_append]
      exact ⟨n, List.mem_append_right _ (List.mem_singleton.mpr rfl)⟩
    · split
      · obtain ⟨c, hc⟩ := cellsFrom_mem r (n + 1) x e
        rw [cellsFrom_append]; exact ⟨c, List.mem_append_left _ hc⟩
      · exact cellsFrom_mem r n x e
theorem cellsFrom_of : ∀ (names : List (Str × NameKind)) (n : Nat) (x : Str) (c : Addr), (x, c) ∈ cellsFrom n names [] → (x, NameKind.cell) ∈ names
  | [], _, _, _, h => by cases h
  | (y, k) :: r, n, x, c, h => by
    unfold cellsFrom at h
    split at h
    · rename_i hk
      rw [cellsFrom_append] at h
      rcases List.mem_append.mp h with h | h
      · exact List.mem_cons_of_mem _ (cellsFrom_of r (n + 1) x c h)
      · rw [List.mem_singleton] at h; cases h
        have : k = .cell := by simpa using hk
        rw [this]; exact List.mem_cons_self
    · exact List.mem_cons_of_mem _ (cellsFrom_of r n x c h)
theorem lookup_some_of_mem {α : Type} : ∀ {l : List (Str × α)} {x : Str} {c : α}, (x, c) ∈ l → ∃ c', l.lookup x = some c'
  | (y, d) :: r, x, c, h => by
    rw [List.lookup_cons]
    cases hb : x == y with
    | true => exact ⟨d, rfl⟩
    | false =>
      rcases List.mem_cons.mp h with e | e
      · cases e; rw [beq_self_eq_true] at hb; cases hb
      · exact lookup_some_of_mem e
theorem lookup_append {α : Type} : ∀ (l m : List (Str × α)) (x : Str), (l ++ m).lookup x = (l.lookup x).or (m.lookup x)
  | [], m, x => by simp
  | (y, d) :: r, m, x => by
    rw [List.cons_append, List.lookup_cons, List.lookup_cons]
    cases hb : x == y with
    | true => rfl
    | false => exact lookup_append r m x
theorem pushCells_size : ∀ (names : List (Str × NameKind)) (h : Heap), h.objs.size ≤ (pushCells h names).objs.size
  | [], _ => Nat.le_refl _
  | (_, k) :: r, h => by
    unfold pushCells
    split
    · exact Nat.le_trans (by rw [Heap.size_push]; walk_at "m_om") (pushCells_size r _)
    · exact pushCells_size r h

/-- the heap with a new frame's places -/
def frameHeap (h : Heap) (names : List (Str × NameKind)) (ty : String) : Heap := pushCells (h.push { cls := .type ty, data := .dict #[] }) names

def storeAll (env : Env) (binds : List (Str × Value)) : Sem PUnit := forIn binds PUnit.unit fun x _ => do storeName env x.1 x.2; pure (.yield ⟨⟩)

theorem wpAny_newEnv {M : Model} {s : Shared} {E : Value → Shared → Prop} {scope : Scope} {globals : Addr} {cl : List (Str × Addr)} {binds : List (Str × Value)} {qual : Str} {func : Option Addr} {code : Value} {around : Option Env} {builtins : Addr} {Q : Env → Shared → Prop}
    (h : wpAny M A (storeAll (newEnv scope s.heap.objs.size globals (cellsFrom (s.heap.objs.size + 1) scope.names [] ++ cl) qual func code around builtins) binds)
      (fun _ s' => Q (newEnv scope s.heap.objs.size globals (cellsFrom (s.heap.objs.size + 1) scope.names [] ++ cl) qual func code around builtins) s') E { s with heap := frameHeap s.heap scope.names (if around.isSome then "dict" else "frame") }) :
    wpAny M A (newFunctionEnv scope globals cl binds qual func code around builtins) Q E s := by
  rw [← cellsFrom_append] at h
  unfold newFunctionEnv
  refine wpAny_bind (wpAny_alloc ?_)
  refine wpAny_bind (wpAny_layCells _ (fun name kind cells => by cases hkc : kind == NameKind.cell <;> simp [hkc]) _ _ _ _ ?_)
  rw [show ({ s with heap := s.heap.push { cls := .type (if around.isSome then "dict" else "frame"), data := .dict #[] } } : Shared).heap.objs.size = s.heap.objs.size + 1 from Heap.size_push ..]
  cases around with
  | none => exact wpAny_bind (wpAny_mono h (fun _ s' h' => wpAny_pure h') fun _ _ e => e)
  | some o => exact wpAny_bind (wpAny_mono h (fun _ s' h' => wpAny_pure h') fun _ _ e => e)

/-- what a frame's environment must be for its names -/
structure EnvNew (env : Env) (names : List (Str × NameKind)) (cl : List (Str × Addr)) (h : Heap) : Prop extends EnvF env where
  loc : env.locals = h.objs.size
  cells : env.cells = cellsFrom (h.objs.size + 1) names [] ++ cl
  uniq : ∀ p ∈ names, names.lookup p.1 = some p.2
  own : ∀ x, env.kindOf x = some .cell → (x, NameKind.cell) ∈ names ∨ ((x, NameKind.cell) ∉ names ∧ ∃ c v, cl.lookup x = some c ∧ h.IsCell c v)
  free : ∀ x, env.kindOf x = some .free → (x, NameKind.cell) ∉ names
  clLt : ∀ x c, cl.lookup x = some c → c < h.objs.size

theorem frame_start {env : Env} {names : List (Str × NameKind)} {cl : List (Str × Addr)} {s : Shared} {F : Fz} {ty : String} (g : Good G s F) (he : EnvNew env names cl s.heap) (hv : ∀ p ∈ ρ, EnAt G env s.heap F p.1 p.2 ∧ ∃ d, p.2 = .v d) (hn : (ρ.map (·.1)).Nodup) :
    FrOk G env s.heap.objs.size ∧ In G env s.heap.objs.size { s with heap := frameHeap s.heap names ty } F ρ ∧ Ex G nowhere s F { s with heap := frameHeap s.heap names ty } F := by
  have ok := cellsFrom_ok names (s.heap.push { cls := .type ty, data := .dict #[] }) (s.heap.objs.size + 1) [] ⟨fun _ _ hm => (nomatch hm), List.Pairwise.nil⟩ (by rw [Heap.size_push]; exact Nat.le_refl _)
  rw [Heap.size_push] at ok
  have kp : ∀ b o, s.heap.get? b = some o → (frameHeap s.heap names ty).get? b = some o := fun b o e => pushCells_keeps _ _ b o (Heap.get?_push_of_some _ e)
  have hz : s.heap.objs.size ≤ (frameHeap s.heap names ty).objs.size := Nat.le_trans (by rw [Heap.size_push]; walk_at "m_om") (pushCells_size names (s.heap.push { cls := .type ty, data := .dict #[] }))
  have x : Ex G nowhere s F { s with heap := frameHeap s.heap names ty, toks := s.toks } F := ex_heap g kp hz
  have new : ∀ y c, env.cells.lookup y = some c → s.heap.objs.size ≤ c → (y, c) ∈ cellsFrom (s.heap.objs.size + 1) names [] := fun y c h hc => by
    rw [he.cells, lookup_append] at h
    cases q : (cellsFrom (s.heap.objs.size + 1) names []).lookup y with
    | none => rw [q] at h; exact absurd (he.clLt y c h) (Nat.not_lt.mpr hc)
    | some c' => rw [q] at h; cases h; exact mem_of_lookup q
  have owns0 : owns ρ = [] := by
    unfold owns
    rw [List.filterMap_eq_nil_iff]
    intro p hp
    obtain ⟨d, e⟩ := (hv p hp).2
    rw [e]
  refine ⟨⟨he.toEnvF, g.base.size, Nat.le_of_eq he.loc.symm, fun y c k h hN e => ?_, fun y z c ky kz h1 h2 hN => name_of_addr ok.apart (new y c h1 hN) (new z c h2 hN), fun y c k h => ?_⟩, ⟨x.good, ⟨fun p hp => (hv p hp).1.ex x, hn, by rw [owns0]; exact List.nodup_nil⟩, ⟨⟨fun _ => none, ?_⟩, fun y hy => ?_, ?_, fun y c k h hN => ?_⟩, fun a ha => ?_, hz⟩, x⟩
  · have := (ok.empty y c (new y c h hN)).2
    rw [e, he.loc] at this; exact absurd this (Nat.not_succ_le_self _)
  · rw [he.cells, lookup_append] at h
    cases q : (cellsFrom (s.heap.objs.size + 1) names []).lookup y with
    | none => rw [q] at h; exact he.clLt y c h
    | some c' => exact absurd (cellsFrom_of _ _ _ _ (mem_of_lookup q)) (he.free y k)
  · rw [he.loc]
    exact (Heap.Ns.new s.heap (.type ty)).keeps (pushCells_keeps _ _)
  · rcases he.own y hy with h | ⟨h, c, v, h1, h2⟩
    · obtain ⟨c, hc⟩ := cellsFrom_mem names (s.heap.objs.size + 1) y h
      obtain ⟨c', hc'⟩ := lookup_some_of_mem hc
      exact ⟨c', none, by rw [he.cells, lookup_append, hc']; rfl, (ok.empty y c' (mem_of_lookup hc')).1⟩
    · refine ⟨c, v, ?_, h2.keeps kp⟩
      rw [he.cells, lookup_append]
      cases q : (cellsFrom (s.heap.objs.size + 1) names []).lookup y with
      | none => exact h1
      | some c' => exact absurd (cellsFrom_of _ _ _ _ (mem_of_lookup q)) h
  · exact g.none_of (Nat.le_of_eq he.loc.symm)
  · exact g.none_of hN
  · rw [owns0] at ha; cases ha

/-- the parameters -/
theorem store_params : ∀ {binds : List (Str × Value)} {ds : List D} {ρ ρ' : Ro} {s : Shared} {F : Fz}, FrOk G env N → In G env N s F ρ → RdL F (binds.map (·.2)) ds → PutL env N (binds.map (·.1)) ds ρ ρ' → ∀ {Q : PUnit → Shared → Prop} {E : Value → Shared → Prop},
    (∀ s', Ex G (Mod env N ρ) s F s' F → In G env N s' F ρ' → Q ⟨⟩ s') → wpAny (model G.prog G.w) A (storeAll env binds) Q E s
  | [], _, _, _, s, F, fr, i, r, hp, Q, E, k => by
    cases hp
    show wpAny _ _ (forIn [] PUnit.unit _) _ _ _
    rw [List.forIn_nil]
    exact wpAny_pure (k s (Ex.refl i.good) i)
  | (x, v) :: binds, ds, ρ, ρ', s, F, fr, i, r, hp, Q, E, k => by
    cases hp with
    | cons hk hp hl =>
      cases r with
      | cons r rl =>
        show wpAny _ _ (forIn ((x, v) :: binds) PUnit.unit _) _ _ _
        rw [List.forIn_cons]
        refine wpAny_bind (wpAny_bind (store_ fr i hk r hp fun s1 x1 i1 => wpAny_pure ?_))
        exact store_params fr i1 rl hl fun s2 x2 i2 => k s2 (x1.trans x2 fun a m => mod_sub (fun a ha => .inl (hp.owns_v.subset ha)) a m) i2
end
end
/- B15 -/
section
section
variable {G : Gx} {A : Around} {env : Env} {N : Nat} {ρ : Ro} {P : Out → Prop}

theorem compTurn_gen (elt t iter : Expr) (ifs : List Expr) (gens : List Comprehension) (scope : Scope) (pos : Pos) (depth : Nat) (it acc : Value) (env : Env) (hg : gens[depth]? = some ⟨t, iter, ifs, 0⟩) :
    compTurn (.ListComp elt gens scope pos) depth it acc env = (do
      standAt iter.pos
      match ← pyNext it with
      | none => pure (.done .next)
      | some v =>
        letOwnedTupleGo t it v
        assign t env v
        let ok ← (forIn ifs true fun c r => if r = true then do let ok ← isTrue c env (eval c env); pure (ForInStep.yield ok) else pure (ForInStep.yield r))
        if ok then
          match gens[depth + 1]? with
          | some g' => do
            let x ← eval g'.iter env
            standAt g'.iter.pos
            let x ← if g'.is_async != 0 then foldedIterable g'.iter x else foldedSetIterable g'.iter env x
            let _ ← runOwn (.compStart (.ListComp elt gens scope pos) (depth + 1) (← holding [x] (if g'.is_async != 0 then asyncIter x else pyIter x)) acc env) env
            again (.compLoop (.ListComp elt gens scope pos) depth it acc env)
          | none => (eval elt env >>= fun x => call (.builtin "list.append") [acc, x] >>= fun _ => pure ()) >>= fun _ => again (.compLoop (.ListComp elt gens scope pos) depth it acc env)
        else again (.compLoop (.ListComp elt gens scope pos) depth it acc env)) := by
  unfold compTurn
  simp only [hg]
  rfl

theorem codeAny_compStart_any {elt : Expr} {t iter : Expr} {ifs : List Expr} {gens : List Comprehension} {scope : Scope} {pos : Pos} {depth : Nat} {it acc : Value} {s : Shared} {R : Result → Shared → Prop} (hg : gens[depth]? = some ⟨t, iter, ifs, 0⟩)
    (h0 : codeAny (model G.prog G.w) A (.compLoop (.ListComp elt gens scope pos) depth it acc env) R s)
    (h : wpAny (model G.prog G.w) A (pyIter it) (fun it' s' => codeAny (model G.prog G.w) A (.compLoop (.ListComp elt gens scope pos) depth it' acc env) R s')
      (notedBy (model G.prog G.w) A env fun x s' => R (.error x) s') s) :
    codeAny (model G.prog G.w) A (.compStart (.ListComp elt gens scope pos) depth it acc env) R s := by
  refine codeAny_of_tree ?_
  show wpAny _ _ ((compStart (.ListComp elt gens scope pos) depth it acc env).onRaise (fun x => do noteFrame x env; standAt theWindowsPlace)) _ _ s
  refine wpAny_notedAt ?_
  have e : (clausesOf (.ListComp elt gens scope pos))[depth]? = some ⟨t, iter, ifs, 0⟩ := hg
  unfold compStart
  simp only [e, Option.elim]
  show wpAny _ _ (ask >>= _) _ _ s
  refine wpAny_bind (wpAny_askSetting (wpAny_ite ?_))
  split
  · first
      | exact wpAny_bind (wpAny_pure (wpAny_pure (And.intro rfl h0)))
      | exact wpAny_pure (And.intro rfl h0)
  · exact wpAny_bind (wpAny_rule (wpAny_bind (wpAny_standAt (wpAny_bind (wpAny_mono h (fun it' s' h' => wpAny_pure (And.intro rfl h')) fun _ _ x => x)))))

/-- the tests of a comprehension's clause: none or one -/
def TestsAll (G : Gx) (A : Around) (env : Env) (ρ : Ro) : List Expr → Bool → Prop
  | [], b => b = true
  | [c], b => Tests G A env ρ c b
  | _, _ => False
/-- the turns of a clause over its items -/
def CTurns (G : Gx) (A : Around) (env : Env) (N : Nat) (act : Ro → List D → (List D → Ro → Prop) → Prop) (t : Expr) (ifs : List Expr) : List D → Ro → List D → (List D → Ro → Prop) → Prop
  | [], ρ, acc, K => K acc ρ
  | d :: ds, ρ, acc, K => ∃ ρ' b, Asg env N t d ρ ρ' ∧ TestsAll G A env ρ' ifs b ∧ (b = false → CTurns G A env N act t ifs ds ρ' acc K) ∧ (b = true → act ρ' acc fun acc' ρ'' => CTurns G A env N act t ifs ds ρ'' acc' K)
/-- what a turn does: the element, or the next clause -/
def CAct (G : Gx) (A : Around) (env : Env) (N : Nat) (elt : Expr) : List Comprehension → Ro → List D → (List D → Ro → Prop) → Prop
  | [], ρ, acc, K => acc.length ≤ 16777216 ∧ ∃ d, Evals G A env ρ elt d ∧ K (acc ++ [d]) ρ
  | g :: gs, ρ, acc, K => g.is_async = 0 ∧ (∀ x, foldedSetIterable g.iter env x = pure x) ∧ ∃ ds, Items G A env ρ g.target g.iter ds ∧ CTurns G A env N (CAct G A env N elt gs) g.target g.ifs ds ρ acc K

/-- a list being gathered -/
def ListAt (s : Shared) (F : Fz) (a : Addr) (ds : List D) : Prop := F a = none ∧ ∃ vs n, s.heap.get? a = some (lObj vs n) ∧ RdL F vs ds
theorem ListAt.ex {M : Addr → Prop} {s s' : Shared} {F F' : Fz} {a : Addr} {ds : List D} (h : ListAt s F a ds) (x : Ex G M s F s' F') (ha : ¬ M a) : ListAt s' F' a ds := by
  obtain ⟨h1, vs, n, h2, h3⟩ := h
  exact ⟨keep_none x h1 (Heap.lt_size h2) ha, vs, n, x.keep _ _ ha h2 rfl, h3.mono x.le⟩
end
end
/- B16 -/
section
section
variable {G : Gx} {A : Around} {env : Env} {N : Nat} {ρ : Ro} {P : Out → Prop}

theorem tests_ {ifs : List Expr} {b : Bool} (ht : TestsAll G A env ρ ifs b) {s : Shared} {F : Fz} (g : Good G s F) (hv : Vars G env s.heap F ρ) {Q : Bool → Shared → Prop} {E : Value → Shared → Prop} (k : ∀ s' F', Ex G nowhere s F s' F' → Q b s') :
    wpAny (model G.prog G.w) A (forIn ifs true fun c r => if r = true then do let ok ← isTrue c env (eval c env); pure (ForInStep.yield ok) else pure (ForInStep.yield r)) Q E s := by
  match ifs, ht with
  | [], h => cases (show b = true from h); exact wpAny_tests_nil (k s F (Ex.refl g))
  | [c], h => exact wpAny_tests_one (Tests.run h s F g hv _ _ k)

/-- own places of a frame without owned lists -/
theorem mod_nil (h : owns ρ = []) {a : Addr} : Mod env N ρ a ↔ Mod env N [] a := by
  unfold Mod; rw [h]; rfl
theorem owns_nil_of {ρ ρ' : Ro} (h : (owns ρ').Sublist (owns ρ)) (h0 : owns ρ = []) : owns ρ' = [] := by rw [h0] at h; exact List.sublist_nil.mp h

theorem list_append_ {s : Shared} {F : Fz} {acc : List D} {d : D} {v : Value} {a : Addr} (g : Good G s F) (hb : G.h₁.objs.size ≤ a) (hl : ListAt s F a acc) (r : Rd F v d) (hz : acc.length ≤ 16777216) {Q : Value → Shared → Prop} {E : Value → Shared → Prop}
    (k : ∀ s', Ex G (· = a) s F s' F → ListAt s' F a (acc ++ [d]) → Q .none s') : wpAny (model G.prog G.w) A (call (.builtin "list.append") [.ref a, v]) Q E s := by
  obtain ⟨h1, vs, n, h2, h3⟩ := hl
  refine wpAny_list_append_plain (items := vs.toArray) ⟨n, h2⟩ (fun h' hpl hsb => ?_) (by rw [List.size_toArray, h3.length, sizeLine_eq]; exact hz)
  obtain ⟨n', ho'⟩ := hpl
  rw [show vs.toArray.push v = (vs ++ [v]).toArray by simp] at ho'
  exact k _ (ex_at (tk := s.toks) g hsb hb h1 h2 rfl rfl rfl) ⟨h1, vs ++ [v], n', ho', h3.append (.cons r .nil)⟩

theorem NotIn.nil {b : Addr} (h : NotIn env [] b) (ho : owns ρ = []) : NotIn env ρ b := ⟨h.1, h.2.1, by rw [ho]; exact List.not_mem_nil⟩

theorem compLoop_ {elt : Expr} {gens : List Comprehension} {scope : Scope} {pos : Pos} {a : Addr} (hr : Room A 0) (fr : FrOk G env N) (hbase : G.h₁.objs.size ≤ a) (haA : NotIn env [] a) :
    ∀ (gs : List Comprehension) (t iter : Expr) (ifs : List Expr) (depth : Nat) (pre : List Comprehension), gens = pre ++ ⟨t, iter, ifs, 0⟩ :: gs → depth = pre.length →
    ∀ {it : Value} {wr : List Addr} {St : List D → Shared → Fz → Prop} {s : Shared} {F : Fz} {ρ : Ro} {acc ds : List D} {K : List D → Ro → Prop} {R : Result → Shared → Prop},
      Iter G A t it wr St → In G env N s F ρ → owns ρ = [] → ListAt s F a acc → St ds s F → a ∉ wr → (∀ b ∈ wr, NotIn env [] b) → CTurns G A env N (CAct G A env N elt gs) t ifs ds ρ acc K →
      (∀ s' F' ρ' acc', K acc' ρ' → In G env N s' F' ρ' → owns ρ' = [] → ListAt s' F' a acc' → Ex G (fun b => Mod env N [] b ∨ b = a ∨ b ∈ wr) s F s' F' → R (.ok .next) s') →
      codeAny (model G.prog G.w) A (.compLoop (.ListComp elt gens scope pos) depth it (.ref a) env) R s := by
  intro gs
  induction gs with
  | nil =>
    intro t iter ifs depth pre hgens hdepth it wr St s F ρ acc ds K R W i ho hl hst haw hap hT k
    have hg : gens[depth]? = some ⟨t, iter, ifs, 0⟩ := by rw [hgens, hdepth]; simp
    have hg1 : gens[depth + 1]? = none := by rw [hgens, hdepth]; simp
    refine codeAny_loop rfl (fun n s' => ∃ ds' ρ' acc' F', n = ds'.length ∧ In G env N s' F' ρ' ∧ owns ρ' = [] ∧ ListAt s' F' a acc' ∧ St ds' s' F' ∧ CTurns G A env N (CAct G A env N elt []) t ifs ds' ρ' acc' K ∧ Ex G (fun b => Mod env N [] b ∨ b = a ∨ b ∈ wr) s F s' F')
      ?_ ds.length ⟨ds, ρ, acc, F, rfl, i, ho, hl, hst, hT, Ex.refl i.good⟩
    rintro n s2 ⟨ds2, ρ2, acc2, F2, rfl, i2, ho2, hl2, hst2, hT2, x2⟩
    show wpAny _ A ((compTurn (.ListComp elt gens scope pos) depth it (.ref a) env).onRaise (fun x => do noteFrame x env; theTreesLotGoes x)) _ _ s2
    refine wpAny_noted ?_
    rw [compTurn_gen elt t iter ifs gens scope pos depth it (.ref a) env hg, hg1]
    refine wpAny_bind (wpAny_standAt (wpAny_bind ?_))
    have hap2 : ∀ b ∈ wr, NotIn env ρ2 b := fun b hb => (hap b hb).nil ho2
    cases ds2 with
    | nil =>
      refine W.done i2.good hst2 _ _ fun s3 F3 x3 => wpAny_pure ?_
      exact k s3 F3 ρ2 acc2 hT2 (i2.exM' x3 hap2) ho2 (hl2.ex x3 haw) (x2.trans x3 fun b m => .inl (.inr (.inr m)))
    | cons d ds2 =>
      obtain ⟨ρ3, b, hA, ht, h0, h1⟩ := hT2
      refine W.item i2.good hst2 _ _ fun v s2' go => wpAny_bind (go _ _ fun s3 F3 x3 vt hv hst3 => ?_)
      have i3 := i2.exM' x3 hap2
      refine wpAny_bind (assign_ hr.handled fr i3 vt hA hv fun s4 x4 i4 => ?_)
      have ho3 : owns ρ3 = [] := owns_nil_of hA.owns ho2
      have hst4 := W.frame hst3 x4 fun b hb => (hap2 b hb).mod
      have hl4 := (hl2.ex x3 haw).ex x4 (haA.nil ho2).mod
      have x4' := (x2.trans x3 fun b m => .inl (.inr (.inr m))).trans x4 fun b m => .inl (.inl ((mod_nil ho2).mp m))
      refine wpAny_bind (tests_ ht i4.good i4.vars fun s5 F5 x5 => ?_)
      have i5 := i4.ex x5
      have hst5 := W.frame hst4 x5 fun _ _ => id
      have hl5 := hl4.ex x5 id
      have x5' := x4'.trans x5 fun b f => f.elim
      cases b with
      | false => exact wpAny_pure ⟨rfl, ds2.length, Nat.lt_succ_self _, ds2, ρ3, acc2, F5, rfl, i5, ho3, hl5, hst5, h0 rfl, x5'⟩
      | true =>
        obtain ⟨hz, d', he, hK⟩ := h1 rfl
        refine wpAny_bind (wpAny_bind (he.run s5 F5 i5.good i5.vars _ _ fun v s6 F6 x6 r6 => wpAny_bind (list_append_ x6.good hbase (hl5.ex x6 id) r6 hz fun s7 x7 hl7 => wpAny_pure (wpAny_pure ?_))))
        have i6 := i5.ex x6
        exact ⟨rfl, ds2.length, Nat.lt_succ_self _, ds2, ρ3, acc2 ++ [d'], F6, rfl, i6.exM' x7 (fun b m => by subst m; exact haA.nil ho3), ho3, hl7, W.frame (W.frame hst5 x6 fun _ _ => id) x7 (fun b hb m => haw (m ▸ hb)), hK,
          (x5'.trans x6 fun b f => f.elim).trans x7 fun b m => .inl (.inr (.inl m))⟩
  | cons g gs ih =>
    intro t iter ifs depth pre hgens hdepth it wr St s F ρ acc ds K R W i ho hl hst haw hap hT k
    have hg : gens[depth]? = some ⟨t, iter, ifs, 0⟩ := by rw [hgens, hdepth]; simp
    have hg1 : gens[depth + 1]? = some g := by rw [hgens, hdepth]; simp
    refine codeAny_loop rfl (fun n s' => ∃ ds' ρ' acc' F', n = ds'.length ∧ In G env N s' F' ρ' ∧ owns ρ' = [] ∧ ListAt s' F' a acc' ∧ St ds' s' F' ∧ CTurns G A env N (CAct G A env N elt (g :: gs)) t ifs ds' ρ' acc' K ∧ Ex G (fun b => Mod env N [] b ∨ b = a ∨ b ∈ wr) s F s' F')
      ?_ ds.length ⟨ds, ρ, acc, F, rfl, i, ho, hl, hst, hT, Ex.refl i.good⟩
    rintro n s2 ⟨ds2, ρ2, acc2, F2, rfl, i2, ho2, hl2, hst2, hT2, x2⟩
    show wpAny _ A ((compTurn (.ListComp elt gens scope pos) depth it (.ref a) env).onRaise (fun x => do noteFrame x env; theTreesLotGoes x)) _ _ s2
    refine wpAny_noted ?_
    rw [compTurn_gen elt t iter ifs gens scope pos depth it (.ref a) env hg, hg1]
    refine wpAny_bind (wpAny_standAt (wpAny_bind ?_))
    have hap2 : ∀ b ∈ wr, NotIn env ρ2 b := fun b hb => (hap b hb).nil ho2
    cases ds2 with
    | nil =>
      refine W.done i2.good hst2 _ _ fun s3 F3 x3 => wpAny_pure ?_
      exact k s3 F3 ρ2 acc2 hT2 (i2.exM' x3 hap2) ho2 (hl2.ex x3 haw) (x2.trans x3 fun b m => .inl (.inr (.inr m)))
    | cons d ds2 =>
      obtain ⟨ρ3, b, hA, ht, h0, h1⟩ := hT2
      refine W.item i2.good hst2 _ _ fun v s2' go => wpAny_bind (go _ _ fun s3 F3 x3 vt hv hst3 => ?_)
      have i3 := i2.exM' x3 hap2
      refine wpAny_bind (assign_ hr.handled fr i3 vt hA hv fun s4 x4 i4 => ?_)
      have ho3 : owns ρ3 = [] := owns_nil_of hA.owns ho2
      have hst4 := W.frame hst3 x4 fun b hb => (hap2 b hb).mod
      have hl4 := (hl2.ex x3 haw).ex x4 (haA.nil ho2).mod
      have x4' := (x2.trans x3 fun b m => .inl (.inr (.inr m))).trans x4 fun b m => .inl (.inl ((mod_nil ho2).mp m))
      refine wpAny_bind (tests_ ht i4.good i4.vars fun s5 F5 x5 => ?_)
      have i5 := i4.ex x5
      have hst5 := W.frame hst4 x5 fun _ _ => id
      have hl5 := hl4.ex x5 id
      have x5' := x4'.trans x5 fun b f => f.elim
      cases b with
      | false => exact wpAny_pure ⟨rfl, ds2.length, Nat.lt_succ_self _, ds2, ρ3, acc2, F5, rfl, i5, ho3, hl5, hst5, h0 rfl, x5'⟩
      | true =>
        obtain ⟨ha0, hfold, ds', hI, hC⟩ := h1 rfl
        obtain ⟨t', iter', ifs', as'⟩ := g
        simp only at ha0 hfold hI hC ⊢
        subst ha0
        refine wpAny_bind (wpAny_mono (hI.run s5 F5 i5.good i5.vars _ _ fun it' wr' St' s6 F6 x6 hwr' W' hst6 => ?_) (fun x s6 h6 => wpAny_bind (wpAny_standAt (show wpAny _ _ (foldedSetIterable iter' env x >>= _) _ _ _ from wpAny_bind (wpAny_of_eq (hfold x) (wpAny_bind (wpAny_holding h6)))))) fun _ _ e => e)
        have i6 := i5.ex x6
        have hst6' := W.frame hst5 x6 fun _ _ => id
        have hl6 := hl5.ex x6 id
        have x6' := x5'.trans x6 fun b f => f.elim
        have hap' : ∀ b ∈ wr', NotIn env [] b := fun b hb => by
          have q := i5.notIn fr (hwr' b hb)
          exact ⟨q.1, q.2.1, List.not_mem_nil⟩
        have newA : a ∉ wr' := fun m => by
          obtain ⟨_, vs, n, h2, _⟩ := hl5
          exact absurd (Heap.lt_size h2) (Nat.not_lt.mpr (hwr' a m))
        have newW : ∀ b ∈ wr, b ∉ wr' := fun b hb m => absurd (W.un hst5 b hb).1 (Nat.not_lt.mpr (hwr' b m))
        refine wpAny_bind (wpAny_runOwn ?_)
        have loop : ∀ it'' s'', it'' = it' → s'' = s6 → codeAny (model G.prog G.w) A (.compLoop (.ListComp elt gens scope pos) (depth + 1) it'' (.ref a) env) (fun r s' => match r with
            | .ok f => wpAny (model G.prog G.w) (A.under (.compLoop (.ListComp elt gens scope pos) depth it (.ref a) env)) (again (.compLoop (.ListComp elt gens scope pos) depth it (.ref a) env)) (fun fin s' => match fin with | .done f => R (.ok f) s' | .again c' => c' = (.compLoop (.ListComp elt gens scope pos) depth it (.ref a) env) ∧ ∃ m, m < (d :: ds2).length ∧ ∃ ds' ρ' acc' F', m = ds'.length ∧ In G env N s' F' ρ' ∧ owns ρ' = [] ∧ ListAt s' F' a acc' ∧ St ds' s' F' ∧ CTurns G A env N (CAct G A env N elt (⟨t', iter', ifs', 0⟩ :: gs)) t ifs ds' ρ' acc' K ∧ Ex G (fun b => Mod env N [] b ∨ b = a ∨ b ∈ wr) s F s' F')
                (notedBy (model G.prog G.w) A env fun e s' => R (.error e) s') s'
            | .error e => cameBackBy (model G.prog G.w) A env (notedBy (model G.prog G.w) A env fun e s' => R (.error e) s') e s') s'' := by
          rintro _ _ rfl rfl
          refine ih t' iter' ifs' (depth + 1) (pre ++ [⟨t, iter, ifs, 0⟩]) (by rw [hgens]; simp) (by rw [hdepth]; simp) W' i6 ho3 hl6 hst6 newA hap' hC fun s7 F7 ρ7 acc7 hK i7 ho7 hl7 x7 => ?_
          refine wpAny_pure ⟨rfl, ds2.length, Nat.lt_succ_self _, ds2, ρ7, acc7, F7, rfl, i7, ho7, hl7, W.frame hst6' x7 (fun b hb m => ?_), hK, x6'.trans x7 fun b m => ?_⟩
          · rcases m with m | m | m
            · exact (hap b hb).mod m
            · exact haw (m ▸ hb)
            · exact newW b hb m
          · rcases m with m | m | m
            · exact .inl (.inl m)
            · exact .inl (.inr (.inl m))
            · exact .inr (Nat.le_trans x5'.size (hwr' b m))
        exact codeAny_compStart_any hg1 (loop _ _ rfl rfl) (W'.self i6.good hst6 _ _ (loop _ _ rfl rfl))
end
end
/- B17 -/
section
section
variable {G : Gx} {A : Around} {env : Env} {N : Nat} {ρ : Ro} {P : Out → Prop}

theorem closure_loop (env : Env) : ∀ (names : List (Str × NameKind)) (acc : List (Str × Addr)), (∀ x, (x, NameKind.free) ∈ names → ∃ c, env.cells.lookup x = some c) →
    ∃ cl, (forIn (m := Sem) names acc fun x cs => (if x.2 == .free then do let c ← cellOf env x.1; pure (.yield ((x.1, c) :: cs)) else pure (.yield cs))) = pure cl ∧ (∀ x c, (x, c) ∈ cl → (x, c) ∈ acc ∨ ((x, NameKind.free) ∈ names ∧ env.cells.lookup x = some c)) ∧ (∀ p ∈ acc, p ∈ cl) ∧ ∀ x, (x, NameKind.free) ∈ names → ∃ c, (x, c) ∈ cl
  | [], acc, _ => ⟨acc, by rw [List.forIn_nil], fun x c h => .inl h, fun p h => h, fun x h => by cases h⟩
  | (y, k) :: r, acc, h => by
    by_cases hk : (k == NameKind.free) = true
    · have hk' : k = .free := by simpa using hk
      subst hk'
      obtain ⟨c, hc⟩ := h y List.mem_cons_self
      obtain ⟨cl, h1, h2, h3, h4⟩ := closure_loop env r ((y, c) :: acc) fun x hx => h x (List.mem_cons_of_mem _ hx)
      refine ⟨cl, ?_, fun x c' hx => ?_, fun p hp => h3 p (List.mem_cons_of_mem _ hp), fun x hx => ?_⟩
      · rw [List.forIn_cons]
        simp only [hk, if_true, cellOf, hc, pure_bind]
        exact h1
      · rcases h2 x c' hx with e | ⟨e, e'⟩
        · rcases List.mem_cons.mp e with e | e
          · cases e; exact .inr ⟨List.mem_cons_self, hc⟩
          · exact .inl e
        · exact .inr ⟨List.mem_cons_of_mem _ e, e'⟩
      · rcases List.mem_cons.mp hx with e | e
        · cases e; exact ⟨c, h3 _ List.mem_cons_self⟩
        · exact h4 x e
    · obtain ⟨cl, h1, h2, h3, h4⟩ := closure_loop env r acc fun x hx => h x (List.mem_cons_of_mem _ hx)
      refine ⟨cl, ?_, fun x c' hx => (h2 x c' hx).imp_right fun q => ⟨List.mem_cons_of_mem _ q.1, q.2⟩, h3, fun x hx => ?_⟩
      · rw [List.forIn_cons]
        simp only [hk]
        exact h1
      · rcases List.mem_cons.mp hx with e | e
        · cases e; exact absurd rfl hk
        · exact h4 x e
theorem closure_ {env : Env} {scope : Scope} (h : ∀ x, (x, NameKind.free) ∈ scope.names → ∃ c, env.cells.lookup x = some c) :
    ∃ cl, closureFor scope env = pure cl ∧ (∀ x c, cl.lookup x = some c → (x, NameKind.free) ∈ scope.names ∧ env.cells.lookup x = some c) ∧ ∀ x, (x, NameKind.free) ∈ scope.names → ∃ c, cl.lookup x = some c := by
  obtain ⟨cl, h1, h2, _, h4⟩ := closure_loop env scope.names [] h
  refine ⟨cl, ?_, fun x c hx => (h2 x c (mem_of_lookup hx)).elim (fun e => by cases e) id, fun x hx => let ⟨c, hc⟩ := h4 x hx; lookup_some_of_mem hc⟩
  unfold closureFor
  simp only [bind_pure]
  exact h1

/-- a comprehension's environment -/
structure CEnv (scope : Scope) (cenv : Env) (N : Nat) : Prop where
  kind : ∀ x k, scope.names.lookup x = some k → k ≠ .free → cenv.kindOf x = some k
  free : ∀ x, scope.names.lookup x = some .free → cenv.kindOf x = some .cell ∨ cenv.kindOf x = some .free
  own : ∀ x, scope.names.lookup x = some .cell → ∀ c, cenv.cells.lookup x = some c → N ≤ c

theorem lookup_map_kind (f : Str → NameKind → NameKind) : ∀ (names : List (Str × NameKind)) (x : Str), (names.map fun p => (p.1, f p.1 p.2)).lookup x = (names.lookup x).map (f x)
  | [], _ => rfl
  | (y, k) :: r, x => by
    rw [List.map_cons, List.lookup_cons, List.lookup_cons]
    cases hb : x == y with
    | true => rw [eq_of_beq hb]; rfl
    | false => exact lookup_map_kind f r x
theorem kindOf_relabel {scope : Scope} {env cenv : Env} (h : cenv.scope = relabel scope env) (x : Str) :
    cenv.kindOf x = (scope.names.lookup x).map fun k => if (k == .free && env.scope.kind == .function && env.kindOf x == some .cell) then .cell else k := by
  show List.lookup x cenv.scope.names = _
  rw [h]
  show List.lookup x (scope.names.map _) = _
  rw [show (scope.names.map fun (n, k) => if (k == .free && env.scope.kind == .function && env.kindOf n == some .cell) then (n, NameKind.cell) else (n, k)) = scope.names.map fun p => (p.1, (fun x k => if (k == .free && env.scope.kind == .function && env.kindOf x == some .cell) then .cell else k) p.1 p.2) by
    refine List.map_congr_left fun p _ => ?_
    obtain ⟨n, k⟩ := p
    show (if _ then _ else _) = _
    split <;> simp_all]
  exact lookup_map_kind (fun x k => if (k == .free && env.scope.kind == .function && env.kindOf x == some .cell) then .cell else k) _ _

theorem ex_freeze {s : Shared} {F : Fz} {a : Addr} {o : Obj} (g : Good G s F) (h : F a = none) (ho : s.heap.get? a = some o) (hit : isTab o = false := by rfl) : Ex G (· = a) s F s (F.put a o) := by
  have fz : ∀ b o', F.put a o b = some o' → s.heap.get? b = some o' := fun b o' e => by
    unfold Fz.put at e
    by_cases q : b = a
    · subst q; rw [if_pos rfl] at e; cases e; exact ho
    · rw [if_neg q] at e; exact g.fz b o' e
  have nt : ∀ b o', F.put a o b = some o' → isTab o' = false := fun b o' e => by
    unfold Fz.put at e
    by_cases q : b = a
    · rw [if_pos q] at e; cases e; exact hit
    · rw [if_neg q] at e; exact g.nt b o' e
  refine ⟨Nat.le_refl _, fun _ _ _ e _ => e, fun _ _ e _ => .inl e, Fz.put_le' h o, fun b o' e => ?_, { g with fz := fz, nt := nt, ff := g.ff.trans (Fz.put_le' h o) }, fun _ _ e => e⟩
  unfold Fz.put at e
  by_cases q : b = a
  · exact .inr (.inr q)
  · rw [if_neg q] at e; exact .inl e

/-- a comprehension that makes a list -/
theorem comp_core {elt t iter : Expr} {ifs : List Expr} {gs : List Comprehension} {scope : Scope} {pos : Pos} {ds out : List D} {ρc : Ro} (hr : Room A 0) (he : EnvF env) (hb : G.h₁.objs.size ≤ N) (hI : Items G A env ρ t iter ds)
    (hkind : scope.kind = .function) (hnames : ∀ p ∈ scope.names, scope.names.lookup p.1 = some p.2) (hdbg : scope.names.lookup ("__debug__" : Str) = none) (hcd : scope.names.lookup ("__classdict__" : Str) = none)
    (hc : ∀ p ∈ ρc, p ∈ ρ ∧ (∃ d, p.2 = .v d) ∧ (env.kindOf p.1 = some .cell ∨ env.kindOf p.1 = some .free) ∧ scope.names.lookup p.1 = some .free) (hcn : (ρc.map (·.1)).Nodup) (hca : ∀ x, (x, NameKind.free) ∈ scope.names → x ∈ ρc.map (·.1))
    (hbody : ∀ cenv N, FrOk G cenv N → CEnv scope cenv N → CTurns G A cenv N (CAct G A cenv N elt gs) t ifs ds ρc [] fun acc _ => acc = out) (hs : ∀ x, foldedSetIterable iter env x = pure x)
    {use : Option (Value → Sem Unit)} {p' : Pos} {s : Shared} {F : Fz} (g : Good G s F) (hv : Vars G env s.heap F ρ) {Q : Value → Shared → Prop} {E : Value → Shared → Prop}
    (k : ∀ D C s' F' m, Ex G nowhere s F s' F' → Rd F' (.ref D) (.lst out) → s'.heap.Ns C m → F' C = none → s.heap.objs.size ≤ C → compPost (model G.prog G.w) A E use Q (.ref D) C (.ok .next) s') :
    wpAny (model G.prog G.w) A (comprehension (.ListComp elt (⟨t, iter, ifs, 0⟩ :: gs) scope pos) scope env p' (newList []) false (eval iter env) use) Q E s := by
  -- what is captured
  have capt : ∀ p ∈ ρc, ∃ c v d, p.2 = .v d ∧ env.cells.lookup p.1 = some c ∧ s.heap.IsCell c (some v) ∧ Rd F v d := fun p hp => by
    obtain ⟨h1, ⟨d, hd⟩, h2, _⟩ := hc p hp
    have q := hv.at' p h1
    rw [hd] at q
    obtain ⟨v, va, r⟩ := q
    rcases va with ⟨kl, _⟩ | ⟨_, c, hl, hcell⟩
    · rw [kl] at h2; rcases h2 with h2 | h2 <;> cases h2
    · exact ⟨c, v, d, hd, hl, hcell, r⟩
  have captN : ∀ x, (x, NameKind.free) ∈ scope.names → ∃ c v, env.cells.lookup x = some c ∧ s.heap.IsCell c (some v) := fun x hx => by
    obtain ⟨p, hp, rfl⟩ := List.mem_map.mp (hca x hx)
    obtain ⟨c, v, d, _, h1, h2, _⟩ := capt p hp
    exact ⟨c, v, h1, h2⟩
  obtain ⟨cl, hcl, hcl1, hcl2⟩ := closure_ (env := env) (scope := scope) fun x hx => let ⟨c, _, h, _⟩ := captN x hx; ⟨c, h⟩
  have clLt : ∀ x c, cl.lookup x = some c → c < s.heap.objs.size := fun x c h => by
    obtain ⟨h1, h2⟩ := hcl1 x c h
    obtain ⟨c', v, h3, h4⟩ := captN x h1
    rw [h2] at h3; cases h3
    exact h4.lt
  refine wpAny_comprehension_free (g := ⟨t, iter, ifs, 0⟩) (gs := gs) (cl := cl) rfl hs hcl hkind (fun x hx hl => by rw [hnames x hx, hl]) ?_
  refine hI.run s F g hv _ _ fun it wr St s2 F2 x2 hwr W hst => ?_
  refine wpAny_newObj_type ?_
  have g2 := x2.good
  have e3 : Ex G nowhere s2 F2 { s2 with heap := s2.heap.push (lObj [] 0), toks := s2.toks } F2 := ex_heap g2 (fun _ _ e => Heap.get?_push_of_some _ e) (by rw [Heap.size_push]; walk_at "m_om")
  have hl3 : ListAt { s2 with heap := s2.heap.push (lObj [] 0), toks := s2.toks } F2 s2.heap.objs.size [] := ⟨g2.none_of (Nat.le_refl _), [], 0, Heap.get?_push_size _ rfl, .nil⟩
  have hst3 := W.frame hst e3 fun _ _ => id
  have hz3 : ({ s2 with heap := s2.heap.push (lObj [] 0), toks := s2.toks } : Shared).heap.objs.size = s2.heap.objs.size + 1 := Heap.size_push ..
  have x3 := x2.trans' e3
  have hun := W.un hst
  generalize hS : ({ s2 with heap := s2.heap.push (lObj [] 0), toks := s2.toks } : Shared) = s3 at e3 hl3 hst3 hz3 x3
  show wpAny _ _ _ _ _ s3
  refine wpAny_newEnv ?_
  show wpAny _ _ (forIn [] PUnit.unit _) _ _ _
  rw [List.forIn_nil]
  refine wpAny_pure ?_
  generalize hcenv : ({ newEnv scope s3.heap.objs.size env.globals (cellsFrom (s3.heap.objs.size + 1) scope.names [] ++ cl) env.qual none .none (some env) builtinsNs with scope := relabel scope env } : Env) = cenv
  have e1 : cenv.scope = relabel scope env := by rw [← hcenv]
  have e2 : cenv.locals = s3.heap.objs.size := by rw [← hcenv]; rfl
  have e4 : cenv.cells = cellsFrom (s3.heap.objs.size + 1) scope.names [] ++ cl := by rw [← hcenv]; rfl
  have e5 : cenv.globals = mainGlobals := by rw [← hcenv]; exact he.globals
  have e6 : cenv.builtins = builtinsNs := by rw [← hcenv]; exact he.builtins
  have kr := kindOf_relabel e1
  have notCell : ∀ x, scope.names.lookup x ≠ some .cell → (x, NameKind.cell) ∉ scope.names := fun x h q => h (hnames _ q)
  have inNew : ∀ {x c}, (cellsFrom (s3.heap.objs.size + 1) scope.names []).lookup x = some c → (x, NameKind.cell) ∈ scope.names := fun h => cellsFrom_of _ _ _ _ (mem_of_lookup h)
  have en : EnvNew cenv scope.names cl s3.heap := by
    refine ⟨⟨by rw [e1]; exact hkind, e5, e6, by rw [kr, hdbg]; rfl, by rw [kr, hcd]; rfl⟩, e2, e4, hnames, fun x hx => ?_, fun x hx => ?_, fun x c h => Nat.lt_of_lt_of_le (clLt x c h) x3.size⟩
    · rw [kr] at hx
      cases q : scope.names.lookup x with
      | none => rw [q] at hx; cases hx
      | some kk =>
        rw [q] at hx
        simp only [Option.map_some, Option.some.injEq] at hx
        split at hx
        · rename_i hcond
          have hf : kk = .free := by simp only [Bool.and_eq_true] at hcond; simpa using hcond.1.1
          subst hf
          have hm := mem_of_lookup q
          obtain ⟨c, hcc⟩ := hcl2 x hm
          obtain ⟨c', v, h1, h2⟩ := captN x hm
          rw [(hcl1 x c hcc).2] at h1; cases h1
          exact .inr ⟨notCell x (by rw [q]; decide), c, _, hcc, x3.kp.cell h2⟩
        · subst hx; exact .inl (mem_of_lookup q)
    · rw [kr] at hx
      cases q : scope.names.lookup x with
      | none => rw [q] at hx; cases hx
      | some kk =>
        rw [q] at hx
        simp only [Option.map_some, Option.some.injEq] at hx
        split at hx
        · cases hx
        · subst hx; exact notCell x (by rw [q]; decide)
  have hvc : ∀ p ∈ ρc, EnAt G cenv s3.heap F2 p.1 p.2 ∧ ∃ d, p.2 = .v d := fun p hp => by
    obtain ⟨c, v, d, hd, h1, h2, r⟩ := capt p hp
    obtain ⟨_, _, h3, h4⟩ := hc p hp
    refine ⟨?_, d, hd⟩
    rw [hd]
    refine ⟨v, .inr ⟨?_, c, ?_, x3.kp.cell h2⟩, r.mono x3.le⟩
    · rw [kr, h4]
      simp only [Option.map_some]
      split
      · exact .inl rfl
      · exact .inr rfl
    · rw [e4, lookup_append]
      cases q : (cellsFrom (s3.heap.objs.size + 1) scope.names []).lookup p.1 with
      | some c' => exact absurd (inNew q) (notCell _ (by rw [h4]; decide))
      | none =>
        obtain ⟨c', hc'⟩ := hcl2 p.1 (mem_of_lookup h4)
        rw [hc']
        have := (hcl1 _ _ hc').2
        rw [h1] at this; cases this; rfl
  obtain ⟨fr, i4, x4⟩ := frame_start (ty := "dict") x3.good en hvc hcn
  have ce : CEnv scope cenv s3.heap.objs.size := by
    refine ⟨fun x kk h hne => ?_, fun x h => ?_, fun x h c hcc => ?_⟩
    · rw [kr, h]
      simp only [Option.map_some]
      rw [if_neg (by simp only [Bool.and_eq_true, not_and]; intro q; exact absurd (by simpa using q.1) hne)]
    · rw [kr, h]
      simp only [Option.map_some]
      split
      · exact .inl rfl
      · exact .inr rfl
    · have ok := cellsFrom_ok scope.names (s3.heap.push { cls := .type "dict", data := .dict #[] }) (s3.heap.objs.size + 1) [] ⟨fun _ _ hm => (nomatch hm), List.Pairwise.nil⟩ (by rw [Heap.size_push]; exact Nat.le_refl _)
      rw [Heap.size_push] at ok
      rw [e4, lookup_append] at hcc
      cases q : (cellsFrom (s3.heap.objs.size + 1) scope.names []).lookup x with
      | some c' => rw [q] at hcc; cases hcc; exact Nat.le_of_succ_le (ok.empty x c (mem_of_lookup q)).2
      | none =>
        rw [q] at hcc
        have := (hcl1 x c hcc).1
        rw [hnames _ this] at h; cases h
  have notIn : ∀ b, s.heap.objs.size ≤ b → b < s3.heap.objs.size → NotIn cenv [] b := fun b h1 h2 => by
    refine ⟨fun e => absurd (e2 ▸ e) (Nat.ne_of_lt h2), fun x _ h => ?_, List.not_mem_nil⟩
    rw [e4, lookup_append] at h
    cases q : (cellsFrom (s3.heap.objs.size + 1) scope.names []).lookup x with
    | some c' =>
      rw [q] at h; cases h
      have ok := cellsFrom_ok scope.names (s3.heap.push { cls := .type "dict", data := .dict #[] }) (s3.heap.objs.size + 1) [] ⟨fun _ _ hm => (nomatch hm), List.Pairwise.nil⟩ (by rw [Heap.size_push]; exact Nat.le_refl _)
      rw [Heap.size_push] at ok
      exact absurd h2 (Nat.not_lt.mpr (Nat.le_of_succ_le (ok.empty x b (mem_of_lookup q)).2))
    | none => rw [q] at h; exact absurd (clLt x b h) (Nat.not_lt.mpr h1)
  have hst4 := W.frame hst3 x4 fun _ _ => id
  have hl4 := hl3.ex x4 id
  have Dnew : s.heap.objs.size ≤ s2.heap.objs.size := x2.size
  have ho0 : owns ρc = [] := by
    unfold owns
    rw [List.filterMap_eq_nil_iff]
    intro p hp
    obtain ⟨d, e⟩ := (hvc p hp).2
    rw [e]
  have loop : ∀ it' s', it' = it → s' = { s3 with heap := frameHeap s3.heap scope.names "dict" } → codeAny (model G.prog G.w) A (.compLoop (.ListComp elt (⟨t, iter, ifs, 0⟩ :: gs) scope pos) 0 it' (.ref s2.heap.objs.size) cenv) (compPost (model G.prog G.w) A E use Q (.ref s2.heap.objs.size) cenv.locals) s' := by
    rintro _ _ rfl rfl
    refine compLoop_ hr fr (Nat.le_trans g.base.size Dnew) (notIn _ Dnew (by rw [hz3]; exact Nat.lt_succ_self _)) gs t iter ifs 0 [] rfl rfl W i4 ho0 hl4 hst4 (fun m => absurd (hun _ m).1 (Nat.lt_irrefl _)) (fun b hb => notIn b (hwr b hb) (by rw [hz3]; exact Nat.lt_succ_of_lt (hun b hb).1)) (hbody cenv _ fr ce) fun s5 F5 ρ5 acc5 hK i5 ho5 hl5 x5 => ?_
    subst hK
    obtain ⟨hF5, vs, n, hget, hrl⟩ := hl5
    obtain ⟨m, hm⟩ := i5.frm.ns
    have x5' : Ex G nowhere s F s5 F5 := (x3.trans' x4).trans x5 fun b mm => by
      refine .inr ?_
      have szN : s.heap.objs.size ≤ s3.heap.objs.size := x3.size
      rcases mm with mm | mm | mm
      · rcases mm with mm | ⟨_, _, _, mm⟩ | mm
        · subst mm; rw [e2]; exact szN
        · exact Nat.le_trans szN mm
        · cases mm
      · subst mm; exact Dnew
      · exact hwr b mm
    have x6 := x5'.trans (ex_freeze x5'.good hF5 hget) fun b mm => .inr (by subst mm; exact Dnew)
    refine k s2.heap.objs.size cenv.locals s5 _ m x6 (.lst (Fz.put_self ..) (hrl.mono (Fz.put_le' hF5 _))) hm ?_ (by rw [e2]; exact x3.size)
    unfold Fz.put
    rw [if_neg (fun e => by rw [e2, hz3] at e; exact absurd e (Nat.succ_ne_self _))]
    exact i5.frm.fl
  subst hcenv
  subst hS
  exact codeAny_compStart_any rfl (loop _ _ rfl rfl) (W.self i4.good hst4 _ _ (loop _ _ rfl rfl))
end
end
/- B18 -/
section
section
variable {G : Gx} {A : Around} {env : Env} {N : Nat} {ρ : Ro} {P : Out → Prop}

theorem let_go {s s' : Shared} {F F' : Fz} {C : Addr} {m : Str → Option Value} {h' : Heap} (hb : G.h₁.objs.size ≤ C) (x : Ex G nowhere s F s' F') (hm : s'.heap.Ns C m) (hF : F' C = none) (hC : s.heap.objs.size ≤ C) (hs : Heap.SameBut C s'.heap h') : Ex G nowhere s F { s' with heap := h' } F' := by
  obtain ⟨o, es, ep, ho, hd, _⟩ := hm
  exact x.trans (ex_at (M := (· = C)) (tk := s'.toks) x.good hs hb hF ho (codey_dict hd) (isTab_dict hd) rfl) fun a q => .inr (q ▸ hC)

def frees (scope : Scope) : List Str := (scope.names.filter fun p => p.2 == .free).map (·.1)
/-- what a comprehension captures, name by name -/
inductive Capt (env : Env) (ρ : Ro) : List Str → Ro → Prop where
  | nil : Capt env ρ [] []
  | cons {x : Str} {xs : List Str} {d : D} {ρc : Ro} : (x, En.v d) ∈ ρ → (env.kindOf x = some .cell ∨ env.kindOf x = some .free) → Capt env ρ xs ρc → Capt env ρ (x :: xs) ((x, .v d) :: ρc)
theorem Capt.names {xs : List Str} {ρc : Ro} (h : Capt env ρ xs ρc) : ρc.map (·.1) = xs := by
  induction h with
  | nil => rfl
  | cons _ _ _ ih => rw [List.map_cons, ih]
theorem Capt.all {xs : List Str} {ρc : Ro} (h : Capt env ρ xs ρc) : ∀ p ∈ ρc, p ∈ ρ ∧ (∃ d, p.2 = .v d) ∧ (env.kindOf p.1 = some .cell ∨ env.kindOf p.1 = some .free) := by
  induction h with
  | nil => intro p hp; cases hp
  | cons h1 h2 _ ih =>
    intro p hp
    rcases List.mem_cons.mp hp with rfl | hp
    · exact ⟨h1, ⟨_, rfl⟩, h2⟩
    · exact ih p hp
/-- a comprehension's scope -/
structure ScComp (scope : Scope) : Prop where
  kind : scope.kind = .function
  names : ∀ p ∈ scope.names, scope.names.lookup p.1 = some p.2
  nodup : (frees scope).Nodup
  dbg : scope.names.lookup ("__debug__" : Str) = none
  cd : scope.names.lookup ("__classdict__" : Str) = none
theorem capt_full {scope : Scope} (sk : ScComp scope) {ρc : Ro} (h : Capt env ρ (frees scope) ρc) : (∀ p ∈ ρc, p ∈ ρ ∧ (∃ d, p.2 = .v d) ∧ (env.kindOf p.1 = some .cell ∨ env.kindOf p.1 = some .free) ∧ scope.names.lookup p.1 = some .free) ∧ (ρc.map (·.1)).Nodup ∧ ∀ x, (x, NameKind.free) ∈ scope.names → x ∈ ρc.map (·.1) := by
  refine ⟨fun p hp => ?_, by rw [h.names]; exact sk.nodup, fun x hx => ?_⟩
  · obtain ⟨a, b, c⟩ := h.all p hp
    refine ⟨a, b, c, ?_⟩
    have hm : p.1 ∈ frees scope := by rw [← h.names]; exact List.mem_map_of_mem hp
    obtain ⟨q, hq, e⟩ := List.mem_map.mp hm
    obtain ⟨hq1, hq2⟩ := List.mem_filter.mp hq
    have := sk.names q hq1
    rw [← e, this]
    simpa using hq2
  · rw [h.names]
    exact List.mem_map.mpr ⟨(x, .free), List.mem_filter.mpr ⟨hx, rfl⟩, rfl⟩

section
variable {elt t iter : Expr} {ifs : List Expr} {gs : List Comprehension} {scope : Scope} {pos : Pos} {ds out : List D} {ρc : Ro}
theorem ev_comp (hr : Room A 0) (he : EnvF env) (sk : ScComp scope) (hs : ∀ x, foldedSetIterable iter env x = pure x) (hI : Items G A env ρ t iter ds) (hc : Capt env ρ (frees scope) ρc)
    (hbody : ∀ cenv N, FrOk G cenv N → CEnv scope cenv N → CTurns G A cenv N (CAct G A cenv N elt gs) t ifs ds ρc [] fun acc _ => acc = out) :
    Evals G A env ρ (.ListComp elt (⟨t, iter, ifs, 0⟩ :: gs) scope pos) (.lst out) := .mk fun s F g hv Q E k => by
  rw [eval_ListComp]
  obtain ⟨c1, c2, c3⟩ := capt_full sk hc
  exact comp_core hr he (Nat.le_refl _) hI sk.kind sk.names sk.dbg sk.cd c1 c2 c3 hbody hs g hv fun D C s' F' m x r hm hF hC =>
    ⟨m, hm, fun h' hs' => k _ _ F' (let_go (Nat.le_trans g.base.size hC) x hm hF hC hs') r⟩

/-- a name set to a comprehension on its own line -/
theorem x_comp {y : Str} {py spos : Pos} {ρ' : Ro} (hr : Room A 0) (fr : FrOk G env N) (sk : ScComp scope) (hs : ∀ x, foldedSetIterable iter env x = pure x) (hI : Items G A env ρ t iter ds) (hc : Capt env ρ (frees scope) ρc)
    (hbody : ∀ cenv N, FrOk G cenv N → CEnv scope cenv N → CTurns G A cenv N (CAct G A cenv N elt gs) t ifs ds ρc [] fun acc _ => acc = out)
    (hk : Holds env N y) (hp : Put y (.v (.lst out)) ρ ρ')
    (hsw : swapsWith (.ListComp elt (⟨t, iter, ifs, 0⟩ :: gs) scope pos) (some (.Name y py)) spos.line env = pure true) (h : P (.next ρ')) :
    X1 G A env N (.Assign [.Name y py] (.ListComp elt (⟨t, iter, ifs, 0⟩ :: gs) scope pos) spos) ρ P := .mk fun s F i Q E k => by
  rw [exec_Assign_Name_used _ _ _ _ hsw]
  obtain ⟨c1, c2, c3⟩ := capt_full sk hc
  refine wpAny_bind (wpAny_standAt (wpAny_bind ?_))
  show wpAny _ A (do let _ ← comprehension (.ListComp elt (⟨t, iter, ifs, 0⟩ :: gs) scope pos) scope env _ (newList []) false (eval iter env) (some (assign (.Name y py) env))) _ _ s
  refine wpAny_bind (wpAny_mono (comp_core (use := some (assign (.Name y py) env)) (Q := fun _ s' => Q .next s') hr fr.toEnvF (Nat.le_refl _) hI sk.kind sk.names sk.dbg sk.cd c1 c2 c3 hbody hs i.good i.vars fun D C s' F' m x r hm hF hC => ?_) (fun _ s' hq => wpAny_pure (wpAny_pure hq)) fun _ _ e => e)
  have i' := i.ex x
  have nC := i.notIn fr hC
  refine wpAny_assign_Name (store_ fr i' hk r hp fun s2 x2 i2 => ?_)
  have hb := Nat.le_trans i.good.base.size hC
  obtain ⟨o, es, ep, ho, hd, hrest⟩ := hm
  have ho2 := x2.keep _ _ nC.mod ho (isTab_dict hd)
  refine ⟨m, ⟨o, es, ep, ho2, hd, hrest⟩, fun h' hs' => ?_⟩
  have hF2 : F' C = none := hF
  have x3 : Ex G (· = C) s2 F' { s2 with heap := h', toks := s2.toks } F' := ex_at x2.good hs' hb hF2 ho2 (codey_dict hd) (isTab_dict hd) rfl
  have nC' : NotIn env ρ' C := nC.sub fun a m => .inl (hp.owns_v.subset m)
  refine k (.next ρ') .next _ F' h hp.owns_le (((x.weaken fun _ f => f.elim).trans' x2).trans x3 fun a q => .inr (q ▸ hC)) ⟨rfl, i2.exM' x3 fun a q => by subst q; exact nC'⟩
end

/-- a function of the module, walked once -/
structure FnAt (G : Gx) (f : Str) (a : Addr) (fd : FuncData) (body : List Stmt) : Prop where
  name : G.mg f = some (.ref a)
  obj : ∃ o, G.h₁.get? a = some o ∧ o.data = .func fd
  code : ∀ h, G.inv h → CodeOk h fd.code fd.qualname
  body : fd.body = .stmts body
  closure : fd.closure = []
  globals : fd.globals = mainGlobals
  builtins : fd.builtins = builtinsNs
  kind : fd.scope.kind = .function
  dbg : fd.scope.names.lookup ("__debug__" : Str) = none
  cd : fd.scope.names.lookup ("__classdict__" : Str) = none
  uniq : ∀ p ∈ fd.scope.names, fd.scope.names.lookup p.1 = some p.2
  nofree : ∀ p ∈ fd.scope.names, p.2 ≠ .free
  co : fd.scope.isCoroutine = false

/-- the frame of a call -/
abbrev frameOf (fd : FuncData) (L a : Addr) : Env := newEnv fd.scope L fd.globals (cellsFrom (L + 1) fd.scope.names [] ++ []) (fd.qualname ++ ".<locals>.") (some a) fd.code none fd.builtins

/-- how a body ends a call -/
def RetIs (d : D) : Out → Prop
  | .ret d' => d' = d
  | .next _ => d = .none
  | _ => False

theorem Room.deeper {k : Nat} {env : Env} (r : Room A (k + 1)) : Room (A.deeper env) k := by
  refine ⟨r.handled, ?_, ?_⟩
  · have := r.depth; show A.depth + 1 + k < _; walk_at "m_om"
  · have := r.units; show A.units + 3 + 10 * k + 100 < _; walk_at "m_om"
theorem Room.in1 {k : Nat} (r : Room A (k + 1)) : Room A.in1 k := ⟨r.handled, by have := r.depth; show A.depth + k < _; walk_at "m_om", by have := r.units; show A.units + 1 + 10 * k + 100 < _; walk_at "m_om"⟩
end
end
/- B19 -/
section
section
variable {G : Gx} {A : Around} {env : Env} {N : Nat} {ρ : Ro} {P : Out → Prop}

/-- a def's environment in a call -/
abbrev mkE (sc : Scope) (L : Addr) (cs : List (Str × Addr)) (q : Str) (f : Option Addr) (cd : Value) (fr : Option Addr) : Env := ⟨sc, L, mainGlobals, cs, q, f, cd, fr, builtinsNs⟩

/-- a plain def: its object's data -/
structure DefOk (fd : FuncData) (ps : List Str) (body : List Stmt) (sc : Scope) : Prop where
  body : fd.body = .stmts body
  scope : fd.scope = sc
  globals : fd.globals = mainGlobals
  builtins : fd.builtins = builtinsNs
  bind : ∀ vals : List Value, vals.length = ps.length → bindArgs fd ⟨vals, []⟩ = pure (ps.zip vals)
/-- a scope fit for a plain def -/
structure ScOk (sc : Scope) (ps : List Str) : Prop where
  kind : sc.kind = .function
  co : sc.isCoroutine = false
  gen : sc.isGenerator = false
  dbg : sc.names.lookup ("__debug__" : Str) = none
  cd : sc.names.lookup ("__classdict__" : Str) = none
  uniq : ∀ p ∈ sc.names, sc.names.lookup p.1 = some p.2
  par : ∀ x ∈ ps, sc.names.lookup x = some .local ∨ sc.names.lookup x = some .cell
  pars : ps.Nodup

def Def (G : Gx) (f : Str) (ps : List Str) (body : List Stmt) (sc : Scope) : Prop :=
  ∃ (a : Addr) (o : Obj) (fd : FuncData), G.mg f = some (.ref a) ∧ G.h₁.get? a = some o ∧ o.data = .func fd ∧ DefOk fd ps body sc ∧ fd.closure = [] ∧ ∀ h, Kp G.T G.h₁ h → h.CodeRec fd.code fd.qualname

theorem put_end {x : Str} {e : En} : ∀ {ρ : Ro}, x ∉ ρ.map (·.1) → Put x e ρ (ρ ++ [(x, e)])
  | [], _ => .nil
  | (y, e') :: ρ, h => by
    rw [List.map_cons, List.mem_cons, not_or] at h
    exact .tail h.1 (put_end h.2)
theorem params_put : ∀ (ps : List Str) (ds : List D) (ρ : Ro), ps.length = ds.length → ps.Nodup → (∀ x ∈ ps, x ∉ ρ.map (·.1)) → (∀ x ∈ ps, Holds env N x) → PutL env N ps ds ρ (ρ ++ ps.zip (ds.map En.v))
  | [], [], ρ, _, _, _, _ => by simpa using PutL.nil
  | x :: ps, d :: ds, ρ, hl, hn, hd, hk => by
    have hn' := List.nodup_cons.mp hn
    have := params_put ps ds (ρ ++ [(x, .v d)]) (by simpa using hl) hn'.2 (fun y hy => by
      rw [List.map_append, List.mem_append, not_or]
      refine ⟨hd y (List.mem_cons_of_mem _ hy), ?_⟩
      simp only [List.map_cons, List.map_nil, List.mem_singleton]
      intro e; subst e; exact hn'.1 hy) fun y hy => hk y (List.mem_cons_of_mem _ hy)
    rw [List.append_assoc] at this
    exact .cons (hk x List.mem_cons_self) (put_end (hd x List.mem_cons_self)) this
  | [], _ :: _, _, hl, _, _, _ => by simp at hl
  | _ :: _, [], _, hl, _, _, _ => by simp at hl

theorem map_snd_zip {α β : Type} : ∀ (l : List α) (m : List β), l.length = m.length → (l.zip m).map (·.2) = m
  | [], [], _ => rfl
  | a :: l, b :: m, h => by simp [map_snd_zip l m (by simpa using h)]
  | [], _ :: _, h => by simp at h
  | _ :: _, [], h => by simp at h
theorem map_fst_zip {α β : Type} : ∀ (l : List α) (m : List β), l.length = m.length → (l.zip m).map (·.1) = l
  | [], [], _ => rfl
  | a :: l, b :: m, h => by simp [map_fst_zip l m (by simpa using h)]
  | [], _ :: _, h => by simp at h
  | _ :: _, [], h => by simp at h

/-- a call, walked from its body: any closure -/
theorem call_body {a : Addr} {o : Obj} {fd : FuncData} {ps : List Str} {body : List Stmt} {sc : Scope} {cl : List (Str × Addr)} {ρ0 : Ro} {ds : List D} {vs : List Value} {s : Shared} {F : Fz} (ok : DefOk fd ps body sc) (sk : ScOk sc ps) (hcl : fd.closure = cl)
    (ho : s.heap.get? a = some o) (hd : o.data = .func fd) (hcode : s.heap.CodeRec fd.code fd.qualname) (hroom : A.depth < recursionLimit) (g : Good G s F) (r : RdL F vs ds) (hlen : ps.length = ds.length)
    (hfree : ∀ x, (x, NameKind.free) ∈ sc.names → ∃ c v, cl.lookup x = some c ∧ s.heap.IsCell c v) (hclLt : ∀ x c, cl.lookup x = some c → c < s.heap.objs.size) (hclF : ∀ x c, cl.lookup x = some c → (x, NameKind.free) ∈ sc.names)
    (hρ : ∀ p ∈ ρ0, (∃ d, p.2 = .v d) ∧ (p.1, NameKind.free) ∈ sc.names ∧ ∃ c v d, p.2 = .v d ∧ cl.lookup p.1 = some c ∧ s.heap.IsCell c (some v) ∧ Rd F v d) (hρn : (ρ0.map (·.1)).Nodup) (hρp : ∀ x ∈ ps, x ∉ ρ0.map (·.1))
    {Q : Value → Shared → Prop} {E : Value → Shared → Prop}
    (k : ∀ L cs q fr cd, cd = fd.code → q = fd.qualname ++ ".<locals>." → FrOk G (mkE sc L cs q (some a) cd fr) s.heap.objs.size → (∀ x c, sc.names.lookup x = some .cell → cs.lookup x = some c → s.heap.objs.size ≤ c) → (∀ x c, sc.names.lookup x = some .free → cl.lookup x = some c → cs.lookup x = some c) → ∀ s1, In G (mkE sc L cs q (some a) cd fr) s.heap.objs.size s1 F (ρ0 ++ ps.zip (ds.map En.v)) → Ex G nowhere s F s1 F →
      wpAny (model G.prog G.w) (A.deeper (mkE sc L cs q (some a) cd fr)) (execs body (mkE sc L cs q (some a) cd fr)) (fun f s' => Q (match f with | .ret v => v | _ => .none) s') (fun e s' => wpAny (model G.prog G.w) (A.deeper (mkE sc L cs q (some a) cd fr)) (leaving (mkE sc L cs q (some a) cd fr) e) (fun _ s'' => E e s'') (fun e' s'' => E e' s'') s') s1) :
    wpAny (model G.prog G.w) A (call (.ref a) vs) Q E s := by
  have hlv : vs.length = ps.length := by rw [r.length, hlen]
  obtain ⟨hbody, hsc, hgl, hbu, hbind⟩ := ok
  refine wpAny_call (codeAny_call_function hroom ho hd (by rw [hsc]; exact sk.co) (by rw [hsc]; exact sk.gen) hbody hcode ?_)
  rw [hbind vs hlv, hcl, hsc, hgl, hbu]
  refine wpAny_pure (wpAny_newEnv ?_)
  have kd : ∀ x, Env.kindOf (newEnv sc s.heap.objs.size mainGlobals (cellsFrom (s.heap.objs.size + 1) sc.names [] ++ cl) (fd.qualname ++ ".<locals>.") (some a) fd.code none builtinsNs) x = sc.names.lookup x := fun x => rfl
  have notCell : ∀ x, sc.names.lookup x ≠ some .cell → (x, NameKind.cell) ∉ sc.names := fun x h q => h (sk.uniq _ q)
  have en : EnvNew (newEnv sc s.heap.objs.size mainGlobals (cellsFrom (s.heap.objs.size + 1) sc.names [] ++ cl) (fd.qualname ++ ".<locals>.") (some a) fd.code none builtinsNs) sc.names cl s.heap := by
    refine ⟨⟨sk.kind, rfl, rfl, sk.dbg, sk.cd⟩, rfl, rfl, sk.uniq, fun x hx => ?_, fun x hx => ?_, hclLt⟩
    · rw [kd] at hx; exact .inl (mem_of_lookup hx)
    · rw [kd] at hx; exact notCell x (by rw [hx]; decide)
  have look : ∀ x, sc.names.lookup x = some .free → ∀ c, cl.lookup x = some c → (cellsFrom (s.heap.objs.size + 1) sc.names [] ++ cl).lookup x = some c := fun x hx c hc => by
    rw [lookup_append]
    cases q : (cellsFrom (s.heap.objs.size + 1) sc.names []).lookup x with
    | some c' => exact absurd (cellsFrom_of _ _ _ _ (mem_of_lookup q)) (notCell x (by rw [hx]; decide))
    | none => exact hc
  obtain ⟨fr, i, x0⟩ := frame_start (ρ := ρ0) (ty := "frame") g en (fun p hp => by
    obtain ⟨hd', hf, c, v, d, e1, e2, e3, e4⟩ := hρ p hp
    refine ⟨?_, hd'⟩
    rw [e1]
    exact ⟨v, .inr ⟨.inr (sk.uniq _ hf), c, look _ (sk.uniq _ hf) c e2, e3⟩, e4⟩) hρn
  have hown : ∀ x c, sc.names.lookup x = some .cell → (cellsFrom (s.heap.objs.size + 1) sc.names [] ++ cl).lookup x = some c → s.heap.objs.size ≤ c := fun x c hx hc => by
    have ok := cellsFrom_ok sc.names (s.heap.push { cls := .type "frame", data := .dict #[] }) (s.heap.objs.size + 1) [] ⟨fun _ _ hm => (nomatch hm), List.Pairwise.nil⟩ (by rw [Heap.size_push]; exact Nat.le_refl _)
    rw [Heap.size_push] at ok
    rw [lookup_append] at hc
    cases q : (cellsFrom (s.heap.objs.size + 1) sc.names []).lookup x with
    | some c' => rw [q] at hc; cases hc; exact Nat.le_of_succ_le (ok.empty x c (mem_of_lookup q)).2
    | none =>
      rw [q] at hc
      have := sk.uniq _ (hclF x c hc)
      rw [this] at hx; cases hx
  have hp : PutL (newEnv sc s.heap.objs.size mainGlobals (cellsFrom (s.heap.objs.size + 1) sc.names [] ++ cl) (fd.qualname ++ ".<locals>.") (some a) fd.code none builtinsNs) s.heap.objs.size ps ds ρ0 (ρ0 ++ ps.zip (ds.map En.v)) :=
    params_put ps ds ρ0 hlen sk.pars hρp fun x hx => (sk.par x hx).imp id fun h => ⟨h, fun c hc => hown x c h hc⟩
  refine store_params fr i (by rw [map_snd_zip _ _ hlv.symm]; exact r) (by rw [map_fst_zip _ _ hlv.symm]; exact hp) fun s1 x1 i1 => ?_
  have ho0 : owns ρ0 = [] := by
    unfold owns
    rw [List.filterMap_eq_nil_iff]
    intro p hp
    obtain ⟨⟨d, e⟩, _⟩ := hρ p hp
    rw [e]
  have x01 : Ex G nowhere s F s1 F := x0.trans x1 fun b m => .inr (by
    rcases m with m | ⟨_, _, _, m⟩ | m
    · subst m; exact Nat.le_refl _
    · exact m
    · rw [ho0] at m; cases m)
  exact ⟨i1.good.nolimit, codeAny_func (k _ _ _ _ _ rfl rfl fr hown (fun x c h => look x h c) s1 i1 x01)⟩

theorem fn_of {f : Str} {ps : List Str} {body : List Stmt} {sc : Scope} {ds : List D} {d : D} {k : Nat} (hD : Def G f ps body sc) (sk : ScOk sc ps) (hlen : ps.length = ds.length) (hnf : ∀ p ∈ sc.names, p.2 ≠ .free)
    (h : ∀ A L cs q a fr cd N, Room A k → FrOk G (mkE sc L cs q a cd fr) N → (∀ x c, sc.names.lookup x = some .cell → cs.lookup x = some c → N ≤ c) → Xs G A (mkE sc L cs q a cd fr) N body (ps.zip (ds.map En.v)) (RetIs d)) : Fn G (k + 1) f ds d := by
  obtain ⟨a, o, fd, hm, ho, hd, ok, hcl, hcode⟩ := hD
  refine ⟨a, o, fd, hm, ho, hd, fun A hr => .mk fun s F vs g r Q E kk => ?_⟩
  refine call_body (ρ0 := []) ok sk hcl (g.base.get_func ho hd) hd (hcode _ g.base) (by have := hr.depth; walk_at "m_om") g r hlen (fun x hx => absurd rfl (hnf _ hx)) (fun x c h => by cases h) (fun x c h => by cases h) (fun p hp => by cases hp) List.nodup_nil (fun x _ => List.not_mem_nil) fun L cs q fr cd hcd hq fk hown _ s1 i1 x1 => ?_
  rw [List.nil_append] at i1
  refine (h _ L cs q (some a) fr cd _ hr.deeper fk hown).run s1 F i1 _ _ fun o' fl s2 F2 hP hO x2 hok => ?_
  have x2' : Ex G nowhere s F s2 F2 := x1.trans x2 fun b m => .inr (by
    rcases m with m | ⟨_, _, _, m⟩ | m
    · subst m; exact fk.loc
    · exact m
    · have : owns (ps.zip (ds.map En.v)) = [] := by
        unfold owns
        rw [List.filterMap_eq_nil_iff]
        intro p hp
        obtain ⟨x, e⟩ := p
        have := (List.of_mem_zip hp).2
        obtain ⟨d', _, rfl⟩ := List.mem_map.mp this
        rfl
      rw [this] at m; cases m)
  cases o' with
  | ret d' =>
    cases (show d' = d from hP)
    obtain ⟨v, rfl, rv⟩ := hok
    exact kk v s2 F2 x2' rv
  | next ρ' =>
    cases (show d = .none from hP)
    obtain ⟨rfl, _⟩ := hok
    exact kk .none s2 F2 x2' .none
  | brk => exact hP.elim
  | cont => exact hP.elim
/-- a plain def whose code object is known -/
def DefC (G : Gx) (f : Str) (ps : List Str) (body : List Stmt) (sc : Scope) (c : Value) (qn : Str) : Prop :=
  ∃ (a : Addr) (o : Obj) (fd : FuncData), G.mg f = some (.ref a) ∧ G.h₁.get? a = some o ∧ o.data = .func fd ∧ DefOk fd ps body sc ∧ fd.closure = [] ∧ (∀ h, Kp G.T G.h₁ h → h.CodeRec fd.code fd.qualname) ∧ fd.code = c ∧ fd.qualname = qn
theorem fn_ofC {f : Str} {c : Value} {qn : Str} {ps : List Str} {body : List Stmt} {sc : Scope} {ds : List D} {d : D} {k : Nat} (hD : DefC G f ps body sc c qn) (sk : ScOk sc ps) (hlen : ps.length = ds.length) (hnf : ∀ p ∈ sc.names, p.2 ≠ .free)
    (h : ∀ A L cs a fr N, Room A k → FrOk G (mkE sc L cs (qn ++ ".<locals>.") a c fr) N → (∀ x c, sc.names.lookup x = some .cell → cs.lookup x = some c → N ≤ c) → Xs G A (mkE sc L cs (qn ++ ".<locals>.") a c fr) N body (ps.zip (ds.map En.v)) (RetIs d)) : Fn G (k + 1) f ds d := by
  obtain ⟨a, o, fd, hm, ho, hd, ok, hcl, hcode, hc0, hq0⟩ := hD
  refine ⟨a, o, fd, hm, ho, hd, fun A hr => .mk fun s F vs g r Q E kk => ?_⟩
  refine call_body (ρ0 := []) ok sk hcl (g.base.get_func ho hd) hd (hcode _ g.base) (by have := hr.depth; walk_at "m_om") g r hlen (fun x hx => absurd rfl (hnf _ hx)) (fun x c h => by cases h) (fun x c h => by cases h) (fun p hp => by cases hp) List.nodup_nil (fun x _ => List.not_mem_nil) fun L cs q fr cd hcd hq fk hown _ s1 i1 x1 => ?_
  rw [List.nil_append] at i1
  rw [hc0] at hcd; rw [hq0] at hq; subst hcd; subst hq
  refine (h _ L cs (some a) fr _ hr.deeper fk hown).run s1 F i1 _ _ fun o' fl s2 F2 hP hO x2 hok => ?_
  have x2' : Ex G nowhere s F s2 F2 := x1.trans x2 fun b m => .inr (by
    rcases m with m | ⟨_, _, _, m⟩ | m
    · subst m; exact fk.loc
    · exact m
    · have : owns (ps.zip (ds.map En.v)) = [] := by
        unfold owns
        rw [List.filterMap_eq_nil_iff]
        intro p hp
        obtain ⟨x, e⟩ := p
        have := (List.of_mem_zip hp).2
        obtain ⟨d', _, rfl⟩ := List.mem_map.mp this
        rfl
      rw [this] at m; cases m)
  cases o' with
  | ret d' =>
    cases (show d' = d from hP)
    obtain ⟨v, rfl, rv⟩ := hok
    exact kk v s2 F2 x2' rv
  | next ρ' =>
    cases (show d = .none from hP)
    obtain ⟨rfl, _⟩ := hok
    exact kk .none s2 F2 x2' .none
  | brk => exact hP.elim
  | cont => exact hP.elim
end
end
/- B20 -/
section
section
variable {G : Gx} {A : Around} {env : Env} {N : Nat} {ρ : Ro} {P : Out → Prop}

variable {rest : List Stmt}
theorem xs_assign {x : Str} {px pos : Pos} {e : Expr} {d : D} {ρ' : Ro} (fr : FrOk G env N) (he : Evals G A env ρ e d) (hk : Holds env N x) (hp : Put x (.v d) ρ ρ') (hs : swapsWith e (some (.Name x px)) pos.line env = pure false) (h : Xs G A env N rest ρ' P) :
    Xs G A env N (.Assign [.Name x px] e pos :: rest) ρ P := xs_cons (x_assign fr he hk hp h hs)
theorem xs_aug {x : Str} {px pos : Pos} {op : Operator} {e : Expr} {d0 d1 d : D} {ρ' : Ro} (fr : FrOk G env N) (hx : (x, En.v d0) ∈ ρ) (he : Evals G A env ρ e d1) (ho : Op2 G A (inplaceOp op) d0 d1 d) (hk : Holds env N x) (hp : Put x (.v d) ρ ρ') (h : Xs G A env N rest ρ' P) :
    Xs G A env N (.AugAssign (.Name x px) op e pos :: rest) ρ P := xs_cons (x_aug fr hx he ho hk hp h)
theorem xs_return {e : Expr} {pos : Pos} {d : D} (he : Evals G A env ρ e d) (h : P (.ret d)) : Xs G A env N (.Return (some e) pos :: rest) ρ P := xs_cons (x_return he h)
/-- an if whose branches both go on or end -/
theorem xs_if {t : Expr} {body orelse : List Stmt} {pos : Pos} {b : Bool} (ht : Tests G A env ρ t b) (h1 : b = true → Xs G A env N body ρ (Then G A env N rest P)) (h2 : b = false → Xs G A env N orelse ρ (Then G A env N rest P)) : Xs G A env N (.If t body orelse pos :: rest) ρ P := xs_cons (x_if ht h1 h2)
/-- a branch's end: on with the rest -/
theorem xs_on (h : Xs G A env N rest ρ P) : Xs G A env N [] ρ (Then G A env N rest P) := xs_nil h
theorem xs_unpack {elts : List Expr} {k : Nat} {tpos pos : Pos} {value : Expr} {d : D} {ρ' : Ro} (hr : Room A 0) (fr : FrOk G env N) (he : Evals G A env ρ value d) (ha : Asg env N (.Tuple elts k tpos) d ρ ρ')
    (hs : swapsWithSole [.Tuple elts k tpos] value pos.line env = pure false) (hw : swappedStores [.Tuple elts k tpos] value env = pure none) (h : Xs G A env N rest ρ' P) :
    Xs G A env N (.Assign [.Tuple elts k tpos] value pos :: rest) ρ P := xs_cons (x_unpack hr fr he ha h hs hw)
theorem xs_swap {elts : List Expr} {k : Nat} {tpos pos : Pos} {value : Expr} {ds : List D} {ρ' : Ro} {names : List Str} (hr : Room A 0) (fr : FrOk G env N) (he : Evals G A env ρ value (.tup ds)) (hw : swappedStores [.Tuple elts k tpos] value env = pure (some names)) (hs : swapsWithSole [.Tuple elts k tpos] value pos.line env = pure false)
    (ha : PutL env N names.reverse ds.reverse ρ ρ') (h : Xs G A env N rest ρ' P) :
    Xs G A env N (.Assign [.Tuple elts k tpos] value pos :: rest) ρ P := xs_cons (x_swap hr fr he ha h hw hs)
theorem xs_for {t iter : Expr} {body : List Stmt} {pos : Pos} {ds : List D} (hr : Room A 0) (fr : FrOk G env N) (hi : Items G A env ρ t iter ds) (hs : ∀ x, foldedSetIterable iter env x = pure x) (hl : Loop G A env N t body ds ρ (Then G A env N rest P)) :
    Xs G A env N (.For t iter body [] pos :: rest) ρ P := xs_cons (x_for hr fr hi hl hs)
theorem xs_new {x : Str} {px pos p : Pos} {es : List Expr} {ds : List D} {ρ' : Addr → Ro} (fr : FrOk G env N) (hl : EvalsL G A env ρ es ds) (hk : Holds env N x) (hp : ∀ a, Put x (.own a ds) ρ (ρ' a)) (hz : ds.length ≤ 1000) (hs : NoStar p es env) (hw : swapsWith (.List es p) (some (.Name x px)) pos.line env = pure false)
    (h : ∀ a, Xs G A env N rest (ρ' a) P) : Xs G A env N (.Assign [.Name x px] (.List es p) pos :: rest) ρ P := xs_cons (x_new fr hl hk hp h hz hs hw)
theorem xs_append {x : Str} {p apos cpos pos : Pos} {a : Addr} {ds : List D} {d : D} {e : Expr} {ρ' : Ro} (fr : FrOk G env N) (hx : (x, En.own a ds) ∈ ρ) (he : Evals G A env ρ e d) (hp : Put x (.own a (ds ++ [d])) ρ ρ') (hz : ds.length ≤ 16777216)
    (hbase : attributeBase (.Name x p) "append" env (eval (.Name x p) env) = eval (.Name x p) env) (hst : starEach [e] env = [(false, eval e env)]) (hline : (apos.endLine == cpos.line) = true)
    (hi : interactive env = false) (hs : swapsWith (.Call (.Attribute (.Name x p) "append" apos) [e] [] cpos) none pos.line env = pure false) (h : Xs G A env N rest ρ' P) :
    Xs G A env N (.Expr (.Call (.Attribute (.Name x p) "append" apos) [e] [] cpos) pos :: rest) ρ P := xs_cons (x_append fr hx he hp h hz hbase hst hline hi hs)
theorem xs_freeze {stmts : List Stmt} {x : Str} {a : Addr} {ds : List D} {ρ' : Ro} (fr : FrOk G env N) (hx : (x, En.own a ds) ∈ ρ) (hp : Put x (.v (.lst ds)) ρ ρ') (h : Xs G A env N stmts ρ' P) : Xs G A env N stmts ρ P := does_freeze fr hx hp h
theorem holds_local {x : Str} (h : env.kindOf x = some .local) : Holds env N x := .inl h
end
end
/- M0 -/
section
open PySem.StrLaws
def one (c : Nat) (z : List Nat) (k : Nat) : List Nat := if k = c then z else [k]
theorem one_free (c : Nat) (z : List Nat) : ∀ l : List Nat, c ∉ l → l.flatMap (one c z) = l
  | [], _ => rfl
  | k :: r, h => by
    have h1 : ¬ k = c := fun e => h (e ▸ List.mem_cons_self ..)
    have h2 : c ∉ r := fun m => h (List.mem_cons_of_mem _ m)
    rw [List.flatMap_cons, one_free c z r h2]
    unfold one; rw [if_neg h1]; rfl
theorem one_join (c : Nat) (z : Str) : ∀ parts : List Str, (∀ p ∈ parts, c ∉ p.cps.toList) → (Str.join ⟨#[c]⟩ parts).cps.toList.flatMap (one c z.cps.toList) = (Str.join z parts).cps.toList
  | [], _ => rfl
  | [p], h => one_free c _ _ (h p (List.mem_singleton.mpr rfl))
  | p :: q :: r, h => by
    have ih := one_join c z (q :: r) fun a ha => h a (List.mem_cons_of_mem _ ha)
    show (p ++ ⟨#[c]⟩ ++ Str.join ⟨#[c]⟩ (q :: r)).cps.toList.flatMap (one c z.cps.toList) = (p ++ z ++ Str.join z (q :: r)).cps.toList
    simp only [Str.cps_append, Array.toList_append, List.flatMap_append]
    rw [ih, one_free c _ _ (h p (List.mem_cons_self ..))]
    simp [one]
theorem replace_flat (x z : Str) (c : Nat) : (Txt.replace x ⟨#[c]⟩ z).cps.toList = x.cps.toList.flatMap (one c z.cps.toList) := by
  rw [replace_one, ← one_join c z _ (split_free x c), join_split]

def esc1 (y z x : Str) : Str := if Txt.contains x y then Txt.replace x y z else x
theorem esc1_flat (x z : Str) (c : Nat) : (esc1 ⟨#[c]⟩ z x).cps.toList = x.cps.toList.flatMap (one c z.cps.toList) := by
  unfold esc1
  split
  · exact replace_flat x z c
  · rename_i h
    have : ¬ (decide (c ∈ x.cps.toList)) = true := by rw [← found_one]; exact h
    rw [one_free c _ _ (by simpa using this)]
theorem flatMap_one_le (c : Nat) (z : List Nat) (hz : 1 ≤ z.length) : ∀ l : List Nat, (l.flatMap (one c z)).length ≤ l.length * z.length
  | [] => by simp
  | k :: r => by
    have := flatMap_one_le c z hz r
    rw [List.flatMap_cons, List.length_append, List.length_cons, Nat.add_mul, Nat.one_mul]
    have h1 : (one c z k).length ≤ z.length := by unfold one; split <;> simp [hz]
    walk_at "m_om"
theorem esc1_le (x z : Str) (c : Nat) (hz : 1 ≤ z.length) : (esc1 ⟨#[c]⟩ z x).length ≤ x.length * z.length := by
  have := flatMap_one_le c z.cps.toList (by simpa [Str.length] using hz) x.cps.toList
  rw [← esc1_flat] at this
  simpa [Str.length] using this

theorem str_len_append (x y : Str) : (x ++ y).length = x.length + y.length := by simp [Str.length, Str.cps_append]
theorem mulOk_small {x : Str} {n : Int} (hx : x.length ≤ 1000) (h0 : -1000 ≤ n) (h1 : n ≤ 1000) : MulOk x n := by
  refine ⟨by rw [Bool.or_eq_false_iff]; exact ⟨decide_eq_false (by walk_at "m_om"), decide_eq_false (by walk_at "m_om")⟩, fun hn _ => ?_, fun hn _ => ?_⟩
  · have h2 : (1000 : Int) ≤ (2 ^ 63 - 1) / n := Int.le_ediv_of_mul_le (by walk_at "m_om") (by have := Int.mul_le_mul_of_nonneg_left h1 (show (0:Int) ≤ 1000 by walk_at "m_om"); walk_at "m_om")
    have h3 : (x.length : Int) ≤ 1000 := by walk_at "m_om"
    walk_at "m_om"
  · have h4 : x.length * n.toNat ≤ 1000 * 1000 := Nat.mul_le_mul hx (by walk_at "m_om")
    unfold Builtin.Str.tooLong
    rw [decide_eq_false]
    rw [sizeLine_eq]; walk_at "m_om"

/-- a digit's bracket -/
def brk (n : Nat) : Str := if n % 2 = 0 then "(" else ")"
def pieceV (n : Nat) : Str :=
  let run := Txt.mul (brk n) ((n / 2 % 3 : Nat) : Int)
  if n / 6 % 3 = 1 then "\"" ++ run ++ "\"" else if n / 6 % 3 = 2 then ((["&", "<", ">", "\r", "\\(", "\\\""] : List Str)[n / 18 % 6]?.getD "") ++ run else run
theorem fmod_nat (a b : Nat) : ((a : Int).fmod (b : Int)) = ((a % b : Nat) : Int) := by rw [Int.fmod_eq_emod_of_nonneg _ (by walk_at "m_om")]; rfl
theorem fdiv_nat (a b : Nat) : ((a : Int).fdiv (b : Int)) = ((a / b : Nat) : Int) := by rw [Int.fdiv_eq_ediv_of_nonneg _ (by walk_at "m_om")]; rfl
end
/- B21 -/
section
section
variable {G : Gx} {A : Around} {env : Env} {N : Nat} {ρ : Ro} {P : Out → Prop}

theorem evl_nil : EvalsL G A env ρ [] [] := trivial
theorem evl_cons {e : Expr} {es : List Expr} {d : D} {ds : List D} (h : Evals G A env ρ e d) (hs : EvalsL G A env ρ es ds) : EvalsL G A env ρ (e :: es) (d :: ds) := ⟨h, hs⟩
theorem ev_call' {f : Str} {p pos : Pos} {e : Expr} {es : List Expr} {ds : List D} {d : D} {k : Nat} (he : EnvF env) (hx : env.kindOf f = some .globalImplicit) (hl : EvalsL G A env ρ (e :: es) ds) (hf : Fn G k f ds d) (hr : Room A k)
    (hs : NoStar pos (e :: es) env) : Evals G A env ρ (.Call (.Name f p) (e :: es) [] pos) d := ev_call he hx hl hf hr hs
theorem ev_bi' {f : Str} {p pos : Pos} {e : Expr} {es : List Expr} {ds : List D} {d : D} (he : EnvF env) (hx : env.kindOf f = some .globalImplicit) (hm : G.mg f = none ∧ G.mb f = bootBuiltins f) (hl : EvalsL G A env ρ (e :: es) ds) (hf : Bi G A f ds d)
    (hs : NoStar pos (e :: es) env) : Evals G A env ρ (.Call (.Name f p) (e :: es) [] pos) d := ev_bi he hx hm.1 hm.2 hl hf hs
/-- a global constant -/
theorem ev_glob {x : Str} {p : Pos} {i : Int} (he : EnvF env) (hx : env.kindOf x = some .globalImplicit) (hm : ∃ t, G.mg x = some (.int i t)) : Evals G A env ρ (.Name x p) (.int i) := .mk fun s F g hv Q E k => by
  obtain ⟨t, hm⟩ := hm
  exact ev_global he g hx hm (k _ s F (Ex.refl g) .int)

theorem b_max_list {ns : List Int} {m : Int} (hr : Room A 1) (hm : m ∈ ns) (hmax : ∀ x ∈ ns, x ≤ m) : Bi G A "max" [.lst (ns.map .int)] (.int m) :=
  ⟨"max", rfl, .mk fun s F vs g r Q E k => by
    cases r with
    | cons r1 r2 =>
    cases r2
    cases r1 with
    | @lst a vs n _ hF hl =>
      have hlen : vs.length = ns.length := by rw [hl.length, List.length_map]
      have hpos : 0 < ns.length := List.length_pos_iff.mpr fun e => by rw [e] at hm; cases hm
      obtain ⟨val, hval⟩ : ∃ val : Nat → Int, val = fun i => (ns[i]?).getD 0 := ⟨_, rfl⟩
      have hiv : ∀ i v, vs.toArray[i]? = some v → ∃ t, v = Value.int (val i) t := fun (i : Nat) (v : Value) hv => by rw [hval]; exact int_at hl hv
      refine wpAny_grows (call_max_walk (list_walk (A' := A.in1) hr.handled g hF fun s₂ e2 W st hfp kp hne => ?_))
      refine ⟨_, _, _, _, _, _, _, rfl, W, st, hfp, by rw [List.size_toArray, hlen]; exact hpos, CmpOf.ints_gt val hiv, fun v h' tk hP hk hz ht => ?_⟩
      obtain ⟨t, rfl⟩ := hiv _ _ hP
      have hb := argBest_gt val (vs.toArray.size - 1)
      have hsz : vs.toArray.size = ns.length := by rw [List.size_toArray, hlen]
      rw [hsz] at hb ⊢
      generalize argBest (fun i j => decide (val i > val j)) (ns.length - 1) = q at hb ⊢
      have hlt : q < ns.length := by have := hb.1; walk_at "m_om"
      have e : val q = m := by
        refine Int.le_antisymm (hmax _ ?_) ?_
        · rw [hval]
          show (ns[q]?).getD 0 ∈ ns
          rw [List.getElem?_eq_getElem hlt]; exact List.getElem_mem hlt
        · obtain ⟨i, hi, rfl⟩ := List.mem_iff_getElem.mp hm
          have := hb.2 i (by walk_at "m_om")
          rw [hval] at this ⊢
          simpa [List.getElem?_eq_getElem hi] using this
      rw [e]
      refine k _ _ F ?_ .int
      have x := ex_heap (M := nowhere) g (h' := h') (tk := tk) (fun b o q => hk b o (by
        intro hb; rw [List.mem_singleton] at hb; subst hb
        exact absurd (Heap.lt_size q) (Nat.lt_irrefl _)) (kp b o q)) hz ht
      rw [e2]
      exact x⟩
end
end
/- B22 -/
section
section
variable {G : Gx} {A : Around} {env : Env} {N : Nat} {ρ : Ro} {P : Out → Prop}

/-- how a turn's body ends, against what holds between the turns -/
def LoopEnd (I : Ro → Prop) (P : Out → Prop) : Out → Prop
  | .next ρ | .cont ρ => I ρ
  | .brk ρ => P (.next ρ)
  | .ret d => P (.ret d)
theorem Does.imp {t : Sem Flow} {P' : Out → Prop} (h : Does G A env N t ρ P') (hP : ∀ o, P' o → P o) : Does G A env N t ρ P := h.mono hP
theorem loop_inv {α : Type} {t : Expr} {body : List Stmt} (f : α → D) (I : List α → Ro → Prop) (h0 : ∀ ρ, I [] ρ → P (.next ρ)) (hs : ∀ a as ρ, I (a :: as) ρ → ∃ ρ', Asg env N t (f a) ρ ρ' ∧ Xs G A env N body ρ' (LoopEnd (I as) P)) :
    ∀ (as : List α) (ρ : Ro), I as ρ → Loop G A env N t body (as.map f) ρ P
  | [], ρ, h => h0 ρ h
  | a :: as, ρ, h => by
    obtain ⟨ρ', hA, hX⟩ := hs a as ρ h
    refine ⟨ρ, ρ', List.Sublist.refl _, hA, hX.mono fun o ho => ?_⟩
    cases o with
    | next ρ'' => exact loop_inv f I h0 hs as ρ'' ho
    | cont ρ'' => exact loop_inv f I h0 hs as ρ'' ho
    | brk ρ'' => exact ho
    | ret d => exact ho

theorem loop_invS {α : Type} {t : Expr} {body : List Stmt} (f : α → D) (I : List α → Ro → Prop) (h0 : ∀ ρ, I [] ρ → P (.next ρ)) (hs : ∀ a as ρ, I (a :: as) ρ → ∃ ρ0 ρ', ρ0.Sublist ρ ∧ Asg env N t (f a) ρ0 ρ' ∧ Xs G A env N body ρ' (LoopEnd (I as) P)) :
    ∀ (as : List α) (ρ : Ro), I as ρ → Loop G A env N t body (as.map f) ρ P
  | [], ρ, h => h0 ρ h
  | a :: as, ρ, h => by
    obtain ⟨ρ0, ρ', hS, hA, hX⟩ := hs a as ρ h
    refine ⟨ρ0, ρ', hS, hA, hX.mono fun o ho => ?_⟩
    cases o with
    | next ρ'' => exact loop_invS f I h0 hs as ρ'' ho
    | cont ρ'' => exact loop_invS f I h0 hs as ρ'' ho
    | brk ρ'' => exact ho
    | ret d => exact ho
theorem xs_forget {stmts : List Stmt} {ρ' : Ro} (hs : ρ'.Sublist ρ) (h : Xs G A env N stmts ρ' P) : Xs G A env N stmts ρ P := does_forget hs h

/-- ρ with one name more, set or not -/
def Opt (ρ0 : Ro) (x : Str) (ρ : Ro) : Prop := ρ = ρ0 ∨ ∃ d, ρ = ρ0 ++ [(x, .v d)]
theorem put_last {x : Str} {e : En} : ∀ {ρ0 : Ro} {e' : En}, x ∉ ρ0.map (·.1) → Put x e (ρ0 ++ [(x, e')]) (ρ0 ++ [(x, e)])
  | [], _, _ => .head
  | (y, e'') :: ρ, e', h => by
    rw [List.map_cons, List.mem_cons, not_or] at h
    exact .tail h.1 (put_last h.2)
theorem Opt.asg {x : Str} {p : Pos} {ρ0 : Ro} {d : D} (h : Opt ρ0 x ρ) (hx : x ∉ ρ0.map (·.1)) (hk : Holds env N x) : Asg env N (.Name x p) d ρ (ρ0 ++ [(x, .v d)]) := by
  rcases h with rfl | ⟨d', rfl⟩
  · exact .name hk (put_end hx)
  · exact .name hk (put_last hx)

theorem ct_filter {α : Type} {x : Str} {p : Pos} {elt : Expr} {ifs : List Expr} {ρ0 : Ro} (f g : α → D) (c : α → Bool) (hx : x ∉ ρ0.map (·.1)) (hk : Holds env N x) (ht : ∀ a, TestsAll G A env (ρ0 ++ [(x, .v (f a))]) ifs (c a)) :
    ∀ (as : List α) (ρ : Ro) (acc : List D), Opt ρ0 x ρ → acc.length + as.length ≤ 16777216 → (∀ a ∈ as, c a = true → Evals G A env (ρ0 ++ [(x, .v (f a))]) elt (g a)) →
      CTurns G A env N (CAct G A env N elt []) (.Name x p) ifs (as.map f) ρ acc fun acc' _ => acc' = acc ++ (as.filter c).map g
  | [], ρ, acc, ho, hz, he => by show _ = _; simp
  | a :: as, ρ, acc, ho, hz, he => by
    simp only [List.length_cons] at hz
    refine ⟨ρ0 ++ [(x, .v (f a))], c a, ho.asg hx hk, ht a, fun hc => ?_, fun hc => ⟨by walk_at "m_om", g a, he a List.mem_cons_self hc, ?_⟩⟩
    · have := ct_filter (p := p) f g c hx hk ht as (ρ0 ++ [(x, .v (f a))]) acc (.inr ⟨_, rfl⟩) (by walk_at "m_om") fun b hb => he b (List.mem_cons_of_mem _ hb)
      rw [List.filter_cons_of_neg (by rw [hc]; decide)]
      exact this
    · have := ct_filter (p := p) f g c hx hk ht as (ρ0 ++ [(x, .v (f a))]) (acc ++ [g a]) (.inr ⟨_, rfl⟩) (by rw [List.length_append]; simp only [List.length_cons, List.length_nil]; walk_at "m_om") fun b hb => he b (List.mem_cons_of_mem _ hb)
      rw [List.filter_cons_of_pos hc, List.map_cons]
      rw [List.append_assoc] at this
      exact this
theorem ct_map {α : Type} {x : Str} {p : Pos} {elt : Expr} {ρ0 : Ro} (f g : α → D) (hx : x ∉ ρ0.map (·.1)) (hk : Holds env N x) (as : List α) (hz : as.length ≤ 16777216) (he : ∀ a ∈ as, Evals G A env (ρ0 ++ [(x, .v (f a))]) elt (g a)) :
    CTurns G A env N (CAct G A env N elt []) (.Name x p) [] (as.map f) ρ0 [] fun acc _ => acc = as.map g := by
  have := ct_filter (G := G) (A := A) (p := p) (elt := elt) (ifs := []) f g (fun _ => true) hx hk (fun _ => rfl) as ρ0 [] (.inl rfl) (by simpa using hz) fun a ha _ => he a ha
  rw [List.filter_eq_self.mpr (fun _ _ => rfl), List.nil_append] at this
  exact this
structure OwnC (sc : Scope) (cs : List (Str × Addr)) (N : Nat) : Prop where
  own : ∀ x c, sc.names.lookup x = some .cell → cs.lookup x = some c → N ≤ c
theorem holds_cell {sc : Scope} {L : Addr} {cs : List (Str × Addr)} {q : Str} {a : Option Addr} {cd : Value} {fr : Option Addr} {x : Str} (h : OwnC sc cs N) (hk : sc.names.lookup x = some .cell) : Holds (mkE sc L cs q a cd fr) N x := .inr ⟨hk, fun c hc => h.own x c hk hc⟩
theorem holds_ccell {scope : Scope} {x : Str} (h : CEnv scope env N) (hk : scope.names.lookup x = some .cell) : Holds env N x := .inr ⟨h.kind x _ hk (by decide), fun c hc => h.own x hk c hc⟩
end
end
/- B23 -/
section
section
variable {G : Gx} {A : Around} {env : Env} {N : Nat} {ρ : Ro} {P : Out → Prop}

theorem Items.sub {t iter : Expr} {ds : List D} {ρ' : Ro} (h : Items G A env ρ' t iter ds) (hs : ρ'.Sublist ρ) : Items G A env ρ t iter ds := ⟨fun s F g hv => h.run s F g (hv.sub hs)⟩
theorem Evals.sub {e : Expr} {d : D} {ρ' : Ro} (h : Evals G A env ρ' e d) (hs : ρ'.Sublist ρ) : Evals G A env ρ e d := ⟨fun s F g hv => h.run s F g (hv.sub hs)⟩

theorem ct_mapK {α : Type} {x : Str} {p : Pos} {elt : Expr} {ρ0 : Ro} {K : List D → Ro → Prop} (f g : α → D) (hx : x ∉ ρ0.map (·.1)) (hk : Holds env N x) :
    ∀ (as : List α) (ρ : Ro) (acc : List D), Opt ρ0 x ρ → acc.length + as.length ≤ 16777216 → (∀ a ∈ as, Evals G A env (ρ0 ++ [(x, .v (f a))]) elt (g a)) → (∀ ρ', Opt ρ0 x ρ' → K (acc ++ as.map g) ρ') →
      CTurns G A env N (CAct G A env N elt []) (.Name x p) [] (as.map f) ρ acc K
  | [], ρ, acc, ho, hz, he, hK => by have := hK ρ ho; rw [List.map_nil, List.append_nil] at this; exact this
  | a :: as, ρ, acc, ho, hz, he, hK => by
    simp only [List.length_cons] at hz
    refine ⟨ρ0 ++ [(x, .v (f a))], true, ho.asg hx hk, rfl, fun hc => (by cases hc), fun hc => ⟨by walk_at "m_om", g a, he a List.mem_cons_self, ?_⟩⟩
    refine ct_mapK (p := p) f g hx hk as (ρ0 ++ [(x, .v (f a))]) (acc ++ [g a]) (.inr ⟨_, rfl⟩) (by rw [List.length_append]; simp only [List.length_cons, List.length_nil]; walk_at "m_om") (fun b hb => he b (List.mem_cons_of_mem _ hb)) fun ρ' h' => ?_
    have := hK ρ' h'
    rw [List.append_assoc]
    exact this

/-- two clauses -/
def Opt2 (ρ0 : Ro) (x y : Str) (ρ : Ro) : Prop := ρ = ρ0 ∨ ∃ d, Opt (ρ0 ++ [(x, .v d)]) y ρ
theorem put_mid {x y : Str} {e e' e'' : En} : ∀ {ρ0 : Ro}, x ∉ ρ0.map (·.1) → Put x e (ρ0 ++ [(x, e')] ++ [(y, e'')]) (ρ0 ++ [(x, e)] ++ [(y, e'')])
  | [], _ => .head
  | (z, e3) :: ρ, h => by
    rw [List.map_cons, List.mem_cons, not_or] at h
    exact .tail h.1 (put_mid h.2)
theorem Opt2.asg {x y : Str} {p : Pos} {ρ0 : Ro} {d : D} (h : Opt2 ρ0 x y ρ) (hx : x ∉ ρ0.map (·.1)) (hk : Holds env N x) : ∃ ρ', Asg env N (.Name x p) d ρ ρ' ∧ Opt (ρ0 ++ [(x, .v d)]) y ρ' := by
  rcases h with rfl | ⟨d', rfl | ⟨d'', rfl⟩⟩
  · exact ⟨_, .name hk (put_end hx), .inl rfl⟩
  · exact ⟨_, .name hk (put_last hx), .inl rfl⟩
  · exact ⟨_, .name hk (put_mid hx), .inr ⟨_, rfl⟩⟩
theorem Opt.sublist {ρ0 : Ro} {x : Str} (h : Opt ρ0 x ρ) : ρ0.Sublist ρ := by
  rcases h with rfl | ⟨d, rfl⟩
  · exact List.Sublist.refl _
  · exact List.sublist_append_left _ _
theorem ct_two {α β : Type} {x y : Str} {p p2 : Pos} {elt iter2 : Expr} {ρ0 : Ro} (f : α → D) (bs : α → List β) (f2 g : α → β → D) (hx : x ∉ ρ0.map (·.1)) (hy : y ∉ ρ0.map (·.1)) (hxy : x ≠ y) (hk : Holds env N x) (hk2 : Holds env N y) (hfold : ∀ v, foldedSetIterable iter2 env v = pure v) :
    ∀ (as : List α) (ρ : Ro) (acc : List D), Opt2 ρ0 x y ρ → acc.length + (as.map fun a => (bs a).length).sum ≤ 16777216 → (∀ a ∈ as, Items G A env (ρ0 ++ [(x, .v (f a))]) (.Name y p2) iter2 ((bs a).map (f2 a))) →
      (∀ a ∈ as, ∀ b ∈ bs a, Evals G A env (ρ0 ++ [(x, .v (f a))] ++ [(y, .v (f2 a b))]) elt (g a b)) →
      CTurns G A env N (CAct G A env N elt [⟨.Name y p2, iter2, [], 0⟩]) (.Name x p) [] (as.map f) ρ acc fun acc' _ => acc' = acc ++ as.flatMap fun a => (bs a).map (g a)
  | [], ρ, acc, ho, hz, hI, he => by show _ = _; simp
  | a :: as, ρ, acc, ho, hz, hI, he => by
    simp only [List.map_cons, List.sum_cons] at hz
    obtain ⟨ρ', hA, hO⟩ := ho.asg (p := p) (d := f a) hx hk
    refine ⟨ρ', true, hA, rfl, fun hc => (by cases hc), fun hc => ⟨rfl, hfold, _, (hI a List.mem_cons_self).sub hO.sublist, ?_⟩⟩
    refine ct_mapK (f2 a) (g a) (ρ0 := ρ0 ++ [(x, .v (f a))]) ?_ hk2 (bs a) ρ' acc hO (by walk_at "m_om") (he a List.mem_cons_self) fun ρ'' h'' => ?_
    · rw [List.map_append, List.mem_append, not_or]
      exact ⟨hy, by simpa using Ne.symm hxy⟩
    · have := ct_two (p := p) (p2 := p2) f bs f2 g hx hy hxy hk hk2 hfold as ρ'' (acc ++ (bs a).map (g a)) (.inr ⟨_, h''⟩) (by rw [List.length_append, List.length_map]; walk_at "m_om") (fun b hb => hI b (List.mem_cons_of_mem _ hb)) fun b hb => he b (List.mem_cons_of_mem _ hb)
      rw [List.flatMap_cons, ← List.append_assoc]
      exact this
end
end
/- M2 -/
section
theorem bitAnd_nat (x y : Nat) : Builtin.bitAnd (x : Int) (y : Int) = ((x &&& y : Nat) : Int) := by
  show Builtin.bitAnd _ _ = _
  unfold Builtin.bitAnd
  rw [decide_eq_true (show (0 : Int) ≤ x by walk_at "m_om"), decide_eq_true (show (0 : Int) ≤ y by walk_at "m_om")]
  rfl
theorem bitOr_nat (x y : Nat) : Builtin.bitOr (x : Int) (y : Int) = ((x ||| y : Nat) : Int) := by
  show Builtin.bitOr _ _ = _
  unfold Builtin.bitOr Builtin.bitAnd Builtin.bitNot
  rw [decide_eq_false (show ¬ (0 : Int) ≤ -(x : Int) - 1 by walk_at "m_om"), decide_eq_false (show ¬ (0 : Int) ≤ -(y : Int) - 1 by walk_at "m_om")]
  simp only
  rw [show (-(-(x : Int) - 1) - 1).toNat = x by walk_at "m_om", show (-(-(y : Int) - 1) - 1).toNat = y by walk_at "m_om"]
  walk_at "m_om"
theorem and_mask (x h : Nat) : Builtin.bitAnd (x : Int) ((2 : Int) ^ h - 1) = ((x % 2 ^ h : Nat) : Int) := by
  have e : ((2 : Int) ^ h - 1) = ((2 ^ h - 1 : Nat) : Int) := by
    have : 1 ≤ 2 ^ h := Nat.pow_pos (by decide)
    push_cast [this]; rfl
  rw [e, bitAnd_nat, Nat.and_two_pow_sub_one_eq_mod]
theorem or_shift (x y h : Nat) (hy : y < 2 ^ h) : Builtin.bitOr (((x * 2 ^ h : Nat) : Int)) (y : Int) = ((x * 2 ^ h + y : Nat) : Int) := by
  rw [bitOr_nat, Nat.mul_comm x, ← Nat.two_pow_add_eq_or_of_lt hy]
theorem xor_shift (x s : Nat) : Builtin.bitXor (x : Int) (((x / 2 ^ s * 2 ^ s : Nat) : Int)) = ((x % 2 ^ s : Nat) : Int) := by
  show Builtin.bitXor _ _ = _
  unfold Builtin.bitXor
  have hl : x % 2 ^ s < 2 ^ s := Nat.mod_lt _ (Nat.pow_pos (by decide))
  have hx : x = 2 ^ s * (x / 2 ^ s) ||| (x % 2 ^ s) := by rw [← Nat.two_pow_add_eq_or_of_lt hl, Nat.div_add_mod]
  have h1 : (x ||| x / 2 ^ s * 2 ^ s) = x := by
    rw [Nat.mul_comm]
    conv => lhs; lhs; rw [hx]
    conv => rhs; rw [hx]
    generalize 2 ^ s * (x / 2 ^ s) = a
    generalize x % 2 ^ s = b
    apply Nat.eq_of_testBit_eq; intro i; simp only [Nat.testBit_or]; cases a.testBit i <;> cases b.testBit i <;> rfl
  have h2 : (x &&& x / 2 ^ s * 2 ^ s) = x / 2 ^ s * 2 ^ s := by
    rw [Nat.mul_comm]
    conv => lhs; lhs; rw [hx]
    generalize 2 ^ s * (x / 2 ^ s) = a
    generalize x % 2 ^ s = b
    apply Nat.eq_of_testBit_eq; intro i; simp only [Nat.testBit_or, Nat.testBit_and]; cases a.testBit i <;> cases b.testBit i <;> rfl
  have e1 := bitOr_nat x (x / 2 ^ s * 2 ^ s)
  have e2 := bitAnd_nat x (x / 2 ^ s * 2 ^ s)
  rw [h1] at e1; rw [h2] at e2
  rw [show Builtin.bitOr (x : Int) _ = (x : Int) from e1, show Builtin.bitAnd (x : Int) _ = _ from e2]
  have := Nat.div_add_mod x (2 ^ s)
  rw [Nat.mul_comm] at this
  walk_at "m_om"

/-- the digit step of a division -/
theorem div3 {A b b1 b2 a12 a3 q : Nat} {h : Nat} (hb : b = b1 * 2 ^ h + b2) (hb1 : 0 < b1) (hA : A = a12 * 2 ^ h + a3) (ha3 : a3 < 2 ^ h) (hq : a12 < (q + 1) * b1) : A < (q + 1) * b := by
  have h1 : (a12 + 1) * 2 ^ h ≤ (q + 1) * b1 * 2 ^ h := Nat.mul_le_mul_right _ hq
  have h2 : (q + 1) * b1 * 2 ^ h ≤ (q + 1) * b := by rw [hb, Nat.mul_add, Nat.mul_assoc]; walk_at "m_om"
  rw [Nat.add_mul, Nat.one_mul] at h1
  walk_at "m_om"
end
/- B24 -/
section
section
variable {G : Gx} {A : Around} {env : Env} {N : Nat} {ρ : Ro} {P : Out → Prop}

theorem bits_of_lt {x k : Nat} (h : x < 2 ^ k) : Builtin.Int.intBits (x : Int) ≤ k := PySem.intBits_le_iff.mpr (by simpa using h)
theorem lt_of_bits (x : Nat) : x < 2 ^ (Builtin.Int.intBits (x : Int)) := by have := PySem.intBits_le_iff.mp (Nat.le_refl (Builtin.Int.intBits (x : Int))); simpa using this
theorem Op2.cast {t : Value → Value → Sem Value} {a b d d' : D} (h : Op2 G A t a b d) (e : d = d') : Op2 G A t a b d' := e ▸ h
theorem o_shlN {x n k : Nat} (hx : x < 2 ^ k) (hk : k + n ≤ 100000000) : Op2 G A (binaryOp .LShift) (.int (x : Int)) (.int (n : Int)) (.int ((x * 2 ^ n : Nat) : Int)) :=
  (o_shl (a := (x : Int)) (n := (n : Int)) (by walk_at "m_om") (by have := bits_of_lt hx; walk_at "m_om")).cast (by push_cast; rfl)
theorem i_shlN {x n k : Nat} (hx : x < 2 ^ k) (hk : k + n ≤ 100000000) : Op2 G A (inplaceOp .LShift) (.int (x : Int)) (.int (n : Int)) (.int ((x * 2 ^ n : Nat) : Int)) :=
  (i_shl (a := (x : Int)) (n := (n : Int)) (by walk_at "m_om") (by have := bits_of_lt hx; walk_at "m_om")).cast (by push_cast; rfl)
theorem pow_cast (n : Nat) : (2 : Int) ^ n = ((2 ^ n : Nat) : Int) := by push_cast; rfl
theorem o_shrN {x n : Nat} : Op2 G A (binaryOp .RShift) (.int (x : Int)) (.int (n : Int)) (.int ((x / 2 ^ n : Nat) : Int)) :=
  (o_shr (a := (x : Int)) (n := (n : Int)) (by walk_at "m_om")).cast (by rw [show ((n : Int)).toNat = n from rfl, pow_cast, fdiv_nat])
theorem i_shrN {x n : Nat} : Op2 G A (inplaceOp .RShift) (.int (x : Int)) (.int (n : Int)) (.int ((x / 2 ^ n : Nat) : Int)) :=
  (i_shr (a := (x : Int)) (n := (n : Int)) (by walk_at "m_om")).cast (by rw [show ((n : Int)).toNat = n from rfl, pow_cast, fdiv_nat])
theorem o_maskN {x h : Nat} : Op2 G A (binaryOp .BitAnd) (.int (x : Int)) (.int ((2 : Int) ^ h - 1)) (.int ((x % 2 ^ h : Nat) : Int)) := o_and.cast (by rw [and_mask])
theorem o_oneN {x : Nat} : Op2 G A (binaryOp .BitAnd) (.int (x : Int)) (.int 1) (.int ((x % 2 : Nat) : Int)) := o_and.cast (by rw [show (1 : Int) = 2 ^ 1 - 1 by decide, and_mask])
theorem o_orN {x y h : Nat} (hy : y < 2 ^ h) : Op2 G A (binaryOp .BitOr) (.int ((x * 2 ^ h : Nat) : Int)) (.int (y : Int)) (.int ((x * 2 ^ h + y : Nat) : Int)) := o_or.cast (by rw [or_shift _ _ _ hy])
theorem o_xorN {x s : Nat} : Op2 G A (binaryOp .BitXor) (.int (x : Int)) (.int ((x / 2 ^ s * 2 ^ s : Nat) : Int)) (.int ((x % 2 ^ s : Nat) : Int)) := o_xor.cast (by rw [xor_shift])
theorem o_addN {x y : Nat} : Op2 G A (binaryOp .Add) (.int (x : Int)) (.int (y : Int)) (.int ((x + y : Nat) : Int)) := o_add.cast (by push_cast; rfl)
theorem i_addN {x y : Nat} : Op2 G A (inplaceOp .Add) (.int (x : Int)) (.int (y : Int)) (.int ((x + y : Nat) : Int)) := i_add.cast (by push_cast; rfl)
theorem mulOk_bits {x y k : Nat} (hx : x < 2 ^ k) (hy : y < 2 ^ k) (hk : k ≤ 1000000) : IntMulOk (x : Int) (y : Int) := IntMulOk.of_bits (by have := bits_of_lt hx; walk_at "m_om") (by have := bits_of_lt hy; walk_at "m_om")
theorem o_mulN {x y k : Nat} (hx : x < 2 ^ k) (hy : y < 2 ^ k) (hk : k ≤ 1000000) : Op2 G A (binaryOp .Mult) (.int (x : Int)) (.int (y : Int)) (.int ((x * y : Nat) : Int)) := (o_mul (mulOk_bits hx hy hk)).cast (by push_cast; rfl)
theorem b_divmodN {a b k : Nat} (hb : 0 < b) (hk : b < 2 ^ k) (h9 : k ≤ 9000) : Bi G A "divmod" [.int (a : Int), .int (b : Int)] (.tup [.int ((a / b : Nat) : Int), .int ((a % b : Nat) : Int)]) := by
  rw [← fdiv_nat, ← fmod_nat]
  refine b_divmod (by walk_at "m_om") (PyProof.noPylong_of_log2 ?_)
  have : (b : Int).natAbs = b := rfl
  rw [this]
  exact Nat.lt_of_lt_of_le ((Nat.log2_lt (by walk_at "m_om")).mpr hk) h9
/-- a statement that ends with no more said than P1 -/
def OnlyNext (P1 : Ro → Prop) : Out → Prop
  | .next ρ => P1 ρ
  | _ => False
theorem xs_mid {st : Stmt} {rest : List Stmt} {P1 : Ro → Prop} (h1 : X1 G A env N st ρ (OnlyNext P1)) (h2 : ∀ ρ', P1 ρ' → Xs G A env N rest ρ' P) : Xs G A env N (st :: rest) ρ P :=
  xs_cons (h1.mono fun o ho => by
    cases o with
    | next ρ' => exact h2 ρ' ho
    | brk => exact ho.elim
    | cont => exact ho.elim
    | ret => exact ho.elim)
theorem In.pick {s : Shared} {F : Fz} {ρ' : Ro} (i : In G env N s F ρ) (hs : ∀ p ∈ ρ', p ∈ ρ) (hn : (ρ'.map (·.1)).Nodup) (ho : owns ρ' = []) : In G env N s F ρ' :=
  ⟨i.good, ⟨fun p hp => i.vars.at' p (hs p hp), hn, by rw [ho]; exact List.nodup_nil⟩, i.frm, fun a ha => (by rw [ho] at ha; cases ha), i.size⟩
/-- what is needed, in the order wanted -/
theorem xs_pick {stmts : List Stmt} {ρ' : Ro} (hs : ∀ p ∈ ρ', p ∈ ρ) (hn : (ρ'.map (·.1)).Nodup) (ho : owns ρ' = []) (h : Xs G A env N stmts ρ' P) : Xs G A env N stmts ρ P := .mk fun s F i Q E k =>
  h.run s F (i.pick hs hn ho) Q E fun o fl s' F' p w x ok => k o fl s' F' p (w.trans (fun a ha => by rw [ho] at ha; cases ha) (Nat.le_refl _)) (x.weaken fun a m => by
    rcases m with m | m | m
    · exact .inl m
    · exact .inr (.inl m)
    · rw [ho] at m; cases m) ok
end
end
/- B25 -/
section
section
variable {G : Gx} {A : Around} {env : Env} {N : Nat} {ρ : Ro} {P : Out → Prop}

/-- where the code of a nested def lies, if it has been made -/
def NestOk (h : Heap) (c P : Addr) (pos : Pos) (qual : Str) : Prop :=
  CodeHd h c P ∧ (h.get? P = some (tabObj #[]) ∨ ∃ c' o vs t, h.get? P = some (tabObj #[rawInt pos.line, rawInt pos.col, .ref c']) ∧ h.get? c' = some o ∧ o.cls = .type "code" ∧ o.data = .fields vs ∧ vs[1]? = some (.str qual t))
structure Nest (G : Gx) (c P : Addr) (pos : Pos) (qual : Str) : Prop where
  tab : P ∈ G.T
  low : mainGlobals ≠ P ∧ builtinsNs ≠ P
  get : ∀ h, G.inv h → NestOk h c P pos qual
  put : ∀ h h', G.inv h → Heap.ExtBut P h h' → NestOk h' c P pos qual → G.inv h'
  bmain : ∃ bm ob, G.mg "__builtins__" = some (.ref bm) ∧ bm ≠ builtinsNs ∧ bm ≠ mainGlobals ∧ bm ≠ P ∧ G.h₁.get? bm = some ob ∧ ob.cls = .type "module" ∧ ob.dict = some builtinsNs ∧ ob.data = .plain

/-- a nested def as it is made: data, code, closure -/
def MadeFn (F : Fz) (f : Addr) (name qual : Str) (params : Arguments) (body : List Stmt) (scope : Scope) (clos : List (Str × Addr)) (c' : Addr) : Prop :=
  ∃ doc pm ct, F f = some { cls := .type "function", data := .func (fnX name qual params body scope clos .none .none doc pm none (.ref c') ct) }

theorem Good.builtinsAt {s : Shared} {F : Fz} (g : Good G s F) {c P : Addr} {pos : Pos} {qual : Str} (n : Nest G c P pos qual) : s.heap.BuiltinsAt G.mg P := by
  obtain ⟨bm, ob, b1, b2, b3, b4, b5, b6, b7, b8⟩ := n.bmain
  exact ⟨bm, ob, b1, b2, b3, b4, g.base.keep _ _ b5 (by unfold isTab; rw [b6]), b6, b7, b8⟩

theorem codeAmong_one (pos : Pos) (c : Value) : codeAmong pos [rawInt pos.line, rawInt pos.col, c] = some c := by
  have := codeAmong_snoc (pos := pos) (c := c) [] trivial rfl
  simpa using this
theorem tri_one (pos : Pos) (c : Value) : TriplesOk [rawInt pos.line, rawInt pos.col, c] := trivial

/-- the nested def's code is in the table -/
def TabIs (s : Shared) (P : Addr) (pos : Pos) (c' : Addr) : Prop := s.heap.get? P = some (tabObj #[rawInt pos.line, rawInt pos.col, .ref c'])
theorem TabIs.ex {M : Addr → Prop} {s s' : Shared} {F F' : Fz} {c P : Addr} {pos : Pos} {qual : Str} {c' : Addr} (n : Nest G c P pos qual) (h : TabIs s P pos c') (x : Ex G M s F s' F') : TabIs s' P pos c' := by
  rcases x.tab P _ h rfl with e | ⟨_, vs, more, e1, e2⟩
  · exact e
  · have e3 : vs = #[rawInt pos.line, rawInt pos.col, .ref c'] := by injection e1 with _ _ q; injection q with q; exact q.symm
    subst e3
    obtain ⟨_, e | ⟨c'', o, vs, t, e, _⟩⟩ := n.get _ x.good.inv
    · rw [e2] at e; injection e with e; injection e with _ _ q; injection q with q
      have := congrArg Array.size q
      simp at this
    · rw [e2] at e; injection e with e; injection e with _ _ q; injection q with q
      have hs := congrArg Array.size q
      simp only [Array.size_append, List.size_toArray, List.length_cons, List.length_nil] at hs
      have hm : more = #[] := Array.eq_empty_of_size_eq_zero (by walk_at "m_om")
      subst hm
      rw [Array.append_empty] at e2
      exact e2
theorem TabIs.rec' {s : Shared} {F : Fz} {c P : Addr} {pos : Pos} {qual : Str} {c' : Addr} (n : Nest G c P pos qual) (h : TabIs s P pos c') (g : Good G s F) : s.heap.CodeRec (.ref c') qual := by
  obtain ⟨_, e | ⟨c'', o, vs, t, e, h1, h2, h3, h4⟩⟩ := n.get _ g.inv
  · rw [h] at e; injection e with e; injection e with _ _ q; injection q with q
    have := congrArg Array.size q
    simp at this
  · rw [h] at e; injection e with e; injection e with _ _ q; injection q with q
    have : c' = c'' := by simpa using q
    subst this
    exact ⟨c', o, vs, t, rfl, h1, h3, h4⟩

theorem TabIs.base {s : Shared} {F : Fz} {c P : Addr} {pos : Pos} {qual : Str} {c' : Addr} (n : Nest G c P pos qual) (h : G.h₁.get? P = some (tabObj #[rawInt pos.line, rawInt pos.col, .ref c'])) (g : Good G s F) : TabIs s P pos c' := by
  rcases g.base.tab P _ h rfl with e | ⟨_, vs, more, e1, e2⟩
  · exact e
  · have e3 : vs = #[rawInt pos.line, rawInt pos.col, .ref c'] := by injection e1 with _ _ q; injection q with q; exact q.symm
    subst e3
    obtain ⟨_, e | ⟨c'', o, vs, t, e, _⟩⟩ := n.get _ g.inv
    · rw [e2] at e; injection e with e; injection e with _ _ q; injection q with q
      have := congrArg Array.size q
      simp at this
    · rw [e2] at e; injection e with e; injection e with _ _ q; injection q with q
      have hs := congrArg Array.size q
      simp only [Array.size_append, List.size_toArray, List.length_cons, List.length_nil] at hs
      have hm : more = #[] := Array.eq_empty_of_size_eq_zero (by walk_at "m_om")
      subst hm
      rw [Array.append_empty] at e2
      exact e2

/-- a table grows by one code -/
theorem ex_grow {s : Shared} {F : Fz} {c P : Addr} {pos : Pos} {qual : Str} (g : Good G s F) (n : Nest G c P pos qual) {h' : Heap} {tk : Nat} {a : Addr} {o : Obj} {more : Array Value} (hP : s.heap.get? P = some (tabObj #[])) (hx : Heap.ExtBut P s.heap h') (hP' : h'.get? P = some (tabObj more)) (hz : s.heap.objs.size ≤ h'.objs.size)
    (hi : G.inv h') (ha : s.heap.objs.size ≤ a) (ho : h'.get? a = some o) (ht : s.toks ≤ tk) (hit : isTab o = false := by rfl) {M : Addr → Prop} : Ex G M s F { s with heap := h', toks := tk } (F.put a o) := by
  have keep : ∀ b o, s.heap.get? b = some o → isTab o = false → h'.get? b = some o := fun b o e t => hx b o (fun q => by subst q; rw [hP] at e; cases e; cases t) e
  have tab : ∀ b o, s.heap.get? b = some o → isTab o = true → h'.get? b = some o ∨ (b ∈ G.T ∧ ∃ vs more, o = tabObj vs ∧ h'.get? b = some (tabObj (vs ++ more))) := fun b o e t => by
    by_cases q : b = P
    · subst q; rw [hP] at e; cases e
      exact .inr ⟨n.tab, #[], more, rfl, by rw [Array.empty_append]; exact hP'⟩
    · exact .inl (hx b o q e)
  have kp : Kp G.T s.heap h' := ⟨hz, keep, tab⟩
  have hFP : F P = none := by
    cases q : F P with
    | none => rfl
    | some o' =>
      have h1 := g.fz P o' q
      rw [hP] at h1; cases h1
      exact absurd (g.nt P _ q) (by decide)
  refine ⟨hz, fun b o _ e t => keep b o e t, tab, g.put_le ha o, fun b o' e => ?_, ?_, fun _ _ e => e⟩
  · unfold Fz.put at e
    by_cases hb : b = a
    · exact .inr (.inl (hb ▸ ha))
    · rw [if_neg hb] at e; exact .inl e
  · refine g.step kp hi (fun b o' e => ?_) (fun b o' e => by
      unfold Fz.put at e
      by_cases hb : b = a
      · rw [if_pos hb] at e; cases e; exact hit
      · rw [if_neg hb] at e; exact g.nt b o' e) (g.put_le ha o) ht
    unfold Fz.put at e
    by_cases hb : b = a
    · rw [if_pos hb] at e; cases e; rw [hb]; exact ho
    · rw [if_neg hb] at e
      exact hx b o' (fun q => by subst q; rw [hFP] at e; cases e) (g.fz b o' e)

theorem make_fn {s : Shared} {F : Fz} {c P : Addr} {pos : Pos} {name qual : Str} {params : Arguments} {body : List Stmt} {scope : Scope} {clos : List (Str × Addr)} {firstLine : Nat} (g : Good G s F) (n : Nest G c P pos qual) (hcl : closureFor scope env = pure clos) (hge : env.globals = mainGlobals) (hcode : env.code = .ref c)
    {Q : Value → Shared → Prop} {E : Value → Shared → Prop} (k : ∀ f c' s' F', Ex G nowhere s F s' F' → MadeFn F' f name qual params body scope clos c' → TabIs s' P pos c' → s.heap.objs.size ≤ f → Q (.ref f) s') :
    wpAny (model G.prog G.w) A (makeFunction name qual params (.stmts body) scope env [] [] [] pos firstLine) Q E s := by
  obtain ⟨hd, ht⟩ := n.get _ g.inv
  rcases ht with ht | ⟨c', oc, vs, t, ht, hc', hcc, hcd, hcv⟩
  · obtain ⟨bm, ob, hbm, hne0, _, hneP, hbo, hcls, hdict, hdata⟩ := g.builtinsAt n
    rw [makeFunction_eq]
    simp only [List.zip_nil_right, List.filterMap_nil, List.isEmpty_nil, if_true, pure_bind]
    unfold makeTail
    rw [hcl, hge]
    refine wpAny_bind (wpAny_pure ?_)
    -- the rest behind the closure's tuple
    have rest : ∀ (ctv : Value) (h₁ : Heap), (∀ b o, s.heap.get? b = some o → h₁.get? b = some o) → s.heap.objs.size ≤ h₁.objs.size → wpAny (model G.prog G.w) A (functionCode env pos firstLine name qual params scope (.stmts body) >>= fun code => builtinsFor mainGlobals env.builtins >>= fun bu => nsGet mainGlobals "__name__" >>= fun pm => (match docOf body with | some s => mkText s | none => pure .none) >>= fun doc => newObj (.type "function") (.func ({ name := name, qualname := qual, params := params, body := .stmts body, scope := scope, globals := mainGlobals, closure := clos, closureTuple := ctv, code := code, builtins := bu, defaults := .none, kwdefaults := .none, annotations := none, pyModule := pm.getD .none, doc := doc } : FuncData))) Q E { s with heap := h₁, toks := s.toks } := by
      intro ctv h₁ kp hz
      refine wpAny_bind (wpAny_grows (wpAny_functionCodeX hcode ((hd.keeps kp).code (kp _ _ ht) trivial) ((hd.keeps kp).tab (kp _ _ ht)) rfl fun c' h' tk hx hge' hlt hcode' hrec htb hc' hz2 htk => ?_))
      have hg' := (g.g.keeps kp).extBut hx n.low.1
      refine wpAny_bind (wpAny_builtinsFor hg' hbm hne0 (hx _ _ hneP (kp _ _ hbo)) hcls hdict hdata ?_)
      refine wpAny_bind (wpAny_nsGet hg' ?_)
      have fin : ∀ (doc : Value) (tk' : Nat), tk ≤ tk' → Q (.ref h'.objs.size) { s with heap := h'.push { cls := .type "function", data := .func (fnX name qual params body scope clos .none .none doc ((G.mg "__name__").getD .none) none (.ref c') ctv) }, toks := tk' } := by
        intro doc tk' htk'
        have htb2 : h'.get? P = some (tabObj #[rawInt pos.line, rawInt pos.col, .ref c']) := by have := htb.2; simpa using this
        obtain ⟨P', _, _, ⟨⟨oc, vc, e1, e2, e3, e4⟩, _⟩⟩ := hc'
        obtain ⟨c2, o2, vs2, t2, q1, q2, q3, q4⟩ := hrec
        cases q1
        rw [e1] at q2; cases q2
        have hx2 : Heap.ExtBut P s.heap (h'.push { cls := .type "function", data := .func (fnX name qual params body scope clos .none .none doc ((G.mg "__name__").getD .none) none (.ref c') ctv) }) := fun b o hb e => Heap.get?_push_of_some _ (hx b o hb (kp b o e))
        have hcd2 : CodeHd h' c P := by
          obtain ⟨o, vs, file, tf, flags, tg, inF, text, tt, f1, f2, f3, f4, f5, f6, f7, f8, f9, f10⟩ := hd
          exact ⟨o, vs, file, tf, flags, tg, inF, text, tt, hx _ _ f10 (kp _ _ f1), f2, f3, f4, f5, f6, f7, f8, f9, f10⟩
        have hz3 : s.heap.objs.size ≤ h'.objs.size := Nat.le_trans hz hz2
        refine k h'.objs.size c' _ _ (ex_grow g n ht hx2 (Heap.get?_push_of_some _ htb2) (by rw [Heap.size_push]; walk_at "m_om") (n.put _ _ g.inv hx2 ⟨hcd2.keeps fun b o e => Heap.get?_push_of_some _ e, .inr ⟨c', oc, vc, t2, Heap.get?_push_of_some _ htb2, Heap.get?_push_of_some _ e1, e2, e3, ?_⟩⟩) hz3 (Heap.get?_push_size _ rfl) (Nat.le_trans htk htk'))
          ⟨_, _, _, Fz.put_self ..⟩ (Heap.get?_push_of_some _ htb2) hz3
        rw [e3] at q3; cases q3; exact q4
      cases hdoc : docOf body with
      | none => exact wpAny_bind (wpAny_pure (wpAny_newObj_type (fin .none tk (Nat.le_refl _)) (by size_fits)))
      | some t => exact wpAny_bind (wpAny_mkText (wpAny_newObj_type (fin _ _ (Nat.le_succ _)) (by size_fits)))
    cases clos with
    | nil =>
      simp only [List.isEmpty_nil, if_true]
      exact wpAny_bind (wpAny_pure (rest .none s.heap (fun _ _ e => e) (Nat.le_refl _)))
    | cons q r =>
      simp only [List.isEmpty_cons, Bool.false_eq_true, if_false]
      exact wpAny_bind (wpAny_newTextTuple (rest _ _ (fun b o e => Heap.get?_push_of_some _ e) (by rw [Heap.size_push]; walk_at "m_om")))
  · refine wpAny_grows (makeFunction_hit (ps := #[rawInt pos.line, rawInt pos.col, .ref c']) hcl hge g.g hcode hd ht (tri_one _ _) (codeAmong_one _ _) (g.builtinsAt n) fun ctv doc h' tk hk hz hz2 htk => ?_)
    have e1 : Ex G nowhere s F { s with heap := h'.push (fnMade name qual params body scope clos doc ((G.mg "__name__").getD .none) c' ctv), toks := tk } (F.put h'.objs.size (fnMade name qual params body scope clos doc ((G.mg "__name__").getD .none) c' ctv)) :=
      ex_new g (fun b o e => Heap.get?_push_of_some _ (hk b o e)) hz2 hz (Heap.get?_push_size _ rfl) htk
    exact k _ c' _ _ e1 ⟨_, _, _, Fz.put_self ..⟩ (Heap.get?_push_of_some _ (hk _ _ ht)) hz
end
end
/- B26 -/
section
section
variable {G : Gx} {A : Around} {env : Env} {N : Nat} {ρ : Ro} {P : Out → Prop}

/-- the present state as the base -/
def Gx.rebase (G : Gx) (s : Shared) (F : Fz) (h : G.h₁.objs.size ≤ s.heap.objs.size) : Gx :=
  { G with h₁ := s.heap, F₀ := F, low := ⟨Nat.lt_of_lt_of_le G.low.1 h, Nat.lt_of_lt_of_le G.low.2.1 h, Nat.lt_of_lt_of_le G.low.2.2 h⟩ }
theorem Good.rebase {s : Shared} {F : Fz} (g : Good G s F) : Good (G.rebase s F g.base.size) s F :=
  ⟨Kp.refl _ _, g.g, g.b, g.nolimit, g.bare, g.toks, g.os, g.fz, g.nt, Fz.le.refl F, g.inv⟩
theorem Good.unbase {s s' : Shared} {F F' : Fz} (g : Good G s F) (g' : Good (G.rebase s F g.base.size) s' F') : Good G s' F' :=
  ⟨g.base.trans g'.base, g'.g, g'.b, g'.nolimit, g'.bare, g'.toks, g'.os, g'.fz, g'.nt, g.ff.trans g'.ff, g'.inv⟩
theorem Ex.unbase {M : Addr → Prop} {s s' : Shared} {F F' : Fz} (g : Good G s F) (x : Ex (G.rebase s F g.base.size) M s F s' F') : Ex G M s F s' F' :=
  ⟨x.size, x.keep, x.tab, x.le, x.fresh, g.unbase x.good, x.gens⟩
theorem Vars.rebase {s : Shared} {F : Fz} (g : Good G s F) (hv : Vars G env s.heap F ρ) (ho : Mine.owns ρ = []) : Vars (G.rebase s F g.base.size) env s.heap F ρ := by
  refine ⟨fun p hp => ?_, hv.names, hv.owns⟩
  have q := hv.at' p hp
  obtain ⟨y, e⟩ := p
  cases e with
  | v d => exact q
  | own a ds => have := owns_mem.mpr ⟨y, ds, hp⟩; rw [ho] at this; cases this
/-- a return whose value is worked out over the present state as the base -/
theorem x_return_at {e : Expr} {pos : Pos} {d : D} (ho : owns ρ = []) (he : ∀ s F (i : In G env N s F ρ), Evals (G.rebase s F i.good.base.size) A env ρ e d) (h : P (.ret d)) : X1 G A env N (.Return (some e) pos) ρ P := .mk fun s F i Q E k =>
  wpAny_Return_some ((he s F i).run s F i.good.rebase (i.vars.rebase i.good ho) _ _ fun v s' F' x r => k (.ret d) (.ret v) s' F' h trivial ((x.unbase i.good).weaken fun _ f => f.elim) ⟨v, rfl, r⟩)

/-- a call of a function that a variable holds -/
theorem ev_callv {f : Str} {p pos : Pos} {e : Expr} {es : List Expr} {ds : List D} {d : D} {a : Addr} (he : EnvF env) (hx : (f, En.v (.fn a)) ∈ ρ) (hl : EvalsL G A env ρ (e :: es) ds) (hc : CallV G A (.ref a) ds d) (hs : NoStar pos (e :: es) env) : Evals G A env ρ (.Call (.Name f p) (e :: es) [] pos) d := .mk fun s F g hv Q E h => by
  obtain ⟨v, va, r⟩ := hv.at' _ hx
  cases r with
  | @fn _ o fd hF hd =>
    show wpAny _ _ (eval (.Name f p) env >>= fun fv => callWith pos fv [] (backTo pos (starEach (e :: es) env)) (backToKw pos (keywordEach [] env))) _ _ _
    refine wpAny_bind (wpAny_Name (load_var he va rfl ?_) (va.dbg he))
    refine callWith_function (o := o) (fd := fd) (evalArgs_ hl hs g hv fun vs s1 F1 x1 r1 => ⟨⟨x1.good.fz _ _ (x1.le _ _ hF), hd⟩, ?_⟩)
    exact hc.run s1 F1 vs x1.good r1 _ _ fun v s' F' x' r' => h v s' F' (x1.trans' x') r'

/-- the closure of a def in a frame -/
theorem closure_at {s : Shared} {F : Fz} {scope : Scope} (i : In G env N s F ρ) (h : ∀ x, (x, NameKind.free) ∈ scope.names → env.kindOf x = some .cell) :
    ∃ cl, closureFor scope env = pure cl ∧ (∀ x c, cl.lookup x = some c → (x, NameKind.free) ∈ scope.names ∧ env.cells.lookup x = some c) ∧ ∀ x, (x, NameKind.free) ∈ scope.names → ∃ c, cl.lookup x = some c :=
  closure_ fun x hx => let ⟨c, v, h1, _⟩ := i.frm.cell x (h x hx); ⟨c, h1⟩

/-- a def in a frame: the name is set to the function -/
theorem x_def {c P' : Addr} {name : Str} {params : Arguments} {body : List Stmt} {scope : Scope} {pos : Pos} {ρ' : Addr → Ro} (fr : FrOk G env N) (n : Nest G c P' pos (qualnameIn env name name)) (hcode : env.code = .ref c) (hfree : ∀ p ∈ scope.names, p.2 = .free → env.kindOf p.1 = some .cell) (hk : Holds env N name) (hp : ∀ f, Put name (.v (.fn f)) ρ (ρ' f))
    (hd0 : params.defaults = []) (hk0 : params.kw_defaults = []) (ha : annTrees params none env = []) :
    ∀ s F, In G env N s F ρ → ∀ (Q : Flow → Shared → Prop) (E : Value → Shared → Prop),
      (∀ f c' clos s' F', In G env N s' F' (ρ' f) → Ex G (Mod env N ρ) s F s' F' → MadeFn F' f name (qualnameIn env name name) params body scope clos c' → TabIs s' P' pos c' → s.heap.objs.size ≤ f →
        (∀ x c, clos.lookup x = some c → (x, NameKind.free) ∈ scope.names ∧ env.cells.lookup x = some c) → (∀ x, (x, NameKind.free) ∈ scope.names → ∃ c, clos.lookup x = some c) → Q .next s') →
      wpAny (model G.prog G.w) A (exec (.FunctionDef name params body [] none [] scope none name pos) env) Q E s := fun s F i Q E k => by
  obtain ⟨cl, hcl, h1, h2⟩ := closure_at (scope := scope) i fun x hx => hfree _ hx rfl
  refine nestDef_K hd0 hk0 ha (make_fn i.good n hcl fr.globals hcode fun f c' s1 F1 x1 m ht hf => ?_)
  obtain ⟨doc, pm, ct, hm⟩ := id m
  refine store_ fr (i.ex x1) hk (.fn hm rfl) (hp f) fun s2 x2 i2 => ?_
  exact k f c' cl s2 F1 i2 ((x1.weaken fun _ q => q.elim).trans' x2) m (ht.ex n x2) hf h1 h2
theorem run_ret {body : List Stmt} {d : D} {s s1 : Shared} {F F1 : Fz} (hX : Xs G A env N body ρ (RetIs d)) (fk : FrOk G env N) (i : In G env N s1 F1 ρ) (ho : owns ρ = []) (hN : s.heap.objs.size ≤ N) (x1 : Ex G nowhere s F s1 F1) {Q : Value → Shared → Prop} {E : Value → Shared → Prop}
    (k : ∀ v s' F', Ex G nowhere s F s' F' → Rd F' v d → Q v s') : wpAny (model G.prog G.w) A (execs body env) (fun f s' => Q (match f with | .ret v => v | _ => .none) s') E s1 := by
  refine hX.run s1 F1 i _ _ fun o' fl s2 F2 hP hO x2 hok => ?_
  have x2' : Ex G nowhere s F s2 F2 := x1.trans x2 fun b m => .inr (by
    rcases m with m | ⟨_, _, _, m⟩ | m
    · subst m; exact Nat.le_trans hN fk.loc
    · exact Nat.le_trans hN m
    · rw [ho] at m; cases m)
  cases o' with
  | ret d' =>
    cases (show d' = d from hP)
    obtain ⟨v, rfl, rv⟩ := hok
    exact k v s2 F2 x2' rv
  | next ρ' =>
    cases (show d = .none from hP)
    obtain ⟨rfl, _⟩ := hok
    exact k .none s2 F2 x2' .none
  | brk => exact hP.elim
  | cont => exact hP.elim
theorem Nest.rebase {s : Shared} {F : Fz} {c P' : Addr} {pos : Pos} {qual : Str} (n : Nest G c P' pos qual) (g : Good G s F) : Nest (G.rebase s F g.base.size) c P' pos qual := by
  obtain ⟨bm, ob, b1, b2, b3, b4, b5, b6, r⟩ := n.bmain
  exact ⟨n.tab, n.low, n.get, n.put, bm, ob, b1, b2, b3, b4, g.base.keep _ _ b5 (by unfold isTab; rw [b6]), b6, r⟩
end
end
/- B27 -/
section
section
variable {G : Gx} {A : Around} {env : Env} {N : Nat} {ρ : Ro} {P : Out → Prop}
/-- the truth of a list -/
theorem ts_lst {e : Expr} {l : List D} (he : Evals G A env ρ e (.lst l)) (hz : l.length < 2 ^ 62) (hi : isTrue e env (eval e env) = (do let v ← eval e env; standAt e.pos; holding [v] (truthy v)) := by rfl) : Tests G A env ρ e (!l.isEmpty) := .mk fun s F g hv Q E h =>
  wpAny_isTrue_value (he.run s F g hv _ _ fun v s1 F1 x1 r1 => by
    cases r1 with
    | @lst a vs n _ hF hl =>
      have e : vs.toArray.size = l.length := by rw [List.size_toArray, hl.length]
      refine wpAny_truthy_list (isList_of x1.good hF) (by rw [e]; walk_at "m_om") ?_
      have e2 : (!vs.toArray.isEmpty) = !l.isEmpty := by
        have := hl.length
        cases vs <;> cases l <;> first | rfl | (simp at this)
      rw [e2]
      exact h _ F1 (x1.trans' (ex_toks x1.good))) hi
end
end
/- B28 -/
section
theorem RdL.set {F : Fz} : ∀ {vs : List Value} {ds : List D} {v : Value} {d : D}, RdL F vs ds → Rd F v d → ∀ i, RdL F (vs.set i v) (ds.set i d)
  | _, _, _, _, .nil, _, i => by simp; exact .nil
  | _, _, _, _, .cons h l, r, 0 => .cons r l
  | _, _, _, _, .cons h l, r, i + 1 => .cons h (l.set r i)
section
variable {G : Gx} {A : Around} {env : Env} {N : Nat} {ρ : Ro} {P : Out → Prop}
/-- a place of a list that is still changing is set -/
theorem list_set_ {s : Shared} {F : Fz} {acc : List D} {d : D} {v : Value} {a : Addr} {i : Nat} {t : Tok} (g : Good G s F) (hb : G.h₁.objs.size ≤ a) (hl : ListAt s F a acc) (r : Rd F v d) (hi : i < acc.length) (hz : acc.length ≤ 16777216) {Q : Unit → Shared → Prop} {E : Value → Shared → Prop}
    (k : ∀ s', Ex G (· = a) s F s' F → ListAt s' F a (acc.set i d) → Q () s') : wpAny (model G.prog G.w) A (setItem (.ref a) (.int (i : Int) t) v) Q E s := by
  obtain ⟨h1, vs, n, h2, h3⟩ := hl
  have hsz : vs.toArray.size = acc.length := by rw [List.size_toArray, h3.length]
  refine ki_setAt (items := vs.toArray) (n := n) h2 (by walk_at "m_om") (by walk_at "m_om") (by walk_at "m_om") ?_
  have e : ∃ n', Obj.mapSeq (·.setIfInBounds ((i : Int)).toNat v) (lObj vs n) = lObj (vs.set i v) n' := by
    simp [Obj.mapSeq, lObj]
  obtain ⟨n', e⟩ := e
  have hg : (s.heap.update a (Obj.mapSeq (·.setIfInBounds ((i : Int)).toNat v))).get? a = some (lObj (vs.set i v) n') := by
    rw [Heap.get?_update_self _ h2 (by rw [e]; rfl), e]
  exact k _ (ex_at (tk := s.toks) g (Heap.SameBut.update ..) hb h1 h2 rfl rfl rfl) ⟨h1, vs.set i v, n', hg, h3.set r i⟩
theorem repl_raw {s : Shared} {F : Fz} {a : Addr} {vs : List Value} {m : Nat} {n : Int} {u : Tok} (g : Good G s F) (hF : F a = some (lObj vs m)) (h0 : 0 ≤ n) (hz : (vs.length : Int) * n ≤ 16777216) (hn : n ≤ 16777216) {Q : Value → Shared → Prop} {E : Value → Shared → Prop}
    (k : Q (.ref s.heap.objs.size) { s with heap := s.heap.push (lObj (List.replicate n.toNat vs).flatten 0), toks := s.toks }) : wpAny (model G.prog G.w) A (binaryOp .Mult (.ref a) (.int n u)) Q E s := by
  have hsz : vs.toArray.size * n.toNat ≤ 2 ^ 24 := by
    have h1 : (vs.toArray.size : Int) * n ≤ 16777216 := by rw [List.size_toArray]; exact hz
    have h2 : ((vs.toArray.size * n.toNat : Nat) : Int) = (vs.toArray.size : Int) * n := by rw [Int.natCast_mul, Int.toNat_of_nonneg h0]
    walk_at "m_om"
  have e : List.foldl (fun x1 x2 => x1 ++ x2) #[] (List.replicate (if vs.toArray.isEmpty = true then 0 else n.toNat) vs.toArray) = (List.replicate n.toNat vs).flatten.toArray := by
    rw [foldl_append_replicate]
    cases vs with
    | nil => simp
    | cons v vs => simp
  refine wpAny_binaryOp_repeat_ref (T := "list") (U := "int") (by decide) ⟨_, g.fz _ _ hF, rfl⟩ (fun s' => typeIs_int s' n u) noFill_list_mul PySem.F.fills_int_mul PySem.F.slot_int_rmul repeat_list PySem.F.slot_int_index.lookup
    (call_meets PySem.F.slot_int_rmul (typeIs_int s n u) PySem.F.entry_int_rmul (PySem.F.args_int_rmul_2 _ _) (int___rmul___int_list n u a vs.toArray m)
      ⟨g.fz _ _ hF, rfl, ⟨_, g.fz _ _ hF, rfl⟩, call_meets PySem.F.slot_list_mul ⟨_, g.fz _ _ hF, rfl⟩ PySem.F.entry_list_mul (PySem.F.args_list_mul_2 _ _)
        (AutoListH.list___mul___list_int_3 a vs.toArray m n u (by simp [Builtin.List.listFitsIndex]; walk_at "m_om") (by walk_at "m_om") (by simp [Builtin.List.listTooLong, sizeLine]; walk_at "m_om"))
        ⟨g.fz _ _ hF, ?_⟩⟩)
  rw [e]
  exact k
/-- a new list of like items that the frame may change -/
theorem x_newrep {x : Str} {px pos p : Pos} {e1 e2 : Expr} {l : List D} {n : Nat} {ρ' : Addr → Ro} (fr : FrOk G env N) (h1 : Evals G A env ρ e1 (.lst l)) (h2 : Evals G A env ρ e2 (.int (n : Int))) (hk : Holds env N x) (hp : ∀ a, Put x (.own a (List.replicate n l).flatten) ρ (ρ' a)) (h : ∀ a, (∀ x c, env.kindOf x = some .cell → env.cells.lookup x = some c → c < a) → P (.next (ρ' a)))
    (hz : (l.length : Int) * n ≤ 16777216) (hn : (n : Int) ≤ 16777216) (hw : swapsWith (.BinOp e1 .Mult e2 p) (some (.Name x px)) pos.line env = pure false := by rfl) : X1 G A env N (.Assign [.Name x px] (.BinOp e1 .Mult e2 p) pos) ρ P := .mk fun s F i Q E k => by
  refine wpAny_Assign_Name ?_ hw
  refine wpAny_BinOp (h1.run s F i.good i.vars _ _ fun v1 sa Fa xa ra => h2.run sa Fa xa.good (i.vars.ex xa) _ _ fun v2 s1 F1 xb rb => ?_)
  have x1 := xa.trans' xb
  have ra1 := ra.mono xb.le
  cases rb with
  | @int _ u =>
  cases ra1 with
  | @lst a0 vs m _ hF hl =>
  have i1 := i.ex x1
  have g1 := x1.good
  have hlen := hl.length
  refine repl_raw g1 hF (by walk_at "m_om") (by rw [hlen]; exact hz) hn ?_
  rw [Int.toNat_natCast]
  have r1 := hl.flatten (n := n)
  generalize (List.replicate n vs).flatten = vs at r1
  generalize hds : (List.replicate n l).flatten = ds at r1 hp
  have e1 : ∀ {M : Addr → Prop}, Ex G M s1 F1 { s1 with heap := s1.heap.push (lObj vs 0), toks := s1.toks } F1 := ex_heap g1 (fun _ _ e => Heap.get?_push_of_some _ e) (by rw [Heap.size_push]; walk_at "m_om")
  have fresh : s1.heap.objs.size ∉ owns ρ := fun m => by
    obtain ⟨y, es, hm⟩ := owns_mem.mp m
    obtain ⟨_, _, _, _, _, ho, _⟩ := i1.vars.at' _ hm
    exact absurd (Heap.lt_size ho) (Nat.lt_irrefl _)
  obtain ⟨hO, hOs⟩ := (hp s1.heap.objs.size).owns_own i1.vars.owns fresh
  refine storeE (e := .own s1.heap.objs.size ds) fr (i1.ex e1) hk (fun h' hv hl => ⟨hv, g1.none_of (Nat.le_refl _), Nat.le_trans fr.base i1.size, vs, 0, hl _ _ _ (Heap.get?_push_size _ rfl), r1⟩) hO (fun a ha => (hOs a ha).elim (fun e => e ▸ i1.size) (i1.own a)) (hp s1.heap.objs.size) fun s2 x2 i2 => ?_
  exact k (.next (ρ' s1.heap.objs.size)) .next s2 F1 (h _ fun x c hx hc => by obtain ⟨c', v, q1, q2⟩ := i1.frm.cell x hx; rw [hc] at q1; cases q1; exact q2.lt) (fun a ha => (hOs a ha).elim (fun e => .inr (e ▸ x1.size)) .inl) ((x1.weaken fun _ f => f.elim).trans' (e1.trans' x2)) ⟨rfl, i2⟩
theorem xs_newrep {x : Str} {px pos p : Pos} {e1 e2 : Expr} {l : List D} {n : Nat} {rest : List Stmt} {ρ' : Addr → Ro} (fr : FrOk G env N) (h1 : Evals G A env ρ e1 (.lst l)) (h2 : Evals G A env ρ e2 (.int (n : Int))) (hk : Holds env N x) (hp : ∀ a, Put x (.own a (List.replicate n l).flatten) ρ (ρ' a))
    (hz : (l.length : Int) * n ≤ 16777216) (hn : (n : Int) ≤ 16777216) (hw : swapsWith (.BinOp e1 .Mult e2 p) (some (.Name x px)) pos.line env = pure false) (h : ∀ a, (∀ x c, env.kindOf x = some .cell → env.cells.lookup x = some c → c < a) → Xs G A env N rest (ρ' a) P) : Xs G A env N (.Assign [.Name x px] (.BinOp e1 .Mult e2 p) pos :: rest) ρ P := xs_cons (x_newrep fr h1 h2 hk hp h hz hn hw)
end
end
/- B29 -/
section
section
variable {G : Gx} {A : Around} {env : Env} {N : Nat} {ρ : Ro} {P : Out → Prop}
/-- the surroundings once a nested def's code has been made, and a frozen store on -/
def Gx.pin (G : Gx) (P : Addr) (pos : Pos) (c' : Addr) (F : Fz) : Gx :=
  { G with F₀ := F, inv := fun h => G.inv h ∧ h.get? P = some (tabObj #[rawInt pos.line, rawInt pos.col, .ref c']), invK := fun h h' i k => ⟨G.invK h h' i.1 k, k P _ i.2 rfl⟩ }
theorem Good.pin {s : Shared} {F : Fz} {P : Addr} {pos : Pos} {c' : Addr} (g : Good G s F) (h : TabIs s P pos c') : Good (G.pin P pos c' F) s F :=
  { g with ff := Fz.le.refl F, inv := ⟨g.inv, h⟩ }
theorem Good.unpin {s : Shared} {F0 F : Fz} {P : Addr} {pos : Pos} {c' : Addr} (hF : G.F₀.le F0) (g : Good (G.pin P pos c' F0) s F) : Good G s F :=
  { g with ff := hF.trans g.ff, inv := g.inv.1 }
theorem Ex.unpin {M : Addr → Prop} {s s' : Shared} {F0 F F' : Fz} {P : Addr} {pos : Pos} {c' : Addr} (hF : G.F₀.le F0) (x : Ex (G.pin P pos c' F0) M s F s' F') : Ex G M s F s' F' :=
  { x with good := x.good.unpin hF }
/-- the frame's own places reach down to a list made before it -/
theorem FrOk.lower {al : Addr} (fr : FrOk G env N) (hb : G.h₁.objs.size ≤ al) (hal : al ≤ N) (hnc : ∀ x, env.kindOf x ≠ some .cell) (hfree : ∀ x c, env.kindOf x = some .free → env.cells.lookup x = some c → c < al) : FrOk G env al :=
  { fr with base := hb, loc := Nat.le_trans hal fr.loc, cell := fun x c h => absurd h (hnc x), apart := fun x y c h => absurd h (hnc x), free := hfree }
theorem In.lower {al : Addr} {s : Shared} {F : Fz} {x : Str} {ds : List D} (i : In G env N s F ρ) (hb : G.h₁.objs.size ≤ al) (hal : al ≤ N) (hnc : ∀ x, env.kindOf x ≠ some .cell) (hv : VarAt env s.heap x (.ref al)) (hl : ListAt s F al ds) (ho : owns ρ = []) (hx : x ∉ ρ.map (·.1)) : In G env al s F ((x, En.own al ds) :: ρ) := by
  have e : owns ((x, En.own al ds) :: ρ) = [al] := by
    show al :: owns ρ = [al]
    rw [ho]
  refine { good := i.good, vars := ⟨?_, ?_, ?_⟩, frm := ⟨i.frm.ns, fun x h => absurd h (hnc x), i.frm.fl, fun x c h => absurd h (hnc x)⟩, own := ?_, size := Nat.le_trans hal i.size }
  · intro p hp
    rcases List.mem_cons.mp hp with rfl | hp
    · exact ⟨hv, hl.1, hb, hl.2⟩
    · exact i.vars.at' p hp
  · exact List.nodup_cons.mpr ⟨hx, i.vars.names⟩
  · rw [e]; exact List.nodup_cons.mpr ⟨List.not_mem_nil, List.nodup_nil⟩
  · intro a ha
    rw [e] at ha
    cases List.mem_singleton.mp ha
    exact Nat.le_refl _
end
end
/- B30 -/
section
theorem own_one : ∀ (ρ : Ro) {b : Addr}, (owns ρ).Nodup → ∀ y es x ds, (y, En.own b es) ∈ ρ → (x, En.own b ds) ∈ ρ → y = x := by
  intro ρ b hn y es x ds h1 h2
  induction ρ with
  | nil => cases h1
  | cons p ρ ih =>
    rcases List.mem_cons.mp h1 with e1 | e1 <;> rcases List.mem_cons.mp h2 with e2 | e2
    · rw [← e1] at e2; cases e2; rfl
    · subst e1; rw [owns_cons_own] at hn
      exact absurd (owns_mem.mpr ⟨_, _, e2⟩) (List.nodup_cons.mp hn).1
    · subst e2; rw [owns_cons_own] at hn
      exact absurd (owns_mem.mpr ⟨_, _, e1⟩) (List.nodup_cons.mp hn).1
    · exact ih (hn.sublist owns_cons) e1 e2
theorem owns_put {x : Str} {a : Addr} {ds ds' : List D} {ρ ρ' : Ro} (hn : (ρ.map (·.1)).Nodup) (hp : Put x (.own a ds') ρ ρ') (hx : (x, En.own a ds) ∈ ρ) : owns ρ' = owns ρ := by
  induction hp with
  | nil => cases hx
  | @head e' ρ =>
    rcases List.mem_cons.mp hx with q | q
    · cases q; rfl
    · exact absurd (List.mem_map_of_mem (f := (·.1)) q) (List.nodup_cons.mp hn).1
  | @tail y e' ρ ρ' hne hp ih =>
    rcases List.mem_cons.mp hx with q | q
    · cases q; exact absurd rfl hne
    · have := ih (List.nodup_cons.mp hn).2 q
      cases e' with
      | v d => exact this
      | own b es => rw [owns_cons_own, owns_cons_own, this]
section
variable {G : Gx} {A : Around} {env : Env} {N : Nat} {ρ : Ro} {P : Out → Prop}
/-- a step elsewhere that changes an owned list -/
theorem In.mut {s s' : Shared} {F F' : Fz} {y : Str} {al : Addr} {acc acc' : List D} {ρ' : Ro} (i : In G env N s F ρ) (x : Ex G (· = al) s F s' F') (hx : (y, En.own al acc) ∈ ρ) (hp : Put y (.own al acc') ρ ρ') (hl : ListAt s' F' al acc') : In G env N s' F' ρ' := by
  obtain ⟨va, hF, hb, vs, n, ho, _⟩ := i.vars.at' _ hx
  have na : env.locals ≠ al := fun q => by
    obtain ⟨m, o, _, _, ho', hd, _⟩ := i.frm.ns; rw [q, ho] at ho'; cases ho'; cases hd
  have nc : ∀ {c v}, s.heap.IsCell c v → c ≠ al := fun ⟨o, q1, q2⟩ q => by subst q; rw [ho] at q1; cases q1; cases q2
  have ns : ∀ {a m}, s.heap.Ns a m → a ≠ al → s'.heap.Ns a m := fun ⟨o, es, ep, ho, hd, r⟩ ha => ⟨o, es, ep, x.keep _ _ ha ho (isTab_dict hd), hd, r⟩
  have cell : ∀ {c v}, s.heap.IsCell c v → s'.heap.IsCell c v := fun h => by
    have hc := nc h
    obtain ⟨o, ho, hd⟩ := h
    exact ⟨o, x.keep _ _ hc ho (isTab_cell hd), hd⟩
  have var : ∀ {y v}, VarAt env s.heap y v → VarAt env s'.heap y v := fun h => by
    rcases h with ⟨q, m, b, c⟩ | ⟨q, c, b, e⟩
    · exact .inl ⟨q, m, ns b na, c⟩
    · exact .inr ⟨q, c, b, cell e⟩
  have oe := owns_put i.vars.names hp hx
  refine ⟨x.good, ⟨fun p hm => ?_, hp.nodup i.vars.names, oe ▸ i.vars.owns⟩, ⟨?_, fun z hz => ?_, ?_, fun z c hz hc hN => ?_⟩, fun b hb => i.own b (oe ▸ hb), Nat.le_trans i.size x.size⟩
  · rcases hp.mem i.vars.names p hm with rfl | ⟨hm', hne⟩
    · exact ⟨var va, hl.1, hb, hl.2⟩
    · have q := i.vars.at' p hm'
      obtain ⟨z, e⟩ := p
      cases e with
      | v d => obtain ⟨u, hu, ru⟩ := q; exact ⟨u, var hu, ru.mono x.le⟩
      | own b es =>
        obtain ⟨h1, h2, h3, us, m, h4, h5⟩ := q
        have nb : b ≠ al := fun q => by subst q; exact hne (own_one ρ i.vars.owns z es y acc hm' hx)
        exact ⟨var h1, keep_none x h2 (Heap.lt_size h4) nb, h3, us, m, x.keep _ _ nb h4 rfl, h5.mono x.le⟩
  · obtain ⟨m, hn⟩ := i.frm.ns; exact ⟨m, ns hn na⟩
  · obtain ⟨c, v, h1, h2⟩ := i.frm.cell z hz; exact ⟨c, v, h1, cell h2⟩
  · obtain ⟨m, o, _, _, ho', _⟩ := i.frm.ns
    exact keep_none x i.frm.fl (Heap.lt_size ho') na
  · obtain ⟨c', v, h1, h2⟩ := i.frm.cell z hz
    rw [hc] at h1; cases h1
    have := nc h2
    obtain ⟨o, ho', _⟩ := h2
    exact keep_none x (i.frm.fc z c hz hc hN) (Heap.lt_size ho') this
/-- a call that changes a list and returns nothing -/
structure CallMut (G : Gx) (A : Around) (J : Shared → Prop) (f : Addr) (ds : List D) (al : Addr) (acc acc' : List D) : Prop where
  run : ∀ s F vs, Good G s F → J s → ListAt s F al acc → RdL F vs ds → ∀ (Q : Value → Shared → Prop) (E : Value → Shared → Prop), (∀ s' F', Ex G (· = al) s F s' F' → ListAt s' F' al acc' → Q .none s') → wpAny (model G.prog G.w) A (call (.ref f) vs) Q E s
theorem x_callmut {J : Shared → Prop} {f y : Str} {p cpos pos : Pos} {e : Expr} {es : List Expr} {ds acc acc' : List D} {a al : Addr} {ρ' : Ro} (he : EnvF env) (hf : (f, En.v (.fn a)) ∈ ρ) (hx : (y, En.own al acc) ∈ ρ) (hl : EvalsL G A env ρ (e :: es) ds) (hJ : ∀ s F, In G env N s F ρ → J s) (hc : CallMut G A J a ds al acc acc')
    (hp : Put y (.own al acc') ρ ρ') (h : P (.next ρ')) (hs : NoStar cpos (e :: es) env) (hi : interactive env = false := by rfl) (hw : swapsWith (.Call (.Name f p) (e :: es) [] cpos) none pos.line env = pure false := by rfl) : X1 G A env N (.Expr (.Call (.Name f p) (e :: es) [] cpos) pos) ρ P := .mk fun s F i Q E k => by
  refine wpAny_Expr ?_ hi hw
  obtain ⟨v, va, r⟩ := i.vars.at' _ hf
  cases r with
  | @fn _ o fd hF hd =>
    show wpAny _ _ (eval (.Name f p) env >>= fun fv => callWith cpos fv [] (backTo cpos (starEach (e :: es) env)) (backToKw cpos (keywordEach [] env))) _ _ _
    refine wpAny_bind (wpAny_Name (load_var he va rfl ?_) (va.dbg he))
    refine callWith_function (o := o) (fd := fd) (evalArgs_ hl hs i.good i.vars fun vs s1 F1 x1 r1 => ⟨⟨x1.good.fz _ _ (x1.le _ _ hF), hd⟩, ?_⟩)
    have i1 := i.ex x1
    obtain ⟨_, hF1, _, hl1⟩ := i1.vars.at' _ hx
    refine hc.run s1 F1 vs x1.good (hJ _ _ i1) ⟨hF1, hl1⟩ r1 _ _ fun s' F' x' hl' => ?_
    have oe := owns_put i.vars.names hp hx
    exact k (.next ρ') .next s' F' h (fun b hb => .inl (oe ▸ hb)) ((x1.weaken fun _ f => f.elim).trans' (x'.weaken fun b q => by subst q; exact .inr (.inr (owns_mem.mpr ⟨y, acc, hx⟩)))) ⟨rfl, i1.mut x' hx hp hl'⟩
end
end
/- B31 -/
section
section
variable {G : Gx} {A : Around} {env : Env} {N : Nat} {ρ : Ro} {P : Out → Prop}
/-- the length of a list that is still changing -/
theorem ev_len_own {x : Str} {p px pos : Pos} {a : Addr} {ds : List D} (he : EnvF env) (hx : env.kindOf "len" = some .globalImplicit) (hm : G.mg "len" = none ∧ G.mb "len" = bootBuiltins "len") (hv : (x, En.own a ds) ∈ ρ) (hz : ds.length < 2 ^ 62)
    (hs : NoStar pos [.Name x px] env) : Evals G A env ρ (.Call (.Name "len" p) [.Name x px] [] pos) (.int (ds.length : Int)) := .mk fun s F g hV Q E k => by
  show wpAny _ _ (eval (.Name "len" p) env >>= fun fv => callWith pos fv [] (backTo pos (starEach [.Name x px] env)) (backToKw pos (keywordEach [] env))) _ _ _
  refine wpAny_bind (ev_builtin he g hx hm.1 (hm.2.trans (show bootBuiltins "len" = some (.builtin "len") from rfl)) ?_)
  obtain ⟨va, hF, hb, vs, n, ho, hl⟩ := hV.at' _ hv
  refine callWith_builtin (by rw [hs]; simp) ?_
  rw [hs]
  refine evalArgs_plain (spliced_cons (wpAny_Name (load_var he va rfl (spliced_nil ?_)) (va.dbg he)))
  have e : vs.toArray.size = ds.length := by rw [List.size_toArray, hl.length]
  have il : s.heap.IsList a vs.toArray := ⟨_, ho, rfl, n, rfl⟩
  refine call_len_list il (by rw [e]; walk_at "m_om") ?_
  have z := k (.int ds.length (s.toks + 1)) { s with toks := s.toks + 1 + 1 } F (ex_toks g) .int
  rw [← e] at z
  exact z
/-- an owned list is turned round -/
theorem x_reverse {x : Str} {p apos cpos pos : Pos} {a : Addr} {ds : List D} {ρ' : Ro} (fr : FrOk G env N) (hx : (x, En.own a ds) ∈ ρ) (hp : Put x (.own a ds.reverse) ρ ρ') (h : P (.next ρ')) (hz : ds.length ≤ 16777216)
    (hbase : attributeBase (.Name x p) "reverse" env (eval (.Name x p) env) = eval (.Name x p) env := by rfl) (hline : (apos.endLine == cpos.line) = true := by rfl)
    (hi : interactive env = false := by rfl) (hs : swapsWith (.Call (.Attribute (.Name x p) "reverse" apos) [] [] cpos) none pos.line env = pure false := by rfl) :
    X1 G A env N (.Expr (.Call (.Attribute (.Name x p) "reverse" apos) [] [] cpos) pos) ρ P := .mk fun s F i Q E k => by
  refine wpAny_Expr ?_ hi hs
  rw [arm_eval_Call, hbase]
  obtain ⟨va, hF, hb, vs, n, ho, hl⟩ := i.vars.at' _ hx
  refine wpAny_bind (wpAny_Name (load_var fr.toEnvF va rfl (wpAny_bind (wpAny_standAt ?_))) (va.dbg fr.toEnvF))
  have hform : methodCallForm (([] : List Expr).length + ([] : List Keyword).length) (backTo cpos (starEach [] env)) (backToKw cpos (keywordEach [] env)) = true := rfl
  have hpos : methodCallPos true (.Name x p) env apos cpos = pure cpos := by unfold methodCallPos; simp [hline]
  unfold methodCall
  rw [hform]
  refine wpAny_bind (wpAny_holding ?_)
  show wpAny _ _ (getMethod (.ref a) (Str.ofString "reverse") _) _ _ _
  have il : s.heap.IsList a vs.toArray := ⟨_, ho, rfl, n, rfl⟩
  have hnd : s.heap.NoDictAt (.ref a) := by
    unfold Heap.NoDictAt
    exact ⟨_, ho, rfl⟩
  refine getMethod_list_of PySem.F.slot_list_reverse PySem.F.type_list_reverse il hnd ?_
  refine wpAny_bind (wpAny_of_eq hpos ?_)
  refine _root_.PySem.P.reverse_list (items := vs.toArray) (n := n) ho ?_ (by rw [List.size_toArray, hl.length, sizeLine_eq]; exact hz)
  have e : ∃ n', Obj.mapSeq (fun x => x.reverse) (lObj vs n) = lObj vs.reverse n' := by
    simp [Obj.mapSeq, lObj]
  obtain ⟨n', e⟩ := e
  have hg : (s.heap.update a (Obj.mapSeq fun x => x.reverse)).get? a = some (lObj vs.reverse n') := by
    rw [Heap.get?_update_self _ ho (by rw [e]; rfl), e]
  have x' : Ex G (· = a) s F { s with heap := s.heap.update a (Obj.mapSeq fun x => x.reverse), toks := s.toks } F := ex_at (tk := s.toks) i.good (Heap.SameBut.update ..) hb hF ho rfl rfl rfl
  have oe := owns_put i.vars.names hp hx
  exact k (.next ρ') .next _ F h (fun b hb => .inl (oe ▸ hb)) (x'.weaken fun b q => by subst q; exact .inr (.inr (owns_mem.mpr ⟨x, ds, hx⟩))) ⟨rfl, i.mut x' hx hp ⟨hF, vs.reverse, n', hg, hl.reverse⟩⟩
end
end
/- B32 -/
section
section
variable {M : Model} {A : Around} {c : Code} {fs : List Frame} {s : Shared} {Φ : End → Shared → Prop} {env : Env}
/-- a run of one stretch of a generator's frame, up to its next stop -/
def Seg1 (M : Model) (A : Around) (c : Code) (t : Sem Fin) (fs : List Frame) (s : Shared) (Φ : End → Shared → Prop) : Prop := ∀ Γ p, Γ.code = c → Γ.Woken A → ∃ e s', Runs M Γ p t fs s e s' ∧ Φ e s'

theorem Seg1.mono {t : Sem Fin} {Φ' : End → Shared → Prop} (h : Seg1 M A c t fs s Φ) (k : ∀ e s', Φ e s' → Φ' e s') : Seg1 M A c t fs s Φ' := fun Γ p a b =>
  let ⟨e, s', x, y⟩ := h Γ p a b; ⟨e, s', x, k e s' y⟩
theorem s1_wrap {α : Type} {m : Sem α} {K : α → Sem Fin} {H : Value → Sem Fin} {gd : Bool → Bool} {lv : List Value → List Value} (h : wpAny M (A.over c fs) m (fun a s' => Seg1 M A c (K a) fs s' Φ) (fun x s' => Seg1 M A c (H x) fs s' Φ) s) : Seg1 M A c (m.wrap K H gd lv) fs s Φ := by
  rintro Γ p rfl hΓ
  exact runs_wrap_of_wp K H gd lv m (h (Γ.over fs) p (hΓ.over fs)) (fun a p' s' h' => h' Γ p' rfl hΓ) (fun x p' s' h' => h' Γ p' rfl hΓ)
theorem s1_bind {α : Type} {m : Sem α} {K : α → Sem Fin} (h : wpAny M (A.over c fs) m (fun a s' => Seg1 M A c (K a) fs s' Φ) (fun x s' => Seg1 M A c (.raise x) fs s' Φ) s) : Seg1 M A c (m >>= K) fs s Φ := by
  rw [Sem.bind_eq_wrap']; exact s1_wrap h
theorem s1_at {p' : Pos} {k : Unit → Sem Fin} (h : Seg1 M A c (k ()) fs s Φ) : Seg1 M A c (.at p' k) fs s Φ :=
  s1_wrap (m := standAt p') (K := k) (H := .raise) (gd := id) (lv := id) (wpAny_standAt h)
theorem s1_point {l : List Value} {k : Unit → Sem Fin} (h : Seg1 M A c (k ()) fs s Φ) : Seg1 M A c (.point l k) fs s Φ :=
  s1_wrap (m := point) (K := k) (H := .raise) (gd := id) (lv := fun _ => l) (wpAny_point h)
theorem s1_call {c' : Code} {h g l} {k : Result → Sem Fin} (hc : ∀ p, Seg1 M A c' (M.den c') (.ret k h g l c p [] :: fs) s Φ) : Seg1 M A c (.call c' h g l k) fs s Φ := by
  rintro Γ p rfl hΓ
  obtain ⟨e, s', hr, he⟩ := hc p (Γ.goto c') p rfl (hΓ.goto c')
  exact ⟨e, s', runs_call_seg hr, he⟩
theorem s1_leaf {k : Result → Sem Fin} {h g l c₁ p₁ kp} (r : Result) (hk : Seg1 M A c₁ (k r) fs s Φ) : Seg1 M A c (leafOf r) (.ret k h g l c₁ p₁ kp :: fs) s Φ := by
  rintro Γ p rfl hΓ
  obtain ⟨e, s', hr, he⟩ := hk (Γ.goto c₁) p₁ rfl (hΓ.goto c₁)
  exact ⟨e, s', Runs.pop r hr, he⟩
theorem s1_again {c' : Code} (hq : c'.quiet = true) (hc : Seg1 M A c' (M.den c') fs s Φ) : Seg1 M A c (.pure (.again c')) fs s Φ := by
  rintro Γ p rfl hΓ
  obtain ⟨e, s', hr, he⟩ := hc (Γ.goto c') p rfl (hΓ.goto c')
  exact ⟨e, s', Runs.head (c₁ := c') (fun _ _ x => .again hq x) hr, he⟩
theorem s1_end (r : Result) (h : Φ (.ret r) s) : Seg1 M A c (leafOf r) [] s Φ := by
  rintro Γ p rfl _
  exact ⟨.ret r, s, Runs.leaf r, h⟩
theorem s1_yield {v g l} {k : Resume → Sem Fin} (hfs : splitAtGen fs = none) (h : ∀ p, Φ (.susp v g l k c p fs) s) : Seg1 M A c (.yield v g l k) fs s Φ := by
  rintro Γ p rfl _
  exact ⟨_, s, Runs.yield' fs hfs, h p⟩

/-- waking a generator for one stretch -/
theorem resume1 {E : Value → Shared → Prop} {g : Nat} {gs : GenState} {r : Resume} {l : List Value} {α : Type} {k : GenResult → Sem α} {Q : α → Shared → Prop} (hg : s.gens[g]? = some gs)
    (hgo : match gs with | .fresh c => r = .send .none ∧ Seg1 M A c (M.den c) [] (s.setGen g .running) Φ | .suspended k₀ _ c _ fs _ => Seg1 M A c (k₀ r) fs (s.setGen g .running) Φ | _ => False)
    (hQ : ∀ e s₁, Φ e s₁ → e.quiet = true ∧ wpAny M A (k e.result) Q E (s₁.setGen g e.genState)) : wpAny M A (.resume g r l k) Q E s := by
  intro Γ p hΓ
  rw [Sem.wp_resume]
  have hB : ∀ c, (Γ.wake c p).Woken A := fun c => hΓ.wake c p
  cases gs with
  | fresh c =>
    obtain ⟨rfl, hs⟩ := hgo
    obtain ⟨e₁, s₁, hr, he⟩ := hs (Γ.wake c p) p rfl (hB c)
    exact ⟨_, _, by unfold Wakes; rw [hg]; exact ⟨e₁, s₁, hr, (hQ e₁ s₁ he).1, rfl, rfl⟩, (hQ e₁ s₁ he).2 Γ p hΓ⟩
  | suspended k₀ l₀ c₀ p₀ fs₀ cl =>
    obtain ⟨e₁, s₁, hr, he⟩ := hgo (Γ.wake c₀ p) p₀ rfl (hB c₀)
    exact ⟨_, _, by unfold Wakes; rw [hg]; exact ⟨e₁, s₁, hr, (hQ e₁ s₁ he).1, rfl, rfl⟩, (hQ e₁ s₁ he).2 Γ p hΓ⟩
  | running => exact hgo.elim
  | finished => exact hgo.elim

section
variable {K : Flow → Sem Fin} {H : Value → Sem Fin} {gd : Bool → Bool} {lv : List Value → List Value}
theorem s1_cons {st : Stmt} {rest : List Stmt} (h : Seg1 M A c ((exec st env).wrap (fun f => match f with | .next => (execs rest env).wrap K H gd lv | f => K f) H gd lv) fs s Φ) : Seg1 M A c ((execs (st :: rest) env).wrap K H gd lv) fs s Φ := by
  rw [execs_cons_wrap]; exact h
theorem s1_nil (h : Seg1 M A c (K .next) fs s Φ) : Seg1 M A c ((execs [] env).wrap K H gd lv) fs s Φ := h
theorem s1_If {t : Expr} {body orelse : List Stmt} {pos : Pos} (h : wpAny M (A.over c fs) (isTrue t env (eval t env)) (fun b s' => if b = true then Seg1 M A c ((execs body env).wrap K H gd lv) fs s' Φ else Seg1 M A c ((execs orelse env).wrap K H gd lv) fs s' Φ) (fun x s' => Seg1 M A c (H x) fs s' Φ) s) :
    Seg1 M A c ((exec (.If t body orelse pos) env).wrap K H gd lv) fs s Φ := by
  show Seg1 M A c (.at pos fun _ => (isTrue t env (eval t env) >>= fun b => if b = true then execs body env else execs orelse env).wrap K H gd lv) fs s Φ
  refine s1_at ?_
  rw [Sem.bind_eq_wrap', Sem.wrap_wrap]
  refine s1_wrap (wpAny_mono h (fun b s' hb => ?_) fun _ _ x => x)
  cases b with
  | true => exact hb
  | false => exact hb
theorem s1_Yield {e : Expr} {ypos pos : Pos} (hfs : splitAtGen fs = none)
    (h : wpAny M (A.over c fs) (eval e env) (fun v s' => ∀ (l : List Value) (p : Pos) (k : Resume → Sem Fin), (∀ (s'' : Shared) (Φ' : End → Shared → Prop), Seg1 M A c (K .next) fs s'' Φ' → Seg1 M A c (k (.send .none)) fs s'' Φ') → Φ (.susp v (gd false) l k c p fs) s')
      (fun x s' => Seg1 M A c (H x) fs s' Φ) s) (hco : env.scope.isCoroutine = false := by rfl) (hi : interactive env = false := by rfl) :
    Seg1 M A c ((exec (.Expr (.Yield (some e) ypos) pos) env).wrap K H gd lv) fs s Φ := by
  rw [exec_Expr env _ pos hi rfl]
  show Seg1 M A c (.at pos fun _ => ((eval e env >>= fun v => (standAt ypos >>= fun _ => yieldOut env v)) >>= fun x => dropValue (.Yield (some e) ypos) pos x).wrap K H gd lv) fs s Φ
  have hy : ∀ v, yieldOut env v = yieldValue v := fun v => by simp only [yieldOut, hco, Bool.false_eq_true, if_false]
  simp only [hy]
  refine s1_at ?_
  rw [Sem.bind_eq_wrap', Sem.bind_eq_wrap', Sem.wrap_wrap, Sem.wrap_wrap]
  refine s1_wrap (wpAny_mono h (fun v s' h' => ?_) fun _ _ x => x)
  refine s1_at (s1_yield hfs fun p => h' _ p _ fun s'' Φ' hx => hx)
theorem s1_For {target iter : Expr} {body : List Stmt} {pos : Pos}
    (h : wpAny M (A.over c fs) (eval iter env) (fun x s1 => wpAny M (A.over c fs) (pyIter x) (fun it s2 => ∀ (p : Pos) (l : List Value) (k : Result → Sem Fin), (∀ (s'' : Shared) (Φ' : End → Shared → Prop), Seg1 M A c (K .next) fs s'' Φ' → Seg1 M A c (k (.ok .next)) fs s'' Φ') →
      Seg1 M A (.forLoop target it body [] env) (M.den (.forLoop target it body [] env)) (.ret k none (gd false) l c p [] :: fs) s2 Φ) (fun x s' => Seg1 M A c (H x) fs s' Φ) s1) (fun x s' => Seg1 M A c (H x) fs s' Φ) s)
    (hs : ∀ x, foldedSetIterable iter env x = pure x) : Seg1 M A c ((exec (.For target iter body [] pos) env).wrap K H gd lv) fs s Φ := by
  rw [exec_For]
  simp only [hs]
  show Seg1 M A c (.at pos fun _ => (eval iter env >>= fun x => (standAt iter.pos >>= fun _ => (holding [x] (pyIter x) >>= fun it => runOwn (.forLoop target it body [] env) env))).wrap K H gd lv) fs s Φ
  refine s1_at ?_
  rw [Sem.bind_eq_wrap', Sem.wrap_wrap]
  refine s1_wrap (wpAny_mono h (fun x s1 h1 => ?_) fun _ _ x => x)
  show Seg1 M A c (.at iter.pos fun _ => (holding [x] (pyIter x) >>= fun it => runOwn (.forLoop target it body [] env) env).wrap K H gd lv) fs s1 Φ
  refine s1_at ?_
  rw [Sem.bind_eq_wrap', Sem.wrap_wrap]
  refine s1_wrap (wpAny_holding (wpAny_mono h1 (fun it s2 h2 => ?_) fun _ _ x => x))
  exact s1_call fun p => h2 p _ _ fun s'' Φ' hx => hx
end
end
end
/- B33 -/
section
section
variable {prog : Program} {w : World} {A : Around} {c : Code} {fs : List Frame} {s : Shared} {Φ : End → Shared → Prop} {env : Env}
theorem s1_forLoop {target : Expr} {it : Value} {body : List Stmt}
    (h : ∀ E : Value → Shared → Prop, wpAny (model prog w) (A.over (.forLoop target it body [] env) fs) (pyNext it) (fun r s1 => match r with
      | none => Seg1 (model prog w) A (.block [] env) ((model prog w).den (.block [] env)) fs s1 Φ
      | some v => ∀ E1 : Value → Shared → Prop, wpAny (model prog w) (A.over (.forLoop target it body [] env) fs) (letOwnedTupleGo target it v) (fun _ s2 => ∀ E2 : Value → Shared → Prop, wpAny (model prog w) (A.over (.forLoop target it body [] env) fs) (assign target env v) (fun _ s3 =>
          ∀ (K : Flow → Sem Fin) (H : Value → Sem Fin) (gd : Bool → Bool) (lv : List Value → List Value), gd false = false →
            (∀ (s4 : Shared) (Φ' : End → Shared → Prop), Seg1 (model prog w) A (.forLoop target it body [] env) ((model prog w).den (.forLoop target it body [] env)) fs s4 Φ' → Seg1 (model prog w) A (.forLoop target it body [] env) (K .next) fs s4 Φ') →
            Seg1 (model prog w) A (.forLoop target it body [] env) ((execs body env).wrap K H gd lv) fs s3 Φ) E2 s2) E1 s1) E s) :
    Seg1 (model prog w) A (.forLoop target it body [] env) ((model prog w).den (.forLoop target it body [] env)) fs s Φ := by
  show Seg1 _ A _ ((forTurn target it body [] env).onRaise (fun x => do noteFrame x env; theTreesLotGoes x)) fs s Φ
  unfold forTurn
  rw [Sem.onRaise_eq_wrap]
  refine s1_at ?_
  show Seg1 _ A _ (((pyNext it).onRaise (fun _ => standAt { target.pos with line := 0 }) >>= fun r => match r with
    | none => again (.block [] env)
    | some v => letOwnedTupleGo target it v >>= fun _ => (assign target env v >>= fun _ => (execs body env >>= fun f => match f with
      | .next | .cont => again (.forLoop target it body [] env)
      | .brk => pure (.done .next)
      | .ret v => pure (.done (.ret v))))).wrap _ _ _ _) fs s Φ
  rw [Sem.bind_eq_wrap', Sem.wrap_wrap]
  refine s1_wrap (wpAny_onRaise (wpAny_mono (h fun x s' => wpAny _ _ (standAt { target.pos with line := 0 }) _ _ s') (fun r s1 h1 => ?_) fun _ _ h' => h'))
  cases r with
  | none => exact s1_again rfl h1
  | some v =>
    show Seg1 _ A _ ((letOwnedTupleGo target it v >>= fun _ => (assign target env v >>= fun _ => (execs body env >>= fun f => match f with
      | .next | .cont => again (.forLoop target it body [] env)
      | .brk => pure (.done .next)
      | .ret v => pure (.done (.ret v))))).wrap _ _ _ _) fs s1 Φ
    rw [Sem.bind_eq_wrap', Sem.wrap_wrap]
    refine s1_wrap (wpAny_mono (h1 _) (fun _ s2 h2 => ?_) fun _ _ x => x)
    rw [Sem.bind_eq_wrap', Sem.wrap_wrap]
    refine s1_wrap (wpAny_mono (h2 _) (fun _ s3 h3 => ?_) fun _ _ x => x)
    rw [Sem.bind_eq_wrap', Sem.wrap_wrap]
    exact h3 _ _ _ _ rfl fun s4 Φ' h4 => s1_again rfl h4
theorem s1_block {k : Result → Sem Fin} {h g l c₁ p₁ kp} (hk : Seg1 (model prog w) A c₁ (k (.ok .next)) fs s Φ) : Seg1 (model prog w) A (.block [] env) ((model prog w).den (.block [] env)) (.ret k h g l c₁ p₁ kp :: fs) s Φ :=
  s1_leaf (.ok .next) hk
theorem s1_func {body : List Stmt} (h : ∀ (K : Flow → Sem Fin) (H : Value → Sem Fin) (gd : Bool → Bool) (lv : List Value → List Value), gd false = false →
      (∀ (s4 : Shared) (Φ' : End → Shared → Prop), Φ' (.ret (.ok (.ret .none))) s4 → Seg1 (model prog w) A (.func body env) (K .next) [] s4 Φ') →
      Seg1 (model prog w) A (.func body env) ((execs body env).wrap K H gd lv) [] s Φ) :
    Seg1 (model prog w) A (.func body env) ((model prog w).den (.func body env)) [] s Φ := by
  show Seg1 _ A _ (.point [] fun _ => ((execs body env).onRaise (leaving env)) >>= _) [] s Φ
  refine s1_point ?_
  rw [Sem.onRaise_eq_wrap, Sem.bind_eq_wrap', Sem.wrap_wrap]
  exact h _ _ _ _ rfl fun s4 Φ' h4 => s1_end (.ok (.ret .none)) h4
/-- the room within a generator's own frames -/
theorem room_func {k : Nat} {body : List Stmt} (r : Room A (k + 1)) (hi : (Code.func body env).isFrame = true := by rfl) : Room (A.over (.func body env) []) k := by
  refine ⟨r.handled, ?_, ?_⟩
  · have h1 := r.depth
    have h2 : (A.over (.func body env) []).depth = A.depth + 0 + (Code.func body env).weight := rfl
    have h3 : (Code.func body env).weight = 1 := rfl
    rw [h2, h3]; walk_at "m_om"
  · have h1 := r.units
    have h2 : (A.over (.func body env) []).units = A.units + 0 + (Code.func body env).cUnits := rfl
    have h3 : (Code.func body env).cUnits = 3 := rfl
    rw [h2, h3]; walk_at "m_om"
theorem room_for {k : Nat} {body fbody : List Stmt} {t : Expr} {it : Value} {kk : Result → Sem Fin} {g : Bool} {l : List Value} {p : Pos} (r : Room A (k + 1)) : Room (A.over (.forLoop t it body [] env) [.ret kk none g l (.func fbody env) p []]) k := by
  refine ⟨?_, ?_, ?_⟩
  · show (marksOver [.ret kk none g l (.func fbody env) p []] (A.handled, A.handled)).1 = none
    exact r.handled
  · have h1 := r.depth
    have h2 : (A.over (.forLoop t it body [] env) [.ret kk none g l (.func fbody env) p []]).depth = A.depth + 1 + 0 := rfl
    rw [h2]; walk_at "m_om"
  · have h1 := r.units
    have h2 : (A.over (.forLoop t it body [] env) [.ret kk none g l (.func fbody env) p []]).units = A.units + 3 + 0 := rfl
    rw [h2]; walk_at "m_om"
end
end
/- B34 -/
section
section
variable {G : Gx} {A : Around} {env : Env} {N : Nat} {ρ : Ro} {P : Out → Prop}

theorem Good.low {s : Shared} {F : Fz} (g : Good G s F) : Good G s G.F₀ := { g with fz := fun a o e => g.fz a o (g.ff a o e), nt := fun a o e => g.nt a o (g.ff a o e), ff := Fz.le.refl _ }
theorem Ex.low {M : Addr → Prop} {s s' : Shared} {F F' : Fz} (x : Ex G M s F s' F') : Ex G M s G.F₀ s' G.F₀ := ⟨x.size, x.keep, x.tab, Fz.le.refl _, fun _ _ e => .inl e, x.good.low, x.gens⟩
theorem Ex.lift {M : Addr → Prop} {s s' : Shared} {F F1 F2 : Fz} (x : Ex G M s F1 s' F2) (g : Good G s F) (hM : ∀ a, M a → F a = none) : Ex G M s F s' F := by
  refine ⟨x.size, x.keep, x.tab, Fz.le.refl _, fun _ _ e => .inl e, { x.good with fz := fun a o e => ?_, nt := g.nt, ff := g.ff }, x.gens⟩
  exact x.keep a o (fun m => by rw [hM a m] at e; cases e) (g.fz a o e) (g.nt a o e)
theorem Good.regen {s : Shared} {F : Fz} {gs : Array GenState} (g : Good G s F) (h : AllBare gs) : Good G { s with gens := gs } F := { g with bare := h }
theorem In.regen {s : Shared} {F : Fz} {gs : Array GenState} (i : In G env N s F ρ) (h : AllBare gs) : In G env N { s with gens := gs } F ρ := ⟨i.good.regen h, i.vars, ⟨i.frm.ns, i.frm.cell, i.frm.fl, i.frm.fc⟩, i.own, i.size⟩
theorem In.low {s : Shared} {F : Fz} (i : In G env N s F ρ) (hd : ∀ p ∈ ρ, ∃ v d, VarAt env s.heap p.1 v ∧ p.2 = .v d ∧ Rd G.F₀ v d) : In G env N s G.F₀ ρ := by
  have low : ∀ a, F a = none → G.F₀ a = none := fun a h => by
    cases e : G.F₀ a with
    | none => rfl
    | some o => rw [i.good.ff a o e] at h; cases h
  refine ⟨i.good.low, ⟨fun p hp => ?_, i.vars.names, i.vars.owns⟩, ⟨i.frm.ns, i.frm.cell, low _ i.frm.fl, fun x c h1 h2 h3 => low _ (i.frm.fc x c h1 h2 h3)⟩, i.own, i.size⟩
  obtain ⟨v, d, h1, h2, h3⟩ := hd p hp
  obtain ⟨y, e⟩ := p
  cases h2
  exact ⟨v, h1, h3⟩

/-- a step that may change generators from number n on -/
structure ExN (G : Gx) (M : Addr → Prop) (n : Nat) (s : Shared) (F : Fz) (s' : Shared) (F' : Fz) : Prop where
  ex : Ex G M s F { s' with gens := s.gens } F'
  bare : AllBare s'.gens
  gens : ∀ (i : Nat) x, i < n → s.gens[i]? = some x → s'.gens[i]? = some x
theorem Ex.regen {M : Addr → Prop} {s s' : Shared} {F F' : Fz} {gs gs' : Array GenState} (x : Ex G M s F s' F') (h : AllBare gs') (hg : ∀ (i : Nat) x, gs[i]? = some x → gs'[i]? = some x) : Ex G M { s with gens := gs } F { s' with gens := gs' } F' :=
  ⟨x.size, x.keep, x.tab, x.le, x.fresh, x.good.regen h, hg⟩
theorem Ex.toN {M : Addr → Prop} {n : Nat} {s s' : Shared} {F F' : Fz} (x : Ex G M s F s' F') (hb : AllBare s.gens) : ExN G M n s F s' F' := ⟨x.regen hb fun _ _ e => e, x.good.bare, fun i y _ e => x.gens i y e⟩
theorem ExN.good {M : Addr → Prop} {n : Nat} {s s' : Shared} {F F' : Fz} (x : ExN G M n s F s' F') : Good G s' F' := x.ex.good.regen x.bare
theorem ExN.trans {M M' : Addr → Prop} {n : Nat} {s s' s'' : Shared} {F F' F'' : Fz} (x : ExN G M n s F s' F') (y : ExN G M' n s' F' s'' F'') (hb : AllBare s.gens) (hM : ∀ a, M' a → M a ∨ s.heap.objs.size ≤ a) : ExN G M n s F s'' F'' := by
  have y' : Ex G M' { s' with gens := s.gens } F' { s'' with gens := s.gens } F'' := y.ex.regen hb fun _ _ e => e
  exact ⟨x.ex.trans y' hM, y.bare, fun i z h e => y.gens i z h (x.gens i z h e)⟩
theorem ExN.le {M : Addr → Prop} {n n' : Nat} {s s' : Shared} {F F' : Fz} (x : ExN G M n s F s' F') (h : n' ≤ n) : ExN G M n' s F s' F' := ⟨x.ex, x.bare, fun i z hi e => x.gens i z (Nat.lt_of_lt_of_le hi h) e⟩
theorem ExN.toEx {M : Addr → Prop} {n : Nat} {s s' : Shared} {F F' : Fz} (x : ExN G M n s F s' F') (h : s.gens.size ≤ n) : Ex G M s F s' F' := by
  refine ⟨x.ex.size, x.ex.keep, x.ex.tab, x.ex.le, x.ex.fresh, x.good, fun i z e => x.gens i z ?_ e⟩
  obtain ⟨hi, _⟩ := Array.getElem?_eq_some_iff.mp e
  exact Nat.lt_of_lt_of_le hi h
theorem ExN.weaken {M M' : Addr → Prop} {n : Nat} {s s' : Shared} {F F' : Fz} (x : ExN G M n s F s' F') (h : ∀ a, M a → M' a) : ExN G M' n s F s' F' := ⟨x.ex.weaken h, x.bare, x.gens⟩
theorem In.exN {M : Addr → Prop} {n : Nat} {s s' : Shared} {F F' : Fz} (i : In G env N s F ρ) (x : ExN G M n s F s' F') (hM : ∀ a, M a → NotIn env ρ a) : In G env N s' F' ρ :=
  (i.exM' x.ex hM).regen x.bare

/-- what holds of a generator's frame while it waits -/
structure Keeps (G : Gx) (wr : List Addr) (P : Shared → Prop) : Prop where
  ex : ∀ {M : Addr → Prop} {s F s' F'}, P s → Ex G M s F s' F' → (∀ b ∈ wr, ¬ M b) → P s'
  gens : ∀ {s : Shared} {gs : Array GenState}, P s → AllBare gs → P { s with gens := gs }
  un : ∀ {s : Shared}, P s → ∀ b ∈ wr, b < s.heap.objs.size

def GenRun (G : Gx) (A : Around) (gs : GenState) (s : Shared) (Φ : End → Shared → Prop) : Prop := match gs with
  | .fresh c => Seg1 (model G.prog G.w) A c ((model G.prog G.w).den c) [] s Φ
  | .suspended k₀ _ c _ fs _ => Seg1 (model G.prog G.w) A c (k₀ (.send .none)) fs s Φ
  | _ => False

/-- a waiting generator that still has these items to hand out -/
def Ready (G : Gx) (A : Around) : List D → List Addr → (Shared → Prop) → GenState → Prop
  | [], wr, P, gs => Keeps G wr P ∧ ∀ s, P s → GenRun G A gs s fun e s' => e = .ret (.ok (.ret .none)) ∧ Ex G (· ∈ wr) s G.F₀ s' G.F₀
  | d :: ds, wr, P, gs => Keeps G wr P ∧ ∀ s, P s → GenRun G A gs s fun e s' => (∃ v, e.result = .yielded v ∧ e.quiet = true ∧ VT G.F₀ s'.heap v d) ∧ Ex G (· ∈ wr) s G.F₀ s' G.F₀ ∧
      ∃ wr' P', (∀ b ∈ wr', b ∈ wr ∨ s.heap.objs.size ≤ b) ∧ P' s' ∧ Ready G A ds wr' P' e.genState
/-- how a stretch ends -/
def Stop (G : Gx) (A : Around) (wr : List Addr) (s : Shared) : List D → End → Shared → Prop
  | [] => fun e s' => e = .ret (.ok (.ret .none)) ∧ Ex G (· ∈ wr) s G.F₀ s' G.F₀
  | d :: ds => fun e s' => (∃ v, e.result = .yielded v ∧ e.quiet = true ∧ VT G.F₀ s'.heap v d) ∧ Ex G (· ∈ wr) s G.F₀ s' G.F₀ ∧
      ∃ wr' P', (∀ b ∈ wr', b ∈ wr ∨ s.heap.objs.size ≤ b) ∧ P' s' ∧ Ready G A ds wr' P' e.genState
theorem Ready.of {ds : List D} {wr : List Addr} {P : Shared → Prop} {gs : GenState} (h1 : Keeps G wr P) (h2 : ∀ s, P s → GenRun G A gs s (Stop G A wr s ds)) : Ready G A ds wr P gs := by
  cases ds with
  | nil => exact ⟨h1, h2⟩
  | cons d ds => exact ⟨h1, h2⟩
theorem Ready.keeps {ds : List D} {wr : List Addr} {P : Shared → Prop} {gs : GenState} (h : Ready G A ds wr P gs) : Keeps G wr P := by
  cases ds <;> exact h.1

/-- a generator object that still has these items to hand out -/
structure GSt (G : Gx) (A : Around) (a : Addr) (g : Nat) (wr : List Addr) (ds : List D) (s : Shared) (F : Fz) : Prop where
  gen : ∃ o, F a = some o ∧ ∀ h : Heap, h.get? a = some o → h.IsGen a g
  slot : ∃ gs P, s.gens[g]? = some gs ∧ P s ∧ Ready G A ds wr P gs
  un : ∀ b ∈ wr, b < s.heap.objs.size ∧ F b = none

theorem GSt.isGen {a : Addr} {g : Nat} {wr : List Addr} {ds : List D} {s : Shared} {F : Fz} (st : GSt G A a g wr ds s F) (h : Good G s F) : s.heap.IsGen a g := by
  obtain ⟨o, h1, h2⟩ := st.gen
  exact h2 _ (h.fz a o h1)
theorem GSt.frame {a : Addr} {g : Nat} {wr : List Addr} {ds : List D} {s s' : Shared} {F F' : Fz} {M : Addr → Prop} (st : GSt G A a g wr ds s F) (x : Ex G M s F s' F') (hM : ∀ b ∈ wr, ¬ M b) : GSt G A a g wr ds s' F' := by
  obtain ⟨o, h1, h2⟩ := st.gen
  obtain ⟨gs, P, h3, h4, h5⟩ := st.slot
  exact ⟨⟨o, x.le a o h1, h2⟩, ⟨gs, P, x.gens g gs h3, h5.keeps.ex h4 x hM, h5⟩, fun b hb => ⟨Nat.lt_of_lt_of_le (st.un b hb).1 x.size, keep_none x (st.un b hb).2 (st.un b hb).1 (hM b hb)⟩⟩

theorem bare_set {gens : Array GenState} {g : Nat} {x : GenState} (h : AllBare gens) (hx : x.bare = true) : AllBare (gens.setIfInBounds g x) := by
  intro y hy
  rcases Array.mem_or_eq_of_mem_setIfInBounds hy with h1 | h1
  · exact h y h1
  · subst h1; exact hx

theorem VT.up {F F' : Fz} {h : Heap} {v : Value} {d : D} (k : F.le F') (x : VT F h v d) : VT F' h v d := by
  cases x with
  | rd r => exact .rd (r.mono k)
  | tup h1 h2 => exact .tup h1 (h2.mono k)

/-- one step of a generator -/
theorem gst_next {a : Addr} {g : Nat} {wr : List Addr} {ds : List D} {s : Shared} {F : Fz} (hr : Room A 0) (gd : Good G s F) (st : GSt G A.in1 a g wr ds s F) {Q : Option Value → Shared → Prop} {E : Value → Shared → Prop}
    (k : match ds with
      | [] => ∀ s', ExN G (· ∈ wr) g s F s' F → Q none s'
      | d :: ds => ∀ v s' wr', ExN G (· ∈ wr) g s F s' F → VT F s'.heap v d → GSt G A.in1 a g wr' ds s' F → (∀ b ∈ wr', b ∈ wr ∨ s.heap.objs.size ≤ b) → Q (some v) s') :
    wpAny (model G.prog G.w) A (pyNext (.ref a)) Q E s := by
  have hg := st.isGen gd
  obtain ⟨o, hF, hgen⟩ := st.gen
  obtain ⟨gs, P, hgs, hP, hR⟩ := st.slot
  have hun := st.un
  have hroom : A.depth < recursionLimit := hr.depth
  have hbare := gd.bare
  have hrun : P (s.setGen g .running) := hR.keeps.gens hP (bare_set hbare rfl)
  have noTouch : ∀ b, b ∈ wr → F b = none := fun b hb => (hun b hb).2
  -- from one stretch to the step as a whole
  have step : ∀ (s₁ : Shared) (x : GenState), x.bare = true → Ex G (· ∈ wr) (s.setGen g .running) G.F₀ s₁ G.F₀ → ExN G (· ∈ wr) g s F (s₁.setGen g x) F := by
    intro s₁ x hx ex
    have x1 : Ex G (· ∈ wr) (s.setGen g .running) F s₁ F := ex.lift (gd.regen (bare_set hbare rfl)) noTouch
    have x2 : Ex G (· ∈ wr) s F { s₁ with gens := s.gens } F := x1.regen (gs := s.gens) hbare fun _ _ e => e
    refine ⟨x2, bare_set x1.good.bare hx, fun i z hi e => ?_⟩
    have h1 : (s.setGen g .running).gens[i]? = some z := by
      show (s.gens.setIfInBounds g .running)[i]? = some z
      rw [Array.getElem?_setIfInBounds_ne (Nat.ne_of_gt hi)]; exact e
    show (s₁.gens.setIfInBounds g x)[i]? = some z
    rw [Array.getElem?_setIfInBounds_ne (Nat.ne_of_gt hi)]
    exact x1.gens i z h1
  unfold pyNext
  refine wpAny_bind (wpAny_attempt (wpAny_callSpecial?_slot (name := Str.ofString "__next__") hg.typeIs slot_gen_next (wpAny_call_entry slot_gen_next hg.typeIs entry_gen_next ?_ (args_gen_next _))))
  show wpAny _ A.in1 (Builtin.Generator.genWake (.ref a) (.send .none)) _ _ s
  unfold Builtin.Generator.genWake
  refine wpAny_bind (wpAny_holding (wpAny_genNumber hg (wpAny_bind (wpAny_genState hgs ?_))))
  have goOf : ∀ {Φ : End → Shared → Prop} {s : Shared}, GenRun G A.in1 gs s Φ → (match gs with | .fresh c => Resume.send .none = .send .none ∧ Seg1 (model G.prog G.w) A.in1 c ((model G.prog G.w).den c) [] s Φ | .suspended k₀ _ c _ fs _ => Seg1 (model G.prog G.w) A.in1 c (k₀ (.send .none)) fs s Φ | _ => False) := by
    intro Φ s h
    cases gs with
    | fresh c => exact ⟨rfl, h⟩
    | suspended k l c p fs cl => exact h
    | running => exact h
    | finished => exact h
  cases ds with
  | nil =>
    have hgo := goOf (hR.2 _ hrun)
    cases gs with
    | running => exact hgo.elim
    | finished => exact hgo.elim
    | _ =>
      refine wpAny_bind (wpAny_roomToWake gd.nolimit hroom ?_)
      show wpAny _ A.in1 (.resume g (.send .none) [] _) _ _ s
      refine resume1 hgs hgo fun e s₁ he => ?_
      obtain ⟨rfl, ex⟩ := he
      refine ⟨rfl, ?_⟩
      have x' := step s₁ .finished rfl ex
      show wpAny _ A.in1 (newExc (.type "StopIteration") [] >>= _) _ _ _
      refine wpAny_bind ?_
      simp only [newExc, newTuple]
      refine wpAny_bind (wpAny_newObj_type ?_ (by size_fits))
      refine wpAny_bind (m := firstArgMember _ _) (wpAny_of_eq (a := Value.none) (by first | rfl | (simp only [firstArgMember]; rfl)) ?_)
      refine wpAny_newObj_type ?_ (by size_fits)
      simp only [raiseNew]
      refine wpAny_bind (wpAny_bind (wpAny_handled ?_))
      rw [show A.in1.handled = none from hr.handled]
      refine wpAny_throw ?_
      refine wpAny_bind (wpAny_isInstance (T := "StopIteration") (b := true) ⟨_, Heap.get?_push_size _ rfl, rfl⟩ isSubtype_stop ?_)
      refine wpAny_pure (k _ ?_)
      exact x'.trans ((ex_heap (s := s₁.setGen g .finished) (tk := (s₁.setGen g .finished).toks) x'.good (fun b o e => Heap.get?_push_of_some _ (Heap.get?_push_of_some _ e)) (by rw [Heap.size_push, Heap.size_push]; walk_at "m_om")).toN x'.good.bare) hbare fun _ m => .inl m
  | cons d ds =>
    have hgo := goOf (hR.2 _ hrun)
    cases gs with
    | running => exact hgo.elim
    | finished => exact hgo.elim
    | _ =>
      refine wpAny_bind (wpAny_roomToWake gd.nolimit hroom ?_)
      show wpAny _ A.in1 (.resume g (.send .none) [] _) _ _ s
      refine resume1 hgs hgo fun e s₁ he => ?_
      obtain ⟨⟨v, hv, hq, vt⟩, ex, wr', P', hw, hP', hR'⟩ := he
      refine ⟨hq, ?_⟩
      have x' := step s₁ e.genState (End.bare_of_quiet hq) ex
      rw [hv]
      refine wpAny_pure ⟨v, rfl, wpAny_pure (k v _ wr' x' (vt.up gd.ff) ⟨⟨o, x'.ex.le a o hF, hgen⟩, ⟨e.genState, P', ?_, hR'.keeps.gens hP' (bare_set ex.good.bare (End.bare_of_quiet hq)), hR'⟩, fun b hb => ?_⟩ hw)⟩
      · show (s₁.gens.setIfInBounds g e.genState)[g]? = some _
        have h1 : (s.setGen g .running).gens[g]? = some .running := by
          show (s.gens.setIfInBounds g .running)[g]? = some _
          obtain ⟨hlt, _⟩ := Array.getElem?_eq_some_iff.mp hgs
          rw [Array.getElem?_setIfInBounds_self_of_lt hlt]
        have h2 := ex.gens g _ h1
        obtain ⟨hlt, _⟩ := Array.getElem?_eq_some_iff.mp h2
        rw [Array.getElem?_setIfInBounds_self_of_lt hlt]
      · have h1 := hR'.keeps.un hP' b hb
        refine ⟨h1, ?_⟩
        rcases hw b hb with h | h
        · exact noTouch b h
        · exact gd.none_of h
end
end
/- B35 -/
section
section
variable {G : Gx} {A : Around} {env : Env} {N : Nat} {ρ : Ro} {P : Out → Prop}

theorem letgo_gen {elts : List Expr} {kk : Nat} {tp : Pos} {a T : Addr} {g : Nat} {s : Shared} {Q : Unit → Shared → Prop} {E : Value → Shared → Prop} (hg : s.heap.IsGen a g) (h : Q () s) : wpAny (model G.prog G.w) A (letOwnedTupleGo (.Tuple elts kk tp) (.ref a) (.ref T)) Q E s := by
  obtain ⟨o, nm, qn, ho, hc, hd, _⟩ := hg
  unfold letOwnedTupleGo
  refine wpAny_bind (wpAny_load ho ?_)
  rw [hc, hd]
  show wpAny _ A (if (["enumerate", "zip", "dict_itemiterator", "dict_reverseitemiterator", "odict_iterator", "itertools.zip_longest", "itertools.pairwise"].contains "generator" && (#[.int g 0, nm, qn] : Array Value)[0]? == some (rawInt T)) = true then _ else _) Q E s
  rw [if_neg (by
    intro h
    rw [show (["enumerate", "zip", "dict_itemiterator", "dict_reverseitemiterator", "odict_iterator", "itertools.zip_longest", "itertools.pairwise"].contains "generator") = false from by decide, Bool.false_and] at h
    cases h)]
  exact wpAny_pure h

/-- an expression that makes a generator of these items -/
structure ItemsG (G : Gx) (A : Around) (env : Env) (ρ : Ro) (iter : Expr) (ds : List D) : Prop where
  run : ∀ s F, Good G s F → Vars G env s.heap F ρ → ∀ (Q : Value → Shared → Prop) (E : Value → Shared → Prop),
    (∀ ga g wr s' F', Ex G nowhere s F s' F' → (∀ b ∈ wr, s.heap.objs.size ≤ b) → s.gens.size ≤ g → GSt G A.in1 ga g wr ds s' F' → Q (.ref ga) s') →
    wpAny (model G.prog G.w) A (eval iter env) (fun x s1 => wpAny (model G.prog G.w) A (pyIter x) Q E s1) E s
/-- the contract of a generator function of the module -/
def GenFn (G : Gx) (k : Nat) (f : Str) (ds items : List D) : Prop :=
  ∃ (a : Addr) (o : Obj) (fd : FuncData), G.mg f = some (.ref a) ∧ G.h₁.get? a = some o ∧ o.data = .func fd ∧ ∀ A, Room A k → ∀ s F vs, Good G s F → RdL F vs ds → ∀ (Q : Value → Shared → Prop) (E : Value → Shared → Prop),
    (∀ ga g wr s' F', Ex G nowhere s F s' F' → (∀ b ∈ wr, s.heap.objs.size ≤ b) → s.gens.size ≤ g → GSt G A.in1 ga g wr items s' F' → Q (.ref ga) s') → wpAny (model G.prog G.w) A (call (.ref a) vs) Q E s
theorem ig_call {f : Str} {p pos : Pos} {e : Expr} {es : List Expr} {ds items : List D} {k : Nat} (he : EnvF env) (hx : env.kindOf f = some .globalImplicit) (hl : EvalsL G A env ρ (e :: es) ds) (hf : GenFn G k f ds items) (hr : Room A k)
    (hs : NoStar pos (e :: es) env) : ItemsG G A env ρ (.Call (.Name f p) (e :: es) [] pos) items := .mk fun s F g hv Q E h => by
  obtain ⟨a, o, fd, hm, ho, hd, hc⟩ := hf
  show wpAny _ _ (eval (.Name f p) env >>= fun fv => callWith pos fv [] (backTo pos (starEach (e :: es) env)) (backToKw pos (keywordEach [] env))) _ _ _
  refine wpAny_bind (ev_global he g hx hm ?_)
  refine callWith_function (o := o) (fd := fd) (evalArgs_ hl hs g hv fun vs s1 F1 x1 r1 => ⟨⟨x1.good.base.get_func ho hd, hd⟩, ?_⟩)
  refine hc A hr s1 F1 vs x1.good r1 _ _ fun ga gn wr s' F' x' hw hgn st => wpAny_pyIter_gen (st.isGen x'.good) ?_
  refine h ga gn wr s' F' (x1.trans' x') (fun b hb => Nat.le_trans x1.size (hw b hb)) (Nat.le_trans ?_ hgn) st
  rcases Nat.lt_or_ge s1.gens.size s.gens.size with h | h
  · have e1 : s.gens[s1.gens.size]? = some s.gens[s1.gens.size] := Array.getElem?_eq_getElem h
    have := x1.gens _ _ e1
    obtain ⟨hlt, _⟩ := Array.getElem?_eq_some_iff.mp this
    exact absurd hlt (Nat.lt_irrefl _)
  · exact h

theorem x_forgen {elts : List Expr} {kk : Nat} {tp : Pos} {iter : Expr} {body : List Stmt} {pos : Pos} {ds : List D} (hr : Room A 0) (fr : FrOk G env N) (hi : ItemsG G A env ρ iter ds) (ht : ∀ d ∈ ds, ∃ l, d = .tup l) (hl : Loop G A env N (.Tuple elts kk tp) body ds ρ P)
    (hs : ∀ x, foldedSetIterable iter env x = pure x := by intro _; rfl) : X1 G A env N (.For (.Tuple elts kk tp) iter body [] pos) ρ P := .mk fun s F i Q E k => by
  refine wpAny_For (hi.run s F i.good i.vars _ _ fun ga gn wr s1 F1 x1 hwr hgn hst => ?_) hs
  have i1 := i.ex x1
  have hb0 := i.good.bare
  have apart0 : ∀ b ∈ wr, NotIn env ρ b ∧ s.heap.objs.size ≤ b := fun b hb => ⟨i.notIn fr (hwr b hb), hwr b hb⟩
  refine codeAny_forLoop_any (fun n s' => ∃ ds' ρ' F' wr', n = ds'.length ∧ In G env N s' F' ρ' ∧ GSt G A.in1 ga gn wr' ds' s' F' ∧ (∀ d ∈ ds', ∃ l, d = .tup l) ∧ Loop G A env N (.Tuple elts kk tp) body ds' ρ' P ∧ ExN G (Mod env N ρ) gn s F s' F' ∧
      (∀ a ∈ owns ρ', a ∈ owns ρ ∨ s.heap.objs.size ≤ a) ∧ ∀ b ∈ wr', NotIn env ρ' b ∧ s.heap.objs.size ≤ b) ?_ ds.length
    ⟨ds, ρ, F1, wr, rfl, i1, hst, ht, hl, (x1.weaken fun _ f => f.elim).toN hb0, fun a ha => .inl ha, apart0⟩
  rintro n s2 ⟨ds2, ρ2, F2, wr2, rfl, i2, hst2, ht2, hl2, x2, ho2, ha2⟩
  cases ds2 with
  | nil =>
    refine gst_next hr i2.good hst2 fun s3 x3 => wpAny_execs_nil ?_
    have x3' := x2.trans x3 hb0 fun a m => .inr (ha2 a m).2
    exact k (.next ρ2) .next s3 F2 hl2 (fun a ha => ho2 a ha) (x3'.toEx hgn) ⟨rfl, i2.exN x3 fun a m => (ha2 a m).1⟩
  | cons d ds2 =>
    obtain ⟨ρ2', ρ3, hsub, ha, hb⟩ := hl2
    have i2 := i2.sub hsub
    have ho2 : ∀ a ∈ owns ρ2', a ∈ owns ρ ∨ s.heap.objs.size ≤ a := fun a h => ho2 a ((owns_sub hsub).subset h)
    have ha2 : ∀ b ∈ wr2, NotIn env ρ2' b ∧ s.heap.objs.size ≤ b := fun b hb => ⟨(ha2 b hb).1.sub fun a m => .inl ((owns_sub hsub).subset m), (ha2 b hb).2⟩
    refine gst_next hr i2.good hst2 fun v s3 wr3 x3 vt hst3 hw3 => ?_
    have i3 := i2.exN x3 fun a m => (ha2 a m).1
    have x3' := x2.trans x3 hb0 fun a m => .inr (ha2 a m).2
    have ha3 : ∀ b ∈ wr3, NotIn env ρ2' b ∧ s.heap.objs.size ≤ b := fun b hb => (hw3 b hb).elim (ha2 b) fun q => ⟨i2.notIn fr q, Nat.le_trans x2.ex.size q⟩
    obtain ⟨l, rfl⟩ := ht2 d List.mem_cons_self
    obtain ⟨T, rfl⟩ : ∃ T, v = .ref T := by
      cases vt with
      | rd r => cases r with | tup => exact ⟨_, rfl⟩
      | tup => exact ⟨_, rfl⟩
    refine letgo_gen (hst3.isGen x3.good) (assign_ hr.handled fr i3 vt ha (fun q => by cases q) fun s4 x4 i4 => ?_)
    have x4' := x3'.trans (x4.toN x3.bare) hb0 fun a m => (mod_sub (n := s.heap.objs.size) ho2 a m)
    have hst4 := hst3.frame x4 fun b hb => (ha3 b hb).1.mod
    have hw4 : ∀ b ∈ wr3, b < s4.heap.objs.size := fun b hb => (hst4.un b hb).1
    have ho3 : ∀ a ∈ owns ρ3, a ∈ owns ρ ∨ s.heap.objs.size ≤ a := fun a h => ho2 a (ha.owns.subset h)
    have ha4 : ∀ b ∈ wr3, NotIn env ρ3 b ∧ s.heap.objs.size ≤ b := fun b hb => ⟨(ha3 b hb).1.sub fun a m => .inl (ha.owns.subset m), (ha3 b hb).2⟩
    refine hb.run s4 F2 i4 _ _ fun o fl s5 F5 p w x5 ok => ?_
    have x5' := x4'.trans (x5.toN i4.good.bare) hb0 fun a m => (mod_sub (n := s.heap.objs.size) ho3 a m)
    have own5 : ∀ ρ5, OutOwn ρ3 s4.heap.objs.size (.next ρ5) → ∀ a ∈ owns ρ5, a ∈ owns ρ ∨ s.heap.objs.size ≤ a := fun ρ5 w5 a h => (w5 a h).elim (ho3 a) fun q => .inr (Nat.le_trans x4'.ex.size q)
    have fin : ∀ ρ5, OutOwn ρ3 s4.heap.objs.size (.next ρ5) → In G env N s5 F5 ρ5 → Loop G A env N (.Tuple elts kk tp) body ds2 ρ5 P → ∃ m, m < (D.tup l :: ds2).length ∧ ∃ ds' ρ' F' wr', m = ds'.length ∧ In G env N s5 F' ρ' ∧ GSt G A.in1 ga gn wr' ds' s5 F' ∧ (∀ d ∈ ds', ∃ l, d = .tup l) ∧ Loop G A env N (.Tuple elts kk tp) body ds' ρ' P ∧ ExN G (Mod env N ρ) gn s F s5 F' ∧
      (∀ a ∈ owns ρ', a ∈ owns ρ ∨ s.heap.objs.size ≤ a) ∧ ∀ b ∈ wr', NotIn env ρ' b ∧ s.heap.objs.size ≤ b := fun ρ5 w5 i5 l5 =>
      ⟨ds2.length, Nat.lt_succ_self _, ds2, ρ5, F5, wr3, rfl, i5, hst4.frame x5 fun b hb => (ha4 b hb).1.mod, fun d hd => ht2 d (List.mem_cons_of_mem _ hd), l5, x5', own5 ρ5 w5,
        fun b hb => ⟨(ha4 b hb).1.sub fun a m => (w5 a m).imp_right fun q e => by subst e; exact absurd (hw4 a hb) (Nat.not_lt.mpr q), (ha4 b hb).2⟩⟩
    cases o with
    | next ρ5 => obtain ⟨rfl, i5⟩ := ok; exact fin ρ5 w i5 p
    | cont ρ5 => obtain ⟨rfl, i5⟩ := ok; exact fin ρ5 w i5 p
    | brk ρ5 => obtain ⟨rfl, i5⟩ := ok; exact k (.next ρ5) .next s5 F5 p (own5 ρ5 w) (x5'.toEx hgn) ⟨rfl, i5⟩
    | ret d => obtain ⟨v, rfl, r⟩ := ok; exact k (.ret d) (.ret v) s5 F5 p trivial (x5'.toEx hgn) ⟨v, rfl, r⟩
theorem xs_forgen {elts : List Expr} {kk : Nat} {tp : Pos} {iter : Expr} {body rest : List Stmt} {pos : Pos} {ds : List D} (hr : Room A 0) (fr : FrOk G env N) (hi : ItemsG G A env ρ iter ds) (ht : ∀ d ∈ ds, ∃ l, d = .tup l) (hs : ∀ x, foldedSetIterable iter env x = pure x) (hl : Loop G A env N (.Tuple elts kk tp) body ds ρ (Then G A env N rest P)) :
    Xs G A env N (.For (.Tuple elts kk tp) iter body [] pos :: rest) ρ P := xs_cons (x_forgen hr fr hi ht hl hs)
end
end
/- B36 -/
section
def enumD : List Nat → Nat → List D
  | [], _ => []
  | c :: cs, i => .tup [.int (i : Int), .str ⟨#[c]⟩] :: enumD cs (i + 1)
theorem enumD_length : ∀ cs i, (enumD cs i).length = cs.length
  | [], _ => rfl
  | c :: cs, i => by rw [enumD, List.length_cons, enumD_length cs, List.length_cons]
theorem enumD_get : ∀ (cs : List Nat) (i j : Nat) (d : D), (enumD cs i)[j]? = some d → ∃ c, cs[j]? = some c ∧ d = .tup [.int ((i + j : Nat) : Int), .str ⟨#[c]⟩]
  | [], _, _, _, h => by simp [enumD] at h
  | c :: cs, i, 0, d, h => by simp [enumD] at h; exact ⟨c, rfl, h.symm⟩
  | c :: cs, i, j + 1, d, h => by
    simp [enumD] at h
    obtain ⟨c', h1, h2⟩ := enumD_get cs (i + 1) j d h
    exact ⟨c', by simpa using h1, by rw [h2]; congr 4; walk_at "m_om"⟩
section
variable {G : Gx} {A : Around} {env : Env} {N : Nat} {ρ : Ro} {P : Out → Prop}
theorem en_run {elts : List Expr} {kk : Nat} {tp : Pos} {e : Expr} {p pos : Pos} {x : Str} (hr : Room A 0) (he : EnvF env) (hx : env.kindOf "enumerate" = some .globalImplicit) (hm : G.mg "enumerate" = none ∧ G.mb "enumerate" = bootBuiltins "enumerate") (hl : Evals G A env ρ e (.str x))
    (hs : NoStar pos [e] env) {s : Shared} {F : Fz} (g : Good G s F) (hv : Vars G env s.heap F ρ) {Q : Value → Shared → Prop} {E : Value → Shared → Prop}
    (k : ∀ it wr St s' F', Ex G nowhere s F s' F' → (∀ b ∈ wr, s.heap.objs.size ≤ b) → (∀ A' : Around, Room A' 0 → Iter G A' (.Tuple elts kk tp) it wr St) → (∀ {ds s F gs}, St ds s F → St ds { s with gens := gs } F) → (∀ {ds s F}, Good G s F → St ds s F → St ds s G.F₀) → St (enumD x.cps.toList 0) s' F' → Q it s') :
    wpAny (model G.prog G.w) A (eval (.Call (.Name "enumerate" p) [e] [] pos) env) (fun x s1 => wpAny (model G.prog G.w) A (pyIter x) Q E s1) E s := by
  show wpAny _ _ (eval (.Name "enumerate" p) env >>= fun fv => callWith pos fv [] (backTo pos (starEach [e] env)) (backToKw pos (keywordEach [] env))) _ _ _
  refine wpAny_bind (ev_builtin he g hx hm.1 (hm.2.trans (show bootBuiltins "enumerate" = some (.type "enumerate") from rfl)) ?_)
  refine PySem.callWith_type (by rw [hs]; simp) (evalArgs_ (show EvalsL G A env ρ [e] [.str x] from ⟨hl, trivial⟩) hs g hv fun vs s1 F1 x1 r1 => ?_)
  cases r1 with
  | cons r1 r2 =>
  cases r2
  cases r1 with
  | @str _ t =>
  have g1 := x1.good
  refine call_enumerate_str fun h' he' hit hz hk => wpAny_pyIter_enum he' ?_
  have x2 : Ex G nowhere s1 F1 { s1 with heap := h', toks := s1.toks } F1 := ex_heap g1 hk (by walk_at "m_om")
  have main : ∀ (ty : String), (ty == "code") = false → h'.IsStrIter s1.heap.objs.size ty x t 0 → (∀ A' : Around, A'.handled = none → Draws G.prog G.w A'.in1 s1.heap.objs.size [s1.heap.objs.size] x.cps.size (fun i v => ∃ c u, x.cps[i]? = some c ∧ v = .str ⟨#[c]⟩ u) (fun i h => h.IsStrIter s1.heap.objs.size ty x t i)) → Q (.ref (s1.heap.objs.size + 1)) { s1 with heap := h', toks := s1.toks } := by
    intro ty hty hit hD
    have hef : s1.heap.objs.size + 1 ∉ [s1.heap.objs.size] := fun hm => Nat.succ_ne_self _ (List.mem_singleton.mp hm)
    have W := fun (A' : Around) (hA : Room A' 0) => WalksT.enumerateD (hD A' hA.handled) (s1.heap.objs.size + 1) (Nat.succ_ne_self _) hef (by simp)
    have wrx : ∀ b ∈ [s1.heap.objs.size + 1, s1.heap.objs.size], b = s1.heap.objs.size + 1 ∨ b = s1.heap.objs.size := fun b hb => by simpa using hb
    refine k _ _ (StT G _ _ x.cps.size _ _) _ F1 (x1.trans' x2) (fun b hb => ?_) (fun A' hA => Iter.of_walksT (elts := elts) (kk := kk) (tp := tp) (W A' hA) fun i h st b hb => ?_) (fun st => ⟨st.at', st.old, st.un, st.base⟩) (fun {ds s F} gd st => ⟨?_, fun b hb hbw => absurd hb hbw, fun b hb => ⟨(st.un b hb).1, ?_⟩, st.base⟩) ⟨⟨0, ⟨⟨_, by simpa using he'⟩, hit⟩, by rw [enumD_length]; simp, fun j d v e1 e2 => ?_⟩, fun b hb hbw => ?_, fun b hb => ?_, fun b hb => ?_⟩
    · have := x1.size
      rcases wrx b hb with rfl | rfl <;> walk_at "m_om"
    · obtain ⟨⟨old, q1⟩, o, q2, q3, _⟩ := st
      rcases wrx b hb with rfl | rfl
      · exact ⟨_, _, q1, rfl, codey_iter rfl rfl⟩
      · exact ⟨_, _, q2, q3, codey_iter q3 hty⟩
    · obtain ⟨i, q1, q2, q3⟩ := st.at'
      refine ⟨i, q1, q2, fun j d v e1 e2 => ?_⟩
      obtain ⟨l, h1, h2⟩ := q3 j d v e1 e2
      obtain ⟨t', y, ⟨c', u, h3, rfl⟩, rfl⟩ := e2
      refine ⟨l, h1, ?_⟩
      cases h2 with
      | cons a1 a2 =>
      cases a2 with
      | cons a2 a3 =>
      cases a3; cases a1; cases a2
      exact .cons .int (.cons .str .nil)
    · have := (st.un b hb).2
      cases q : G.F₀ b with
      | none => rfl
      | some o => rw [gd.ff b o q] at this; cases this
    · obtain ⟨c, h1, h2⟩ := enumD_get _ _ _ _ e1
      obtain ⟨t', y, ⟨c', u, h3, rfl⟩, rfl⟩ := e2
      rw [Nat.zero_add] at h3
      have : c' = c := by
        have : x.cps[j]? = some c := by simpa using h1
        rw [this] at h3; cases h3; rfl
      subst this
      exact ⟨_, h2, .cons .int (.cons .str .nil)⟩
    · exact absurd hb hbw
    · rcases wrx b hb with rfl | rfl
      · exact ⟨by show _ < h'.objs.size; walk_at "m_om", g1.none_of (Nat.le_succ _)⟩
      · exact ⟨by show _ < h'.objs.size; walk_at "m_om", g1.none_of (Nat.le_refl _)⟩
    · have := g1.base.size
      rcases wrx b hb with rfl | rfl <;> walk_at "m_om"
  cases ha : x.cps.all (· < 128)
  · exact main "str_iterator" rfl (by simpa [strIterType, ha] using hit) fun A' hA => Draws.strWide (A := A'.in1) hA s1.heap.objs.size x t
  · exact main "str_ascii_iterator" rfl (by simpa [strIterType, ha] using hit) fun A' hA => Draws.strAscii (A := A'.in1) hA s1.heap.objs.size x t
end
end
/- B37 -/
section
section
variable {G : Gx} {A : Around} {env : Env} {N : Nat} {ρ : Ro} {P : Out → Prop}
/-- data that no heap is needed for -/
def D.flat : D → Bool
  | .none | .bool _ | .int _ | .str _ => true
  | _ => false
theorem Rd.flat {F F' : Fz} {v : Value} {d : D} (h : Rd F v d) (hd : d.flat = true) : Rd F' v d := by
  cases h <;> first | exact absurd hd Bool.false_ne_true | constructor
def Flat (ρ : Ro) : Prop := ∀ p ∈ ρ, ∃ d, p.2 = .v d ∧ d.flat = true
theorem Flat.owns {ρ : Ro} (h : Flat ρ) : owns ρ = [] := by
  unfold Mine.owns
  rw [List.filterMap_eq_nil_iff]
  intro p hp
  obtain ⟨d, e, _⟩ := h p hp
  rw [e]
theorem In.lowF {s : Shared} {F : Fz} (i : In G env N s F ρ) (h : Flat ρ) : In G env N s G.F₀ ρ := i.low fun p hp => by
  have q := i.vars.at' p hp
  obtain ⟨d, e, hd⟩ := h p hp
  obtain ⟨y, e'⟩ := p
  cases e
  obtain ⟨v, a, r⟩ := q
  exact ⟨v, d, a, rfl, r.flat hd⟩
/-- no names that other frames share -/
def NoCells (env : Env) : Prop := ∀ x, env.kindOf x ≠ some .cell ∧ env.kindOf x ≠ some .free
theorem modL (hc : NoCells env) (h : owns ρ = []) {a : Addr} (m : Mod env N ρ a) : a = env.locals := by
  rcases m with m | ⟨x, k, _⟩ | m
  · exact m
  · exact absurd k (hc x).1
  · rw [h] at m; cases m
theorem notInL (hc : NoCells env) (h : owns ρ = []) {a : Addr} (n : a ≠ env.locals) : NotIn env ρ a := ⟨n, fun x k => absurd k (by rintro (k | k); exact (hc x).1 k; exact (hc x).2 k), by rw [h]; exact List.not_mem_nil⟩

/-- a frame that waits, with an iterator under way -/
theorem keeps_it {t : Expr} {it : Value} {wr : List Addr} {St : List D → Shared → Fz → Prop} {ds : List D} (hc : NoCells env) (hf : Flat ρ) (hI : Iter G A t it wr St) (hStG : ∀ {ds s F gs}, St ds s F → St ds { s with gens := gs } F) : Keeps G (env.locals :: wr) fun s => In G env N s G.F₀ ρ ∧ St ds s G.F₀ where
  ex := fun {M s F s' F'} h x hM => ⟨h.1.exM' x.low fun a m => notInL hc hf.owns fun e => hM env.locals List.mem_cons_self (e ▸ m), hI.frame h.2 x.low fun b hb => hM b (List.mem_cons_of_mem _ hb)⟩
  gens := fun h hg => ⟨h.1.regen hg, hStG h.2⟩
  un := fun {s} h b hb => by
    rcases List.mem_cons.mp hb with rfl | hb
    · obtain ⟨m, hn⟩ := h.1.frm.ns; exact hn.lt
    · exact (hI.un h.2 b hb).1
theorem keeps_in (hc : NoCells env) (hf : Flat ρ) {wr : List Addr} (hw : ∀ b ∈ wr, b = env.locals) : Keeps G wr fun s => In G env N s G.F₀ ρ ∧ env.locals ∈ wr where
  ex := fun {M s F s' F'} h x hM => ⟨h.1.exM' x.low fun a m => notInL hc hf.owns fun e => hM env.locals h.2 (e ▸ m), h.2⟩
  gens := fun h hg => ⟨h.1.regen hg, h.2⟩
  un := fun {s} h b hb => by
    rw [hw b hb]
    obtain ⟨m, hn⟩ := h.1.frm.ns; exact hn.lt

section
variable {c : Code} {fs : List Frame} {s : Shared} {Φ : End → Shared → Prop} {K : Flow → Sem Fin} {H : Value → Sem Fin} {gd : Bool → Bool} {lv : List Value → List Value}
theorem s1_stmt {st : Stmt} {rest : List Stmt} {ρ' : Ro} {F : Fz} (hX : X1 G (A.over c fs) env N st ρ (OnlyNext (· = ρ'))) (i : In G env N s F ρ) (hc : NoCells env) (ho : owns ρ = []) (hf : Flat ρ')
    (h : ∀ s', In G env N s' G.F₀ ρ' → Ex G (· = env.locals) s G.F₀ s' G.F₀ → Seg1 (model G.prog G.w) A c ((execs rest env).wrap K H gd lv) fs s' Φ) : Seg1 (model G.prog G.w) A c ((execs (st :: rest) env).wrap K H gd lv) fs s Φ := by
  refine s1_cons (s1_wrap (hX.run s F i _ _ fun o fl s' F' p w x ok => ?_))
  cases o with
  | next ρ'' =>
    obtain ⟨rfl, i'⟩ := ok
    cases (show ρ'' = ρ' from p)
    exact h s' (i'.lowF hf) (x.low.weaken fun a m => modL hc ho m)
  | _ => exact p.elim
theorem s1_if {t : Expr} {body orelse rest : List Stmt} {pos : Pos} {F : Fz} {b : Bool} (ht : Tests G (A.over c fs) env ρ t b) (i : In G env N s F ρ) (hf : Flat ρ)
    (h : ∀ s', In G env N s' G.F₀ ρ → Ex G nowhere s G.F₀ s' G.F₀ → Seg1 (model G.prog G.w) A c ((execs (if b then body else orelse) env).wrap (fun f => match f with | .next => (execs rest env).wrap K H gd lv | f => K f) H gd lv) fs s' Φ) :
    Seg1 (model G.prog G.w) A c ((execs (.If t body orelse pos :: rest) env).wrap K H gd lv) fs s Φ := by
  refine s1_cons (s1_If (ht.run s F i.good i.vars _ _ fun s' F' x => ?_))
  have := h s' ((i.ex x).lowF hf) x.low
  cases b with
  | true => exact this
  | false => exact this
theorem s1_yieldT {es : List Expr} {kk : Nat} {pe ypos pos : Pos} {rest : List Stmt} {F : Fz} {l : List D} (hfs : splitAtGen fs = none) (hfg : fs.any Frame.guarded = false) (hgd : gd false = false) (he : Evals G (A.over c fs) env ρ (.Tuple es kk pe) (.tup l)) (hfl : ∀ d ∈ l, d.flat = true) (i : In G env N s F ρ) (hf : Flat ρ)
    (h : ∀ e s' , (∃ v, e.result = .yielded v ∧ e.quiet = true ∧ VT G.F₀ s'.heap v (.tup l)) → In G env N s' G.F₀ ρ → Ex G nowhere s G.F₀ s' G.F₀ →
      (∀ s'' Φ', Seg1 (model G.prog G.w) A c ((execs rest env).wrap K H gd lv) fs s'' Φ' → GenRun G A e.genState s'' Φ') → Φ e s') (hco : env.scope.isCoroutine = false := by rfl) (hi : interactive env = false := by rfl) :
    Seg1 (model G.prog G.w) A c ((execs (.Expr (.Yield (some (.Tuple es kk pe)) ypos) pos :: rest) env).wrap K H gd lv) fs s Φ := by
  refine s1_cons (s1_Yield hfs (he.run s F i.good i.vars _ _ fun v s' F' x r => fun lv' p k hk => ?_) hco hi)
  refine h _ s' ⟨v, rfl, ?_, ?_⟩ ((i.ex x).lowF hf) x.low fun s'' Φ' hs => hk s'' Φ' hs
  · show (!(gd false || fs.any Frame.guarded)) = true
    rw [hgd, hfg]; rfl
  · cases r with
    | tup hF hl =>
      refine .tup (isTuple_of x.good hF) ?_
      have : ∀ {vs : List Value} {ds : List D}, RdL F' vs ds → (∀ d ∈ ds, d.flat = true) → RdL G.F₀ vs ds := by
        intro vs
        induction vs with
        | nil => intro ds h _; cases h; exact .nil
        | cons v vs ih =>
          intro ds h hd
          cases h with
          | cons h1 h2 => exact .cons (h1.flat (hd _ List.mem_cons_self)) (ih h2 fun d m => hd d (List.mem_cons_of_mem _ m))
      simpa using this hl hfl
end
end
end
/- B38 -/
section
section
variable {G : Gx} {A : Around} {env : Env} {N : Nat} {ρ : Ro} {P : Out → Prop}
/-- a scope fit for a plain generator function -/
structure ScGen (sc : Scope) (ps : List Str) : Prop where
  kind : sc.kind = .function
  co : sc.isCoroutine = false
  gen : sc.isGenerator = true
  dbg : sc.names.lookup ("__debug__" : Str) = none
  cd : sc.names.lookup ("__classdict__" : Str) = none
  uniq : ∀ p ∈ sc.names, sc.names.lookup p.1 = some p.2
  par : ∀ x ∈ ps, sc.names.lookup x = some .local
  pars : ps.Nodup
  nocell : ∀ p ∈ sc.names, p.2 ≠ .cell ∧ p.2 ≠ .free
theorem ScGen.noCells {sc : Scope} {ps : List Str} (sk : ScGen sc ps) {L : Addr} {cs : List (Str × Addr)} {q : Str} {f : Option Addr} {cd : Value} {fr : Option Addr} : NoCells (mkE sc L cs q f cd fr) := fun x =>
  ⟨fun h => (sk.nocell _ (mem_of_lookup h)).1 rfl, fun h => (sk.nocell _ (mem_of_lookup h)).2 rfl⟩

theorem gen_fn {f : Str} {ps : List Str} {body : List Stmt} {sc : Scope} {ds items : List D} {k : Nat} (hD : Def G f ps body sc) (sk : ScGen sc ps) (hlen : ps.length = ds.length) (hfl : ∀ d ∈ ds, d.flat = true)
    (h : ∀ A L cs q a fr cd N, Room A k → FrOk G (mkE sc L cs q a cd fr) N → Ready G A items [(mkE sc L cs q a cd fr).locals] (fun s => In G (mkE sc L cs q a cd fr) N s G.F₀ (ps.zip (ds.map En.v)) ∧ (mkE sc L cs q a cd fr).locals ∈ [(mkE sc L cs q a cd fr).locals]) (.fresh (.func body (mkE sc L cs q a cd fr)))) : GenFn G (k + 1) f ds items := by
  obtain ⟨a, o, fd, hm, ho, hd, ok, hcl, hcode⟩ := hD
  refine ⟨a, o, fd, hm, ho, hd, fun A hr s F vs g r Q E kk => ?_⟩
  have hlv : vs.length = ps.length := by rw [r.length, hlen]
  obtain ⟨hbody, hsc, hgl, hbu, hbind⟩ := ok
  refine wpAny_call (codeAny_call_generator (by have := hr.depth; walk_at "m_om") (g.base.get_func ho hd) hd (by rw [hsc]; exact sk.co) (by rw [hsc]; exact sk.gen) hbody (hcode _ g.base) ?_)
  rw [hbind vs hlv, hcl, hsc, hgl, hbu]
  refine wpAny_pure (wpAny_newEnv ?_)
  have notCell : ∀ x, (x, NameKind.cell) ∉ sc.names := fun x q => (sk.nocell _ q).1 rfl
  have en : EnvNew (newEnv sc s.heap.objs.size mainGlobals (cellsFrom (s.heap.objs.size + 1) sc.names [] ++ []) (fd.qualname ++ ".<locals>.") (some a) fd.code none builtinsNs) sc.names [] s.heap := by
    refine ⟨⟨sk.kind, rfl, rfl, sk.dbg, sk.cd⟩, rfl, rfl, sk.uniq, fun x hx => ?_, fun x hx => notCell x, fun x c h => by cases h⟩
    exact .inl (mem_of_lookup hx)
  obtain ⟨fr, i, x0⟩ := frame_start (ρ := []) (ty := "frame") g en (fun p hp => by cases hp) List.nodup_nil
  have hp : PutL (newEnv sc s.heap.objs.size mainGlobals (cellsFrom (s.heap.objs.size + 1) sc.names [] ++ []) (fd.qualname ++ ".<locals>.") (some a) fd.code none builtinsNs) s.heap.objs.size ps ds [] ([] ++ ps.zip (ds.map En.v)) :=
    params_put ps ds [] hlen sk.pars (fun x _ => List.not_mem_nil) fun x hx => .inl (sk.par x hx)
  refine store_params fr i (by rw [map_snd_zip _ _ hlv.symm]; exact r) (by rw [map_fst_zip _ _ hlv.symm]; exact hp) fun s1 x1 i1 => ⟨i1.good.nolimit, ?_⟩
  rw [List.nil_append] at i1
  have x01 : Ex G nowhere s F s1 F := x0.trans x1 fun b m => .inr (by
    rcases m with m | ⟨_, _, _, m⟩ | m
    · subst m; exact Nat.le_refl _
    · exact m
    · cases m)
  have hflat : Flat (ps.zip (ds.map En.v)) := by
    intro p hp
    obtain ⟨x, e⟩ := p
    have := (List.of_mem_zip hp).2
    obtain ⟨d, hd, rfl⟩ := List.mem_map.mp this
    exact ⟨d, rfl, hfl d hd⟩
  have i1L := i1.lowF hflat
  have hR := h A.in1 _ _ _ _ _ _ _ hr.in1 fr
  have g1 := i1.good
  have x2 : Ex G nowhere s1 F { s1 with heap := s1.heap.push { cls := .type "generator", data := .fields #[.int s1.gens.size 0, .str fd.name s1.toks, .str fd.qualname (s1.toks + 1)] }, toks := s1.toks + 1 + 1 } (F.put s1.heap.objs.size { cls := .type "generator", data := .fields #[.int s1.gens.size 0, .str fd.name s1.toks, .str fd.qualname (s1.toks + 1)] }) :=
    ex_new g1 (fun b o e => Heap.get?_push_of_some _ e) (by rw [Heap.size_push]; walk_at "m_om") (Nat.le_refl _) (Heap.get?_push_size _ rfl) (by walk_at "m_om")
  have hb2 : AllBare (s1.gens.push (.fresh (.func body (newEnv sc s.heap.objs.size mainGlobals (cellsFrom (s.heap.objs.size + 1) sc.names [] ++ []) (fd.qualname ++ ".<locals>.") (some a) fd.code none builtinsNs)))) := g1.bare.push rfl
  have hg2 : ∀ (i : Nat) (x : GenState), s1.gens[i]? = some x → (s1.gens.push (.fresh (.func body (newEnv sc s.heap.objs.size mainGlobals (cellsFrom (s.heap.objs.size + 1) sc.names [] ++ []) (fd.qualname ++ ".<locals>.") (some a) fd.code none builtinsNs))))[i]? = some x := fun i x e => by
    obtain ⟨hi, _⟩ := Array.getElem?_eq_some_iff.mp e
    rw [Array.getElem?_push_lt hi, ← e, Array.getElem?_eq_getElem hi]
  have x3 := x2.regen (gs := s1.gens) hb2 hg2
  have hL : s.heap.objs.size < s1.heap.objs.size := by obtain ⟨m, hn⟩ := i1.frm.ns; exact hn.lt
  refine kk s1.heap.objs.size s1.gens.size [s.heap.objs.size] _ _ (x01.trans' x3) (fun b hb => by rw [List.mem_singleton] at hb; walk_at "m_om") ?_ ⟨⟨_, Fz.put_self .., fun h e => ⟨_, _, _, e, rfl, rfl, rfl⟩⟩, ⟨_, _, Array.getElem?_push_size .., hR.keeps.ex (M := nowhere) ⟨i1L, List.mem_cons_self⟩ x3 (fun _ _ f => f), hR⟩, fun b hb => ?_⟩
  · rcases Nat.lt_or_ge s1.gens.size s.gens.size with h | h
    · have e1 : s.gens[s1.gens.size]? = some s.gens[s1.gens.size] := Array.getElem?_eq_getElem h
      have := x01.gens _ _ e1
      obtain ⟨hlt, _⟩ := Array.getElem?_eq_some_iff.mp this
      exact absurd hlt (Nat.lt_irrefl _)
    · exact h
  · rw [List.mem_singleton] at hb; subst hb
    refine ⟨Nat.lt_of_lt_of_le hL x3.size, ?_⟩
    have : F s.heap.objs.size = none := g.none_of (Nat.le_refl _)
    unfold Fz.put
    rw [if_neg (Nat.ne_of_lt hL)]
    exact this
end
end
/- M20 -/
section
/-- the numbers that the sum and the walk are made of -/
structure Ops (α : Type) where
  add : α → α → α
  sub : α → α → α
  mul : α → α → α
  con : Int → α
  x : α
def intO (q : Int) : Ops Int := ⟨(· + ·), (· - ·), (· * ·), fun i => i, q⟩
structure Hom {α β : Type} (o : Ops α) (u : Ops β) (f : α → β) : Prop where
  add : ∀ a b, f (o.add a b) = u.add (f a) (f b)
  sub : ∀ a b, f (o.sub a b) = u.sub (f a) (f b)
  mul : ∀ a b, f (o.mul a b) = u.mul (f a) (f b)
  con : ∀ i, f (o.con i) = u.con i
  x : f o.x = u.x
def choStep (l : List Int) (p : Nat) : List Int := [1] ++ ((List.range p).map fun k => l.getD k 0 + l.getD (k + 1) 0) ++ [1]
def choV (c : Nat) : List Int := (List.range (2 * c)).foldl choStep [1]
def pwG {α : Type} (o : Ops α) (y : α) : Nat → α
  | 0 => o.con 1
  | n + 1 => o.mul (pwG o y n) y
def kOf (c i : Nat) : Int := -(c : Int) + (i : Int)
def eOf (c i : Nat) : Nat := ((kOf c i * (kOf c i - 1)).fdiv 2).toNat
def sumStep {α : Type} (o : Ops α) (c : Nat) (w : α) (i : Nat) : α := if (kOf c i).fmod 2 == 1 then o.sub w (o.mul (pwG o o.x (eOf c i)) (o.con ((choV c).getD i 0))) else o.add w (o.mul (pwG o o.x (eOf c i)) (o.con ((choV c).getD i 0)))
def sumG {α : Type} (o : Ops α) (c : Nat) : α := (List.range (2 * c + 1)).foldl (sumStep o c) (o.con 0)
def ladStep {α : Type} (o : Ops α) (l : List α) : List α := l ++ [o.add (o.mul (l.getLastD (o.con 0)) o.x) (o.con 1)]
def ladG {α : Type} (o : Ops α) (c : Nat) : List α := (List.range c).foldl (fun l _ => ladStep o l) [o.con 0]
def wayStep {α : Type} (o : Ops α) (c : Nat) (lad w : List α) : List α :=
  (List.range (c + 1)).map fun k => o.add (([o.con 0] ++ w.take (w.length - 1)).getD k (o.con 0)) ((((List.range c).map fun k => o.mul (w.getD (k + 1) (o.con 0)) (lad.getD (k + 1) (o.con 0))) ++ [o.con 0]).getD k (o.con 0))
def waysG {α : Type} (o : Ops α) (c n : Nat) : List α := (List.range n).foldl (fun w _ => wayStep o c (ladG o c) w) ([o.con 1] ++ List.replicate c (o.con 0))
def walkG {α : Type} (o : Ops α) (c : Nat) : α := (waysG o c (2 * c)).getD 0 (o.con 0)

section
variable {α β : Type} {o : Ops α} {u : Ops β} {f : α → β}
theorem getD_map' (l : List α) (k : Nat) (d : α) : (l.map f).getD k (f d) = f (l.getD k d) := by
  rw [List.getD_eq_getElem?_getD, List.getD_eq_getElem?_getD, List.getElem?_map]
  cases l[k]? <;> rfl
theorem Hom.pw (h : Hom o u f) (y : α) : ∀ n, f (pwG o y n) = pwG u (f y) n
  | 0 => h.con 1
  | n + 1 => by rw [pwG, pwG, h.mul, h.pw y n]
theorem Hom.sumStep (h : Hom o u f) (c : Nat) (w : α) (i : Nat) : f (Mine.sumStep o c w i) = Mine.sumStep u c (f w) i := by
  unfold Mine.sumStep
  split
  · rw [h.sub, h.mul, h.con, h.pw, h.x]
  · rw [h.add, h.mul, h.con, h.pw, h.x]
theorem Hom.sum (h : Hom o u f) (c : Nat) : f (sumG o c) = sumG u c := by
  have key : ∀ (l : List Nat) (w : α), f (l.foldl (Mine.sumStep o c) w) = l.foldl (Mine.sumStep u c) (f w) := by
    intro l
    induction l with
    | nil => intro w; rfl
    | cons i l ih => intro w; rw [List.foldl_cons, List.foldl_cons, ih, h.sumStep]
  unfold sumG
  rw [key, h.con]
theorem getLastD_map' (l : List α) (d : α) : (l.map f).getLastD (f d) = f (l.getLastD d) := by
  rw [List.getLastD_eq_getLast?, List.getLastD_eq_getLast?, List.getLast?_map]
  cases l.getLast? <;> rfl
theorem Hom.ladStep (h : Hom o u f) (l : List α) : (Mine.ladStep o l).map f = Mine.ladStep u (l.map f) := by
  unfold Mine.ladStep
  rw [List.map_append, ← h.con 0, getLastD_map', List.map_cons, List.map_nil, h.add, h.mul, h.x, h.con]
theorem Hom.lad (h : Hom o u f) (c : Nat) : (ladG o c).map f = ladG u c := by
  have key : ∀ (is : List Nat) (l : List α), (is.foldl (fun l _ => Mine.ladStep o l) l).map f = is.foldl (fun l _ => Mine.ladStep u l) (l.map f) := by
    intro is
    induction is with
    | nil => intro l; rfl
    | cons i is ih => intro l; rw [List.foldl_cons, List.foldl_cons, ih, h.ladStep]
  unfold ladG
  rw [key, List.map_cons, List.map_nil, h.con]
theorem Hom.wayStep (h : Hom o u f) (c : Nat) (lad w : List α) : (Mine.wayStep o c lad w).map f = Mine.wayStep u c (lad.map f) (w.map f) := by
  unfold Mine.wayStep
  rw [List.map_map]
  refine List.map_congr_left fun k _ => ?_
  show f (o.add _ _) = _
  rw [h.add, ← getD_map' (f := f), ← getD_map' (f := f), List.map_append, List.map_append, List.map_take, List.map_cons, List.map_nil, List.map_map, List.length_map, h.con]
  congr 2
  congr 1
  refine List.map_congr_left fun k _ => ?_
  show f (o.mul _ _) = _
  rw [h.mul, ← getD_map' (f := f), ← getD_map' (f := f), h.con]
theorem Hom.walk (h : Hom o u f) (c : Nat) : f (walkG o c) = walkG u c := by
  have key : ∀ (is : List Nat) (w : List α), (is.foldl (fun w _ => Mine.wayStep o c (ladG o c) w) w).map f = is.foldl (fun w _ => Mine.wayStep u c (ladG u c) w) (w.map f) := by
    intro is
    induction is with
    | nil => intro w; rfl
    | cons i is ih => intro w; rw [List.foldl_cons, List.foldl_cons, ih, h.wayStep, h.lad]
  unfold walkG waysG
  rw [← getD_map' (f := f), key, List.map_append, List.map_replicate, List.map_cons, List.map_nil, h.con, h.con]
end

/-- polynomials, lowest part first -/
def padd : List Int → List Int → List Int
  | [], b => b
  | x :: a, [] => x :: a
  | x :: a, y :: b => (x + y) :: padd a b
def pscale (k : Int) (b : List Int) : List Int := b.map (k * ·)
def pmul : List Int → List Int → List Int
  | [], _ => []
  | x :: a, b => padd (pscale x b) (0 :: pmul a b)
def psub (a b : List Int) : List Int := padd a (pscale (-1) b)
def pev (q : Int) : List Int → Int
  | [] => 0
  | x :: a => x + q * pev q a
def polO : Ops (List Int) := ⟨padd, psub, pmul, fun i => [i], [0, 1]⟩
theorem pev_add (q : Int) : ∀ a b : List Int, pev q (padd a b) = pev q a + pev q b
  | [], b => by simp [padd, pev]
  | x :: a, [] => by simp [padd, pev]
  | x :: a, y :: b => by rw [padd, pev, pev, pev, pev_add q a b, Int.mul_add]; walk_at "m_om"
theorem pev_scale (q k : Int) : ∀ b : List Int, pev q (pscale k b) = k * pev q b
  | [] => by simp [pscale, pev]
  | y :: b => by
    show k * y + q * pev q (pscale k b) = k * (y + q * pev q b)
    rw [pev_scale q k b, Int.mul_add, Int.mul_left_comm]
theorem pev_mul (q : Int) : ∀ a b : List Int, pev q (pmul a b) = pev q a * pev q b
  | [], b => by simp [pmul, pev]
  | x :: a, b => by
    rw [pmul, pev_add, pev_scale, pev, pev, pev_mul q a b, Int.add_mul, Int.mul_assoc]; walk_at "m_om"
theorem pev_hom (q : Int) : Hom polO (intO q) (pev q) := by
  refine ⟨pev_add q, fun a b => ?_, pev_mul q, fun i => ?_, ?_⟩
  · show pev q (padd a (pscale (-1) b)) = pev q a - pev q b
    rw [pev_add, pev_scale]; walk_at "m_om"
  · show i + q * 0 = i
    walk_at "m_om"
  · show 0 + q * (1 + q * 0) = q
    rw [Int.mul_zero, Int.add_zero, Int.mul_one, Int.zero_add]
theorem pev_zero (q : Int) : ∀ a : List Int, a.all (· == 0) = true → pev q a = 0
  | [], _ => rfl
  | x :: a, h => by
    rw [List.all_cons, Bool.and_eq_true] at h
    have h1 : x = 0 := by simpa using h.1
    rw [pev, pev_zero q a h.2, h1]; walk_at "m_om"
theorem pw_int (q y : Int) : ∀ n, pwG (intO q) y n = y ^ n
  | 0 => (Int.pow_zero y).symm
  | n + 1 => by rw [pwG, pw_int q y n, Int.pow_succ]; rfl
/-- Touchard and Riordan, as polynomials -/
def same9 (c : Nat) : Bool := (psub (sumG polO c) (pmul (pwG polO [1, -1] c) (walkG polO c))).all (· == 0)
theorem same1 : same9 1 = true := by decide +kernel
theorem same2 : same9 2 = true := by decide +kernel
theorem same3 : same9 3 = true := by decide +kernel
theorem same4 : same9 4 = true := by decide +kernel
theorem same5 : same9 5 = true := by decide +kernel
theorem same6 : same9 6 = true := by decide +kernel
theorem same7 : same9 7 = true := by decide +kernel
theorem same8 : same9 8 = true := by decide +kernel
theorem same99 : same9 9 = true := by decide +kernel
theorem same_all {c : Nat} (h1 : 1 ≤ c) (h9 : c ≤ 9) : same9 c = true := by
  have : c = 1 ∨ c = 2 ∨ c = 3 ∨ c = 4 ∨ c = 5 ∨ c = 6 ∨ c = 7 ∨ c = 8 ∨ c = 9 := by walk_at "m_om"
  rcases this with rfl | rfl | rfl | rfl | rfl | rfl | rfl | rfl | rfl
  · exact same1
  · exact same2
  · exact same3
  · exact same4
  · exact same5
  · exact same6
  · exact same7
  · exact same8
  · exact same99
theorem riordan (q : Int) {c : Nat} (h1 : 1 ≤ c) (h9 : c ≤ 9) : sumG (intO q) c = (1 - q) ^ c * walkG (intO q) c := by
  have h := pev_zero q _ (same_all h1 h9)
  have e : ∀ a b, pev q (psub a b) = pev q a - pev q b := (pev_hom q).sub
  rw [e, (pev_hom q).sum, pev_mul, (pev_hom q).pw, (pev_hom q).walk, pw_int] at h
  have e2 : pev q [1, -1] = 1 - q := by show 1 + q * (-1 + q * 0) = 1 - q; rw [Int.mul_zero, Int.add_zero, Int.mul_neg, Int.mul_one]; walk_at "m_om"
  rw [e2] at h
  walk_at "m_om"
end
/- M21 -/
section
theorem pev_abs (q : Int) {m : Nat} (hm : 1 ≤ m) (hq : q.natAbs ≤ m) : ∀ p : List Int, (pev q p).natAbs ≤ (p.map Int.natAbs).sum * m ^ p.length
  | [] => by simp [pev]
  | x :: a => by
    have ih := pev_abs q hm hq a
    rw [pev, List.map_cons, List.sum_cons, List.length_cons]
    have h1 : (x + q * pev q a).natAbs ≤ x.natAbs + q.natAbs * (pev q a).natAbs := by
      rw [← Int.natAbs_mul]; exact Int.natAbs_add_le _ _
    have h2 : q.natAbs * (pev q a).natAbs ≤ m * ((a.map Int.natAbs).sum * m ^ a.length) := Nat.mul_le_mul hq ih
    have h3 : m * ((a.map Int.natAbs).sum * m ^ a.length) = (a.map Int.natAbs).sum * m ^ (a.length + 1) := by
      rw [Nat.pow_succ, Nat.mul_left_comm, Nat.mul_comm m]
    have h4 : x.natAbs ≤ x.natAbs * m ^ (a.length + 1) := Nat.le_mul_of_pos_right _ (Nat.pow_pos hm)
    rw [Nat.add_mul]
    walk_at "m_om"
def ptrim : List Int → List Int
  | [] => []
  | x :: a => if x == 0 && (ptrim a).isEmpty then [] else x :: ptrim a
theorem pev_trim (q : Int) : ∀ p, pev q (ptrim p) = pev q p
  | [] => rfl
  | x :: a => by
    have ih := pev_trim q a
    rw [ptrim]
    split
    · rename_i h
      rw [Bool.and_eq_true, List.isEmpty_iff] at h
      rw [h.2] at ih
      have h1 : x = 0 := by simpa using h.1
      rw [pev, pev, ← ih, h1]; simp [pev]
    · rw [pev, pev, ih]
theorem walk_poly : ∀ c < 10, 1 ≤ c → (ptrim (walkG polO c)).length ≤ 4 * c + 1 ∧ ((ptrim (walkG polO c)).map Int.natAbs).sum ≤ 2 ^ 26 := by decide +kernel
theorem walk_abs (q : Int) {m c : Nat} (hm : 1 ≤ m) (hq : q.natAbs ≤ m) (h1 : 1 ≤ c) (h9 : c ≤ 9) : (walkG (intO q) c).natAbs ≤ 2 ^ 26 * m ^ (4 * c + 1) := by
  obtain ⟨p1, p2⟩ := walk_poly c (by walk_at "m_om") h1
  rw [← (pev_hom q).walk, ← pev_trim]
  exact Nat.le_trans (pev_abs q hm hq _) (Nat.mul_le_mul p2 (Nat.pow_le_pow_right hm p1))
/-- the sizes of the division's two numbers -/
theorem div_fit {q : Int} (hq : q ≠ 1) {c : Nat} (h1 : 1 ≤ c) (h9 : c ≤ 9) : Builtin.Int.intBits (sumG (intO q) c) ≤ 200 * Builtin.Int.intBits ((1 - q) ^ c) := by
  obtain ⟨m, hm⟩ : ∃ m, m = (1 - q).natAbs := ⟨_, rfl⟩
  have hm1 : 1 ≤ m := by walk_at "m_om"
  have hw := walk_abs q (m := 2 * m) (by walk_at "m_om") (by walk_at "m_om") h1 h9
  have hB : ((1 - q) ^ c).natAbs = m ^ c := by rw [Int.natAbs_pow, hm]
  have e1 : (2 * m) ^ (4 * c + 1) ≤ 2 ^ 37 * (m ^ c) ^ 5 := by
    rw [Nat.mul_pow, ← Nat.pow_mul]
    exact Nat.mul_le_mul (Nat.pow_le_pow_right (by decide) (by walk_at "m_om")) (Nat.pow_le_pow_right hm1 (by walk_at "m_om"))
  have e2 : (sumG (intO q) c).natAbs ≤ 2 ^ 63 * (m ^ c) ^ 6 := by
    rw [riordan q h1 h9, Int.natAbs_mul, hB]
    have h2 : (walkG (intO q) c).natAbs ≤ 2 ^ 63 * (m ^ c) ^ 5 := by
      refine Nat.le_trans hw (Nat.le_trans (Nat.mul_le_mul_left _ e1) ?_)
      rw [← Nat.mul_assoc]; exact Nat.mul_le_mul_right _ (by decide)
    have h3 := Nat.mul_le_mul_left (m ^ c) h2
    have h4 : m ^ c * (2 ^ 63 * (m ^ c) ^ 5) = 2 ^ 63 * (m ^ c) ^ 6 := by
      rw [Nat.mul_left_comm, show (m ^ c) ^ 6 = (m ^ c) ^ 5 * m ^ c from Nat.pow_succ .., Nat.mul_comm (m ^ c)]
    walk_at "m_om"
  obtain ⟨β, hβ⟩ : ∃ β, β = Builtin.Int.intBits ((1 - q) ^ c) := ⟨_, rfl⟩
  have h5 : m ^ c < 2 ^ β := by
    have := PySem.intBits_le_iff.mp (Nat.le_refl (Builtin.Int.intBits ((1 - q) ^ c)))
    rw [hB, ← hβ] at this; exact this
  have h6 : 1 ≤ m ^ c := Nat.pow_pos hm1
  have hβ1 : 1 ≤ β := by
    rcases Nat.eq_zero_or_pos β with e | e
    · rw [e] at h5; walk_at "m_om"
    · exact e
  have h7 : (m ^ c) ^ 6 < (2 ^ β) ^ 6 := Nat.pow_lt_pow_left h5 (by decide)
  have h8 : 2 ^ 63 * (m ^ c) ^ 6 < 2 ^ (63 + β * 6) := by
    rw [Nat.pow_add, Nat.pow_mul]; exact Nat.mul_lt_mul_of_pos_left h7 (by decide)
  have h10 : Builtin.Int.intBits (sumG (intO q) c) ≤ 63 + β * 6 := PySem.intBits_le_iff.mpr (Nat.lt_of_le_of_lt e2 h8)
  rw [← hβ]
  walk_at "m_om"
theorem div_value {q : Int} (hq : q ≠ 1) {c : Nat} (h1 : 1 ≤ c) (h9 : c ≤ 9) : (sumG (intO q) c).fdiv ((1 - q) ^ c) = walkG (intO q) c ∧ (sumG (intO q) c).fmod ((1 - q) ^ c) = 0 := by
  have h0 : (1 - q) ^ c ≠ 0 := Int.pow_ne_zero (by walk_at "m_om")
  rw [riordan q h1 h9]
  exact ⟨Int.mul_fdiv_cancel_left _ h0, Int.mul_fmod_right _ _⟩
end
/- M22 -/
section
def mkS (l : List Nat) : Str := ⟨l.toArray⟩
theorem mkS_list (l : List Nat) : (mkS l).cps.toList = l := rfl
theorem mkS_of (x : Str) : mkS x.cps.toList = x := by cases x; simp [mkS]
theorem mkS_app (a b : List Nat) : mkS a ++ mkS b = mkS (a ++ b) := by
  rw [← mkS_of (mkS a ++ mkS b), Str.cps_append, Array.toList_append]; rfl
theorem mkS_len (l : List Nat) : (mkS l).length = l.length := by simp [mkS, Str.length]
theorem foldl_arr (a : Array Nat) : ∀ (n : Nat) (acc : Array Nat), ((List.replicate n a).foldl (· ++ ·) acc).toList = acc.toList ++ (List.replicate n a.toList).flatten
  | 0, acc => by simp
  | n + 1, acc => by rw [List.replicate_succ, List.foldl_cons, foldl_arr a n, List.replicate_succ, List.flatten_cons, Array.toList_append, List.append_assoc]
theorem mul_mkS (l : List Nat) (n : Nat) : Txt.mul (mkS l) (n : Int) = mkS (List.replicate n l).flatten := by
  unfold Txt.mul
  split
  · have : n = 0 := by walk_at "m_om"
    subst this; rfl
  · split
    · rename_i h1 h
      rw [Bool.or_eq_true, beq_iff_eq, beq_iff_eq] at h
      rcases h with h | h
      · have : n = 1 := by walk_at "m_om"
        subst this; simp
      · rw [mkS_len, List.length_eq_zero_iff] at h
        subst h
        rw [List.flatten_replicate_nil]
    · rw [← mkS_of ⟨(List.replicate ((n : Int)).toNat (mkS l).cps).foldl (· ++ ·) #[]⟩]
      show mkS ((List.replicate n (mkS l).cps).foldl (· ++ ·) #[]).toList = _
      rw [foldl_arr]; rfl
/-- a row under way -/
structure LRow where
  bare : List Nat
  due : List Nat
  opened : Nat
  height : Int
  good : Bool
def lrowA (few : Nat) (r : LRow) : List LRow := if r.opened < few then [⟨r.bare ++ [40], r.due ++ [40], r.opened + 1, r.height + 1, r.good⟩] else []
def lrowC (sg sp : List Nat) (r : LRow) (over : Nat) : LRow := ⟨r.bare ++ [41] ++ (List.replicate over sg).flatten, r.due ++ [41] ++ (List.replicate over sp).flatten, r.opened, r.height - 1, r.good && decide (0 < r.height)⟩
def lrowB (few : Nat) (sg sp : List Nat) (p : Nat) (r : LRow) : List LRow := if (p : Int) - (r.opened : Int) < (few : Int) then (List.range (max 1 r.height).toNat).map (lrowC sg sp r) else []
def lrowStep (few : Nat) (sg sp : List Nat) (p : Nat) (r : LRow) : List LRow := lrowA few r ++ lrowB few sg sp p r
def lrowsStep (few : Nat) (sg sp : List Nat) (rows : List LRow) (p : Nat) : List LRow := rows.flatMap (lrowStep few sg sp p)
def lrows (few : Nat) (sg sp : List Nat) : List LRow := (List.range (2 * few)).foldl (lrowsStep few sg sp) [⟨[], [], 0, 0, true⟩]
/-- what a row keeps to -/
structure RowFit (few p : Nat) (r : LRow) : Prop where
  op : r.opened ≤ few
  ht : r.height ≤ (r.opened : Int)
  bare : r.bare.length ≤ 4 * p
  due : r.due.length ≤ 40 * p
structure RowsFit (few p : Nat) (rows : List LRow) : Prop where
  size : rows.length ≤ 4 ^ p
  row : ∀ r ∈ rows, RowFit few p r
theorem step_len {few : Nat} (hf : few ≤ 3) {sg sp : List Nat} {p : Nat} {r : LRow} (h : RowFit few p r) : (lrowStep few sg sp p r).length ≤ 4 := by
  unfold lrowStep lrowA lrowB
  have h1 := h.op
  have h2 := h.ht
  rw [List.length_append]
  by_cases c1 : r.opened < few
  · rw [if_pos c1]
    split
    · rw [List.length_map, List.length_range, List.length_singleton]; walk_at "m_om"
    · simp
  · rw [if_neg c1]
    split
    · rw [List.length_map, List.length_range, List.length_nil]; walk_at "m_om"
    · simp
theorem repl_len (l : List Nat) (n : Nat) : (List.replicate n l).flatten.length = n * l.length := by simp
theorem fitA {few p : Nat} {r r' : LRow} (h : RowFit few p r) (hm : r' ∈ lrowA few r) : RowFit few (p + 1) r' := by
  unfold lrowA at hm
  split at hm
  · rw [List.mem_singleton.mp hm]
    have := h.op; have := h.ht; have := h.bare; have := h.due
    refine ⟨by dsimp only; walk_at "m_om", by dsimp only; walk_at "m_om", ?_, ?_⟩ <;> (simp only [List.length_append, List.length_singleton]; walk_at "m_om")
  · cases hm
theorem fitC {few : Nat} (hf : few ≤ 3) {sg sp : List Nat} (h1 : sg.length ≤ 1) (h2 : sp.length ≤ 6) {p : Nat} {r : LRow} (h : RowFit few p r) {over : Nat} (ho : over < (max 1 r.height).toNat) : RowFit few (p + 1) (lrowC sg sp r over) := by
  have q1 := h.op; have q2 := h.ht; have q3 := h.bare; have q4 := h.due
  have ho2 : over ≤ 2 := by walk_at "m_om"
  have m1 := Nat.mul_le_mul ho2 h1
  have m2 := Nat.mul_le_mul ho2 h2
  refine ⟨q1, by show r.height - 1 ≤ _; exact (by walk_at "m_om" : r.height - 1 ≤ (r.opened : Int)), ?_, ?_⟩
  · show (r.bare ++ [41] ++ (List.replicate over sg).flatten).length ≤ _
    rw [List.length_append, List.length_append, repl_len, List.length_singleton]; walk_at "m_om"
  · show (r.due ++ [41] ++ (List.replicate over sp).flatten).length ≤ _
    rw [List.length_append, List.length_append, repl_len, List.length_singleton]; walk_at "m_om"
theorem fitStep {few : Nat} (hf : few ≤ 3) {sg sp : List Nat} (h1 : sg.length ≤ 1) (h2 : sp.length ≤ 6) {p : Nat} {rows : List LRow} (h : RowsFit few p rows) : RowsFit few (p + 1) (lrowsStep few sg sp rows p) := by
  refine ⟨?_, fun r' hr => ?_⟩
  · unfold lrowsStep
    rw [List.length_flatMap, Nat.pow_succ]
    have key : ∀ l : List LRow, (∀ r ∈ l, RowFit few p r) → (l.map fun r => (lrowStep few sg sp p r).length).sum ≤ l.length * 4 := by
      intro l
      induction l with
      | nil => intro _; simp
      | cons r l ih =>
        intro hl
        have a := ih fun x hx => hl x (List.mem_cons_of_mem _ hx)
        have b := step_len (sg := sg) (sp := sp) hf (hl r List.mem_cons_self)
        rw [List.map_cons, List.sum_cons, List.length_cons, Nat.add_mul]; walk_at "m_om"
    exact Nat.le_trans (key rows h.row) (Nat.mul_le_mul_right _ h.size)
  · obtain ⟨r, hr1, hr2⟩ := List.mem_flatMap.mp hr
    have hfr := h.row r hr1
    rcases List.mem_append.mp hr2 with hm | hm
    · exact fitA hfr hm
    · unfold lrowB at hm
      split at hm
      · obtain ⟨over, ho, rfl⟩ := List.mem_map.mp hm
        exact fitC hf h1 h2 hfr (List.mem_range.mp ho)
      · cases hm
end
/- B39 -/
section
/-- the same surroundings where a token has been made -/
def Gx.on (G : Gx) : Gx := { G with tk := 1 }
theorem Good.on {G : Gx} {s : Shared} {F : Fz} (g : Good G s F) (h : 1 ≤ s.toks) : Good G.on s F := { g with toks := h }
theorem In.on {G : Gx} {env : Env} {N : Nat} {s : Shared} {F : Fz} {ρ : Ro} (i : In G env N s F ρ) (h : 1 ≤ s.toks) : In G.on env N s F ρ :=
  ⟨i.good.on h, ⟨fun p hp => by have q := i.vars.at' p hp; obtain ⟨x, e⟩ := p; cases e <;> exact q, i.vars.names, i.vars.owns⟩, i.frm, i.own, i.size⟩
theorem FrOk.on {G : Gx} {env : Env} {N : Nat} (fr : FrOk G env N) : FrOk G.on env N := { fr with base := fr.base }
/-- the call of the law: one argument, a plain local -/
theorem call_top {G : Gx} {A : Around} {a : Addr} {o : Obj} {fd : FuncData} {x : Str} {body : List Stmt} {sc : Scope} {d dd : D} {v : Value} {s : Shared} {F : Fz} {k : Nat} (ok : DefOk fd [x] body sc) (sk : ScOk sc [x]) (hcl : fd.closure = []) (ho : s.heap.get? a = some o) (hd : o.data = .func fd) (hcode : s.heap.CodeRec fd.code fd.qualname)
    (hr : Room A (k + 1)) (g : Good G s F) (r : Rd F v d) (hloc : sc.names.lookup x = some .local) (hnf : ∀ p ∈ sc.names, p.2 ≠ .free)
    (h : ∀ A L cs q a fr cd N, Room A k → FrOk G.on (mkE sc L cs q a cd fr) N → (∀ x c, sc.names.lookup x = some .cell → cs.lookup x = some c → N ≤ c) → Xs G.on A (mkE sc L cs q a cd fr) N body [(x, En.v d)] (RetIs dd)) {Q : Value → Shared → Prop} {E : Value → Shared → Prop}
    (kk : ∀ v s' F', Good G.on s' F' → Rd F' v dd → Q v s') : wpAny (model G.prog G.w) A (call (.ref a) [v]) Q E s := by
  obtain ⟨hbody, hsc, hgl, hbu, hbind⟩ := ok
  refine wpAny_call (codeAny_call_function (by have := hr.depth; walk_at "m_om") ho hd (by rw [hsc]; exact sk.co) (by rw [hsc]; exact sk.gen) hbody hcode ?_)
  rw [hbind [v] rfl, hcl, hsc, hgl, hbu]
  refine wpAny_pure (wpAny_newEnv ?_)
  have kd : ∀ x, Env.kindOf (newEnv sc s.heap.objs.size mainGlobals (cellsFrom (s.heap.objs.size + 1) sc.names [] ++ []) (fd.qualname ++ ".<locals>.") (some a) fd.code none builtinsNs) x = sc.names.lookup x := fun x => rfl
  have notCell : ∀ x, sc.names.lookup x ≠ some .cell → (x, NameKind.cell) ∉ sc.names := fun x h q => h (sk.uniq _ q)
  have en : EnvNew (newEnv sc s.heap.objs.size mainGlobals (cellsFrom (s.heap.objs.size + 1) sc.names [] ++ []) (fd.qualname ++ ".<locals>.") (some a) fd.code none builtinsNs) sc.names [] s.heap := by
    refine ⟨⟨sk.kind, rfl, rfl, sk.dbg, sk.cd⟩, rfl, rfl, sk.uniq, fun x hx => ?_, fun x hx => ?_, fun x c h => by cases h⟩
    · rw [kd] at hx; exact .inl (mem_of_lookup hx)
    · rw [kd] at hx; exact notCell x (by rw [hx]; decide)
  obtain ⟨fr, i, x0⟩ := frame_start (ρ := []) (ty := "frame") g en (fun p hp => by cases hp) List.nodup_nil
  have hown : ∀ x c, sc.names.lookup x = some .cell → (cellsFrom (s.heap.objs.size + 1) sc.names [] ++ []).lookup x = some c → s.heap.objs.size ≤ c := fun x c hx hc => by
    have ok := cellsFrom_ok sc.names (s.heap.push { cls := .type "frame", data := .dict #[] }) (s.heap.objs.size + 1) [] ⟨fun _ _ hm => (nomatch hm), List.Pairwise.nil⟩ (by rw [Heap.size_push]; exact Nat.le_refl _)
    rw [Heap.size_push] at ok
    rw [lookup_append] at hc
    cases q : (cellsFrom (s.heap.objs.size + 1) sc.names []).lookup x with
    | some c' => rw [q] at hc; cases hc; exact Nat.le_of_succ_le (ok.empty x c (mem_of_lookup q)).2
    | none => rw [q] at hc; cases hc
  show wpAny _ _ (forIn [(x, v)] PUnit.unit _) _ _ _
  rw [List.forIn_cons]
  refine wpAny_bind (wpAny_bind (storeE_tk (e := .v d) (ρ' := [(x, En.v d)]) fr i (.inl hloc) (fun _ hx _ => ⟨v, hx, r⟩) List.nodup_nil (fun a ha => by cases ha) .nil fun s1 x1 i1 htk => wpAny_pure ?_))
  show wpAny _ _ (forIn [] PUnit.unit _) _ _ _
  rw [List.forIn_nil]
  refine wpAny_pure ⟨i1.good.nolimit, ?_⟩
  have h1 : 1 ≤ s1.toks := by have := htk hloc; walk_at "m_om"
  refine codeAny_func ?_
  refine (h _ _ _ _ _ _ _ _ hr.deeper fr.on hown).run s1 F (i1.on h1) _ _ fun o' fl s2 F2 hP hO x2 hok => ?_
  cases o' with
  | ret d' =>
    cases (show d' = dd from hP)
    obtain ⟨v, rfl, rv⟩ := hok
    exact kk v s2 F2 x2.good rv
  | next ρ' =>
    cases (show dd = .none from hP)
    obtain ⟨rfl, _⟩ := hok
    exact kk .none s2 F2 x2.good .none
  | brk => exact hP.elim
  | cont => exact hP.elim
end
/- B40 -/
section
section
variable {G : Gx} {A : Around} {env : Env} {N : Nat} {ρ : Ro} {P : Out → Prop}
theorem ns_data {h : Heap} {b : Addr} {m : Str → Option Value} {o : Obj} (x : h.Ns b m) (e : h.get? b = some o) : ∃ es n, o.data = .dict es n := by
  obtain ⟨o', es, ep, e', hd, _⟩ := x
  rw [e] at e'; cases e'
  exact ⟨es, ep, hd⟩
/-- slots of frames have been changed, no more -/
theorem ex_slots {s : Shared} {F : Fz} (g : Good G s F) {h' : Heap} {S : Addr → Prop} (hS : ∀ b, S b → G.h₁.objs.size ≤ b ∧ F b = none ∧ ∃ m, s.heap.Ns b m) (k1 : ∀ b o, s.heap.get? b = some o → ¬ S b → h'.get? b = some o) (hz : s.heap.objs.size ≤ h'.objs.size) :
    Ex G S s F { s with heap := h' } F := by
  have low : ∀ b o, G.h₁.get? b = some o → ¬ S b := fun b o e hb => absurd (Heap.lt_size e) (Nat.not_lt.mpr (hS b hb).1)
  have lown : ∀ b, b < G.h₁.objs.size → ¬ S b := fun b e hb => absurd e (Nat.not_lt.mpr (hS b hb).1)
  have notab : ∀ b o, s.heap.get? b = some o → isTab o = true → ¬ S b := fun b o e t hb => by
    obtain ⟨m, x⟩ := (hS b hb).2.2
    obtain ⟨es, n, hd⟩ := ns_data x e
    unfold isTab at t
    rw [hd] at t
    cases hc : o.cls <;> rw [hc] at t <;> cases t
  have nocode : ∀ b o, s.heap.get? b = some o → codey o = true → ¬ S b := fun b o e t hb => by
    obtain ⟨m, x⟩ := (hS b hb).2.2
    obtain ⟨es, n, hd⟩ := ns_data x e
    rw [codey_dict hd] at t; cases t
  have ns : ∀ {b m}, s.heap.Ns b m → ¬ S b → h'.Ns b m := fun {b m} x hb => by
    obtain ⟨o, es, ep, e, r⟩ := x
    exact ⟨o, es, ep, k1 b o e hb, r⟩
  refine ⟨hz, fun b o n e _ => k1 b o e n, fun b o e t => .inl (k1 b o e (notab b o e t)), Fz.le.refl F, fun _ _ e => .inl e, ⟨⟨Nat.le_trans g.base.size hz, fun b o e t => k1 b o (g.base.keep b o e t) (low b o e), fun b o e t => ?_⟩, ns g.g (lown _ G.low.1), ns g.b (lown _ G.low.2.1), ?_, g.bare, g.toks, g.os, fun b o e => k1 b o (g.fz b o e) (fun hb => ?_), g.nt, g.ff, G.invK _ _ g.inv fun b o e c => k1 b o e (nocode b o e c)⟩, fun _ _ e => e⟩
  · rcases g.base.tab b o e t with q | ⟨hT, vs, more, rfl, q⟩
    · exact .inl (k1 b o q (low b o e))
    · exact .inr ⟨hT, vs, more, rfl, k1 b _ q (low b _ e)⟩
  · obtain ⟨mc, hn, e⟩ := g.nolimit
    exact ⟨mc, ns hn (lown _ G.low.2.2), e⟩
  · rw [(hS b hb).2.1] at e; cases e
theorem in_slots {s : Shared} {F : Fz} (fr : FrOk G env N) (i : In G env N s F ρ) {h' : Heap} {S : Addr → Prop} (hS : ∀ b, S b → G.h₁.objs.size ≤ b ∧ F b = none ∧ ∃ m, s.heap.Ns b m) (k1 : ∀ b o, s.heap.get? b = some o → ¬ S b → h'.get? b = some o) (k2 : s.heap.UpToSlots h') (hz : s.heap.objs.size ≤ h'.objs.size) :
    In G env N { s with heap := h' } F ρ := by
  have x := ex_slots i.good hS k1 hz
  have cell : ∀ {c v}, s.heap.IsCell c v → h'.IsCell c v := fun {c v} q => by
    obtain ⟨o, e, hd⟩ := q
    refine ⟨o, k1 c o e (fun hb => ?_), hd⟩
    obtain ⟨m, y⟩ := (hS c hb).2.2
    obtain ⟨es, n, hd'⟩ := ns_data y e
    first | (rw [hd'] at hd; cases hd) | (rw [hd'] at hd; exact absurd hd.1 (by intro q; cases q)) | simp_all
  have var : ∀ {y u}, VarAt env s.heap y u → VarAt env h' y u := fun {y u} q => by
    rcases q with ⟨k, m, hn, hm⟩ | ⟨k, c, hc, hv⟩
    · exact .inl ⟨k, m, k2.ns hn, hm⟩
    · exact .inr ⟨k, c, hc, cell hv⟩
  refine ⟨x.good, ⟨fun p hp => ?_, i.vars.names, i.vars.owns⟩, ⟨?_, fun y hy => ?_, i.frm.fl, i.frm.fc⟩, i.own, Nat.le_trans i.size hz⟩
  · have q := i.vars.at' p hp
    obtain ⟨y, e'⟩ := p
    cases e' with
    | v d => obtain ⟨u, hu, r⟩ := q; exact ⟨u, var hu, r⟩
    | own a ds =>
      obtain ⟨va, hF, hb, vs, n, ho, hl⟩ := q
      refine ⟨var va, hF, hb, vs, n, k1 a _ ho (fun hb => ?_), hl⟩
      obtain ⟨m, y⟩ := (hS a hb).2.2
      obtain ⟨es, n', hd'⟩ := ns_data y ho
      cases hd'
  · obtain ⟨m, hm⟩ := i.frm.ns
    exact ⟨m, k2.ns hm⟩
  · obtain ⟨c, v, h1, h2⟩ := i.frm.cell y hy
    exact ⟨c, v, h1, cell h2⟩

/-- an exception is on its way through the frame env -/
structure Rsd (G : Gx) (env : Env) (s : Shared) (F : Fz) (s' : Shared) (e : Addr) (X : String) : Prop where
  at' : ∃ s1 F1 h' B a0 L1, Ex G nowhere s F s1 F1 ∧ s' = { s1 with heap := h' } ∧ Heap.FlyingW B [env] e (.type X) a0 h' ∧ (∀ b o, s1.heap.get? b = some o → ¬ (b = env.locals ∨ b = L1) → B.get? b = some o) ∧ s1.heap.UpToSlots h' ∧ s.heap.objs.size ≤ L1 ∧ G.h₁.objs.size ≤ L1 ∧ (∃ m, s1.heap.Ns L1 m) ∧ F1 L1 = none ∧ s1.heap.objs.size ≤ h'.objs.size

/-- a call of a plain def, walked from its body; the frame is known -/
theorem call_bodyF {a : Addr} {o : Obj} {fd : FuncData} {ps : List Str} {body : List Stmt} {sc : Scope} {ds : List D} {vs : List Value} {s : Shared} {F : Fz} (ok : DefOk fd ps body sc) (sk : ScOk sc ps) (hcl : fd.closure = [])
    (ho : s.heap.get? a = some o) (hd : o.data = .func fd) (hcode : s.heap.CodeRec fd.code fd.qualname) (hroom : A.depth < recursionLimit) (g : Good G s F) (r : RdL F vs ds) (hlen : ps.length = ds.length) (hnf : ∀ p ∈ sc.names, p.2 ≠ .free)
    {Q : Value → Shared → Prop} {E : Value → Shared → Prop}
    (k : ∀ L cs q cd, FrOk G (mkE sc L cs q (some a) cd (some L)) s.heap.objs.size → (∀ x c, sc.names.lookup x = some .cell → cs.lookup x = some c → s.heap.objs.size ≤ c) → ∀ s1, In G (mkE sc L cs q (some a) cd (some L)) s.heap.objs.size s1 F (ps.zip (ds.map En.v)) → Ex G nowhere s F s1 F →
      wpAny (model G.prog G.w) (A.deeper (mkE sc L cs q (some a) cd (some L))) (execs body (mkE sc L cs q (some a) cd (some L))) (fun f s' => Q (match f with | .ret v => v | _ => .none) s') (fun e s' => wpAny (model G.prog G.w) (A.deeper (mkE sc L cs q (some a) cd (some L))) (leaving (mkE sc L cs q (some a) cd (some L)) e) (fun _ s'' => E e s'') (fun e' s'' => E e' s'') s') s1) :
    wpAny (model G.prog G.w) A (call (.ref a) vs) Q E s := by
  have hlv : vs.length = ps.length := by rw [r.length, hlen]
  obtain ⟨hbody, hsc, hgl, hbu, hbind⟩ := ok
  refine wpAny_call (codeAny_call_function hroom ho hd (by rw [hsc]; exact sk.co) (by rw [hsc]; exact sk.gen) hbody hcode ?_)
  rw [hbind vs hlv, hcl, hsc, hgl, hbu]
  refine wpAny_pure (wpAny_newEnv ?_)
  have kd : ∀ x, Env.kindOf (newEnv sc s.heap.objs.size mainGlobals (cellsFrom (s.heap.objs.size + 1) sc.names [] ++ []) (fd.qualname ++ ".<locals>.") (some a) fd.code none builtinsNs) x = sc.names.lookup x := fun x => rfl
  have notCell : ∀ x, sc.names.lookup x ≠ some .cell → (x, NameKind.cell) ∉ sc.names := fun x h q => h (sk.uniq _ q)
  have en : EnvNew (newEnv sc s.heap.objs.size mainGlobals (cellsFrom (s.heap.objs.size + 1) sc.names [] ++ []) (fd.qualname ++ ".<locals>.") (some a) fd.code none builtinsNs) sc.names [] s.heap := by
    refine ⟨⟨sk.kind, rfl, rfl, sk.dbg, sk.cd⟩, rfl, rfl, sk.uniq, fun x hx => ?_, fun x hx => ?_, fun x c h => by cases h⟩
    · rw [kd] at hx; exact .inl (mem_of_lookup hx)
    · rw [kd] at hx; exact notCell x (by rw [hx]; decide)
  obtain ⟨fr, i, x0⟩ := frame_start (ρ := []) (ty := "frame") g en (fun p hp => by cases hp) List.nodup_nil
  have hown : ∀ x c, sc.names.lookup x = some .cell → (cellsFrom (s.heap.objs.size + 1) sc.names [] ++ []).lookup x = some c → s.heap.objs.size ≤ c := fun x c hx hc => by
    have ok := cellsFrom_ok sc.names (s.heap.push { cls := .type "frame", data := .dict #[] }) (s.heap.objs.size + 1) [] ⟨fun _ _ hm => (nomatch hm), List.Pairwise.nil⟩ (by rw [Heap.size_push]; exact Nat.le_refl _)
    rw [Heap.size_push] at ok
    rw [lookup_append] at hc
    cases q : (cellsFrom (s.heap.objs.size + 1) sc.names []).lookup x with
    | some c' => rw [q] at hc; cases hc; exact Nat.le_of_succ_le (ok.empty x c (mem_of_lookup q)).2
    | none => rw [q] at hc; cases hc
  have hp : PutL (newEnv sc s.heap.objs.size mainGlobals (cellsFrom (s.heap.objs.size + 1) sc.names [] ++ []) (fd.qualname ++ ".<locals>.") (some a) fd.code none builtinsNs) s.heap.objs.size ps ds [] ([] ++ ps.zip (ds.map En.v)) :=
    params_put ps ds [] hlen sk.pars (fun x _ => List.not_mem_nil) fun x hx => (sk.par x hx).imp id fun h => ⟨h, fun c hc => hown x c h hc⟩
  rw [List.nil_append] at hp
  refine store_params fr i (by rw [map_snd_zip _ _ hlv.symm]; exact r) (by rw [map_fst_zip _ _ hlv.symm]; exact hp) fun s1 x1 i1 => ?_
  have x01 : Ex G nowhere s F s1 F := x0.trans x1 fun b m => .inr (by
    rcases m with m | ⟨_, _, _, m⟩ | m
    · subst m; exact Nat.le_refl _
    · exact m
    · cases m)
  exact ⟨i1.good.nolimit, codeAny_func (k _ _ _ _ fr hown s1 i1 x01)⟩
end
end
/- B41 -/
section
section
variable {G : Gx} {A : Around} {env : Env} {N : Nat} {ρ : Ro} {P : Out → Prop}
/-- a plain def that raises a built-in class at its first statement -/
theorem call_raise {ps : List Str} {t : Expr} {x : Str} {np rp ip : Pos} {orelse rest : List Stmt} {sc : Scope} {ds : List D} {X NN I : String} {ad : Addr} {k : Nat} {o : Obj} {fd : FuncData}
    (ho : G.h₁.get? ad = some o) (hd : o.data = .func fd) (ok : DefOk fd ps (.If t [.Raise (some (.Name x np)) none rp] orelse ip :: rest) sc) (hcl : fd.closure = []) (hcode : ∀ h, Kp G.T G.h₁ h → h.CodeRec fd.code fd.qualname) (sk : ScOk sc ps) (hlen : ps.length = ds.length) (hnf : ∀ p ∈ sc.names, p.2 ≠ .free)
    (ht : ∀ A L cs q a cd N, Room A k → FrOk G (mkE sc L cs q (some a) cd (some L)) N → Tests G A (mkE sc L cs q (some a) cd (some L)) (ps.zip (ds.map En.v)) t true)
    (hx : sc.names.lookup x = some .globalImplicit) (hm : G.mg x = none ∧ G.mb x = bootBuiltins x) (hX : bootBuiltins x = some (.type X)) (hc : ExcClass X NN I) (hself : isSubtype (.type X) (.type X) = pure true)
    (hr : Room A (k + 1)) (hfr : A.frames = some [env]) (hfe : env.frame = some env.locals) (hk : env.scope.kind = .function) {s : Shared} {F : Fz} (i : In G env N s F ρ) (fr : FrOk G env N) {vs : List Value} (r : RdL F vs ds)
    {Q : Value → Shared → Prop} {E : Value → Shared → Prop} (kE : ∀ s' e, Rsd G env s F s' e X → E (.ref e) s') : wpAny (model G.prog G.w) A (call (.ref ad) vs) Q E s := by
  refine call_bodyF ok sk hcl (i.good.base.get_func ho hd) hd (hcode _ i.good.base) (by have := hr.depth; walk_at "m_om") i.good r hlen hnf fun L cs q cd fk hown s1 i1 x1 => ?_
  refine wpAny_execs_cons (wpAny_If ((ht _ L cs q ad cd _ hr.deeper fk).run s1 F i1.good i1.vars _ _ fun s2 F2 x2 => ?_))
  have i2 := i1.ex x2
  have x12 := x1.trans' x2
  have i02 := i.ex x12
  have hh : (A.deeper (mkE sc L cs q (some ad) cd (some L))).handled = none := hr.handled
  have hfr1 : (A.deeper (mkE sc L cs q (some ad) cd (some L))).frames = some [mkE sc L cs q (some ad) cd (some L), env] := Around.frames_deeper hfr
  show wpAny _ _ (execs [.Raise (some (.Name x np)) none rp] _) _ _ _
  refine wpAny_execs_cons (wpAny_with_size (n := s2.heap.objs.size) (Nat.le_refl _) (Raise_classB hh hc hself (ev_builtin fk.toEnvF x2.good hx hm.1 (hm.2.trans hX) ⟨rfl, rfl⟩) fun h' e hn hz => ?_))
  obtain ⟨ob, tp, he, hcls, hdo⟩ := hn.there
  obtain ⟨mL, hL⟩ := i2.frm.ns
  obtain ⟨mE, hE⟩ := i02.frm.ns
  have st : (hideAll s2.heap [L, env.locals]).StaysIn h' := fun b o q => hn.keeps b o (of_hideAll _ q)
  have hen : (hideAll s2.heap [L, env.locals]).get? e = none := by
    cases q : (hideAll s2.heap [L, env.locals]).get? e with
    | none => rfl
    | some o' => have := of_hideAll _ q; rw [hn.new] at this; cases this
  have nsf : ∀ {b m}, s2.heap.Ns b m → ∃ o, h'.get? b = some o ∧ ∀ vs, o.data ≠ .fields vs := fun {b m} y => by
    obtain ⟨o', es, ep, e', hd', _⟩ := y
    exact ⟨o', hn.keeps _ _ e', fun vs q => by rw [hd'] at q; cases q⟩
  have hfun : h'.FunFrames (hideAll s2.heap [L, env.locals]) [mkE sc L cs q (some ad) cd (some L), env] := by
    obtain ⟨o1, p1, p2⟩ := nsf hL
    obtain ⟨o2, q1, q2⟩ := nsf hE
    refine ⟨?_, ⟨L, o1, rfl, hideAll_none _ (.head _), p1, p2⟩, ?_, ⟨env.locals, o2, hfe, hideAll_none _ (.tail _ (.head _)), q1, q2⟩, trivial⟩
    · show sc.kind ≠ .module; rw [sk.kind]; decide
    · rw [hk]; decide
  refine wpAny_with_size (n := h'.objs.size) (Nat.le_refl _) (wpAny_leaving_firstW (base := hideAll s2.heap [L, env.locals]) (a0 := tp) hfr1 hfun rfl he st hen hdo rfl rfl fun h'' hLw hz2 => ?_)
  obtain ⟨k1, ⟨_, _, k2⟩, k3, k4⟩ := hLw
  refine kE _ e ⟨s2, F2, h'', hideAll s2.heap [L, env.locals], tp, L, x12, rfl, ⟨k1, hen, k2, by rw [← hcls]; exact k3⟩, fun b o eb nb => hideAll_get _ eb (fun hm => ?_), (Heap.UpToSlots.of_keeps hn.keeps).trans k4, fk.loc, Nat.le_trans i.good.base.size fk.loc, ⟨mL, hL⟩, i2.frm.fl, Nat.le_trans hz hz2⟩
  rcases List.mem_cons.mp hm with rfl | hm
  · exact nb (.inr rfl)
  · rw [List.mem_singleton] at hm; exact nb (.inl hm)

/-- a try whose body raises what its first clause takes -/
theorem x_try_exc {body orelse suite : List Stmt} {b₀ : Stmt} {hs : List ExceptHandler} {pos hpos np : Pos} {x : Str} {X : String}
    (hb : ∀ s F, In G env N s F ρ → ∀ (Q : Flow → Shared → Prop) (E : Value → Shared → Prop), (∀ s' e, Rsd G env s F s' e X → E (.ref e) s') → wpAny (model G.prog G.w) A (execs body env) Q E s)
    (fr : FrOk G env N) (hx : env.kindOf x = some .globalImplicit) (hm : G.mg x = none ∧ G.mb x = bootBuiltins x) (hX : bootBuiltins x = some (.type X)) (hself : isSubtype (.type X) (.type X) = pure true)
    (hexc : isSubtype (.type X) (.type "BaseException") = pure true) (hnt : isSubtype (.type ((Manifest.find? X).elim "type" fun y => y.metatype)) (.type "tuple") = pure false)
    (hfr : A.frames = some [env]) (hfe : env.frame = some env.locals) (hsuite : ∀ e, Xs G (A.mark (some (.ref e))) env N (b₀ :: suite) ρ P) :
    X1 G A env N (.Try body (.ExceptHandler (some (.Name x np)) none (b₀ :: suite) hpos :: hs) orelse [] pos) ρ P := .mk fun s F i Q E k => by
  show wpAny _ A (do standAt pos; tryStmt false (execs body env) (.ExceptHandler (some (.Name x np)) none (b₀ :: suite) hpos :: hs) (execs orelse env) [] env) Q E s
  refine wpAny_bind (wpAny_standAt (wpAny_tryStmt_except (hb s F i _ _ fun s' e rs => ?_)))
  obtain ⟨s1, F1, h3, B, a0, L1, x1, rfl, hfl, hB, hup, hL1, hL0, hLn, hFL, hz3⟩ := rs
  have i1 := i.ex x1
  have hS : ∀ b, (b = env.locals ∨ b = L1) → G.h₁.objs.size ≤ b ∧ F1 b = none ∧ ∃ m, s1.heap.Ns b m := fun b hb => by
    rcases hb with rfl | rfl
    · exact ⟨Nat.le_trans fr.base fr.loc, i1.frm.fl, i1.frm.ns⟩
    · exact ⟨hL0, hFL, hLn⟩
  refine wpAny_with_size (n := h3.objs.size) (Nat.le_refl _) (wpAny_looks_onW hfr hfe hfl fun h4 hheld hsm4 hz4 => ?_)
  refine wpAny_with_size (n := h4.objs.size) (Nat.le_refl _) (wpAny_landsW hheld fun h5 hfl5 hsm5 hz5 => ?_)
  have k5 : ∀ b o, s1.heap.get? b = some o → ¬ (b = env.locals ∨ b = L1) → h5.get? b = some o := fun b o e1 n => hfl5.1 b o (hB b o e1 n)
  have u5 := (hup.trans hsm4).trans hsm5
  have z5 : s1.heap.objs.size ≤ h5.objs.size := Nat.le_trans hz3 (Nat.le_trans hz4 hz5)
  have i5 := in_slots fr i1 hS k5 u5 z5
  refine wpAny_handleBy_builtin (X := X) (T := X) (b := true) hexc hnt hself (ev_builtin fr.toEnvF i5.good hx hm.1 (hm.2.trans hX) ⟨rfl, hfl5.there, ?_⟩)
  rw [if_pos rfl]
  refine wpAny_with_size (n := h5.objs.size) (Nat.le_refl _) (lands_againW hfl5 fun h6 hfl6 hsm6 hz6 => ?_)
  have k6 : ∀ b o, s1.heap.get? b = some o → ¬ (b = env.locals ∨ b = L1) → h6.get? b = some o := fun b o e1 n => hfl6.1 b o (hB b o e1 n)
  have z6 := Nat.le_trans z5 hz6
  have i6 := in_slots fr i1 hS k6 (u5.trans hsm6) z6
  have x6 := ex_slots i1.good hS k6 z6
  have x06 : Ex G (Mod env N ρ) s F { s1 with heap := h6 } F1 := (x1.weaken fun _ f => f.elim).trans x6 fun a ha => by
    rcases ha with rfl | rfl
    · exact .inl (.inl rfl)
    · exact .inr hL1
  exact (hsuite e).run _ F1 i6 _ _ fun o fl s' F' p w x ok => k o fl s' F' p (w.trans (fun a ha => .inl ha) x06.size) (x06.trans' x) ok
/-- an assignment whose call raises -/
theorem assign_raise {f y : Str} {py p cpos pos : Pos} {e : Expr} {es : List Expr} {ds : List D} {X : String} {ad : Addr} {o : Obj} {fd : FuncData} (fr : FrOk G env N) (hx : env.kindOf f = some .globalImplicit) (hm : G.mg f = some (.ref ad)) (ho : G.h₁.get? ad = some o) (hd : o.data = .func fd) (hl : EvalsL G A env ρ (e :: es) ds)
    (hc : ∀ s F, In G env N s F ρ → ∀ vs, RdL F vs ds → ∀ (Q : Value → Shared → Prop) (E : Value → Shared → Prop), (∀ s' e, Rsd G env s F s' e X → E (.ref e) s') → wpAny (model G.prog G.w) A (call (.ref ad) vs) Q E s)
    (hs : NoStar cpos (e :: es) env) (hw : swapsWith (.Call (.Name f p) (e :: es) [] cpos) (some (.Name y py)) pos.line env = pure false) :
    ∀ s F, In G env N s F ρ → ∀ (Q : Flow → Shared → Prop) (E : Value → Shared → Prop), (∀ s' e, Rsd G env s F s' e X → E (.ref e) s') → wpAny (model G.prog G.w) A (execs [.Assign [.Name y py] (.Call (.Name f p) (e :: es) [] cpos) pos] env) Q E s := fun s F i Q E k => by
  refine wpAny_execs_cons (wpAny_Assign_Name ?_ hw)
  show wpAny _ _ (eval (.Name f p) env >>= fun fv => callWith cpos fv [] (backTo cpos (starEach (e :: es) env)) (backToKw cpos (keywordEach [] env))) _ _ _
  refine wpAny_bind (ev_global fr.toEnvF i.good hx hm ?_)
  refine callWith_function (o := o) (fd := fd) (evalArgs_ hl hs i.good i.vars fun vs s1 F1 x1 r1 => ⟨⟨x1.good.base.get_func ho hd, hd⟩, ?_⟩)
  refine hc s1 F1 (i.ex x1) vs r1 _ _ fun s' e rs => k s' e ?_
  obtain ⟨s2, F2, h', B, a0, L1, y1, y2, y3, y4, y5, y6, y7⟩ := rs
  exact ⟨s2, F2, h', B, a0, L1, x1.trans' y1, y2, y3, y4, y5, Nat.le_trans x1.size y6, y7⟩
end
end
/- B42 -/
section
/-- the call of the law: one argument, a plain local -/
theorem call_top2 {G : Gx} {A : Around} {a : Addr} {o : Obj} {fd : FuncData} {x : Str} {body : List Stmt} {sc : Scope} {d dd : D} {v : Value} {s : Shared} {F : Fz} {k : Nat} (ok : DefOk fd [x] body sc) (sk : ScOk sc [x]) (hcl : fd.closure = []) (ho : s.heap.get? a = some o) (hd : o.data = .func fd) (hcode : s.heap.CodeRec fd.code fd.qualname)
    (hr : Room A (k + 1)) (hA : A.frames = some []) (g : Good G s F) (r : Rd F v d) (hloc : sc.names.lookup x = some .local) (hnf : ∀ p ∈ sc.names, p.2 ≠ .free)
    (h : ∀ A L cs q a cd N, Room A k → A.frames = some [mkE sc L cs q a cd (some L)] → FrOk G.on (mkE sc L cs q a cd (some L)) N → (∀ x c, sc.names.lookup x = some .cell → cs.lookup x = some c → N ≤ c) → Xs G.on A (mkE sc L cs q a cd (some L)) N body [(x, En.v d)] (RetIs dd)) {Q : Value → Shared → Prop} {E : Value → Shared → Prop}
    (kk : ∀ v s' F', Good G.on s' F' → Rd F' v dd → Q v s') : wpAny (model G.prog G.w) A (call (.ref a) [v]) Q E s := by
  obtain ⟨hbody, hsc, hgl, hbu, hbind⟩ := ok
  refine wpAny_call (codeAny_call_function (by have := hr.depth; walk_at "m_om") ho hd (by rw [hsc]; exact sk.co) (by rw [hsc]; exact sk.gen) hbody hcode ?_)
  rw [hbind [v] rfl, hcl, hsc, hgl, hbu]
  refine wpAny_pure (wpAny_newEnv ?_)
  have kd : ∀ x, Env.kindOf (newEnv sc s.heap.objs.size mainGlobals (cellsFrom (s.heap.objs.size + 1) sc.names [] ++ []) (fd.qualname ++ ".<locals>.") (some a) fd.code none builtinsNs) x = sc.names.lookup x := fun x => rfl
  have notCell : ∀ x, sc.names.lookup x ≠ some .cell → (x, NameKind.cell) ∉ sc.names := fun x h q => h (sk.uniq _ q)
  have en : EnvNew (newEnv sc s.heap.objs.size mainGlobals (cellsFrom (s.heap.objs.size + 1) sc.names [] ++ []) (fd.qualname ++ ".<locals>.") (some a) fd.code none builtinsNs) sc.names [] s.heap := by
    refine ⟨⟨sk.kind, rfl, rfl, sk.dbg, sk.cd⟩, rfl, rfl, sk.uniq, fun x hx => ?_, fun x hx => ?_, fun x c h => by cases h⟩
    · rw [kd] at hx; exact .inl (mem_of_lookup hx)
    · rw [kd] at hx; exact notCell x (by rw [hx]; decide)
  obtain ⟨fr, i, x0⟩ := frame_start (ρ := []) (ty := "frame") g en (fun p hp => by cases hp) List.nodup_nil
  have hown : ∀ x c, sc.names.lookup x = some .cell → (cellsFrom (s.heap.objs.size + 1) sc.names [] ++ []).lookup x = some c → s.heap.objs.size ≤ c := fun x c hx hc => by
    have ok := cellsFrom_ok sc.names (s.heap.push { cls := .type "frame", data := .dict #[] }) (s.heap.objs.size + 1) [] ⟨fun _ _ hm => (nomatch hm), List.Pairwise.nil⟩ (by rw [Heap.size_push]; exact Nat.le_refl _)
    rw [Heap.size_push] at ok
    rw [lookup_append] at hc
    cases q : (cellsFrom (s.heap.objs.size + 1) sc.names []).lookup x with
    | some c' => rw [q] at hc; cases hc; exact Nat.le_of_succ_le (ok.empty x c (mem_of_lookup q)).2
    | none => rw [q] at hc; cases hc
  show wpAny _ _ (forIn [(x, v)] PUnit.unit _) _ _ _
  rw [List.forIn_cons]
  refine wpAny_bind (wpAny_bind (storeE_tk (e := .v d) (ρ' := [(x, En.v d)]) fr i (.inl hloc) (fun _ hx _ => ⟨v, hx, r⟩) List.nodup_nil (fun a ha => by cases ha) .nil fun s1 x1 i1 htk => wpAny_pure ?_))
  show wpAny _ _ (forIn [] PUnit.unit _) _ _ _
  rw [List.forIn_nil]
  refine wpAny_pure ⟨i1.good.nolimit, ?_⟩
  have h1 : 1 ≤ s1.toks := by have := htk hloc; walk_at "m_om"
  refine codeAny_func ?_
  refine (h _ _ _ _ _ _ _ hr.deeper (Around.frames_deeper hA) fr.on hown).run s1 F (i1.on h1) _ _ fun o' fl s2 F2 hP hO x2 hok => ?_
  cases o' with
  | ret d' =>
    cases (show d' = dd from hP)
    obtain ⟨v, rfl, rv⟩ := hok
    exact kk v s2 F2 x2.good rv
  | next ρ' =>
    cases (show dd = .none from hP)
    obtain ⟨rfl, _⟩ := hok
    exact kk .none s2 F2 x2.good .none
  | brk => exact hP.elim
  | cont => exact hP.elim
end
/- L0 -/
section
theorem items_int {R : WRecords} : ∀ {xs : List WData}, WShape.hasItems R xs .int = true → ∃ ns : List Int, xs = ofPys (ns.map PyData.int)
  | [], _ => ⟨[], rfl⟩
  | x :: xs, h => by
    simp only [WShape.hasItems, Bool.and_eq_true] at h
    obtain ⟨i, rfl⟩ := hasW_int h.1
    obtain ⟨ns, rfl⟩ := items_int h.2
    exact ⟨i :: ns, rfl⟩
theorem ofPys_len : ∀ ns : List Int, (ofPys (ns.map PyData.int)).length = ns.length
  | [] => rfl
  | n :: ns => by
    show (ofPy (.int n) :: ofPys (ns.map PyData.int)).length = _
    rw [List.length_cons, ofPys_len ns]; rfl
theorem args_law {R : WRecords} {l : OpenLaw} {args : List WData} {n : Nat} (hm : l.most = some n) (hb : l.bound = none) (h : WShape.hasAll R args [.list .int] = true) (hc : WTm.holds R l.pre { args := args } = true) :
    ∃ ns : List Int, args = [ofPy (.list (ns.map PyData.int))] ∧ ns.length ≤ n := by
  obtain ⟨d, r, rfl, h1, h2⟩ := hasAllW_cons h
  have := hasAllW_nil h2
  subst this
  obtain ⟨xs, rfl, h3⟩ := hasW_list h1
  obtain ⟨ns, rfl⟩ := items_int h3
  refine ⟨ns, rfl, ?_⟩
  unfold OpenLaw.pre at hc
  rw [hm, hb] at hc
  have := (holds_andW hc).1
  simp [WTm.holds, WTm.value] at this
  rw [ofPys_len] at this
  have e : less? (WData.int (n : Int)) (WData.int (ns.length : Int)) = some (decide ((n : Int) < (ns.length : Int))) := by first | rfl | simp [less?]
  rw [e] at this
  by_cases hlt : (n : Int) < (ns.length : Int)
  · simp [hlt] at this
  · walk_at "m_om"
theorem post_law (l : OpenLaw) (args : List WData) : l.row.claim.post args (.bool true) args = true := by
  exact postW_of (r := l.row.toRowW) (args := args) (by wrow_shape) (by wtm_val) (by w_fin)
end
/- E0 -/

abbrev Pg : Program := PySem.Challenge.pw_ul0015_02
def bodyOf (n : Str) : List Stmt := match Pg.theDef n with | some (_, b, _) => b | none => []
def scopeOf (n : Str) : Scope := match Pg.theDef n with | some (_, _, s) => s | none => default

theorem x_try {G : Gx} {A : Around} {env : Env} {N : Nat} {ρ : Ro} {P : Out → Prop} {body orelse : List Stmt} {h₀ : ExceptHandler} {hs : List ExceptHandler} {pos : Pos} (hb : Xs G A env N body ρ (Then G A env N orelse P)) : X1 G A env N (.Try body (h₀ :: hs) orelse [] pos) ρ P := .mk fun s F i Q E k => by
  show wpAny _ A (do standAt pos; tryStmt false (execs body env) (h₀ :: hs) (execs orelse env) [] env) Q E s
  refine wpAny_bind (wpAny_standAt (wpAny_tryStmt_except (hb.run s F i _ _ fun o fl s1 F1 p w x ok => ?_)))
  cases o with
  | next ρ' =>
    obtain ⟨rfl, i1⟩ := ok
    refine p.run s1 F1 i1 Q E fun o' fl' s2 F2 p' w' x' ok' => k o' fl' s2 F2 p' (w'.trans w x.size) (x.trans x' (mod_sub w)) ok'
  | brk ρ' => obtain ⟨rfl, i1⟩ := ok; exact k (.brk ρ') _ s1 F1 p w x ⟨rfl, i1⟩
  | cont ρ' => obtain ⟨rfl, i1⟩ := ok; exact k (.cont ρ') _ s1 F1 p w x ⟨rfl, i1⟩
  | ret d => obtain ⟨v, rfl, r⟩ := ok; exact k (.ret d) _ s1 F1 p w x ⟨v, rfl, r⟩
theorem xs_try {G : Gx} {A : Around} {env : Env} {N : Nat} {ρ : Ro} {P : Out → Prop} {body orelse rest : List Stmt} {h₀ : ExceptHandler} {hs : List ExceptHandler} {pos : Pos} (hb : Xs G A env N body ρ (Then G A env N orelse (Then G A env N rest P))) : Xs G A env N (.Try body (h₀ :: hs) orelse [] pos :: rest) ρ P := xs_cons (x_try hb)

/-- one line of an escape -/
theorem xs_esc {G : Gx} {A : Around} {env : Env} {N : Nat} {P : Out → Prop} (m zl c : Nat) {x y z v : Str} {k0 k1 k2 : Nat} {p0 p1 p2 p3 p4 p5 p6 p7 q0 q1 pos : Pos} {rest : List Stmt} (hG : 1 ≤ G.tk) (fr : FrOk G env N) (hk : Holds env N x) (hy : y = ⟨#[c]⟩) (hz : z.length = zl) (hyz : (y == z) = false) (hm : v.length ≤ m) (hb : m + (m + 1) * zl ≤ 16777216) (h1 : 1 ≤ zl)
    (hs : swapsWith (.Call (.Attribute (.Name x p3) "replace" p4) [.Constant (.str y) k1 p5, .Constant (.str z) k2 p6] [] p7) (some (.Name x p2)) pos.line env = pure false) (hbase : attributeBase (.Name x p3) "replace" env (eval (.Name x p3) env) = eval (.Name x p3) env) (hline : (p4.endLine == p7.line) = true)
    (h : (esc1 y z v).length ≤ m * zl → Xs G A env N rest [(x, .v (.str (esc1 y z v)))] P) :
    Xs G A env N (.If (.Compare (.Constant (.str y) k0 p0) [.In] [.Name x p1] q0) [.Assign [.Name x p2] (.Call (.Attribute (.Name x p3) "replace" p4) [.Constant (.str y) k1 p5, .Constant (.str z) k2 p6] [] p7) pos] [] q1 :: rest) [(x, .v (.str v))] P := by
  have hle : (esc1 y z v).length ≤ m * zl := by
    subst hy
    exact Nat.le_trans (esc1_le v z c (by walk_at "m_om")) (by rw [hz]; exact Nat.mul_le_mul_right _ hm)
  have h := h hle
  have hb' : v.length + (v.length + 1) * z.length ≤ 16777216 := by
    rw [hz]
    have := Nat.mul_le_mul_right zl (Nat.succ_le_succ hm)
    have e1 : v.length.succ = v.length + 1 := rfl
    have e2 : m.succ = m + 1 := rfl
    rw [e1, e2] at this
    walk_at "m_om"
  refine xs_if (b := Txt.contains v y) (ts_cmp ev_str (ev_name fr.toEnvF List.mem_cons_self) c_in) (fun hb'' => ?_) fun hb'' => ?_
  · refine xs_assign fr (evM_replace hG (ev_name fr.toEnvF List.mem_cons_self) hyz hb' hbase hline) hk .head hs (xs_on ?_)
    rwa [esc1, if_pos hb''] at h
  · refine xs_on ?_
    rwa [esc1, if_neg (by rw [hb'']; decide)] at h
/-- what the claim's functions are built on -/
structure Tp (G : Gx) : Prop where
  tk : 1 ≤ G.tk
  prog : G.prog = PySem.Challenge.rw_ul0015_02.row.prog
  defs : ∀ n ps, (Pg.theDef n).isSome = true → (match Pg.theDef n with | some (a, _, _) => a.args.map (·.arg) | none => []) = ps → Def G n ps (bodyOf n) (scopeOf n)
  lim : ∃ t, G.mg "_DIV_LIMIT" = some (.int 4000 t)
  bi : ∀ x : Str, x ∈ (["len", "range", "min", "max", "sum", "reversed", "zip", "divmod", "enumerate", "ZeroDivisionError"] : List Str) → G.mg x = none ∧ G.mb x = bootBuiltins x
local macro_rules | `(tactic| walk_at "m_mem") => `(tactic| first | (with_reducible exact List.mem_cons_self) | ((with_reducible refine List.mem_cons_of_mem _ ?_); walk_at "m_mem"))
local macro_rules | `(tactic| walk_at "m_en") => `(tactic| first | (with_reducible assumption) | (with_reducible exact FrOk.toEnvF (by assumption)))
local macro_rules | `(tactic| walk_at "m_kd") => `(tactic| first | ((with_reducible refine CEnv.kind (by assumption) _ _ ?_ ?_); kernel_rfl!; decide) | kernel_rfl!)
local macro_rules | `(tactic| walk_at "m_kdf") => `(tactic| first | ((with_reducible refine CEnv.free (by assumption) _ ?_); kernel_rfl!) | ((with_reducible refine Or.inl (CEnv.kind (by assumption) _ _ ?_ ?_)); kernel_rfl!; decide) | (refine Or.inl ?_; kernel_rfl!) | (refine Or.inr ?_; kernel_rfl!))
local macro_rules | `(tactic| walk_at "m_hold") => `(tactic| first | (refine holds_local ?_; walk_at "m_kd") | ((with_reducible refine holds_ccell (by assumption) ?_); kernel_rfl!) | ((with_reducible refine holds_cell (by assumption) ?_); kernel_rfl!))
local macro_rules | `(tactic| walk_at "m_put") => `(tactic| first | (with_reducible exact Put.nil) | (with_reducible exact Put.head) | ((with_reducible apply Put.tail); decide +kernel; walk_at "m_put"))
local macro_rules | `(tactic| walk_at "m_puts") => `(tactic| first | (with_reducible exact PutL.nil) | exact PutL.cons (by walk_at "m_hold") (by walk_at "m_put") (by walk_at "m_puts"))
local macro_rules | `(tactic| walk_at "m_asg") => `(tactic| first | ((with_reducible show Asg _ _ (Expr.Name _ _) _ _ _); exact Asg.name (by walk_at "m_hold") (by walk_at "m_put")) | ((with_reducible show Asg _ _ (Expr.Tuple _ _ _) (D.tup _) _ _); refine Asg.tup (by rfl) ?_; simp only [List.map, tgt]; walk_at "m_puts"))
local macro_rules | `(tactic| walk_at "m_side") => `(tactic| first | (with_reducible assumption) | walk_at "m_om" | decide +kernel)
local macro_rules | `(tactic| walk_at "m_om") => `(tactic| first | (with_reducible first | assumption | exact Nat.zero_le _ | exact Int.natCast_nonneg _) | ((with_reducible show (_ : Nat) ≤ _); first | exact Nat.le_of_ble_eq_true rfl | exact Nat.le_trans (by assumption) (by exact Nat.le_of_ble_eq_true rfl)) | lia | omega)
local macro_rules | `(tactic| walk_at "m_np") => `(tactic| first | (with_reducible assumption) | exact PyProof.noPylong_small (by walk_at "m_om") | exact PyProof.noPylong_of_log2 (by decide +kernel))
local macro_rules | `(tactic| walk_at "m_capt") => `(tactic| first | (with_reducible exact Capt.nil) | exact Capt.nil | (apply Capt.cons; walk_at "m_mem"; walk_at "m_kdf"; walk_at "m_capt"))
local macro_rules | `(tactic| walk_at "m_scc") => `(tactic| first | exact ⟨by decide +kernel, by decide +kernel, by decide +kernel, by decide +kernel, by decide +kernel⟩)
local macro_rules | `(tactic| walk_at "m_fold") => `(tactic| first | (intro _; rfl))
local macro_rules | `(tactic| walk_at "m_sub") => `(tactic| first | (with_reducible exact List.Sublist.refl _) | (with_reducible exact List.nil_sublist _) | ((with_reducible apply List.Sublist.cons_cons); walk_at "m_sub") | ((with_reducible apply List.Sublist.cons); walk_at "m_sub"))
local macro_rules | `(tactic| walk_at "m_all") => `(tactic| first | exact fun p hp => absurd hp List.not_mem_nil | (refine List.forall_mem_cons.mpr ⟨?_, ?_⟩; walk_at "m_mem"; walk_at "m_all"))
local macro_rules | `(tactic| walk_at "m_nin") => `(tactic| first | (simp only [List.map]; decide +kernel))
local macro_rules | `(tactic| walk_at "m_rf") => `(tactic| first | (with_unfolding_all rfl))
local macro_rules | `(tactic| walk_at "m_op") => `(tactic| first | (with_reducible first | exact o_add | exact o_sub | exact o_and | exact o_or | exact o_xor | exact i_add | exact i_sub | exact c_eq | exact c_lt | exact c_le | exact c_gt | exact c_ge | exact c_ne | exact u_neg | exact u_inv | exact c_is_bool | exact c_isnot_bool | exact c_is_none | exact c_in | exact c_notin | exact c_eq_str | exact c_ne_str) | ((with_reducible apply o_div); walk_at "m_side"; walk_at "m_np") | ((with_reducible apply o_mod); walk_at "m_side") | ((with_reducible apply o_mul); walk_at "m_side") | ((with_reducible apply i_mul); walk_at "m_side") | ((with_reducible apply o_pow); walk_at "m_side"; walk_at "m_side") | ((with_reducible apply o_shl); walk_at "m_side"; walk_at "m_side") | ((with_reducible apply o_shr); walk_at "m_side") | ((with_reducible apply i_shl); walk_at "m_side"; walk_at "m_side") | ((with_reducible apply i_shr); walk_at "m_side") | ((with_reducible apply o_cat); walk_at "m_side") | ((with_reducible apply i_cat); walk_at "m_side") | ((with_reducible apply o_rep); walk_at "m_side") | ((with_reducible apply o_addl); walk_at "m_side") | ((with_reducible apply o_repl); walk_at "m_side"; walk_at "m_side"; walk_at "m_side") | (with_reducible assumption))
local macro_rules | `(tactic| walk_at "m_evs") => `(tactic| first | (with_reducible exact evl_nil) | ((with_reducible apply evl_cons); walk_at "m_ev"; walk_at "m_evs"))
local macro_rules | `(tactic| walk_at "m_room") => `(tactic| first | (with_reducible exact Room.le (by assumption) (Nat.zero_le _)) | (with_reducible exact Room.le (by assumption) (Nat.le_refl _)) | exact Room.le (by assumption) (by exact Nat.le_of_ble_eq_true rfl) | exact Room.le (by assumption) (by walk_at "m_om"))
local macro_rules | `(tactic| walk_at "m_tpbi") => `(tactic| first | exact Tp.bi (by assumption) _ (by decide +kernel))
local macro_rules | `(tactic| walk_at "m_bi") => `(tactic| first | (with_reducible assumption) | ((with_reducible apply b_len_list); walk_at "m_side") | ((with_reducible apply b_len_str); walk_at "m_side") | ((with_reducible apply b_max2); walk_at "m_room") | ((with_reducible apply b_min2); walk_at "m_room") | ((with_reducible apply b_sum); walk_at "m_room"))
local macro_rules | `(tactic| walk_at "m_item") => `(tactic| first | (with_reducible assumption) | exact ItemD.lst rfl (by walk_at "m_om") | exact ItemD.tup rfl (by walk_at "m_om") | exact ItemD.str (by with_unfolding_all rfl) (by walk_at "m_om"))
local macro_rules | `(tactic| walk_at "m_ev") => `(tactic| first | (with_reducible first | assumption | exact ev_int | exact ev_str | exact ev_none | exact ev_bool) | ((with_reducible apply ev_name); walk_at "m_en"; walk_at "m_mem") | ((with_reducible apply ev_glob); walk_at "m_en"; walk_at "m_kd"; assumption) | ((with_reducible apply ev_bin); walk_at "m_ev"; walk_at "m_ev"; walk_at "m_op") | ((with_reducible apply ev_un); walk_at "m_ev"; walk_at "m_op") | ((with_reducible apply ev_cmp); walk_at "m_ev"; walk_at "m_ev"; walk_at "m_op"; walk_at "m_rf") | ((with_reducible apply ev_call'); walk_at "m_en"; walk_at "m_kd"; walk_at "m_evs"; with_reducible assumption; walk_at "m_room"; walk_at "m_rf") | ((with_reducible apply ev_bi'); walk_at "m_en"; walk_at "m_kd"; walk_at "m_tpbi"; walk_at "m_evs"; walk_at "m_bi"; walk_at "m_rf") | ((with_reducible apply evM_bits); walk_at "m_ev"; walk_at "m_rf"; walk_at "m_rf") | ((with_reducible apply evM_count); walk_at "m_ev"; walk_at "m_ev"; walk_at "m_rf"; walk_at "m_rf"; walk_at "m_rf") | ((with_reducible apply evM_join); walk_at "m_ev"; walk_at "m_ev"; walk_at "m_side"; walk_at "m_rf"; walk_at "m_rf"; walk_at "m_rf") | ((with_reducible apply ev_tuple); walk_at "m_evs"; exact Nat.le_of_ble_eq_true rfl; walk_at "m_rf") | ((with_reducible apply ev_list); walk_at "m_evs"; exact Nat.le_of_ble_eq_true rfl; walk_at "m_rf") | ((with_reducible apply ev_list_from); walk_at "m_ev"; walk_at "m_ev"; walk_at "m_side"; walk_at "m_side") | ((with_reducible apply ev_list_upto); walk_at "m_ev"; walk_at "m_ev"; walk_at "m_side"; walk_at "m_side") | ((with_reducible apply ev_item); walk_at "m_ev"; walk_at "m_ev"; walk_at "m_item"; (intro _ _; walk_at "m_rf")) | ((with_reducible apply ev_if); walk_at "m_ts"; (intro _; walk_at "m_ev"); (intro _; walk_at "m_ev")))
local macro_rules | `(tactic| walk_at "m_ts") => `(tactic| first | ((with_reducible apply ts_and); walk_at "m_ts"; (intro _; walk_at "m_ts")) | ((with_reducible apply ts_or); walk_at "m_ts"; (intro _; walk_at "m_ts")) | ((with_reducible apply ts_cmp); walk_at "m_ev"; walk_at "m_ev"; walk_at "m_op"; walk_at "m_rf") | ((with_reducible apply ts_int); walk_at "m_ev"; walk_at "m_rf") | ((with_reducible apply ts_bool); walk_at "m_ev"; walk_at "m_rf"))
/- E1 -/
def escAV (x : Str) : Str := esc1 ">" "&gt;" (esc1 "<" "&lt;" (esc1 "&" "&amp;" (x)))
theorem sc_escA : ScOk (scopeOf "_escape_cdata") ["text"] := ⟨by decide +kernel, by decide +kernel, by decide +kernel, by decide +kernel, by decide +kernel, by decide +kernel, by decide +kernel, by decide +kernel⟩
theorem fn_escA {G : Gx} (hT : Tp G) (x : Str) (hx : x.length ≤ 200) {k : Nat} : Fn G (k + 1) "_escape_cdata" [.str x] (.str (escAV x)) := by
  refine fn_of (hT.defs "_escape_cdata" ["text"] (by decide +kernel) (by decide +kernel)) sc_escA rfl (by decide +kernel) fun A L cs q a fr cd N hr hf hown => ?_
  generalize hsc : scopeOf (Str.ofString "_escape_cdata") = sc at *
  conv at hsc => lhs; whnf
  subst hsc
  conv => arg 5; whnf
  refine xs_try ?_
  refine xs_esc 200 5 38 hT.tk hf (by walk_at "m_hold") (by decide +kernel) (by decide +kernel) (by decide +kernel) (by assumption) (by decide) (by decide) (by with_unfolding_all rfl) (by with_unfolding_all rfl) (by decide) (fun h => ?_)
  refine xs_esc 1000 4 60 hT.tk hf (by walk_at "m_hold") (by decide +kernel) (by decide +kernel) (by decide +kernel) (by assumption) (by decide) (by decide) (by with_unfolding_all rfl) (by with_unfolding_all rfl) (by decide) (fun h => ?_)
  refine xs_esc 4000 4 62 hT.tk hf (by walk_at "m_hold") (by decide +kernel) (by decide +kernel) (by decide +kernel) (by assumption) (by decide) (by decide) (by with_unfolding_all rfl) (by with_unfolding_all rfl) (by decide) (fun h => ?_)
  refine xs_return (by walk_at "m_ev") ?_
  rfl
def escCV (x : Str) : Str := esc1 "\t" "&#09;" (esc1 "\n" "&#10;" (esc1 "\r" "&#13;" (esc1 "\"" "&quot;" (esc1 ">" "&gt;" (esc1 "<" "&lt;" (esc1 "&" "&amp;" (x)))))))
theorem sc_escC : ScOk (scopeOf "_escape_attrib") ["text"] := ⟨by decide +kernel, by decide +kernel, by decide +kernel, by decide +kernel, by decide +kernel, by decide +kernel, by decide +kernel, by decide +kernel⟩
theorem fn_escC {G : Gx} (hT : Tp G) (x : Str) (hx : x.length ≤ 200) {k : Nat} : Fn G (k + 1) "_escape_attrib" [.str x] (.str (escCV x)) := by
  refine fn_of (hT.defs "_escape_attrib" ["text"] (by decide +kernel) (by decide +kernel)) sc_escC rfl (by decide +kernel) fun A L cs q a fr cd N hr hf hown => ?_
  generalize hsc : scopeOf (Str.ofString "_escape_attrib") = sc at *
  conv at hsc => lhs; whnf
  subst hsc
  conv => arg 5; whnf
  refine xs_try ?_
  refine xs_esc 200 5 38 hT.tk hf (by walk_at "m_hold") (by decide +kernel) (by decide +kernel) (by decide +kernel) (by assumption) (by decide) (by decide) (by with_unfolding_all rfl) (by with_unfolding_all rfl) (by decide) (fun h => ?_)
  refine xs_esc 1000 4 60 hT.tk hf (by walk_at "m_hold") (by decide +kernel) (by decide +kernel) (by decide +kernel) (by assumption) (by decide) (by decide) (by with_unfolding_all rfl) (by with_unfolding_all rfl) (by decide) (fun h => ?_)
  refine xs_esc 4000 4 62 hT.tk hf (by walk_at "m_hold") (by decide +kernel) (by decide +kernel) (by decide +kernel) (by assumption) (by decide) (by decide) (by with_unfolding_all rfl) (by with_unfolding_all rfl) (by decide) (fun h => ?_)
  refine xs_esc 16000 6 34 hT.tk hf (by walk_at "m_hold") (by decide +kernel) (by decide +kernel) (by decide +kernel) (by assumption) (by decide) (by decide) (by with_unfolding_all rfl) (by with_unfolding_all rfl) (by decide) (fun h => ?_)
  refine xs_esc 96000 5 13 hT.tk hf (by walk_at "m_hold") (by decide +kernel) (by decide +kernel) (by decide +kernel) (by assumption) (by decide) (by decide) (by with_unfolding_all rfl) (by with_unfolding_all rfl) (by decide) (fun h => ?_)
  refine xs_esc 480000 5 10 hT.tk hf (by walk_at "m_hold") (by decide +kernel) (by decide +kernel) (by decide +kernel) (by assumption) (by decide) (by decide) (by with_unfolding_all rfl) (by with_unfolding_all rfl) (by decide) (fun h => ?_)
  refine xs_esc 2400000 5 9 hT.tk hf (by walk_at "m_hold") (by decide +kernel) (by decide +kernel) (by decide +kernel) (by assumption) (by decide) (by decide) (by with_unfolding_all rfl) (by with_unfolding_all rfl) (by decide) (fun h => ?_)
  refine xs_return (by walk_at "m_ev") ?_
  rfl
def escDV (x : Str) : Str := esc1 "\"" "&quot;" (esc1 ">" "&gt;" (esc1 "&" "&amp;" (x)))
theorem sc_escD : ScOk (scopeOf "_escape_attrib_html") ["text"] := ⟨by decide +kernel, by decide +kernel, by decide +kernel, by decide +kernel, by decide +kernel, by decide +kernel, by decide +kernel, by decide +kernel⟩
theorem fn_escD {G : Gx} (hT : Tp G) (x : Str) (hx : x.length ≤ 200) {k : Nat} : Fn G (k + 1) "_escape_attrib_html" [.str x] (.str (escDV x)) := by
  refine fn_of (hT.defs "_escape_attrib_html" ["text"] (by decide +kernel) (by decide +kernel)) sc_escD rfl (by decide +kernel) fun A L cs q a fr cd N hr hf hown => ?_
  generalize hsc : scopeOf (Str.ofString "_escape_attrib_html") = sc at *
  conv at hsc => lhs; whnf
  subst hsc
  conv => arg 5; whnf
  refine xs_try ?_
  refine xs_esc 200 5 38 hT.tk hf (by walk_at "m_hold") (by decide +kernel) (by decide +kernel) (by decide +kernel) (by assumption) (by decide) (by decide) (by with_unfolding_all rfl) (by with_unfolding_all rfl) (by decide) (fun h => ?_)
  refine xs_esc 1000 4 62 hT.tk hf (by walk_at "m_hold") (by decide +kernel) (by decide +kernel) (by decide +kernel) (by assumption) (by decide) (by decide) (by with_unfolding_all rfl) (by with_unfolding_all rfl) (by decide) (fun h => ?_)
  refine xs_esc 4000 6 34 hT.tk hf (by walk_at "m_hold") (by decide +kernel) (by decide +kernel) (by decide +kernel) (by assumption) (by decide) (by decide) (by with_unfolding_all rfl) (by with_unfolding_all rfl) (by decide) (fun h => ?_)
  refine xs_return (by walk_at "m_ev") ?_
  rfl
def escBV (x : Str) : Str := esc1 "\r" "&#xD;" (esc1 ">" "&gt;" (esc1 "<" "&lt;" (esc1 "&" "&amp;" (x))))
theorem sc_escB : ScOk (scopeOf "_escape_cdata_c14n") ["text"] := ⟨by decide +kernel, by decide +kernel, by decide +kernel, by decide +kernel, by decide +kernel, by decide +kernel, by decide +kernel, by decide +kernel⟩
theorem fn_escB {G : Gx} (hT : Tp G) (x : Str) (hx : x.length ≤ 200) {k : Nat} : Fn G (k + 1) "_escape_cdata_c14n" [.str x] (.str (escBV x)) := by
  refine fn_of (hT.defs "_escape_cdata_c14n" ["text"] (by decide +kernel) (by decide +kernel)) sc_escB rfl (by decide +kernel) fun A L cs q a fr cd N hr hf hown => ?_
  generalize hsc : scopeOf (Str.ofString "_escape_cdata_c14n") = sc at *
  conv at hsc => lhs; whnf
  subst hsc
  conv => arg 5; whnf
  refine xs_try ?_
  refine xs_esc 200 5 38 hT.tk hf (by walk_at "m_hold") (by decide +kernel) (by decide +kernel) (by decide +kernel) (by assumption) (by decide) (by decide) (by with_unfolding_all rfl) (by with_unfolding_all rfl) (by decide) (fun h => ?_)
  refine xs_esc 1000 4 60 hT.tk hf (by walk_at "m_hold") (by decide +kernel) (by decide +kernel) (by decide +kernel) (by assumption) (by decide) (by decide) (by with_unfolding_all rfl) (by with_unfolding_all rfl) (by decide) (fun h => ?_)
  refine xs_esc 4000 4 62 hT.tk hf (by walk_at "m_hold") (by decide +kernel) (by decide +kernel) (by decide +kernel) (by assumption) (by decide) (by decide) (by with_unfolding_all rfl) (by with_unfolding_all rfl) (by decide) (fun h => ?_)
  refine xs_esc 16000 5 13 hT.tk hf (by walk_at "m_hold") (by decide +kernel) (by decide +kernel) (by decide +kernel) (by assumption) (by decide) (by decide) (by with_unfolding_all rfl) (by with_unfolding_all rfl) (by decide) (fun h => ?_)
  refine xs_return (by walk_at "m_ev") ?_
  rfl
def escEV (x : Str) : Str := esc1 "\r" "&#xD;" (esc1 "\n" "&#xA;" (esc1 "\t" "&#x9;" (esc1 "\"" "&quot;" (esc1 "<" "&lt;" (esc1 "&" "&amp;" (x))))))
theorem sc_escE : ScOk (scopeOf "_escape_attrib_c14n") ["text"] := ⟨by decide +kernel, by decide +kernel, by decide +kernel, by decide +kernel, by decide +kernel, by decide +kernel, by decide +kernel, by decide +kernel⟩
theorem fn_escE {G : Gx} (hT : Tp G) (x : Str) (hx : x.length ≤ 200) {k : Nat} : Fn G (k + 1) "_escape_attrib_c14n" [.str x] (.str (escEV x)) := by
  refine fn_of (hT.defs "_escape_attrib_c14n" ["text"] (by decide +kernel) (by decide +kernel)) sc_escE rfl (by decide +kernel) fun A L cs q a fr cd N hr hf hown => ?_
  generalize hsc : scopeOf (Str.ofString "_escape_attrib_c14n") = sc at *
  conv at hsc => lhs; whnf
  subst hsc
  conv => arg 5; whnf
  refine xs_try ?_
  refine xs_esc 200 5 38 hT.tk hf (by walk_at "m_hold") (by decide +kernel) (by decide +kernel) (by decide +kernel) (by assumption) (by decide) (by decide) (by with_unfolding_all rfl) (by with_unfolding_all rfl) (by decide) (fun h => ?_)
  refine xs_esc 1000 4 60 hT.tk hf (by walk_at "m_hold") (by decide +kernel) (by decide +kernel) (by decide +kernel) (by assumption) (by decide) (by decide) (by with_unfolding_all rfl) (by with_unfolding_all rfl) (by decide) (fun h => ?_)
  refine xs_esc 4000 6 34 hT.tk hf (by walk_at "m_hold") (by decide +kernel) (by decide +kernel) (by decide +kernel) (by assumption) (by decide) (by decide) (by with_unfolding_all rfl) (by with_unfolding_all rfl) (by decide) (fun h => ?_)
  refine xs_esc 24000 5 9 hT.tk hf (by walk_at "m_hold") (by decide +kernel) (by decide +kernel) (by decide +kernel) (by assumption) (by decide) (by decide) (by with_unfolding_all rfl) (by with_unfolding_all rfl) (by decide) (fun h => ?_)
  refine xs_esc 120000 5 10 hT.tk hf (by walk_at "m_hold") (by decide +kernel) (by decide +kernel) (by decide +kernel) (by assumption) (by decide) (by decide) (by with_unfolding_all rfl) (by with_unfolding_all rfl) (by decide) (fun h => ?_)
  refine xs_esc 600000 5 13 hT.tk hf (by walk_at "m_hold") (by decide +kernel) (by decide +kernel) (by decide +kernel) (by assumption) (by decide) (by decide) (by with_unfolding_all rfl) (by with_unfolding_all rfl) (by decide) (fun h => ?_)
  refine xs_return (by walk_at "m_ev") ?_
  rfl
/- E2 -/
theorem sc_law_write : ScOk (scopeOf "_law_write") ["hand", "line"] := ⟨by decide +kernel, by decide +kernel, by decide +kernel, by decide +kernel, by decide +kernel, by decide +kernel, by decide +kernel, by decide +kernel⟩
def esc (h : Int) (x : Str) : Str := if h == 0 then escAV x else if h == 1 then escBV x else if h == 2 then escCV x else if h == 3 then escDV x else escEV x
theorem fn_law_write {G : Gx} (hT : Tp G) (hand : Int) (x : Str) (hx : x.length ≤ 200) {k : Nat} : Fn G (k + 2) "_law_write" [.int hand, .str x] (.str (esc hand x)) := by
  have c1 : Fn G 1 "_escape_cdata" [.str x] (.str (escAV x)) := fn_escA hT x hx
  have c2 : Fn G 1 "_escape_cdata_c14n" [.str x] (.str (escBV x)) := fn_escB hT x hx
  have c3 : Fn G 1 "_escape_attrib" [.str x] (.str (escCV x)) := fn_escC hT x hx
  have c4 : Fn G 1 "_escape_attrib_html" [.str x] (.str (escDV x)) := fn_escD hT x hx
  have c5 : Fn G 1 "_escape_attrib_c14n" [.str x] (.str (escEV x)) := fn_escE hT x hx
  refine fn_of (hT.defs "_law_write" ["hand", "line"] (by decide +kernel) (by decide +kernel)) sc_law_write rfl (by decide +kernel) fun A L cs q a fr cd N hr hf hown => ?_
  generalize hsc : scopeOf (Str.ofString "_law_write") = sc at *
  conv at hsc => lhs; whnf
  subst hsc
  have hown2 : OwnC _ _ _ := ⟨hown⟩
  conv => arg 5; whnf
  show Xs _ _ _ _ _ [("hand", En.v _), ("line", En.v _)] _
  refine xs_if (by walk_at "m_ts") (fun hb => xs_return (by walk_at "m_ev") ?_) fun hb => xs_on (xs_if (by walk_at "m_ts") (fun hb1 => xs_return (by walk_at "m_ev") ?_) fun hb1 => xs_on (xs_if (by walk_at "m_ts") (fun hb2 => xs_return (by walk_at "m_ev") ?_) fun hb2 => xs_on (xs_if (by walk_at "m_ts") (fun hb3 => xs_return (by walk_at "m_ev") ?_) fun hb3 => xs_on (xs_return (by walk_at "m_ev") ?_))))
  all_goals (show D.str _ = D.str _; simp only [esc, *, if_true, if_false, Bool.false_eq_true])
/- E5 -/
theorem spanInts_nat (a c n : Nat) : spanInts (a : Int) (c : Int) n = (List.range n).map fun i => D.int ((a + i * c : Nat) : Int) := by
  unfold spanInts
  refine List.map_congr_left fun i _ => ?_
  push_cast; rfl
theorem spanInts_from (n : Nat) : spanInts 1 1 n = (List.range' 1 n).map fun (k : Nat) => D.int (k : Int) := by
  unfold spanInts
  rw [List.range'_eq_map_range, List.map_map]
  refine List.map_congr_left fun i _ => ?_
  show D.int _ = D.int _
  congr 1
  push_cast; walk_at "m_om"
theorem small_bits {k : Int} (h1 : -1000000 < k) (h2 : k < 1000000) : Builtin.Int.intBits k ≤ 64 := PySem.intBits_le_64 (by walk_at "m_om") (by walk_at "m_om")
/- E6 -/
theorem sc_div2n1n : ScOk (scopeOf "_div2n1n") ["a", "b", "n"] := ⟨by decide +kernel, by decide +kernel, by decide +kernel, by decide +kernel, by decide +kernel, by decide +kernel, by decide +kernel, by decide +kernel⟩
theorem sc_div3n2n : ScOk (scopeOf "_div3n2n") ["a12", "a3", "b", "b1", "b2", "n"] := ⟨by decide +kernel, by decide +kernel, by decide +kernel, by decide +kernel, by decide +kernel, by decide +kernel, by decide +kernel, by decide +kernel⟩
abbrev pairD (q r : Nat) : D := .tup [.int (q : Int), .int (r : Int)]
theorem fn_d2_base {G : Gx} (hT : Tp G) (a b n : Nat) (hb : 0 < b) (hbn : b < 2 ^ n) (ha : a < b * 2 ^ n) (hn : n ≤ 4000) {k : Nat} : Fn G (k + 2) "_div2n1n" [.int (a : Int), .int (b : Int), .int (n : Int)] (pairD (a / b) (a % b)) := by
  refine fn_of (hT.defs "_div2n1n" ["a", "b", "n"] (by decide +kernel) (by decide +kernel)) sc_div2n1n rfl (by decide +kernel) fun A L' cs' q' a' fr' cd' N hr hf hown => ?_
  generalize hsc : scopeOf (Str.ofString "_div2n1n") = sc at *
  conv at hsc => lhs; whnf
  subst hsc
  have hown2 : OwnC _ _ _ := ⟨hown⟩
  conv => arg 5; whnf
  show Xs _ _ _ _ _ [("a", En.v _), ("b", En.v _), ("n", En.v _)] _
  have hlim := hT.lim
  have h2 : a < 2 ^ (n + n) := by rw [Nat.pow_add]; exact Nat.lt_trans ha (Nat.mul_lt_mul_of_pos_right hbn (Nat.pow_pos (by decide)))
  have hbits := bits_of_lt h2
  have hdm : Bi G A "divmod" [.int (a : Int), .int (b : Int)] (pairD (a / b) (a % b)) := b_divmodN hb hbn (by walk_at "m_om")
  refine xs_if (by walk_at "m_ts") (fun hb' => xs_return (by walk_at "m_ev") rfl) fun hb' => ?_
  rw [decide_eq_false_iff_not] at hb'
  exact absurd (by walk_at "m_om") hb'
theorem d3_else {a12 b1 b2 b n a3 A : Nat} (hb : b = b1 * 2 ^ n + b2) (hb1 : 0 < b1) (hA : A = a12 * 2 ^ n + a3) (ha3 : a3 < 2 ^ n) : A < (a12 / b1 + 1) * b := div3 hb hb1 hA ha3 (by have := Nat.div_add_mod a12 b1; have := Nat.mod_lt a12 hb1; rw [Nat.add_mul, Nat.one_mul, Nat.mul_comm]; walk_at "m_om")
/-- the loop at the end: the guess comes down to the quotient -/
theorem d3_loop {Aa b q : Nat} {r : Int} (hb : 0 < b) (hr : r = (Aa : Int) - (q : Int) * (b : Int)) (hr0 : r < 0) : 0 < q ∧ (q - 1 : Nat) = (q : Int) - 1 ∧ r + b = (Aa : Int) - ((q - 1 : Nat) : Int) * (b : Int) := by
  have hq : 0 < q := by
    rcases Nat.eq_zero_or_pos q with h | h
    · subst h; simp at hr; walk_at "m_om"
    · exact h
  have e : ((q - 1 : Nat) : Int) = (q : Int) - 1 := by walk_at "m_om"
  refine ⟨hq, e, ?_⟩
  rw [e, hr, Int.sub_mul, Int.one_mul]
  walk_at "m_om"
theorem d3_end {Aa b q : Nat} {r : Int} (hb : 0 < b) (hr : r = (Aa : Int) - (q : Int) * (b : Int)) (hr0 : 0 ≤ r) (hle : Aa < (q + 1) * b) : Aa / b = q ∧ (Aa % b : Nat) = r := by
  have h1 : q * b ≤ Aa := by have : ((q * b : Nat) : Int) = (q : Int) * b := by push_cast; rfl
                             walk_at "m_om"
  have h2 : Aa / b = q := by
    refine Nat.div_eq_of_lt_le h1 ?_
    simpa [Nat.succ_eq_add_one] using hle
  refine ⟨h2, ?_⟩
  have h3 := Nat.div_add_mod Aa b
  rw [h2, Nat.mul_comm] at h3
  have : ((q * b : Nat) : Int) = (q : Int) * b := by push_cast; rfl
  walk_at "m_om"
theorem fn_d3 {G : Gx} (hT : Tp G) (a12 a3 b b1 b2 n Aa : Nat) (hb : b = b1 * 2 ^ n + b2) (hb1 : 0 < b1) (hb1n : b1 < 2 ^ n) (hb2 : b2 < 2 ^ n) (hA : Aa = a12 * 2 ^ n + a3) (ha3 : a3 < 2 ^ n) (hlt : Aa < b * 2 ^ n) (hn : n ≤ 4000) {k : Nat} :
    Fn G (k + 3) "_div3n2n" [.int (a12 : Int), .int (a3 : Int), .int (b : Int), .int (b1 : Int), .int (b2 : Int), .int (n : Int)] (pairD (Aa / b) (Aa % b)) := by
  refine fn_of (hT.defs "_div3n2n" ["a12", "a3", "b", "b1", "b2", "n"] (by decide +kernel) (by decide +kernel)) sc_div3n2n rfl (by decide +kernel) fun A L' cs' q' a' fr' cd' N hr hf hown => ?_
  generalize hsc : scopeOf (Str.ofString "_div3n2n") = sc at *
  conv at hsc => lhs; whnf
  subst hsc
  have hown2 : OwnC _ _ _ := ⟨hown⟩
  conv => arg 5; whnf
  show Xs _ _ _ _ _ [("a12", En.v _), ("a3", En.v _), ("b", En.v _), ("b1", En.v _), ("b2", En.v _), ("n", En.v _)] _
  have hpos : 0 < b := by have := Nat.mul_pos hb1 (Nat.pow_pos (n := n) (show 0 < 2 by decide)); walk_at "m_om"
  have hbn : b < 2 ^ (n + n) := by
    rw [Nat.pow_add]
    have := Nat.mul_le_mul_right (2 ^ n) (show b1 + 1 ≤ 2 ^ n from hb1n)
    rw [Nat.add_mul, Nat.one_mul] at this; walk_at "m_om"
  have h12 : a12 < b := by
    refine Nat.lt_of_mul_lt_mul_right (a := 2 ^ n) (Nat.lt_of_le_of_lt ?_ hlt)
    walk_at "m_om"
  have h12n : a12 < 2 ^ (n + n) := Nat.lt_trans h12 hbn
  refine xs_mid (P1 := fun ρ' => ∃ q r0 : Nat, Aa < (q + 1) * b ∧ q < 2 ^ n ∧ r0 + q * b1 = a12 ∧ ∀ p ∈ ([("a12", En.v (.int (a12 : Int))), ("a3", En.v (.int (a3 : Int))), ("b", En.v (.int (b : Int))), ("b1", En.v (.int (b1 : Int))), ("b2", En.v (.int (b2 : Int))), ("n", En.v (.int (n : Int))), ("q", En.v (.int (q : Int))), ("r", En.v (.int (r0 : Int)))] : Ro), p ∈ ρ')
    (x_if (b := ((a12 / 2 ^ n : Nat) : Int) == (b1 : Int)) (ts_cmp (ev_bin (by walk_at "m_ev") (by walk_at "m_ev") o_shrN) (by walk_at "m_ev") c_eq (by with_unfolding_all rfl)) (fun hb' => ?_) fun hb' => ?_) ?_
  · have he : a12 / 2 ^ n = b1 := by rw [beq_iff_eq] at hb'; walk_at "m_om"
    have hle : b1 * 2 ^ n ≤ a12 := by rw [← he]; exact Nat.div_mul_le_self _ _
    have hp1 : 1 ≤ 2 ^ n := Nat.pow_pos (by decide)
    refine xs_swap (ds := [.int ((2 ^ n - 1 : Nat) : Int), .int ((a12 - b1 * 2 ^ n + b1 : Nat) : Int)]) (by walk_at "m_room") hf (ev_tuple (evl_cons ?_ (evl_cons ?_ evl_nil)) (Nat.le_of_ble_eq_true rfl) (by with_unfolding_all rfl)) (by with_unfolding_all rfl) (by with_unfolding_all rfl) (by walk_at "m_puts") ?_
    · refine ev_bin (ev_bin (show Evals _ _ _ _ _ (D.int 1) from (by walk_at "m_ev")) (by walk_at "m_ev") (o_shlN (x := 1) (n := n) (k := 1) (by decide) (by walk_at "m_om"))) (by walk_at "m_ev") (o_sub.cast ?_)
      congr 1; walk_at "m_om"
    · refine ev_bin (ev_bin (by walk_at "m_ev") (ev_bin (by walk_at "m_ev") (by walk_at "m_ev") (o_shlN hb1n (by walk_at "m_om"))) o_sub) (by walk_at "m_ev") (o_add.cast ?_)
      congr 1; walk_at "m_om"
    · refine xs_nil ⟨2 ^ n - 1, a12 - b1 * 2 ^ n + b1, ?_, by walk_at "m_om", ?_, ?_⟩
      · rw [Nat.sub_add_cancel hp1, Nat.mul_comm]; exact hlt
      · rw [Nat.sub_mul, Nat.one_mul, Nat.mul_comm (2 ^ n)]
        have : b1 ≤ b1 * 2 ^ n := Nat.le_mul_of_pos_right _ hp1
        walk_at "m_om"
      · walk_at "m_all"
  · have hne : a12 / 2 ^ n ≠ b1 := by intro e; rw [e] at hb'; simp at hb'
    have hlt1 : a12 / 2 ^ n < b1 := by
      have h1 : a12 / 2 ^ n ≤ b1 := by
        have : a12 < (b1 + 1) * 2 ^ n := by rw [Nat.add_mul, Nat.one_mul]; walk_at "m_om"
        have := (Nat.div_lt_iff_lt_mul (Nat.pow_pos (by decide))).mpr this
        walk_at "m_om"
      walk_at "m_om"
    have ha12 : a12 < b1 * 2 ^ n := (Nat.div_lt_iff_lt_mul (Nat.pow_pos (by decide))).mp hlt1
    have hrec : Fn G 2 "_div2n1n" [.int (a12 : Int), .int (b1 : Int), .int (n : Int)] (pairD (a12 / b1) (a12 % b1)) := fn_d2_base hT a12 b1 n hb1 hb1n ha12 hn
    refine xs_unpack (by walk_at "m_room") hf (by walk_at "m_ev") (Asg.tup rfl (by simp only [List.map, tgt]; walk_at "m_puts")) (by with_unfolding_all rfl) (by with_unfolding_all rfl) ?_
    refine xs_nil ⟨a12 / b1, a12 % b1, d3_else hb hb1 hA ha3, ?_, ?_, ?_⟩
    · exact Nat.div_lt_of_lt_mul ha12
    · rw [Nat.add_comm, Nat.mul_comm]; exact Nat.div_add_mod a12 b1
    · walk_at "m_all"
  · rintro ρ' ⟨q, r0, hA1, hq, hr0, hmem⟩
    refine xs_pick hmem (by simp only [List.map]; decide +kernel) rfl ?_
    have hr12 : r0 < 2 ^ (n + n) := by walk_at "m_om"
    have hq1 : q < 2 ^ (n + n) := Nat.lt_of_lt_of_le hq (Nat.pow_le_pow_right (by decide) (by walk_at "m_om"))
    have hb22 : b2 < 2 ^ (n + n) := Nat.lt_of_lt_of_le hb2 (Nat.pow_le_pow_right (by decide) (by walk_at "m_om"))
    refine xs_assign (d := .int ((Aa : Int) - (q : Int) * (b : Int))) hf (ev_bin (ev_bin (ev_bin (by walk_at "m_ev") (by walk_at "m_ev") (o_shlN hr12 (by walk_at "m_om"))) (by walk_at "m_ev") (o_orN ha3)) (ev_bin (by walk_at "m_ev") (by walk_at "m_ev") (o_mulN hq1 hb22 (by walk_at "m_om"))) (o_sub.cast ?_)) (by walk_at "m_hold") (by walk_at "m_put") (by with_unfolding_all rfl) ?_
    · congr 1
      have e1 : q * b = q * b1 * 2 ^ n + q * b2 := by rw [hb, Nat.mul_add, Nat.mul_assoc]
      have e2 : a12 * 2 ^ n = r0 * 2 ^ n + q * b1 * 2 ^ n := by rw [← Nat.add_mul, hr0]
      have e3 : ((q * b : Nat) : Int) = (q : Int) * b := by push_cast; rfl
      walk_at "m_om"
    refine xs_mid (P1 := fun ρ' => ∃ q' : Nat, Aa < (q' + 1) * b ∧ 0 ≤ (Aa : Int) - (q' : Int) * (b : Int) ∧ ∀ p ∈ ([("q", En.v (.int (q' : Int))), ("r", En.v (.int ((Aa : Int) - (q' : Int) * (b : Int))))] : Ro), p ∈ ρ')
      (x_while hf (fun m ρ' => ∃ q' : Nat, m = q' ∧ Aa < (q' + 1) * b ∧ ρ' = ([("a12", En.v (.int (a12 : Int))), ("a3", En.v (.int (a3 : Int))), ("b", En.v (.int (b : Int))), ("b1", En.v (.int (b1 : Int))), ("b2", En.v (.int (b2 : Int))), ("n", En.v (.int (n : Int))), ("q", En.v (.int (q' : Int))), ("r", En.v (.int ((Aa : Int) - (q' : Int) * (b : Int))))] : Ro)) ?_ q ⟨q, rfl, hA1, rfl⟩) ?_
    · rintro m ρ1 ⟨_, rfl, hA2, rfl⟩
      refine ⟨decide ((Aa : Int) - (m : Int) * (b : Int) < 0), (by walk_at "m_ts"), fun hb' => ?_, fun hb' => ?_⟩
      · rw [decide_eq_false_iff_not] at hb'
        exact ⟨m, hA2, by walk_at "m_om", by walk_at "m_all"⟩
      · rw [decide_eq_true_eq] at hb'
        obtain ⟨h1, h2, h3⟩ := d3_loop (r := (Aa : Int) - (m : Int) * (b : Int)) hpos rfl hb'
        refine xs_aug hf (by walk_at "m_mem") (by walk_at "m_ev") (by walk_at "m_op") (by walk_at "m_hold") (by walk_at "m_put") ?_
        refine xs_aug hf (by walk_at "m_mem") (by walk_at "m_ev") (by walk_at "m_op") (by walk_at "m_hold") (by walk_at "m_put") ?_
        rw [← h2, h3]
        refine xs_nil ⟨m - 1, by walk_at "m_om", m - 1, rfl, ?_, rfl⟩
        rw [Nat.sub_add_cancel h1]
        have : ((m * b : Nat) : Int) = (m : Int) * b := by push_cast; rfl
        walk_at "m_om"
    · rintro ρ1 ⟨q2, hA2, h0, hmem2⟩
      refine xs_pick hmem2 (by simp only [List.map]; decide +kernel) rfl (xs_return (by walk_at "m_ev") ?_)
      obtain ⟨e1, e2⟩ := d3_end (r := (Aa : Int) - (q2 : Int) * (b : Int)) hpos rfl h0 hA2
      show D.tup _ = pairD _ _
      rw [e1, ← e2]
/- E7 -/
theorem d2_math {a b h : Nat} (hb : 0 < b) : a / b = a / 2 ^ h / b * 2 ^ h + (a / 2 ^ h % b * 2 ^ h + a % 2 ^ h) / b ∧ a % b = (a / 2 ^ h % b * 2 ^ h + a % 2 ^ h) % b := by
  have e : a = (a / 2 ^ h % b * 2 ^ h + a % 2 ^ h) + (a / 2 ^ h / b * 2 ^ h) * b := by
    have h1 := Nat.div_add_mod a (2 ^ h)
    have h2 := Nat.div_add_mod (a / 2 ^ h) b
    generalize a / 2 ^ h = A at h1 h2 ⊢
    generalize a % 2 ^ h = m at h1 ⊢
    generalize A / b = Q at h2 ⊢
    generalize A % b = R at h2 ⊢
    generalize 2 ^ h = p at h1 ⊢
    rw [← h1, ← h2, Nat.mul_add, Nat.mul_comm p R, ← Nat.mul_assoc, Nat.mul_comm p b, Nat.mul_assoc, Nat.mul_comm p Q, Nat.mul_comm b]
    walk_at "m_om"
  constructor
  · conv => lhs; rw [e]
    rw [Nat.add_mul_div_right _ _ hb, Nat.add_comm]
  · conv => lhs; rw [e]
    rw [Nat.add_mul_mod_self_right]
theorem fn_d2 {G : Gx} (hT : Tp G) (a b n : Nat) (hn1 : 1 ≤ n) (hbl : 2 ^ (n - 1) ≤ b) (hbn : b < 2 ^ n) (ha : a < b * 2 ^ n) (hn : n ≤ 7999) {k : Nat} : Fn G (k + 4) "_div2n1n" [.int (a : Int), .int (b : Int), .int (n : Int)] (pairD (a / b) (a % b)) := by
  refine fn_of (hT.defs "_div2n1n" ["a", "b", "n"] (by decide +kernel) (by decide +kernel)) sc_div2n1n rfl (by decide +kernel) fun A L' cs' q' a' fr' cd' N hr hf hown => ?_
  generalize hsc : scopeOf (Str.ofString "_div2n1n") = sc at *
  conv at hsc => lhs; whnf
  subst hsc
  have hown2 : OwnC _ _ _ := ⟨hown⟩
  conv => arg 5; whnf
  show Xs _ _ _ _ _ [("a", En.v _), ("b", En.v _), ("n", En.v _)] _
  have hlim := hT.lim
  have hb : 0 < b := Nat.lt_of_lt_of_le (Nat.pow_pos (by decide)) hbl
  have hdm : Bi G A "divmod" [.int (a : Int), .int (b : Int)] (pairD (a / b) (a % b)) := b_divmodN hb hbn (by walk_at "m_om")
  refine xs_if (by walk_at "m_ts") (fun hb' => xs_return (by walk_at "m_ev") rfl) fun hb' => xs_on ?_
  refine xs_assign (d := .int ((n % 2 : Nat) : Int)) hf (ev_bin (by walk_at "m_ev") (by walk_at "m_ev") o_oneN) (by walk_at "m_hold") (by walk_at "m_put") (by with_unfolding_all rfl) ?_
  refine xs_mid (P1 := fun ρ' => ∃ A2 B2 n2 : Nat, A2 = a * 2 ^ (n % 2) ∧ B2 = b * 2 ^ (n % 2) ∧ n2 = n + n % 2 ∧ ρ' = ([("a", En.v (.int (A2 : Int))), ("b", En.v (.int (B2 : Int))), ("n", En.v (.int (n2 : Int))), ("pad", En.v (.int ((n % 2 : Nat) : Int)))] : Ro))
    (x_if (b := ((n % 2 : Nat) : Int) != 0) (by walk_at "m_ts") (fun hp => ?_) fun hp => ?_) ?_
  · have h1 : n % 2 = 1 := by have : ((n % 2 : Nat) : Int) ≠ 0 := by simpa using hp
                              walk_at "m_om"
    have ha2 : a < 2 ^ (n + n) := by rw [Nat.pow_add]; exact Nat.lt_trans ha (Nat.mul_lt_mul_of_pos_right hbn (Nat.pow_pos (by decide)))
    refine xs_aug (d := .int ((a * 2 ^ 1 : Nat) : Int)) hf (by walk_at "m_mem") (d1 := .int ((1 : Nat) : Int)) (show Evals _ _ _ _ _ (D.int 1) from (by walk_at "m_ev")) (i_shlN ha2 (n := 1) (by walk_at "m_om")) (by walk_at "m_hold") (by walk_at "m_put") ?_
    refine xs_aug (d := .int ((b * 2 ^ 1 : Nat) : Int)) hf (by walk_at "m_mem") (d1 := .int ((1 : Nat) : Int)) (show Evals _ _ _ _ _ (D.int 1) from (by walk_at "m_ev")) (i_shlN hbn (n := 1) (by walk_at "m_om")) (by walk_at "m_hold") (by walk_at "m_put") ?_
    refine xs_aug (d := .int ((n + 1 : Nat) : Int)) hf (by walk_at "m_mem") (d1 := .int ((1 : Nat) : Int)) (show Evals _ _ _ _ _ (D.int 1) from (by walk_at "m_ev")) (i_addN (y := 1)) (by walk_at "m_hold") (by walk_at "m_put") ?_
    exact xs_nil ⟨a * 2 ^ 1, b * 2 ^ 1, n + 1, by rw [h1], by rw [h1], by rw [h1], rfl⟩
  · have h0 : n % 2 = 0 := by have : ((n % 2 : Nat) : Int) = 0 := by simpa using hp
                              walk_at "m_om"
    exact xs_nil ⟨a, b, n, by rw [h0]; simp, by rw [h0]; simp, by rw [h0]; rfl, rfl⟩
  rintro ρ' ⟨A2, B2, n2, hA2, hB2, hn2, rfl⟩
  have hpad : n % 2 < 2 := Nat.mod_lt _ (by decide)
  have hbl2 : 2 ^ (n2 - 1) ≤ B2 := by
    rw [hB2, hn2, show n + n % 2 - 1 = n - 1 + n % 2 by walk_at "m_om", Nat.pow_add]
    exact Nat.mul_le_mul_right _ hbl
  have hbn2 : B2 < 2 ^ n2 := by
    rw [hB2, hn2, Nat.pow_add]
    exact Nat.mul_lt_mul_of_pos_right hbn (Nat.pow_pos (by decide))
  have ha2 : A2 < B2 * 2 ^ n2 := by
    rw [hA2, hB2, hn2, Nat.pow_add]
    have h1 : a * 2 ^ (n % 2) < b * 2 ^ n * 2 ^ (n % 2) := Nat.mul_lt_mul_of_pos_right ha (Nat.pow_pos (by decide))
    have h2 : b * 2 ^ n * 2 ^ (n % 2) ≤ b * 2 ^ (n % 2) * (2 ^ n * 2 ^ (n % 2)) := by
      have e : b * 2 ^ (n % 2) * (2 ^ n * 2 ^ (n % 2)) = b * 2 ^ n * 2 ^ (n % 2) * 2 ^ (n % 2) := by ac_rfl
      rw [e]
      exact Nat.le_mul_of_pos_right _ (Nat.pow_pos (by decide))
    walk_at "m_om"
  have hB2p : 0 < B2 := Nat.lt_of_lt_of_le (Nat.pow_pos (by decide)) hbl2
  obtain ⟨h, hh⟩ : ∃ h, n2 = h + h := ⟨n2 / 2, by walk_at "m_om"⟩
  have hh1 : 1 ≤ h := by walk_at "m_om"
  have hh4 : h ≤ 4000 := by walk_at "m_om"
  have e1 : n2 / 2 ^ 1 = h := by walk_at "m_om"
  have hp1 : 1 ≤ 2 ^ h := Nat.pow_pos (by decide)
  have b1p : 0 < B2 / 2 ^ h := Nat.div_pos (Nat.le_trans (Nat.pow_le_pow_right (by decide) (by walk_at "m_om")) hbl2) hp1
  have b1n : B2 / 2 ^ h < 2 ^ h := Nat.div_lt_of_lt_mul (by rw [← Nat.pow_add, ← hh]; exact hbn2)
  have b2n : B2 % 2 ^ h < 2 ^ h := Nat.mod_lt _ hp1
  have bsum : B2 = B2 / 2 ^ h * 2 ^ h + B2 % 2 ^ h := by have := Nat.div_add_mod B2 (2 ^ h); rw [Nat.mul_comm] at this; exact this.symm
  have esplit : A2 / 2 ^ h = A2 / 2 ^ n2 * 2 ^ h + A2 / 2 ^ h % 2 ^ h := by
    rw [hh, Nat.pow_add, ← Nat.div_div_eq_div_mul]
    have := Nat.div_add_mod (A2 / 2 ^ h) (2 ^ h); rw [Nat.mul_comm] at this; exact this.symm
  have hlt1 : A2 / 2 ^ h < B2 * 2 ^ h := Nat.div_lt_of_lt_mul (by rw [hh, Nat.pow_add] at ha2; rw [Nat.mul_comm]; rw [Nat.mul_assoc]; exact ha2)
  have hr1 : A2 / 2 ^ h % B2 < B2 := Nat.mod_lt _ hB2p
  have hlt2 : A2 / 2 ^ h % B2 * 2 ^ h + A2 % 2 ^ h < B2 * 2 ^ h := by
    have h1 := Nat.mul_le_mul_right (2 ^ h) (show A2 / 2 ^ h % B2 + 1 ≤ B2 from hr1)
    have h2 := Nat.mod_lt A2 hp1
    rw [Nat.add_mul, Nat.one_mul] at h1; walk_at "m_om"
  have c1 : Fn G 3 "_div3n2n" [.int ((A2 / 2 ^ n2 : Nat) : Int), .int ((A2 / 2 ^ h % 2 ^ h : Nat) : Int), .int (B2 : Int), .int ((B2 / 2 ^ h : Nat) : Int), .int ((B2 % 2 ^ h : Nat) : Int), .int (h : Int)] (pairD (A2 / 2 ^ h / B2) (A2 / 2 ^ h % B2)) :=
    fn_d3 hT _ _ _ _ _ _ _ bsum b1p b1n b2n esplit (Nat.mod_lt _ hp1) hlt1 hh4
  have c2 : Fn G 3 "_div3n2n" [.int ((A2 / 2 ^ h % B2 : Nat) : Int), .int ((A2 % 2 ^ h : Nat) : Int), .int (B2 : Int), .int ((B2 / 2 ^ h : Nat) : Int), .int ((B2 % 2 ^ h : Nat) : Int), .int (h : Int)] (pairD ((A2 / 2 ^ h % B2 * 2 ^ h + A2 % 2 ^ h) / B2) ((A2 / 2 ^ h % B2 * 2 ^ h + A2 % 2 ^ h) % B2)) :=
    fn_d3 hT _ _ _ _ _ _ _ bsum b1p b1n b2n rfl (Nat.mod_lt _ hp1) hlt2 hh4
  have q2n : (A2 / 2 ^ h % B2 * 2 ^ h + A2 % 2 ^ h) / B2 < 2 ^ h := Nat.div_lt_of_lt_mul hlt2
  have q1n : A2 / 2 ^ h / B2 < 2 ^ h := Nat.div_lt_of_lt_mul hlt1
  refine xs_assign (d := .int (h : Int)) hf (ev_bin (d2 := .int ((1 : Nat) : Int)) (by walk_at "m_ev") (show Evals _ _ _ _ _ (D.int 1) from (by walk_at "m_ev")) (o_shrN.cast (by rw [e1]))) (by walk_at "m_hold") (by walk_at "m_put") (by with_unfolding_all rfl) ?_
  refine xs_assign (d := .int ((2 : Int) ^ h - 1)) hf (ev_bin (ev_bin (show Evals _ _ _ _ _ (D.int 1) from (by walk_at "m_ev")) (by walk_at "m_ev") (o_shlN (x := 1) (n := h) (k := 1) (by decide) (by walk_at "m_om"))) (by walk_at "m_ev") (o_sub.cast (by rw [Nat.one_mul, ← pow_cast]))) (by walk_at "m_hold") (by walk_at "m_put") (by with_unfolding_all rfl) ?_
  refine xs_swap (ds := [.int ((B2 / 2 ^ h : Nat) : Int), .int ((B2 % 2 ^ h : Nat) : Int)]) (by walk_at "m_room") hf (ev_tuple (evl_cons (ev_bin (by walk_at "m_ev") (by walk_at "m_ev") o_shrN) (evl_cons (ev_bin (by walk_at "m_ev") (by walk_at "m_ev") o_maskN) evl_nil)) (Nat.le_of_ble_eq_true rfl) (by with_unfolding_all rfl)) (by with_unfolding_all rfl) (by with_unfolding_all rfl) (by walk_at "m_puts") ?_
  refine xs_unpack (by walk_at "m_room") hf (ev_call' (by walk_at "m_en") (by walk_at "m_kd") (evl_cons (ev_bin (by walk_at "m_ev") (by walk_at "m_ev") o_shrN) (evl_cons (ev_bin (ev_bin (by walk_at "m_ev") (by walk_at "m_ev") o_shrN) (by walk_at "m_ev") o_maskN) (evl_cons (by walk_at "m_ev") (evl_cons (by walk_at "m_ev") (evl_cons (by walk_at "m_ev") (evl_cons (by walk_at "m_ev") evl_nil)))))) c1 (by walk_at "m_room") (by with_unfolding_all rfl)) (Asg.tup rfl (by simp only [List.map, tgt]; walk_at "m_puts")) (by with_unfolding_all rfl) (by with_unfolding_all rfl) ?_
  refine xs_unpack (by walk_at "m_room") hf (ev_call' (by walk_at "m_en") (by walk_at "m_kd") (evl_cons (by walk_at "m_ev") (evl_cons (ev_bin (by walk_at "m_ev") (by walk_at "m_ev") o_maskN) (evl_cons (by walk_at "m_ev") (evl_cons (by walk_at "m_ev") (evl_cons (by walk_at "m_ev") (evl_cons (by walk_at "m_ev") evl_nil)))))) c2 (by walk_at "m_room") (by with_unfolding_all rfl)) (Asg.tup rfl (by simp only [List.map, tgt]; walk_at "m_puts")) (by with_unfolding_all rfl) (by with_unfolding_all rfl) ?_
  have dm := d2_math (a := A2) (b := B2) (h := h) hB2p
  refine xs_mid (P1 := fun ρ' => ∀ p ∈ ([("q1", En.v (.int ((A2 / 2 ^ h / B2 : Nat) : Int))), ("half_n", En.v (.int (h : Int))), ("q2", En.v (.int (((A2 / 2 ^ h % B2 * 2 ^ h + A2 % 2 ^ h) / B2 : Nat) : Int))), ("r", En.v (.int ((a % b : Nat) : Int)))] : Ro), p ∈ ρ')
    (x_if (b := ((n % 2 : Nat) : Int) != 0) (by walk_at "m_ts") (fun hp => ?_) fun hp => ?_) ?_
  · have h1 : n % 2 = 1 := by have : ((n % 2 : Nat) : Int) ≠ 0 := by simpa using hp
                              walk_at "m_om"
    have er : ((A2 / 2 ^ h % B2 * 2 ^ h + A2 % 2 ^ h) % B2) / 2 ^ 1 = a % b := by
      rw [← dm.2, hA2, hB2, h1, Nat.mul_mod_mul_right]
      walk_at "m_om"
    refine xs_aug (d := .int ((a % b : Nat) : Int)) hf (by walk_at "m_mem") (d1 := .int ((1 : Nat) : Int)) (show Evals _ _ _ _ _ (D.int 1) from (by walk_at "m_ev")) (i_shrN.cast (by rw [er])) (by walk_at "m_hold") (by walk_at "m_put") ?_
    exact xs_nil (by walk_at "m_all")
  · have h0 : n % 2 = 0 := by have : ((n % 2 : Nat) : Int) = 0 := by simpa using hp
                              walk_at "m_om"
    have er : (A2 / 2 ^ h % B2 * 2 ^ h + A2 % 2 ^ h) % B2 = a % b := by
      rw [← dm.2, hA2, hB2, h0]; simp
    refine xs_nil ?_
    rw [er]
    walk_at "m_all"
  rintro ρ' hmem
  refine xs_pick hmem (by simp only [List.map]; decide +kernel) rfl (xs_return (d := pairD (a / b) (a % b)) (ev_tuple (evl_cons (ev_bin (ev_bin (by walk_at "m_ev") (by walk_at "m_ev") (o_shlN q1n (by walk_at "m_om"))) (by walk_at "m_ev") ((o_orN q2n).cast ?_)) (evl_cons (by walk_at "m_ev") evl_nil)) (Nat.le_of_ble_eq_true rfl) (by with_unfolding_all rfl)) rfl)
  rw [← dm.1, hA2, hB2, Nat.mul_div_mul_right _ _ (Nat.pow_pos (by decide))]
/- E8 -/
def innerPos (n : Str) : Pos := ((bodyOf n).findSome? fun | .FunctionDef _ _ _ _ _ _ _ _ _ pos => some pos | _ => none).getD ⟨0, 0, 0, 0⟩
/-- the two functions with a def inside -/
structure Tn (G : Gx) : Prop where
  tp : Tp G
  d2i : ∃ c P, DefC G "_digits2int" ["digits", "n"] (bodyOf "_digits2int") (scopeOf "_digits2int") (.ref c) "_digits2int" ∧ Nest G c P (innerPos "_digits2int") "_digits2int.<locals>.inner"
  i2d : ∃ c P, DefC G "_int2digits" ["a", "n"] (bodyOf "_int2digits") (scopeOf "_int2digits") (.ref c) "_int2digits" ∧ Nest G c P (innerPos "_int2digits") "_int2digits.<locals>.inner"
def valB (n : Nat) : List Nat → Nat
  | [] => 0
  | d :: ds => d + valB n ds * 2 ^ n
theorem valB_append (n : Nat) : ∀ (l m : List Nat), valB n (l ++ m) = valB n l + valB n m * 2 ^ (n * l.length)
  | [], m => by simp [valB]
  | d :: l, m => by
    rw [List.cons_append, valB, valB_append n l m, valB, List.length_cons, Nat.mul_add, Nat.mul_one, Nat.pow_add, Nat.add_mul]
    rw [Nat.mul_assoc, Nat.add_assoc]
def natsD (l : List Nat) : D := .lst (l.map fun (k : Nat) => D.int k)
def innerOf (n : Str) : Arguments × List Stmt × Scope := ((bodyOf n).findSome? fun | .FunctionDef _ a b _ _ _ sc _ _ _ => some (a, b, sc) | _ => none).getD (⟨[], [], none, [], [], none, []⟩, [], default)
theorem sc_inner_d : ScOk (innerOf "_digits2int").2.2 ["L", "R"] := ⟨by decide +kernel, by decide +kernel, by decide +kernel, by decide +kernel, by decide +kernel, by decide +kernel, by decide +kernel, by decide +kernel⟩
theorem valB_lt (n : Nat) : ∀ l : List Nat, (∀ d ∈ l, d < 2 ^ n) → valB n l < 2 ^ (n * l.length)
  | [], _ => by simp [valB]
  | d :: l, h => by
    have ih := valB_lt n l fun x hx => h x (List.mem_cons_of_mem _ hx)
    have h1 := h d List.mem_cons_self
    rw [valB, List.length_cons, Nat.mul_add, Nat.mul_one, Nat.pow_add]
    have h2 := Nat.mul_le_mul_right (2 ^ n) (show valB n l + 1 ≤ 2 ^ (n * l.length) from ih)
    rw [Nat.add_mul, Nat.one_mul] at h2
    walk_at "m_om"
def sliceN (ds : List Nat) (L R : Nat) : List Nat := (ds.drop L).take (R - L)
theorem sliceN_split {ds : List Nat} {L mid R : Nat} (h1 : L ≤ mid) (h2 : mid ≤ R) : sliceN ds L R = sliceN ds L mid ++ sliceN ds mid R := by
  unfold sliceN
  rw [show R - L = (mid - L) + (R - mid) by walk_at "m_om", List.take_add, List.drop_drop, show L + (mid - L) = mid by walk_at "m_om"]
theorem sliceN_one {ds : List Nat} {L : Nat} (h : L < ds.length) : sliceN ds L (L + 1) = [ds[L]] := by
  unfold sliceN
  rw [show L + 1 - L = 1 by walk_at "m_om", List.drop_eq_getElem_cons h]; rfl
theorem sliceN_len {ds : List Nat} {L R : Nat} (h : R ≤ ds.length) : (sliceN ds L R).length = R - L := by
  unfold sliceN; rw [List.length_take, List.length_drop]; walk_at "m_om"
theorem inner_d2i {G : Gx} {c P f c' : Addr} {clos : List (Str × Addr)} (hN : Nest G c P (innerPos "_digits2int") "_digits2int.<locals>.inner") (htab : G.h₁.get? P = some (tabObj #[rawInt (innerPos "_digits2int").line, rawInt (innerPos "_digits2int").col, .ref c']))
    (hm : MadeFn G.F₀ f "inner" "_digits2int.<locals>.inner" (innerOf "_digits2int").1 (innerOf "_digits2int").2.1 (innerOf "_digits2int").2.2 clos c') (hcl : ∀ x c, clos.lookup x = some c → (x, NameKind.free) ∈ (innerOf "_digits2int").2.2.names)
    (ds : List Nat) (n : Nat) (hds : ds.length ≤ 200) (hn : n ≤ 10000) (hd : ∀ d ∈ ds, d < 2 ^ n) {c1 c2 c3 : Addr} {v1 : Value} {t : Tok} (l1 : clos.lookup ("digits" : Str) = some c1) (i1 : G.h₁.IsCell c1 (some v1)) (r1 : Rd G.F₀ v1 (natsD ds))
    (l2 : clos.lookup ("inner" : Str) = some c2) (i2 : G.h₁.IsCell c2 (some (.ref f))) (l3 : clos.lookup ("n" : Str) = some c3) (i3 : G.h₁.IsCell c3 (some (.int (n : Int) t))) :
    ∀ (m L R : Nat), R - L ≤ m → L < R → R ≤ ds.length → ∀ A, Room A (m + 1) → CallV G A (.ref f) [.int (L : Int), .int (R : Int)] (.int ((valB n (sliceN ds L R) : Nat) : Int)) := by
  obtain ⟨doc, pm, ct, hfo⟩ := hm
  intro m
  induction m with
  | zero => intro L R h1 h2; walk_at "m_om"
  | succ m ih =>
    intro L R h1 h2 h3 A hr
    refine .mk fun s F vs g r Q E kk => ?_
    have hF := g.ff _ _ hfo
    refine call_body (fd := fnX "inner" "_digits2int.<locals>.inner" (innerOf "_digits2int").1 (innerOf "_digits2int").2.1 (innerOf "_digits2int").2.2 clos .none .none doc pm none (.ref c') ct) (sc := (innerOf "_digits2int").2.2) (body := (innerOf "_digits2int").2.1) (ps := ["L", "R"]) (ρ0 := [("digits", En.v (natsD ds)), ("inner", En.v (.fn f)), ("n", En.v (.int (n : Int)))]) ⟨rfl, rfl, rfl, rfl, ?_⟩ sc_inner_d rfl (g.fz _ _ hF) rfl (TabIs.rec' hN (TabIs.base hN htab g) g) (by have := hr.depth; walk_at "m_om") g r rfl ?_ ?_ hcl ?_ (by simp only [List.map]; decide +kernel) (by simp only [List.map]; decide +kernel) fun L' cs' q' fr' cd' hcd hq fk hown hfree s1 ii x1 => ?_
    · intro vals hv
      match vals, hv with
      | [a, b], _ => rfl
    · intro x hx
      have : x = "digits" ∨ x = "inner" ∨ x = "n" := by
        have hall : ∀ p ∈ (innerOf "_digits2int").2.2.names, p.2 = NameKind.free → p.1 = ("digits" : Str) ∨ p.1 = ("inner" : Str) ∨ p.1 = ("n" : Str) := by decide +kernel
        exact hall _ hx rfl
      rcases this with rfl | rfl | rfl
      · obtain ⟨o, ho, hdc⟩ := i1; exact ⟨c1, _, l1, o, g.base.keep _ _ ho (isTab_cell hdc), hdc⟩
      · obtain ⟨o, ho, hdc⟩ := i2; exact ⟨c2, _, l2, o, g.base.keep _ _ ho (isTab_cell hdc), hdc⟩
      · obtain ⟨o, ho, hdc⟩ := i3; exact ⟨c3, _, l3, o, g.base.keep _ _ ho (isTab_cell hdc), hdc⟩
    · intro x c hc
      have hall : ∀ p ∈ (innerOf "_digits2int").2.2.names, p.2 = NameKind.free → p.1 = ("digits" : Str) ∨ p.1 = ("inner" : Str) ∨ p.1 = ("n" : Str) := by decide +kernel
      rcases hall _ (hcl x c hc) rfl with e | e | e <;> (simp only at e; subst e)
      · rw [l1] at hc; cases hc; exact Nat.lt_of_lt_of_le i1.lt g.base.size
      · rw [l2] at hc; cases hc; exact Nat.lt_of_lt_of_le i2.lt g.base.size
      · rw [l3] at hc; cases hc; exact Nat.lt_of_lt_of_le i3.lt g.base.size
    · refine List.forall_mem_cons.mpr ⟨⟨⟨_, rfl⟩, (show (("digits" : Str), NameKind.free) ∈ (innerOf "_digits2int").2.2.names by decide +kernel), c1, v1, _, rfl, l1, g.base.cell i1, r1.mono g.ff⟩, List.forall_mem_cons.mpr ⟨⟨⟨_, rfl⟩, (show (("inner" : Str), NameKind.free) ∈ (innerOf "_digits2int").2.2.names by decide +kernel), c2, _, _, rfl, l2, g.base.cell i2, .fn hF rfl⟩, List.forall_mem_cons.mpr ⟨⟨⟨_, rfl⟩, (show (("n" : Str), NameKind.free) ∈ (innerOf "_digits2int").2.2.names by decide +kernel), c3, _, _, rfl, l3, g.base.cell i3, .int⟩, fun p hp => absurd hp List.not_mem_nil⟩⟩⟩
    · refine run_ret ?_ fk ii rfl (Nat.le_refl _) x1 kk
      have hr' : Room (A.deeper (mkE (innerOf "_digits2int").2.2 L' cs' q' (some f) cd' fr')) (m + 1) := hr.deeper
      generalize A.deeper (mkE (innerOf "_digits2int").2.2 L' cs' q' (some f) cd' fr') = A2 at hr'
      clear ii hfree
      generalize hsc : (innerOf (Str.ofString "_digits2int")).2.2 = sc at *
      conv at hsc => lhs; whnf
      subst hsc
      have hown2 : OwnC _ _ _ := ⟨hown⟩
      have hf0 := fk
      conv => arg 5; whnf
      show Xs _ _ _ _ _ [("digits", En.v _), ("inner", En.v _), ("n", En.v _), ("L", En.v _), ("R", En.v _)] _
      refine xs_if (ts_cmp (ev_bin (by walk_at "m_ev") (show Evals _ _ _ _ _ (D.int ((1 : Nat) : Int)) from ev_int) o_addN) (by walk_at "m_ev") c_eq (by with_unfolding_all rfl)) (fun hb => xs_return (d := .int ((ds[L]'(by walk_at "m_om") : Nat) : Int)) (ev_item (d1 := natsD ds) (i := (L : Int)) (by walk_at "m_ev") (by walk_at "m_ev") (ItemD.lst (by simp [List.getElem?_eq_getElem (show L < ds.length by walk_at "m_om")]) (by walk_at "m_om")) (by intro _ _; walk_at "m_rf")) ?_) fun hb => xs_on ?_
      · have hb : L + 1 = R := by rw [beq_iff_eq] at hb; walk_at "m_om"
        subst hb
        show D.int _ = D.int _
        rw [sliceN_one (by walk_at "m_om")]; simp [valB]
      have hb : L + 1 ≠ R := by intro e; rw [e] at hb; simp at hb
      have hmid1 : L < (L + R) / 2 := by walk_at "m_om"
      have hmid2 : (L + R) / 2 < R := by walk_at "m_om"
      have e2 : (L + R) / 2 ^ 1 = (L + R) / 2 := by walk_at "m_om"
      refine xs_assign (d := .int (((L + R) / 2 : Nat) : Int)) hf0 (ev_bin (ev_bin (by walk_at "m_ev") (by walk_at "m_ev") o_addN) (show Evals _ _ _ _ _ (D.int ((1 : Nat) : Int)) from ev_int) (o_shrN.cast (by rw [e2]))) (by walk_at "m_hold") (by walk_at "m_put") (by with_unfolding_all rfl) ?_
      generalize (L + R) / 2 = mid at hmid1 hmid2 ⊢
      refine xs_assign (d := .int (((mid - L) * n : Nat) : Int)) hf0 (ev_bin (ev_bin (d1 := .int (mid : Int)) (d2 := .int (L : Int)) (by walk_at "m_ev") (by walk_at "m_ev") (o_sub.cast (d' := .int ((mid - L : Nat) : Int)) (by congr 1; walk_at "m_om"))) (by walk_at "m_ev") (o_mulN (k := 20) (by walk_at "m_om") (by walk_at "m_om") (by walk_at "m_om"))) (by walk_at "m_hold") (by walk_at "m_put") (by with_unfolding_all rfl) ?_
      have k1 := ih mid R (by walk_at "m_om") hmid2 h3 A2 hr'
      have k2 := ih L mid (by walk_at "m_om") hmid1 (by walk_at "m_om") A2 hr'
      have b1 : valB n (sliceN ds mid R) < 2 ^ (n * 200) := by
        refine Nat.lt_of_lt_of_le (valB_lt n _ fun d h => hd d ?_) (Nat.pow_le_pow_right (by decide) (Nat.mul_le_mul_left n ?_))
        · exact List.mem_of_mem_drop (List.mem_of_mem_take h)
        · rw [sliceN_len h3]; walk_at "m_om"
      have b2 : n * 200 + (mid - L) * n ≤ 100000000 := by
        have : (mid - L) * n ≤ 200 * 10000 := Nat.mul_le_mul (by walk_at "m_om") hn
        walk_at "m_om"
      refine xs_return (d := .int ((valB n (sliceN ds mid R) * 2 ^ ((mid - L) * n) + valB n (sliceN ds L mid) : Nat) : Int)) (ev_bin (ev_bin (ev_callv (by walk_at "m_en") (by walk_at "m_mem") (by walk_at "m_evs") k1 (by with_unfolding_all rfl)) (by walk_at "m_ev") (o_shlN b1 b2)) (ev_callv (by walk_at "m_en") (by walk_at "m_mem") (by walk_at "m_evs") k2 (by with_unfolding_all rfl)) o_addN) ?_
      show D.int _ = D.int _
      rw [sliceN_split (Nat.le_of_lt hmid1) (Nat.le_of_lt hmid2), valB_append, sliceN_len (by walk_at "m_om"), Nat.mul_comm n, Nat.add_comm]
/- E9 -/
theorem sc_digits2int : ScOk (scopeOf "_digits2int") ["digits", "n"] := ⟨by decide +kernel, by decide +kernel, by decide +kernel, by decide +kernel, by decide +kernel, by decide +kernel, by decide +kernel, by decide +kernel⟩
theorem natsD_len (ds : List Nat) : (ds.map fun (k : Nat) => D.int k).length = ds.length := List.length_map ..
theorem fn_digits2int {G : Gx} (hTn : Tn G) (ds : List Nat) (n : Nat) (hds : ds.length ≤ 200) (hn : n ≤ 10000) (hd : ∀ d ∈ ds, d < 2 ^ n) : Fn G (ds.length + 3) "_digits2int" [natsD ds, .int (n : Int)] (.int ((valB n ds : Nat) : Int)) := by
  obtain ⟨c, P, hD, hN⟩ := hTn.d2i
  have hT := hTn.tp
  refine fn_ofC hD sc_digits2int rfl (by decide +kernel) fun A L' cs' a' fr' N hr hf hown => ?_
  have hN0 := hN
  generalize hsc : scopeOf (Str.ofString "_digits2int") = sc at *
  conv at hsc => lhs; whnf
  subst hsc
  have hown2 : OwnC _ _ _ := ⟨hown⟩
  conv => arg 5; whnf
  generalize hip : innerPos _ = ip at hN
  conv at hip => lhs; whnf
  subst hip
  show Xs _ _ _ _ _ [("digits", En.v _), ("n", En.v _)] _
  refine .mk fun s F i Q E k => wpAny_execs_cons (x_def (ρ' := fun f => ([("digits", En.v _), ("n", En.v _), ("inner", En.v (.fn f))] : Ro)) hf hN rfl (by dsimp only [Env.kindOf, mkE]; decide +kernel) (by walk_at "m_hold") (fun f => by walk_at "m_put") rfl rfl rfl s F i _ _ fun f c' clos s1 F1 i1 x1 hm ht hsz hc1 hc2 => ?_)
  have hcl : ∀ x c, clos.lookup x = some c → (x, NameKind.free) ∈ (innerOf "_digits2int").2.2.names := fun x c h => (hc1 x c h).1
  obtain ⟨c1, l1⟩ := hc2 "digits" (by decide +kernel)
  obtain ⟨c2, l2⟩ := hc2 "inner" (by decide +kernel)
  obtain ⟨c3, l3⟩ := hc2 "n" (by decide +kernel)
  have cellAt : ∀ x c d, clos.lookup x = some c → (x, En.v d) ∈ ([("digits", En.v (natsD ds)), ("n", En.v (.int (n : Int))), ("inner", En.v (.fn f))] : Ro) → ∃ v, s1.heap.IsCell c (some v) ∧ Rd F1 v d := fun x c d hl hx => by
    obtain ⟨v, va, r⟩ := i1.vars.at' _ hx
    rcases va with ⟨_, _⟩ | ⟨_, c', q1, q2⟩
    · rename_i hk _
      have : x = "digits" ∨ x = "n" ∨ x = "inner" := by
        rcases List.mem_cons.mp hx with e | hx
        · exact .inl (Prod.mk.inj e).1
        rcases List.mem_cons.mp hx with e | hx
        · exact .inr (.inl (Prod.mk.inj e).1)
        rcases List.mem_cons.mp hx with e | hx
        · exact .inr (.inr (Prod.mk.inj e).1)
        cases hx
      rcases this with rfl | rfl | rfl <;> exact absurd hk (by dsimp only [Env.kindOf, mkE]; decide +kernel)
    · rw [(hc1 x c hl).2] at q1; cases q1; exact ⟨v, q2, r⟩
  obtain ⟨v1, j1, r1⟩ := cellAt "digits" c1 _ l1 (.head _)
  obtain ⟨v2, j2, r2⟩ := cellAt "inner" c2 _ l2 (.tail _ (.tail _ (.head _)))
  obtain ⟨v3, j3, r3⟩ := cellAt "n" c3 _ l3 (.tail _ (.head _))
  cases r3 with | @int _ t3 => ?_
  have ev2 : v2 = .ref f := by cases r2; rfl
  subst ev2
  have g1 := i1.good
  have hin : ∀ A2, Room A2 (ds.length + 1) → ds ≠ [] → CallV (G.rebase s1 F1 g1.base.size) A2 (.ref f) [.int ((0 : Nat) : Int), .int ((ds.length : Nat) : Int)] (.int ((valB n ds : Nat) : Int)) := fun A2 hr2 hne => by
    have := inner_d2i (G := G.rebase s1 F1 g1.base.size) (hN0.rebase g1) ht hm hcl ds n hds hn hd l1 j1 r1 l2 j2 l3 j3 ds.length 0 ds.length (by walk_at "m_om") (by cases ds with | nil => exact absurd rfl hne | cons _ _ => exact Nat.succ_pos _) (Nat.le_refl _) A2 hr2
    rw [show sliceN ds 0 ds.length = ds by unfold sliceN; rw [List.drop_zero, Nat.sub_zero, List.take_length]] at this
    exact this
  refine wpAny_execs_cons (wpAny_Return_some (Evals.run (G := G.rebase s1 F1 g1.base.size) (ρ := ([("digits", En.v (natsD ds)), ("n", En.v (.int (n : Int))), ("inner", En.v (.fn f))] : Ro)) (d := .int ((valB n ds : Nat) : Int)) ?_ s1 F1 g1.rebase (i1.vars.rebase g1 rfl) _ _ fun v s' F' x r => k (.ret _) (.ret v) s' F' ?_ trivial (x1.trans' ((x.unbase g1).weaken fun _ f => f.elim)) ⟨v, rfl, r⟩))
  · have hl := natsD_len ds
    have hbl := hT.bi "len" (by decide +kernel)
    refine ev_if (ts_lst (l := ds.map fun (k : Nat) => D.int k) (show Evals _ _ _ _ _ (natsD ds) from (by walk_at "m_ev")) (by rw [hl]; walk_at "m_om")) (fun hb => ev_callv (by walk_at "m_en") (by walk_at "m_mem") (ds := [.int ((0 : Nat) : Int), .int ((ds.length : Nat) : Int)]) (evl_cons (show Evals _ _ _ _ _ (D.int ((0 : Nat) : Int)) from ev_int) (evl_cons ?_ evl_nil)) (hin A (hr.le (Nat.le_succ _)) (by rintro rfl; simp at hb)) (by with_unfolding_all rfl)) (fun hb => ?_)
    · rw [← hl]
      exact ev_bi' (by walk_at "m_en") (by walk_at "m_kd") hbl (evl_cons (show Evals _ _ _ _ _ (natsD ds) from (by walk_at "m_ev")) evl_nil) (b_len_list (by rw [hl]; walk_at "m_om")) (by with_unfolding_all rfl)
    · have : ds = [] := by cases ds with | nil => rfl | cons _ _ => simp at hb
      subst this
      exact (show Evals _ _ _ _ _ (D.int ((0 : Nat) : Int)) from ev_int)
  · rfl
/- E10 -/
def digsB (n : Nat) : Nat → Nat → List Nat
  | _, 0 => []
  | x, k + 1 => x % 2 ^ n :: digsB n (x / 2 ^ n) k
theorem digsB_len (n : Nat) : ∀ x k, (digsB n x k).length = k
  | _, 0 => rfl
  | x, k + 1 => by rw [digsB, List.length_cons, digsB_len]
theorem digsB_add (n : Nat) : ∀ x a b, digsB n x (a + b) = digsB n (x % 2 ^ (n * a)) a ++ digsB n (x / 2 ^ (n * a)) b
  | x, 0, b => by rw [Nat.zero_add, Nat.mul_zero, Nat.pow_zero, Nat.div_one]; rfl
  | x, a + 1, b => by
    rw [show a + 1 + b = (a + b) + 1 by walk_at "m_om", digsB, digsB_add n _ a b, digsB, List.cons_append]
    have e1 : x % 2 ^ (n * (a + 1)) % 2 ^ n = x % 2 ^ n := Nat.mod_mod_of_dvd _ (Nat.pow_dvd_pow 2 (by rw [Nat.mul_add]; walk_at "m_om"))
    have e2 : x / 2 ^ n / 2 ^ (n * a) = x / 2 ^ (n * (a + 1)) := by rw [Nat.div_div_eq_div_mul, ← Nat.pow_add, Nat.mul_add, Nat.mul_one, Nat.add_comm]
    have e3 : x % 2 ^ (n * (a + 1)) / 2 ^ n = x / 2 ^ n % 2 ^ (n * a) := by rw [Nat.mul_add, Nat.mul_one, Nat.add_comm, Nat.pow_add, Nat.mod_mul_right_div_self]
    rw [e1, e2, e3]
theorem valB_digsB (n : Nat) : ∀ x k, x < 2 ^ (n * k) → valB n (digsB n x k) = x
  | x, 0, h => by simp at h; subst h; rfl
  | x, k + 1, h => by
    rw [digsB, valB, valB_digsB n (x / 2 ^ n) k (by rw [Nat.mul_add, Nat.mul_one, Nat.add_comm, Nat.pow_add] at h; exact Nat.div_lt_of_lt_mul h)]
    rw [Nat.mul_comm]; exact Nat.mod_add_div x (2 ^ n)
theorem digsB_lt (n : Nat) : ∀ x k, ∀ d ∈ digsB n x k, d < 2 ^ n
  | _, 0, d, h => by cases h
  | x, k + 1, d, h => by
    rcases List.mem_cons.mp h with rfl | h
    · exact Nat.mod_lt _ (Nat.two_pow_pos n)
    · exact digsB_lt n _ k d h
/-- the digits from place L on are these -/
def putAt (acc : List Nat) (L : Nat) (ds : List Nat) : List Nat := acc.take L ++ ds ++ acc.drop (L + ds.length)
theorem putAt_len {acc ds : List Nat} {L : Nat} (h : L + ds.length ≤ acc.length) : (putAt acc L ds).length = acc.length := by
  unfold putAt; simp only [List.length_append, List.length_take, List.length_drop]; walk_at "m_om"
theorem putAt_one {acc : List Nat} {L x : Nat} (h : L < acc.length) : putAt acc L [x] = acc.set L x := by
  unfold putAt
  rw [List.set_eq_take_append_cons_drop, if_pos h, List.append_assoc]; rfl
theorem putAt_two {acc d1 d2 : List Nat} {L : Nat} (h : L + d1.length + d2.length ≤ acc.length) : putAt (putAt acc L d1) (L + d1.length) d2 = putAt acc L (d1 ++ d2) := by
  have h1 : (acc.take L ++ d1).length = L + d1.length := by rw [List.length_append, List.length_take]; walk_at "m_om"
  unfold putAt
  rw [List.take_append_of_le_length (by walk_at "m_om"), List.take_of_length_le (by walk_at "m_om"), List.drop_append, List.drop_of_length_le (by walk_at "m_om"), h1, List.drop_drop, List.nil_append]
  simp only [List.append_assoc, List.length_append]
  congr 4; walk_at "m_om"
theorem xor_low (x s : Nat) : x ^^^ (x / 2 ^ s * 2 ^ s) = x % 2 ^ s := by
  apply Nat.eq_of_testBit_eq
  intro i
  rw [Nat.testBit_xor, Nat.testBit_mod_two_pow, Nat.mul_comm, Nat.testBit_two_pow_mul, Nat.testBit_div_two_pow]
  by_cases h : i < s
  · simp [h, Nat.not_le.mpr h]
  · have h' : s ≤ i := by walk_at "m_om"
    simp [h, h', Nat.sub_add_cancel h']
/- E11 -/
theorem sc_inner_i : ScOk (innerOf "_int2digits").2.2 ["x", "L", "R"] := ⟨by decide +kernel, by decide +kernel, by decide +kernel, by decide +kernel, by decide +kernel, by decide +kernel, by decide +kernel, by decide +kernel⟩
abbrev natsL (l : List Nat) : List D := l.map fun (k : Nat) => D.int k
def JI (c1 c2 c3 al f : Addr) (n : Nat) (s : Shared) : Prop := s.heap.IsCell c1 (some (.ref al)) ∧ s.heap.IsCell c2 (some (.ref f)) ∧ ∃ t, s.heap.IsCell c3 (some (.int (n : Int) t))
theorem inner_i2d {G : Gx} {c P f c' al : Addr} {clos : List (Str × Addr)} {F0 : Fz} (hN : Nest G c P (innerPos "_int2digits") "_int2digits.<locals>.inner") (hF0 : G.F₀.le F0)
    (hm : MadeFn F0 f "inner" "_int2digits.<locals>.inner" (innerOf "_int2digits").1 (innerOf "_int2digits").2.1 (innerOf "_int2digits").2.2 clos c') (hcl : ∀ x c, clos.lookup x = some c → (x, NameKind.free) ∈ (innerOf "_int2digits").2.2.names)
    (n : Nat) (hn : n ≤ 10000) {c1 c2 c3 : Addr} (l1 : clos.lookup ("a_digits" : Str) = some c1) (l2 : clos.lookup ("inner" : Str) = some c2) (l3 : clos.lookup ("n" : Str) = some c3) (hb : G.h₁.objs.size ≤ al) (k1 : c1 < al) (k2 : c2 < al) (k3 : c3 < al) :
    ∀ (m L R x : Nat) (acc : List Nat), R - L ≤ m → L < R → R ≤ acc.length → acc.length ≤ 200 → x < 2 ^ (n * (R - L)) → ∀ A, Room A (m + 1) →
      CallMut (G.pin P (innerPos "_int2digits") c' F0) A (JI c1 c2 c3 al f n) f [.int (x : Int), .int (L : Int), .int (R : Int)] al (natsL acc) (natsL (putAt acc L (digsB n x (R - L)))) := by
  obtain ⟨doc, pm, ct, hfo⟩ := hm
  intro m
  induction m with
  | zero => intro L R x acc h1 h2; walk_at "m_om"
  | succ m ih =>
    intro L R x acc h1 h2 h3 h4 h5 A hr
    refine .mk fun s F vs g hJ hl r Q E kk => ?_
    obtain ⟨i1, i2, t3, i3⟩ := hJ
    have hF := g.ff _ _ hfo
    have g0 : Good G s F := g.unpin hF0
    have hz : al < s.heap.objs.size := by obtain ⟨_, _, _, ho, _⟩ := hl; exact Heap.lt_size ho
    refine call_body (fd := fnX "inner" "_int2digits.<locals>.inner" (innerOf "_int2digits").1 (innerOf "_int2digits").2.1 (innerOf "_int2digits").2.2 clos .none .none doc pm none (.ref c') ct) (sc := (innerOf "_int2digits").2.2) (body := (innerOf "_int2digits").2.1) (ps := ["x", "L", "R"]) (ρ0 := [("inner", En.v (.fn f)), ("n", En.v (.int (n : Int)))]) ⟨rfl, rfl, rfl, rfl, ?_⟩ sc_inner_i rfl (g.fz _ _ hF) rfl (TabIs.rec' hN g.inv.2 g0) (by have := hr.depth; walk_at "m_om") g r rfl ?_ ?_ hcl ?_ (by simp only [List.map]; decide +kernel) (by simp only [List.map]; decide +kernel) fun L' cs' q' fr' cd' hcd hq fk hown hfree s1 ii x1 => ?_
    · intro vals hv
      match vals, hv with
      | [a, b, c], _ => rfl
    · intro x hx
      have : x = "a_digits" ∨ x = "inner" ∨ x = "n" := by
        have hall : ∀ p ∈ (innerOf "_int2digits").2.2.names, p.2 = NameKind.free → p.1 = ("a_digits" : Str) ∨ p.1 = ("inner" : Str) ∨ p.1 = ("n" : Str) := by decide +kernel
        exact hall _ hx rfl
      rcases this with rfl | rfl | rfl
      · exact ⟨c1, _, l1, i1⟩
      · exact ⟨c2, _, l2, i2⟩
      · exact ⟨c3, _, l3, i3⟩
    · intro x c hc
      have hall : ∀ p ∈ (innerOf "_int2digits").2.2.names, p.2 = NameKind.free → p.1 = ("a_digits" : Str) ∨ p.1 = ("inner" : Str) ∨ p.1 = ("n" : Str) := by decide +kernel
      rcases hall _ (hcl x c hc) rfl with e | e | e <;> (simp only at e; subst e)
      · rw [l1] at hc; cases hc; exact Nat.lt_trans k1 hz
      · rw [l2] at hc; cases hc; exact Nat.lt_trans k2 hz
      · rw [l3] at hc; cases hc; exact Nat.lt_trans k3 hz
    · refine List.forall_mem_cons.mpr ⟨⟨⟨_, rfl⟩, (show (("inner" : Str), NameKind.free) ∈ (innerOf "_int2digits").2.2.names by decide +kernel), c2, _, _, rfl, l2, i2, .fn hF rfl⟩, List.forall_mem_cons.mpr ⟨⟨⟨_, rfl⟩, (show (("n" : Str), NameKind.free) ∈ (innerOf "_int2digits").2.2.names by decide +kernel), c3, _, _, rfl, l3, i3, .int⟩, fun p hp => absurd hp List.not_mem_nil⟩⟩
    · have hnc : ∀ x, (mkE (innerOf "_int2digits").2.2 L' cs' q' (some f) cd' fr').kindOf x ≠ some .cell := by
        intro x h
        have hm : (x, NameKind.cell) ∈ (innerOf "_int2digits").2.2.names := mem_of_lookup h
        exact absurd rfl ((by decide +kernel : ∀ p ∈ (innerOf "_int2digits").2.2.names, p.2 ≠ NameKind.cell) _ hm)
      have hfr : ∀ x c, (mkE (innerOf "_int2digits").2.2 L' cs' q' (some f) cd' fr').kindOf x = some .free → (mkE (innerOf "_int2digits").2.2 L' cs' q' (some f) cd' fr').cells.lookup x = some c → c < al := by
        intro x c h hc
        have hall : ∀ p ∈ (innerOf "_int2digits").2.2.names, p.2 = NameKind.free → p.1 = ("a_digits" : Str) ∨ p.1 = ("inner" : Str) ∨ p.1 = ("n" : Str) := by decide +kernel
        rcases hall _ (mem_of_lookup h) rfl with e | e | e <;> (simp only at e; subst e)
        · have := hfree _ _ h l1; rw [show (mkE (innerOf "_int2digits").2.2 L' cs' q' (some f) cd' fr').cells = cs' from rfl, this] at hc; cases hc; exact k1
        · have := hfree _ _ h l2; rw [show (mkE (innerOf "_int2digits").2.2 L' cs' q' (some f) cd' fr').cells = cs' from rfl, this] at hc; cases hc; exact k2
        · have := hfree _ _ h l3; rw [show (mkE (innerOf "_int2digits").2.2 L' cs' q' (some f) cd' fr').cells = cs' from rfl, this] at hc; cases hc; exact k3
      have ka : (innerOf "_int2digits").2.2.names.lookup ("a_digits" : Str) = some .free := by decide +kernel
      have fk2 := fk.lower (al := al) hb (Nat.le_of_lt hz) hnc hfr
      have ii2 := ii.lower (al := al) (x := "a_digits") hb (Nat.le_of_lt hz) hnc (.inr ⟨.inr ka, c1, hfree _ _ ka l1, x1.kp.cell i1⟩) (hl.ex x1 id) rfl (show ("a_digits" : Str) ∉ (["inner", "n", "x", "L", "R"] : List Str) by decide +kernel)
      have hr' : Room (A.deeper (mkE (innerOf "_int2digits").2.2 L' cs' q' (some f) cd' fr')) (m + 1) := hr.deeper
      generalize A.deeper (mkE (innerOf "_int2digits").2.2 L' cs' q' (some f) cd' fr') = A2 at hr' ⊢
      by_cases he : L + 1 = R
      · subst he
        generalize hsc : (innerOf (Str.ofString "_int2digits")).2.2 = sc at *
        conv at hsc => lhs; whnf
        subst hsc
        have hf0 := fk2
        show wpAny _ _ (execs (innerOf "_int2digits").2.1 _) _ _ _
        conv => arg 3; arg 1; whnf
        refine wpAny_execs_cons (wpAny_If ((ts_cmp (ρ := ([("a_digits", En.own al (natsL acc)), ("inner", En.v (.fn f)), ("n", En.v (.int (n : Int))), ("x", En.v (.int (x : Int))), ("L", En.v (.int (L : Int))), ("R", En.v (.int ((L + 1 : Nat) : Int)))] : Ro)) (b := true) (ev_bin (by walk_at "m_ev") (show Evals _ _ _ _ _ (D.int ((1 : Nat) : Int)) from ev_int) o_addN) (by walk_at "m_ev") (c_eq.cast (by rw [beq_self_eq_true]))).run s1 F ii2.good ii2.vars _ _ fun s2 F2 x2 => ?_))
        have ii3 := ii2.ex x2
        refine wpAny_execs_cons (wpAny_Assign_Subscript ?_)
        refine (show Evals _ _ _ ([("a_digits", En.own al (natsL acc)), ("inner", En.v (.fn f)), ("n", En.v (.int (n : Int))), ("x", En.v (.int (x : Int))), ("L", En.v (.int (L : Int))), ("R", En.v (.int ((L + 1 : Nat) : Int)))] : Ro) _ (.int (x : Int)) from (by walk_at "m_ev")).run s2 F2 ii3.good ii3.vars _ _ fun v3 s3 F3 x3 r3 => ?_
        have ii4 := ii3.ex x3
        obtain ⟨va, hF4, _, hl4⟩ := ii4.vars.at' _ (.head _)
        refine wpAny_Name (load_var hf0.toEnvF va rfl ?_) (va.dbg hf0.toEnvF)
        refine (show Evals _ _ _ ([("a_digits", En.own al (natsL acc)), ("inner", En.v (.fn f)), ("n", En.v (.int (n : Int))), ("x", En.v (.int (x : Int))), ("L", En.v (.int (L : Int))), ("R", En.v (.int ((L + 1 : Nat) : Int)))] : Ro) _ (.int (L : Int)) from (by walk_at "m_ev")).run s3 F3 ii4.good ii4.vars _ _ fun v5 s5 F5 x5 r5 => ?_
        have ii5 := ii4.ex x5
        obtain ⟨va5, hF5, _, hl5⟩ := ii5.vars.at' _ (.head _)
        cases r5 with
        | @int _ t5 =>
        refine list_set_ ii5.good hb ⟨hF5, hl5⟩ (r3.mono x5.le) (by rw [List.length_map]; walk_at "m_om") (by rw [List.length_map]; walk_at "m_om") fun s6 x6 hl6 => ?_
        refine wpAny_execs_cons (wpAny_Return_none ?_)
        refine kk s6 F5 (((((x1.weaken fun _ q => q.elim).trans' (x2.weaken fun _ q => q.elim)).trans' (x3.weaken fun _ q => q.elim)).trans' (x5.weaken fun _ q => q.elim)).trans' x6) ?_
        rw [show L + 1 - L = 1 by walk_at "m_om"] at h5 ⊢
        rw [Nat.mul_one] at h5
        rw [show digsB n x 1 = [x] by rw [digsB, digsB, Nat.mod_eq_of_lt h5], putAt_one (by walk_at "m_om")]
        have e : natsL (acc.set L x) = (natsL acc).set L (.int (x : Int)) := List.map_set ..
        rw [e]
        exact hl6
      have hX : Xs (G.pin P (innerPos "_int2digits") c' F0) A2 (mkE (innerOf "_int2digits").2.2 L' cs' q' (some f) cd' fr') al (innerOf "_int2digits").2.1 ([("a_digits", En.own al (natsL acc)), ("inner", En.v (.fn f)), ("n", En.v (.int (n : Int))), ("x", En.v (.int (x : Int))), ("L", En.v (.int (L : Int))), ("R", En.v (.int (R : Int)))] : Ro) (fun o => match o with | .next ρ' => (("a_digits" : Str), En.own al (natsL (putAt acc L (digsB n x (R - L))))) ∈ ρ' | _ => False) := by
        have kb : (innerOf "_int2digits").2.2.names.lookup ("inner" : Str) = some .free := by decide +kernel
        have kc : (innerOf "_int2digits").2.2.names.lookup ("n" : Str) = some .free := by decide +kernel
        have hJ : ∀ (ρ : Ro) (acc : List D), (("a_digits" : Str), En.own al acc) ∈ ρ → (("inner" : Str), En.v (.fn f)) ∈ ρ → (("n" : Str), En.v (.int (n : Int))) ∈ ρ → ∀ s F, In (G.pin P (innerPos "_int2digits") c' F0) (mkE (innerOf "_int2digits").2.2 L' cs' q' (some f) cd' fr') al s F ρ → JI c1 c2 c3 al f n s := by
          intro ρ acc m1 m2 m3 s F i
          have cellOf : ∀ {y v c}, VarAt (mkE (innerOf "_int2digits").2.2 L' cs' q' (some f) cd' fr') s.heap y v → (innerOf "_int2digits").2.2.names.lookup y = some .free → clos.lookup y = some c → s.heap.IsCell c (some v) := by
            intro y v c hv hk hc
            rcases hv with ⟨hk2, _⟩ | ⟨_, c', q1, q2⟩
            · exact absurd (hk.symm.trans hk2) (by decide)
            · have := (hfree _ _ hk hc).symm.trans q1
              cases this; exact q2
          obtain ⟨va, _⟩ := i.vars.at' _ m1
          obtain ⟨v2, vb, r2⟩ := i.vars.at' _ m2
          obtain ⟨v3, vc, r3⟩ := i.vars.at' _ m3
          cases r2; cases r3
          exact ⟨cellOf va ka l1, cellOf vb kb l2, _, cellOf vc kc l3⟩
        clear ii2 ii x1 kk
        generalize hsc : (innerOf (Str.ofString "_int2digits")).2.2 = sc at *
        conv at hsc => lhs; whnf
        subst hsc
        have hf0 := fk2
        conv => arg 5; whnf
        refine xs_if (ts_cmp (ev_bin (by walk_at "m_ev") (show Evals _ _ _ _ _ (D.int ((1 : Nat) : Int)) from ev_int) o_addN) (by walk_at "m_ev") c_eq (by with_unfolding_all rfl)) (fun hb => by rw [beq_iff_eq] at hb; walk_at "m_om") fun hb => xs_on ?_
        have hmid1 : L < (L + R) / 2 := by walk_at "m_om"
        have hmid2 : (L + R) / 2 < R := by walk_at "m_om"
        have e2 : (L + R) / 2 ^ 1 = (L + R) / 2 := by walk_at "m_om"
        refine xs_assign (d := .int (((L + R) / 2 : Nat) : Int)) hf0 (ev_bin (ev_bin (by walk_at "m_ev") (by walk_at "m_ev") o_addN) (show Evals _ _ _ _ _ (D.int ((1 : Nat) : Int)) from ev_int) (o_shrN.cast (by rw [e2]))) (by walk_at "m_hold") (by walk_at "m_put") (by with_unfolding_all rfl) ?_
        generalize (L + R) / 2 = mid at hmid1 hmid2 ⊢
        refine xs_assign (d := .int (((mid - L) * n : Nat) : Int)) hf0 (ev_bin (ev_bin (d1 := .int (mid : Int)) (d2 := .int (L : Int)) (by walk_at "m_ev") (by walk_at "m_ev") (o_sub.cast (d' := .int ((mid - L : Nat) : Int)) (by congr 1; walk_at "m_om"))) (by walk_at "m_ev") (o_mulN (k := 20) (by walk_at "m_om") (by walk_at "m_om") (by walk_at "m_om"))) (by walk_at "m_hold") (by walk_at "m_put") (by with_unfolding_all rfl) ?_
        have bx : x < 2 ^ (n * 200) := Nat.lt_of_lt_of_le h5 (Nat.pow_le_pow_right (by decide) (Nat.mul_le_mul_left n (by walk_at "m_om")))
        have b2 : n * 200 + (mid - L) * n ≤ 100000000 := by
          have : (mid - L) * n ≤ 200 * 10000 := Nat.mul_le_mul (by walk_at "m_om") hn
          walk_at "m_om"
        refine xs_assign (d := .int ((x / 2 ^ ((mid - L) * n) : Nat) : Int)) hf0 (ev_bin (by walk_at "m_ev") (by walk_at "m_ev") o_shrN) (by walk_at "m_hold") (by walk_at "m_put") (by with_unfolding_all rfl) ?_
        refine xs_assign (d := .int ((x % 2 ^ ((mid - L) * n) : Nat) : Int)) hf0 (ev_bin (by walk_at "m_ev") (ev_bin (by walk_at "m_ev") (by walk_at "m_ev") (o_shlN (Nat.lt_of_le_of_lt (Nat.div_le_self _ _) bx) b2)) o_xorN) (by walk_at "m_hold") (by walk_at "m_put") (by with_unfolding_all rfl) ?_
        have q1 := ih L mid (x % 2 ^ ((mid - L) * n)) acc (by walk_at "m_om") hmid1 (by walk_at "m_om") h4 (by rw [Nat.mul_comm n]; exact Nat.mod_lt _ (Nat.two_pow_pos _)) A2 hr'
        have ld1 := digsB_len n (x % 2 ^ ((mid - L) * n)) (mid - L)
        have lp := putAt_len (acc := acc) (ds := digsB n (x % 2 ^ ((mid - L) * n)) (mid - L)) (L := L) (by rw [ld1]; walk_at "m_om")
        have hup : x / 2 ^ ((mid - L) * n) < 2 ^ (n * (R - mid)) := by
          refine Nat.div_lt_of_lt_mul ?_
          rw [← Nat.pow_add, Nat.mul_comm (mid - L), ← Nat.mul_add, show mid - L + (R - mid) = R - L by walk_at "m_om"]; exact h5
        have q2 := ih mid R (x / 2 ^ ((mid - L) * n)) (putAt acc L (digsB n (x % 2 ^ ((mid - L) * n)) (mid - L))) (by walk_at "m_om") hmid2 (by rw [lp]; exact h3) (by rw [lp]; exact h4) hup A2 hr'
        refine xs_cons (x_callmut (y := "a_digits") hf0.toEnvF (by walk_at "m_mem") (by walk_at "m_mem") (by walk_at "m_evs") (hJ _ _ (by walk_at "m_mem") (by walk_at "m_mem") (by walk_at "m_mem")) q1 (by walk_at "m_put") ?_ (by with_unfolding_all rfl))
        refine xs_cons (x_callmut (y := "a_digits") hf0.toEnvF (by walk_at "m_mem") (by walk_at "m_mem") (by walk_at "m_evs") (hJ _ _ (by walk_at "m_mem") (by walk_at "m_mem") (by walk_at "m_mem")) q2 (by walk_at "m_put") ?_ (by with_unfolding_all rfl))
        refine xs_nil ?_
        have efin : putAt (putAt acc L (digsB n (x % 2 ^ ((mid - L) * n)) (mid - L))) mid (digsB n (x / 2 ^ ((mid - L) * n)) (R - mid)) = putAt acc L (digsB n x (R - L)) := by
          have := putAt_two (acc := acc) (L := L) (d1 := digsB n (x % 2 ^ ((mid - L) * n)) (mid - L)) (d2 := digsB n (x / 2 ^ ((mid - L) * n)) (R - mid)) (by rw [digsB_len, digsB_len]; walk_at "m_om")
          rw [digsB_len, show L + (mid - L) = mid by walk_at "m_om"] at this
          rw [this, show R - L = (mid - L) + (R - mid) by walk_at "m_om", digsB_add, Nat.mul_comm n]
        rw [efin]
        exact .head _
      refine hX.run s1 F ii2 _ _ fun o fl s2 F2 hP hO x2 hok => ?_
      cases o with
      | next ρ' =>
        obtain ⟨rfl, i4⟩ := hok
        obtain ⟨_, hF4, _, hl4⟩ := i4.vars.at' _ hP
        refine kk s2 F2 ((x1.weaken fun _ q => q.elim).trans x2 fun b mb => ?_) ⟨hF4, hl4⟩
        rcases mb with mb | ⟨y, hy, _⟩ | mb
        · exact .inr (by subst mb; exact fk.loc)
        · exact absurd hy (hnc y)
        · exact .inl (List.mem_singleton.mp mb)
      | _ => exact hP.elim
/- E12 -/
theorem sc_int2digits : ScOk (scopeOf "_int2digits") ["a", "n"] := ⟨by decide +kernel, by decide +kernel, by decide +kernel, by decide +kernel, by decide +kernel, by decide +kernel, by decide +kernel, by decide +kernel⟩
theorem Evals.cast {G : Gx} {A : Around} {env : Env} {ρ : Ro} {e : Expr} {d d' : D} (h : Evals G A env ρ e d) (q : d = d') : Evals G A env ρ e d' := q ▸ h
theorem In.pin {G : Gx} {env : Env} {N : Nat} {s : Shared} {F : Fz} {ρ : Ro} {P : Addr} {pos : Pos} {c' : Addr} (i : In G env N s F ρ) (h : TabIs s P pos c') : In (G.pin P pos c' F) env N s F ρ :=
  ⟨i.good.pin h, ⟨fun p hp => by have q := i.vars.at' p hp; obtain ⟨x, e⟩ := p; cases e <;> exact q, i.vars.names, i.vars.owns⟩, i.frm, i.own, i.size⟩
theorem FrOk.pin {G : Gx} {env : Env} {N : Nat} {F : Fz} {P : Addr} {pos : Pos} {c' : Addr} (fr : FrOk G env N) : FrOk (G.pin P pos c' F) env N := { fr with base := fr.base }
theorem natsL_zero : ∀ k, (List.replicate k ([.int 0] : List D)).flatten = natsL (List.replicate k 0)
  | 0 => rfl
  | k + 1 => by rw [List.replicate_succ, List.flatten_cons, natsL_zero k]; rfl
theorem putAt_all {k : Nat} {ds : List Nat} (h : ds.length = k) : putAt (List.replicate k 0) 0 ds = ds := by
  unfold putAt
  rw [List.take_zero, List.nil_append, Nat.zero_add, List.drop_of_length_le (by rw [List.length_replicate, h]; exact Nat.le_refl _), List.append_nil]
def nDig (a n : Nat) : Nat := (Builtin.Int.intBits (a : Int) + n - 1) / n
theorem nDig_lt {a n : Nat} (hn : 1 ≤ n) : a < 2 ^ (n * nDig a n) := by
  refine Nat.lt_of_lt_of_le (lt_of_bits a) (Nat.pow_le_pow_right (by decide) ?_)
  unfold nDig
  generalize Builtin.Int.intBits (a : Int) = b
  have h1 := Nat.div_add_mod (b + n - 1) n
  have h2 := Nat.mod_lt (b + n - 1) (show n > 0 by walk_at "m_om")
  walk_at "m_om"
theorem nDig_zero (n : Nat) (hn : 1 ≤ n) : nDig 0 n = 0 := by
  unfold nDig
  rw [show Builtin.Int.intBits ((0 : Nat) : Int) = 0 by decide]
  exact Nat.div_eq_of_lt (by walk_at "m_om")
theorem ji_of {G : Gx} {env : Env} {N : Nat} {ρ : Ro} {s : Shared} {F : Fz} {c1 c2 c3 al f : Addr} {n : Nat} {acc : List D} (i : In G env N s F ρ) (m1 : (("a_digits" : Str), En.own al acc) ∈ ρ) (m2 : (("inner" : Str), En.v (.fn f)) ∈ ρ) (m3 : (("n" : Str), En.v (.int (n : Int))) ∈ ρ)
    (k1 : env.kindOf "a_digits" = some .cell ∧ env.cells.lookup ("a_digits" : Str) = some c1) (k2 : env.kindOf "inner" = some .cell ∧ env.cells.lookup ("inner" : Str) = some c2) (k3 : env.kindOf "n" = some .cell ∧ env.cells.lookup ("n" : Str) = some c3) : JI c1 c2 c3 al f n s := by
  have cellOf : ∀ {y v c}, VarAt env s.heap y v → env.kindOf y = some NameKind.cell ∧ env.cells.lookup y = some c → s.heap.IsCell c (some v) := by
    intro y v c hv hk
    rcases hv with ⟨hk2, _⟩ | ⟨_, c', q1, q2⟩
    · exact absurd (hk.1.symm.trans hk2) (by decide)
    · have := hk.2.symm.trans q1
      cases this; exact q2
  obtain ⟨va, _⟩ := i.vars.at' _ m1
  obtain ⟨v2, vb, r2⟩ := i.vars.at' _ m2
  obtain ⟨v3, vc, r3⟩ := i.vars.at' _ m3
  cases r2; cases r3
  exact ⟨cellOf va k1, cellOf vb k2, _, cellOf vc k3⟩
theorem fn_int2digits {G : Gx} (hTn : Tn G) (a n : Nat) (hn1 : 1 ≤ n) (hn : n ≤ 10000) (h200 : nDig a n ≤ 200) : Fn G (nDig a n + 3) "_int2digits" [.int (a : Int), .int (n : Int)] (natsD (digsB n a (nDig a n))) := by
  obtain ⟨c, P, hD, hN⟩ := hTn.i2d
  have hT := hTn.tp
  refine fn_ofC hD sc_int2digits rfl (by decide +kernel) fun A L' cs' a' fr' N hr hf hown => ?_
  have hN0 := hN
  generalize hsc : scopeOf (Str.ofString "_int2digits") = sc at *
  conv at hsc => lhs; whnf
  subst hsc
  have hown2 : OwnC _ _ _ := ⟨hown⟩
  conv => arg 5; whnf
  generalize hip : innerPos _ = ip at hN
  conv at hip => lhs; whnf
  subst hip
  show Xs _ _ _ _ _ [("a", En.v _), ("n", En.v _)] _
  have hlt := nDig_lt (a := a) hn1
  have hkz := nDig_zero n hn1
  have hb0 : nDig a n = (Builtin.Int.intBits (a : Int) + n - 1) / n := rfl
  generalize nDig a n = kk at *
  refine xs_newrep (n := kk) (l := [.int 0]) (ρ' := fun al => ([("a", En.v (.int (a : Int))), ("n", En.v (.int (n : Int))), ("a_digits", En.own al (List.replicate kk ([.int 0] : List D)).flatten)] : Ro)) hf (by walk_at "m_ev")
    (ev_bin (d1 := .int ((Builtin.Int.intBits (a : Int) + n - 1 : Nat) : Int)) (ev_bin (d1 := .int ((Builtin.Int.intBits (a : Int) + n : Nat) : Int)) (ev_bin (evM_bits (by walk_at "m_ev") (by with_unfolding_all rfl) (by with_unfolding_all rfl)) (by walk_at "m_ev") o_addN) (show Evals _ _ _ _ _ (D.int ((1 : Nat) : Int)) from ev_int) (o_sub.cast (by congr 1; walk_at "m_om"))) (by walk_at "m_ev") ((o_div (by walk_at "m_om") (PyProof.noPylong_small (by walk_at "m_om"))).cast (by rw [fdiv_nat, ← hb0]))) (by walk_at "m_hold") (fun al => by walk_at "m_put") (by simp; walk_at "m_om") (by walk_at "m_om") (by with_unfolding_all rfl) fun al hal => ?_
  rw [natsL_zero]
  refine .mk fun s F i Q E k => wpAny_execs_cons (x_def (ρ' := fun f => ([("a", En.v (.int (a : Int))), ("n", En.v (.int (n : Int))), ("a_digits", En.own al (natsL (List.replicate kk 0))), ("inner", En.v (.fn f))] : Ro)) hf hN rfl (by dsimp only [Env.kindOf, mkE]; decide +kernel) (by walk_at "m_hold") (fun f => by walk_at "m_put") rfl rfl rfl s F i _ _ fun f c' clos s1 F1 i1 x1 hm ht hsz hc1 hc2 => ?_)
  have hcl : ∀ x c, clos.lookup x = some c → (x, NameKind.free) ∈ (innerOf "_int2digits").2.2.names := fun x c h => (hc1 x c h).1
  obtain ⟨c1, l1⟩ := hc2 "a_digits" (by decide +kernel)
  obtain ⟨c2, l2⟩ := hc2 "inner" (by decide +kernel)
  obtain ⟨c3, l3⟩ := hc2 "n" (by decide +kernel)
  have k1 : c1 < al := hal "a_digits" c1 (by dsimp only [Env.kindOf, mkE]; decide +kernel) (hc1 _ _ l1).2
  have k2 : c2 < al := hal "inner" c2 (by dsimp only [Env.kindOf, mkE]; decide +kernel) (hc1 _ _ l2).2
  have k3 : c3 < al := hal "n" c3 (by dsimp only [Env.kindOf, mkE]; decide +kernel) (hc1 _ _ l3).2
  have hb : G.h₁.objs.size ≤ al := by
    obtain ⟨_, _, h, _⟩ := i1.vars.at' (("a_digits" : Str), En.own al (natsL (List.replicate kk 0))) (.tail _ (.tail _ (.head _)))
    exact h
  have hff := i1.good.ff
  have i2 := i1.pin ht
  have hf2 := hf.pin (P := P) (pos := (innerPos "_int2digits")) (c' := c') (F := F1)
  have hpos : 0 < a → 0 < kk := fun h => by
    rcases Nat.eq_zero_or_pos kk with e | e
    · rw [e] at hlt; simp at hlt; walk_at "m_om"
    · exact e
  have hbl := hT.bi "len" (by decide +kernel)
  refine Does.run (P := RetIs (natsD (digsB n a kk))) (ρ := ([("a", En.v (.int (a : Int))), ("n", En.v (.int (n : Int))), ("a_digits", En.own al (natsL (List.replicate kk 0))), ("inner", En.v (.fn f))] : Ro)) ?_ s1 F1 i2 _ _ fun o fl s2 F2 hP hO x2 hok => ?_
  · refine xs_if (b := ((a : Int) != 0)) (ts_int (ev_name hf2.toEnvF (by walk_at "m_mem")) (by with_unfolding_all rfl)) (fun hb2 => ?_) (fun hb2 => ?_)
    · have ha : 0 < a := by simp at hb2; walk_at "m_om"
      have q1 := inner_i2d hN0 hff hm hcl n hn l1 l2 l3 hb k1 k2 k3 kk 0 kk a (List.replicate kk 0) (by walk_at "m_om") (hpos ha) (by simp) (by simpa using h200) (by simpa using hlt) A (hr.le (by walk_at "m_om"))
      refine xs_cons (x_callmut (y := "a_digits") hf2.toEnvF (by walk_at "m_mem") (by walk_at "m_mem") (evl_cons (ev_name hf2.toEnvF (by walk_at "m_mem")) (evl_cons (show Evals _ _ _ _ _ (D.int ((0 : Nat) : Int)) from ev_int) (evl_cons ?_ evl_nil))) (fun s F i => ji_of i (by walk_at "m_mem") (by walk_at "m_mem") (by walk_at "m_mem") ⟨by dsimp only [Env.kindOf, mkE]; decide +kernel, (hc1 _ _ l1).2⟩ ⟨by dsimp only [Env.kindOf, mkE]; decide +kernel, (hc1 _ _ l2).2⟩ ⟨by dsimp only [Env.kindOf, mkE]; decide +kernel, (hc1 _ _ l3).2⟩) q1 (by walk_at "m_put") ?_ (by with_unfolding_all rfl))
      · exact Evals.cast (ev_len_own (ds := natsL (List.replicate kk 0)) hf2.toEnvF (by walk_at "m_kd") hbl (by walk_at "m_mem") (by simp; walk_at "m_om") (by with_unfolding_all rfl)) (by simp)
      · rw [putAt_all (by simp [digsB_len]), Nat.sub_zero]
        refine xs_on (xs_freeze (x := "a_digits") hf2 (by walk_at "m_mem") (by walk_at "m_put") (xs_return (d := .lst (natsL (digsB n a kk))) (ev_name hf2.toEnvF (by walk_at "m_mem")) rfl))
    · have ha : a = 0 := by simp at hb2; walk_at "m_om"
      subst ha
      have e0 : kk = 0 := by rw [hb0]; exact hkz
      subst e0
      refine xs_on (xs_freeze (x := "a_digits") hf2 (by walk_at "m_mem") (by walk_at "m_put") (xs_return (d := .lst (natsL (List.replicate 0 0))) (ev_name hf2.toEnvF (by walk_at "m_mem")) rfl))
  · have x2' := (x2.unpin hff)
    cases o with
    | ret d' =>
      cases (show d' = _ from hP)
      obtain ⟨v, rfl, rv⟩ := hok
      refine k (.ret _) (.ret v) s2 F2 rfl trivial (x1.trans x2' fun b mb => ?_) ⟨v, rfl, rv⟩
      rcases mb with mb | mb | mb
      · exact .inl (.inl mb)
      · exact .inl (.inr (.inl mb))
      · exact .inl (.inr (.inr mb))
    | next ρ' => exact absurd (show natsD (digsB n a kk) = .none from hP) (by intro h; cases h)
    | brk => exact hP.elim
    | cont => exact hP.elim
/- E13 -/
theorem sc_divmod_pos : ScOk (scopeOf "_divmod_pos") ["a", "b"] := ⟨by decide +kernel, by decide +kernel, by decide +kernel, by decide +kernel, by decide +kernel, by decide +kernel, by decide +kernel, by decide +kernel⟩
theorem Fn.up {G : Gx} {f : Str} {ds : List D} {d : D} {k k' : Nat} (h : Fn G k f ds d) (hk : k ≤ k') : Fn G k' f ds d := by
  obtain ⟨a, o, fd, h1, h2, h3, h4⟩ := h
  exact ⟨a, o, fd, h1, h2, h3, fun A hr => h4 A (hr.le hk)⟩
theorem divstep {V b d n : Nat} (hb : 0 < b) : (V * 2 ^ n + d) / b = (V / b) * 2 ^ n + ((V % b) * 2 ^ n + d) / b ∧ (V * 2 ^ n + d) % b = ((V % b) * 2 ^ n + d) % b := by
  have e : V * 2 ^ n + d = (V / b * 2 ^ n) * b + ((V % b) * 2 ^ n + d) := by
    have h := Nat.div_add_mod V b
    have h2 : V * 2 ^ n = (b * (V / b) + V % b) * 2 ^ n := by rw [h]
    rw [h2, Nat.add_mul, Nat.add_assoc]
    congr 1
    rw [Nat.mul_comm b, Nat.mul_assoc, Nat.mul_comm b, ← Nat.mul_assoc]
  constructor
  · conv => lhs; rw [e]
    rw [Nat.add_comm, Nat.add_mul_div_right _ _ hb, Nat.add_comm]
  · conv => lhs; rw [e]
    rw [Nat.add_comm, Nat.add_mul_mod_self_right]
theorem fn_divmod_pos {G : Gx} (hTn : Tn G) (a b : Nat) (hb : 0 < b) (hn : Builtin.Int.intBits (b : Int) ≤ 7999) (h200 : nDig a (Builtin.Int.intBits (b : Int)) ≤ 200) : Fn G 300 "_divmod_pos" [.int (a : Int), .int (b : Int)] (pairD (a / b) (a % b)) := by
  have hT := hTn.tp
  have hn1 : 1 ≤ Builtin.Int.intBits (b : Int) := by
    rcases Nat.eq_zero_or_pos (Builtin.Int.intBits (b : Int)) with e | e
    · have := lt_of_bits b; rw [e] at this; walk_at "m_om"
    · exact e
  have hbn := lt_of_bits b
  have hbl : 2 ^ (Builtin.Int.intBits (b : Int) - 1) ≤ b := by
    rcases Nat.lt_or_ge b (2 ^ (Builtin.Int.intBits (b : Int) - 1)) with h | h
    · have := bits_of_lt h; walk_at "m_om"
    · exact h
  show Fn G (299 + 1) _ _ _
  refine fn_of (hT.defs "_divmod_pos" ["a", "b"] (by decide +kernel) (by decide +kernel)) sc_divmod_pos rfl (by decide +kernel) fun A L' cs' q' a' fr' cd' N hr hf hown => ?_
  generalize hsc : scopeOf (Str.ofString "_divmod_pos") = sc at *
  conv at hsc => lhs; whnf
  subst hsc
  have hown2 : OwnC _ _ _ := ⟨hown⟩
  conv => arg 5; whnf
  show Xs _ _ _ _ _ [("a", En.v _), ("b", En.v _)] _
  have hI := fn_int2digits hTn a (Builtin.Int.intBits (b : Int)) hn1 (by walk_at "m_om") h200
  have hlt := nDig_lt (a := a) hn1
  refine xs_assign (d := .int ((Builtin.Int.intBits (b : Int) : Nat) : Int)) hf (evM_bits (by walk_at "m_ev") (by with_unfolding_all rfl) (by with_unfolding_all rfl)) (by walk_at "m_hold") (by walk_at "m_put") (by with_unfolding_all rfl) ?_
  generalize nDig a (Builtin.Int.intBits (b : Int)) = kk at *
  generalize Builtin.Int.intBits (b : Int) = n at *
  have hI := hI.up (k' := 299) (by walk_at "m_om")
  refine xs_assign hf (ev_call' (by walk_at "m_en") (by walk_at "m_kd") (by walk_at "m_evs") hI (by walk_at "m_room") (by with_unfolding_all rfl)) (by walk_at "m_hold") (by walk_at "m_put") (by with_unfolding_all rfl) ?_
  refine xs_assign (d := .int ((0 : Nat) : Int)) hf (show Evals _ _ _ _ _ (D.int ((0 : Nat) : Int)) from ev_int) (by walk_at "m_hold") (by walk_at "m_put") (by with_unfolding_all rfl) ?_
  refine xs_new (ρ' := fun al => [("a", En.v (.int (a : Int))), ("b", En.v (.int (b : Int))), ("n", En.v (.int (n : Int))), ("a_digits", En.v (natsD (digsB n a kk))), ("r", En.v (.int ((0 : Nat) : Int))), ("q_digits", En.own al [])]) hf (by walk_at "m_evs") (by walk_at "m_hold") (fun a => by walk_at "m_put") (by decide) (by with_unfolding_all rfl) (by with_unfolding_all rfl) fun al => ?_
  have hbr := hT.bi "reversed" (by decide +kernel)
  refine xs_for (by walk_at "m_room") hf (it_reversed (ds := natsL (digsB n a kk)) (by walk_at "m_room") (by walk_at "m_en") (by walk_at "m_kd") hbr.1 hbr.2 (show Evals _ _ _ _ _ (natsD (digsB n a kk)) from (by walk_at "m_ev")) rfl (by with_unfolding_all rfl)) (by intro _; rfl) ?_
  rw [show (natsL (digsB n a kk)).reverse = (digsB n a kk).reverse.map (fun (k : Nat) => D.int k) from (List.map_reverse ..).symm]
  refine loop_invS (fun (k : Nat) => D.int k) (fun rest ρ => ∃ (V : Nat) (q : List Nat), ([("a", En.v (.int (a : Int))), ("b", En.v (.int (b : Int))), ("n", En.v (.int (n : Int))), ("a_digits", En.v (natsD (digsB n a kk))), ("r", En.v (.int ((V % b : Nat) : Int))), ("q_digits", En.own al (natsL q))] : Ro).Sublist ρ ∧
    V * 2 ^ (n * rest.length) + valB n rest.reverse = a ∧ valB n q.reverse = V / b ∧ q.length + rest.length = kk ∧ (∀ d ∈ q, d < 2 ^ n) ∧ ∀ d ∈ rest, d < 2 ^ n) ?_ ?_ _ _ ⟨0, [], by rw [Nat.zero_mod]; exact List.Sublist.refl _, ?_, ?_, by simp [digsB_len], fun d h => (by cases h), fun d h => digsB_lt n a kk d (List.mem_reverse.mp h)⟩
  · rintro ρ ⟨V, q, hs, h1, h2, h3, h4, _⟩
    have hV : V = a := by simpa [valB] using h1
    subst hV
    have hq3 : q.length = kk := by simpa using h3
    refine xs_forget hs (xs_cons (x_reverse (x := "q_digits") hf (by walk_at "m_mem") (by walk_at "m_put") ?_ (by rw [List.length_map]; walk_at "m_om") (by with_unfolding_all rfl) (by with_unfolding_all rfl) (by with_unfolding_all rfl) (by with_unfolding_all rfl)))
    refine xs_freeze (x := "q_digits") hf (by walk_at "m_mem") (by walk_at "m_put") ?_
    have hD := (fn_digits2int hTn q.reverse n (by rw [List.length_reverse]; walk_at "m_om") (by walk_at "m_om") fun d h => h4 d (List.mem_reverse.mp h)).up (k' := 299) (by rw [List.length_reverse]; walk_at "m_om")
    rw [show natsD q.reverse = .lst (natsL q).reverse by unfold natsD; rw [List.map_reverse], h2] at hD
    refine xs_assign hf (ev_call' (by walk_at "m_en") (by walk_at "m_kd") (by walk_at "m_evs") hD (by walk_at "m_room") (by with_unfolding_all rfl)) (by walk_at "m_hold") (by walk_at "m_put") (by with_unfolding_all rfl) ?_
    exact xs_return (by walk_at "m_ev") rfl
  · rintro d rest ρ ⟨V, q, hs, h1, h2, h3, h4, h5⟩
    have hd := h5 d List.mem_cons_self
    have hr := Nat.mod_lt V hb
    have hx : (V % b) * 2 ^ n + d < b * 2 ^ n := by
      have := Nat.mul_le_mul_right (2 ^ n) (show V % b + 1 ≤ b from hr)
      rw [Nat.add_mul, Nat.one_mul] at this; walk_at "m_om"
    have h2d := (fn_d2 hT ((V % b) * 2 ^ n + d) b n hn1 hbl hbn hx hn (k := 0)).up (k' := 299) (by walk_at "m_om")
    obtain ⟨e1, e2⟩ := divstep (V := V) (d := d) (n := n) hb
    refine ⟨_, _, hs, .name (by walk_at "m_hold") (by walk_at "m_put"), ?_⟩
    refine xs_unpack (by walk_at "m_room") hf (ev_call' (by walk_at "m_en") (by walk_at "m_kd") (evl_cons (ev_bin (ev_bin (by walk_at "m_ev") (by walk_at "m_ev") (o_shlN (k := n) (Nat.lt_trans hr hbn) (by walk_at "m_om"))) (by walk_at "m_ev") o_addN) (evl_cons (by walk_at "m_ev") (evl_cons (by walk_at "m_ev") evl_nil))) h2d (by walk_at "m_room") (by with_unfolding_all rfl)) (.tup (by rfl) (by simp only [List.map, tgt]; walk_at "m_puts")) (by with_unfolding_all rfl) (by with_unfolding_all rfl) ?_
    refine xs_append (x := "q_digits") hf (by walk_at "m_mem") (ev_name hf.toEnvF (by walk_at "m_mem")) (by walk_at "m_put") (by rw [List.length_map]; simp only [List.length_cons] at h3; walk_at "m_om") (by with_unfolding_all rfl) (by with_unfolding_all rfl) (by with_unfolding_all rfl) (by with_unfolding_all rfl) (by with_unfolding_all rfl) ?_
    refine xs_nil ⟨V * 2 ^ n + d, q ++ [((V % b) * 2 ^ n + d) / b], ?_, ?_, ?_, ?_, ?_, fun x hx => h5 x (List.mem_cons_of_mem _ hx)⟩
    · rw [e2, show natsL (q ++ [((V % b) * 2 ^ n + d) / b]) = natsL q ++ [.int ((((V % b) * 2 ^ n + d) / b : Nat) : Int)] from List.map_append ..]
      exact (by walk_at "m_sub")
    · have e3 : valB n [d] = d := by simp [valB]
      rw [List.length_cons, List.reverse_cons, valB_append, List.length_reverse, e3, Nat.mul_add, Nat.mul_one, Nat.pow_add] at h1
      rw [Nat.add_mul, ← h1, Nat.mul_assoc, Nat.mul_comm (2 ^ n) (2 ^ (n * rest.length)), Nat.add_assoc, Nat.add_comm (d * _)]
    · rw [List.reverse_append, List.reverse_cons, List.reverse_nil, List.nil_append, List.cons_append, List.nil_append, valB, h2, e1]; exact Nat.add_comm _ _
    · simp only [List.length_append, List.length_cons, List.length_nil] at h3 ⊢; walk_at "m_om"
    · intro x hx'
      rcases List.mem_append.mp hx' with h | h
      · exact h4 x h
      · rw [List.mem_singleton] at h; subst h
        exact Nat.div_lt_of_lt_mul hx
  · rw [List.reverse_reverse, Nat.zero_mul, Nat.zero_add]
    exact valB_digsB n a kk hlt
  · simp [valB]
/- E14 -/
theorem scint_divmod : ScOk (scopeOf "int_divmod") ["a", "b"] := ⟨by decide +kernel, by decide +kernel, by decide +kernel, by decide +kernel, by decide +kernel, by decide +kernel, by decide +kernel, by decide +kernel⟩
abbrev pairI (q r : Int) : D := .tup [.int q, .int r]
theorem nDig_le {a n : Nat} (h : Builtin.Int.intBits (a : Int) ≤ 200 * n) (hn : 1 ≤ n) : nDig a n ≤ 200 := by
  unfold nDig
  exact Nat.le_of_lt_succ ((Nat.div_lt_iff_lt_mul (by walk_at "m_om")).mpr (by rw [Nat.succ_mul]; walk_at "m_om"))
theorem bits_pos {b : Nat} (hb : 0 < b) : 1 ≤ Builtin.Int.intBits (b : Int) := by
  rcases Nat.eq_zero_or_pos (Builtin.Int.intBits (b : Int)) with e | e
  · have := lt_of_bits b; rw [e] at this; walk_at "m_om"
  · exact e
theorem bits_mono {x y : Int} (h : x.natAbs ≤ y.natAbs) : Builtin.Int.intBits x ≤ Builtin.Int.intBits y :=
  PySem.intBits_le_iff.mpr (Nat.lt_of_le_of_lt h (PySem.intBits_le_iff.mp (Nat.le_refl _)))
theorem fn_divmod0 {G : Gx} (hTn : Tn G) (a b : Nat) (hb : 0 < b) (hn : Builtin.Int.intBits (b : Int) ≤ 7999) (h200 : Builtin.Int.intBits (a : Int) ≤ 200 * Builtin.Int.intBits (b : Int)) : Fn G 301 "int_divmod" [.int (a : Int), .int (b : Int)] (pairI ((a : Int).fdiv b) ((a : Int).fmod b)) := by
  have hT := hTn.tp
  have hP := fn_divmod_pos hTn a b hb hn (nDig_le h200 (bits_pos hb))
  rw [show pairD (a / b) (a % b) = pairI ((a : Int).fdiv b) ((a : Int).fmod b) by rw [fdiv_nat, fmod_nat]] at hP
  show Fn G (300 + 1) _ _ _
  refine fn_of (hT.defs "int_divmod" ["a", "b"] (by decide +kernel) (by decide +kernel)) scint_divmod rfl (by decide +kernel) fun A L' cs' q' a' fr' cd' N hr hf hown => ?_
  generalize hsc : scopeOf (Str.ofString "int_divmod") = sc at *
  conv at hsc => lhs; whnf
  subst hsc
  have hown2 : OwnC _ _ _ := ⟨hown⟩
  conv => arg 5; whnf
  show Xs _ _ _ _ _ [("a", En.v _), ("b", En.v _)] _
  refine xs_if (by walk_at "m_ts") (fun h => by rw [beq_iff_eq] at h; walk_at "m_om") fun _ => ?_
  refine xs_if (by walk_at "m_ts") (fun h => by rw [decide_eq_true_iff] at h; walk_at "m_om") fun _ => ?_
  refine xs_if (by walk_at "m_ts") (fun h => by rw [decide_eq_true_iff] at h; walk_at "m_om") fun _ => ?_
  exact xs_return (ev_call' (by walk_at "m_en") (by walk_at "m_kd") (by walk_at "m_evs") hP (by walk_at "m_room") (by with_unfolding_all rfl)) rfl
theorem not_div {a : Int} {b : Nat} (ha : ¬ 0 ≤ a) (hb : 0 < b) : Builtin.bitNot ((Builtin.bitNot a).fdiv b) = a.fdiv b ∧ (b : Int) + Builtin.bitNot ((Builtin.bitNot a).fmod b) = a.fmod b := by
  have hb' : (0 : Int) < b := by walk_at "m_om"
  rw [Int.fdiv_eq_ediv_of_nonneg _ (by walk_at "m_om"), Int.fdiv_eq_ediv_of_nonneg _ (by walk_at "m_om"), Int.fmod_eq_emod_of_nonneg _ (by walk_at "m_om"), Int.fmod_eq_emod_of_nonneg _ (by walk_at "m_om")]
  unfold Builtin.bitNot
  have h1 := Int.mul_ediv_add_emod (-a - 1) b
  have h2 := Int.emod_nonneg (-a - 1) (show (b : Int) ≠ 0 by walk_at "m_om")
  have h3 := Int.emod_lt_of_pos (-a - 1) hb'
  obtain ⟨e1, e2⟩ := (Int.ediv_emod_unique (a := a) (b := (b : Int)) (r := b + (-((-a - 1) % b) - 1)) (q := -((-a - 1) / b) - 1) hb').mpr ⟨by rw [Int.mul_sub, Int.mul_neg, Int.mul_one]; walk_at "m_om", by walk_at "m_om", by walk_at "m_om"⟩
  exact ⟨e1.symm, e2.symm⟩
theorem fn_divmod1 {G : Gx} (hTn : Tn G) (a : Int) (b : Nat) (hb : 0 < b) (hn : Builtin.Int.intBits (b : Int) ≤ 7999) (h200 : Builtin.Int.intBits a ≤ 200 * Builtin.Int.intBits (b : Int)) : Fn G 302 "int_divmod" [.int a, .int (b : Int)] (pairI (a.fdiv b) (a.fmod b)) := by
  have hT := hTn.tp
  by_cases ha : 0 ≤ a
  · obtain ⟨a, rfl⟩ := Int.eq_ofNat_of_zero_le ha
    exact (fn_divmod0 hTn a b hb hn h200).up (by walk_at "m_om")
  have e1 : Builtin.bitNot a = ((-a - 1).toNat : Int) := by unfold Builtin.bitNot; walk_at "m_om"
  have hP := fn_divmod0 hTn (-a - 1).toNat b hb hn (Nat.le_trans (bits_mono (by walk_at "m_om")) h200)
  rw [← e1] at hP
  have hq : Builtin.bitNot ((Builtin.bitNot a).fdiv b) = a.fdiv b := by
    exact (not_div ha hb).1
  have hrm : (b : Int) + Builtin.bitNot ((Builtin.bitNot a).fmod b) = a.fmod b := by
    exact (not_div ha hb).2
  show Fn G (301 + 1) _ _ _
  refine fn_of (hT.defs "int_divmod" ["a", "b"] (by decide +kernel) (by decide +kernel)) scint_divmod rfl (by decide +kernel) fun A L' cs' q' a' fr' cd' N hr hf hown => ?_
  generalize hsc : scopeOf (Str.ofString "int_divmod") = sc at *
  conv at hsc => lhs; whnf
  subst hsc
  have hown2 : OwnC _ _ _ := ⟨hown⟩
  conv => arg 5; whnf
  show Xs _ _ _ _ _ [("a", En.v _), ("b", En.v _)] _
  refine xs_if (by walk_at "m_ts") (fun h => by rw [beq_iff_eq] at h; walk_at "m_om") fun _ => ?_
  refine xs_if (by walk_at "m_ts") (fun h => by rw [decide_eq_true_iff] at h; walk_at "m_om") fun _ => ?_
  refine xs_if (by walk_at "m_ts") (fun _ => ?_) (fun h => by rw [decide_eq_false_iff_not] at h; walk_at "m_om")
  refine xs_unpack (by walk_at "m_room") hf (ev_call' (by walk_at "m_en") (by walk_at "m_kd") (by walk_at "m_evs") hP (by walk_at "m_room") (by with_unfolding_all rfl)) (.tup (by rfl) (by simp only [List.map, tgt]; walk_at "m_puts")) (by with_unfolding_all rfl) (by with_unfolding_all rfl) ?_
  exact xs_return (d := pairI _ _) (by walk_at "m_ev") (by rw [hq, hrm]; rfl)
theorem fn_divmod {G : Gx} (hTn : Tn G) (a b : Int) (hb : b ≠ 0) (hn : Builtin.Int.intBits b ≤ 7999) (h200 : Builtin.Int.intBits a ≤ 200 * Builtin.Int.intBits b) : Fn G 303 "int_divmod" [.int a, .int b] (pairI (a.fdiv b) (a.fmod b)) := by
  have hT := hTn.tp
  by_cases hb0 : 0 ≤ b
  · obtain ⟨b, rfl⟩ := Int.eq_ofNat_of_zero_le hb0
    exact (fn_divmod1 hTn a b (by walk_at "m_om") hn h200).up (by walk_at "m_om")
  have e1 : -b = ((-b).toNat : Int) := by walk_at "m_om"
  have hP := fn_divmod1 hTn (-a) (-b).toNat (by walk_at "m_om") (Nat.le_trans (bits_mono (by walk_at "m_om")) hn) (Nat.le_trans (bits_mono (by walk_at "m_om")) (Nat.le_trans h200 (Nat.mul_le_mul_left _ (bits_mono (by walk_at "m_om")))))
  rw [← e1] at hP
  have hq : (-a).fdiv (-b) = a.fdiv b := by
    exact Int.neg_fdiv_neg a b
  have hrm : -((-a).fmod (-b)) = a.fmod b := by
    rw [Int.fmod_def, Int.fmod_def, Int.neg_fdiv_neg, Int.neg_mul]; walk_at "m_om"
  show Fn G (302 + 1) _ _ _
  refine fn_of (hT.defs "int_divmod" ["a", "b"] (by decide +kernel) (by decide +kernel)) scint_divmod rfl (by decide +kernel) fun A L' cs' q' a' fr' cd' N hr hf hown => ?_
  generalize hsc : scopeOf (Str.ofString "int_divmod") = sc at *
  conv at hsc => lhs; whnf
  subst hsc
  have hown2 : OwnC _ _ _ := ⟨hown⟩
  conv => arg 5; whnf
  show Xs _ _ _ _ _ [("a", En.v _), ("b", En.v _)] _
  refine xs_if (by walk_at "m_ts") (fun h => by rw [beq_iff_eq] at h; walk_at "m_om") fun _ => ?_
  refine xs_if (by walk_at "m_ts") (fun _ => ?_) (fun h => by rw [decide_eq_false_iff_not] at h; walk_at "m_om")
  refine xs_unpack (by walk_at "m_room") hf (ev_call' (by walk_at "m_en") (by walk_at "m_kd") (by walk_at "m_evs") hP (by walk_at "m_room") (by with_unfolding_all rfl)) (.tup (by rfl) (by simp only [List.map, tgt]; walk_at "m_puts")) (by with_unfolding_all rfl) (by with_unfolding_all rfl) ?_
  exact xs_return (d := pairI _ _) (by walk_at "m_ev") (by rw [hq, hrm]; rfl)
/- E15 -/
theorem flat_nil : Flat [] := fun p hp => by cases hp
theorem flat_cons {x : Str} {d : D} {ρ : Ro} (hd : d.flat = true) (h : Flat ρ) : Flat ((x, .v d) :: ρ) := List.forall_mem_cons.mpr ⟨⟨d, rfl, hd⟩, h⟩
local macro_rules | `(tactic| walk_at "m_flat") => `(tactic| first | exact flat_nil | (refine flat_cons rfl ?_; walk_at "m_flat"))
def escD : List Nat → Nat → Int → Bool → List D
  | [], _, p, true => [.tup [.int p, .str "\\"]]
  | [], _, _, false => []
  | c :: cs, i, _, true => .tup [.int (i : Int), .str (("\\" : Str) ++ ⟨#[c]⟩)] :: escD cs (i + 1) (i : Int) false
  | c :: cs, i, _, false => if c = 92 then escD cs (i + 1) (i : Int) true else .tup [.int (i : Int), .str ⟨#[c]⟩] :: escD cs (i + 1) (i : Int) false
theorem sg_esc : ScGen (scopeOf "_iter_escaped_chars") ["addr"] := ⟨by decide +kernel, by decide +kernel, by decide +kernel, by decide +kernel, by decide +kernel, by decide +kernel, by decide +kernel, by decide +kernel, by decide +kernel⟩
abbrev envOf {G : Gx} {env : Env} {N : Nat} {s : Shared} {F : Fz} {ρ : Ro} (_ : In G env N s F ρ) : Env := env
abbrev codeK {M : Model} {A : Around} {c : Code} {t t' : Sem Fin} {fs : List Frame} (_ : ∀ s Φ, Seg1 M A c t fs s Φ → Seg1 M A c t' fs s Φ) : Code := c
theorem seg_via {M : Model} {A : Around} {c : Code} {fs : List Frame} {s : Shared} {Φ : End → Shared → Prop} (X : Code → List Frame → Prop) (h1 : X c fs) (h2 : X c fs → Seg1 M A c (M.den c) fs s Φ) : Seg1 M A c (M.den c) fs s Φ := h2 h1
theorem s1_forEn {G : Gx} {A : Around} {env : Env} {ρ : Ro} {c : Code} {fs : List Frame} {s : Shared} {F : Fz} {Φ : End → Shared → Prop} {K : Flow → Sem Fin} {H : Value → Sem Fin} {gd : Bool → Bool} {lv : List Value → List Value} {elts : List Expr} {kk : Nat} {tp p ppos pos : Pos} {e : Expr} {x : Str} {body : List Stmt}
    (hr : Room (A.over c fs) 0) (he : EnvF env) (hx : env.kindOf "enumerate" = some .globalImplicit) (hm : G.mg "enumerate" = none ∧ G.mb "enumerate" = bootBuiltins "enumerate") (hl : Evals G (A.over c fs) env ρ e (.str x)) (hs : NoStar ppos [e] env) (g : Good G s F) (hv : Vars G env s.heap F ρ)
    (h : ∀ it wr St s' F', Ex G nowhere s F s' F' → (∀ b ∈ wr, s.heap.objs.size ≤ b) → (∀ A' : Around, Room A' 0 → Iter G A' (.Tuple elts kk tp) it wr St) → (∀ {ds s F gs}, St ds s F → St ds { s with gens := gs } F) → (∀ {ds s F}, Good G s F → St ds s F → St ds s G.F₀) → St (enumD x.cps.toList 0) s' F' →
      ∀ (p : Pos) (l : List Value) (k : Result → Sem Fin), (∀ (s'' : Shared) (Φ' : End → Shared → Prop), Seg1 (model G.prog G.w) A c (K .next) fs s'' Φ' → Seg1 (model G.prog G.w) A c (k (.ok .next)) fs s'' Φ') →
      Seg1 (model G.prog G.w) A (.forLoop (.Tuple elts kk tp) it body [] env) ((model G.prog G.w).den (.forLoop (.Tuple elts kk tp) it body [] env)) (.ret k none (gd false) l c p [] :: fs) s' Φ) (hf : ∀ v, foldedSetIterable (.Call (.Name "enumerate" p) [e] [] ppos) env v = pure v) :
    Seg1 (model G.prog G.w) A c ((exec (.For (.Tuple elts kk tp) (.Call (.Name "enumerate" p) [e] [] ppos) body [] pos) env).wrap K H gd lv) fs s Φ :=
  s1_For (en_run hr he hx hm hl hs g hv h) hf
theorem esc_test (c : Nat) : D.bool ((⟨#[c]⟩ : Str).cps.toList == ("\\" : Str).cps.toList) = .bool (decide (c = 92)) := by
  rw [show ("\\" : Str).cps.toList = [92] by decide +kernel]
  show D.bool (([c] : List Nat) == [92]) = _
  congr 1
  by_cases h : c = 92 <;> simp [h]
theorem gen_esc {G : Gx} (hT : Tp G) (x : Str) {k : Nat} : GenFn G (k + 4) "_iter_escaped_chars" [.str x] (escD x.cps.toList 0 0 false) := by
  refine gen_fn (k := k + 3) (hT.defs "_iter_escaped_chars" ["addr"] (by decide +kernel) (by decide +kernel)) sg_esc rfl (by intro d hd; rw [List.mem_singleton] at hd; subst hd; rfl) fun A L' cs' q' a' fr' cd' N hr hf => ?_
  have hen := hT.bi "enumerate" (by decide +kernel)
  have noc := sg_esc.noCells (L := L') (cs := cs') (q := q') (f := a') (cd := cd') (fr := fr')
  generalize hsc : scopeOf (Str.ofString "_iter_escaped_chars") = sc at *
  conv at hsc => lhs; whnf
  subst hsc
  generalize hbd : bodyOf (Str.ofString "_iter_escaped_chars") = bd at *
  conv at hbd => lhs; whnf
  subst hbd
  refine Ready.of (keeps_in noc (show Flat [("addr", En.v (.str x))] from by walk_at "m_flat") (fun b hb => by simpa using hb)) fun s0 hs0 => ?_
  refine s1_func fun K H gd lv hgd hend => ?_
  have hs1 : In G _ N s0 G.F₀ [("addr", En.v (.str x))] := hs0.1
  have hr1 : ∀ body env, Room (A.over (.func body env) []) (k + 2) := fun body env => room_func hr
  have hr2 : ∀ t it body kk g l fbody p env, Room (A.over (.forLoop t it body [] env) [.ret kk none g l (.func fbody env) p []]) (k + 2) := fun _ _ _ _ _ _ _ _ _ => room_for hr
  refine s1_stmt (x_assign hf (show Evals _ _ _ _ _ (D.int (0 : Int)) from ev_int) (by walk_at "m_hold") (by walk_at "m_put") rfl (by with_unfolding_all rfl)) hs1 noc rfl (by walk_at "m_flat") fun s1 i1 x1 => ?_
  refine s1_stmt (x_assign hf (by walk_at "m_ev") (by walk_at "m_hold") (by walk_at "m_put") rfl (by with_unfolding_all rfl)) i1 noc rfl (by walk_at "m_flat") fun s2 i2 x2 => ?_
  refine s1_cons (s1_forEn ((hr1 _ _).le (by walk_at "m_om")) (by walk_at "m_en") (by walk_at "m_kd") hen (by walk_at "m_ev") (by with_unfolding_all rfl) i2.good i2.vars (fun it wr St s3 F3 x3 hwr hI hG hlow hst p l k' hk => ?_) (by intro _; rfl))
  have i3 := (i2.ex x3).lowF (by walk_at "m_flat")
  have hst3 := hlow (i2.ex x3).good hst
  clear hst
  have after : ∀ (i : Nat) (pv : Int) (b : Bool) (s s0 : Shared) (wr0 : List Addr), In G (envOf i3) N s G.F₀ [("addr", En.v (.str x)), ("pos", En.v (.int pv)), ("escape", En.v (.bool b))] → Ex G (· ∈ wr0) s0 G.F₀ s G.F₀ → (L' ∈ wr0 ∨ s0.heap.objs.size ≤ L') → Seg1 (model G.prog G.w) A (codeK hk) (k' (.ok .next)) [] s (Stop G A wr0 s0 (escD [] i pv b)) := by
    intro i pv b s s0 wr0 hi hx hL
    refine hk _ _ ?_
    refine s1_if (ts_bool (by walk_at "m_ev") (by with_unfolding_all rfl)) hi (by walk_at "m_flat") fun s4 i4 x4 => ?_
    have hx4 := hx.trans x4 fun _ f => f.elim
    cases b with
    | false => exact s1_nil (s1_nil (hend s4 _ ⟨rfl, hx4⟩))
    | true =>
      refine s1_yieldT (l := [.int pv, .str "\\"]) rfl rfl hgd (by walk_at "m_ev") (by intro d hd; simp at hd; rcases hd with rfl | rfl <;> rfl) i4 (by walk_at "m_flat") fun e s5 hv i5 x5 hgen => ?_
      refine ⟨hv, hx4.trans x5 fun _ f => f.elim, [L'], _, fun b hb => by rw [List.mem_singleton] at hb; subst hb; exact hL, ⟨i5, List.mem_cons_self⟩, Ready.of (keeps_in noc (by walk_at "m_flat") (fun b hb => by simpa using hb)) fun s6 hs6 => hgen s6 _ (s1_nil (s1_nil (hend s6 _ ⟨rfl, Ex.refl hs6.1.good⟩)))⟩
  have hLs : L' < s3.heap.objs.size := by obtain ⟨m, hn⟩ := i3.frm.ns; exact hn.lt
  have hwL : ∀ b ∈ wr, b ≠ L' := fun b hb e => by
    have h1 := hwr b hb
    obtain ⟨m, hn⟩ := i2.frm.ns
    have h2 : L' < s2.heap.objs.size := hn.lt
    rw [e] at h1; exact absurd h2 (Nat.not_lt.mpr h1)
  have fs0 : ∀ (gg : Bool) (ll : List Value), gd false = false → splitAtGen [Frame.ret k' none (gd false) l (codeK hk) p []] = none ∧ ([Frame.ret k' none (gd false) l (codeK hk) p []] : List Frame).any Frame.guarded = false := fun _ _ h => ⟨rfl, by show (gd false || false) = false; rw [h]; rfl⟩
  refine seg_via (fun c fs => ∀ (cs : List Nat) (i : Nat) (pv : Int) (b : Bool) (s s0 : Shared) (wr0 : List Addr), In G (envOf i3) N s G.F₀ [("addr", En.v (.str x)), ("pos", En.v (.int pv)), ("escape", En.v (.bool b))] → St (enumD cs i) s G.F₀ → Ex G (· ∈ wr0) s0 G.F₀ s G.F₀ → (∀ a ∈ L' :: wr, a ∈ wr0 ∨ s0.heap.objs.size ≤ a) →
      Seg1 (model G.prog G.w) A c ((model G.prog G.w).den c) fs s (Stop G A wr0 s0 (escD cs i pv b))) ?_ fun loop => ?_
  · intro cs
    induction cs with
    | nil =>
      intro i pv b s s0 wr0 hi hst hx hw
      refine s1_forLoop fun E => (hI _ ((hr2 _ _ _ _ _ _ _ _ _).le (by walk_at "m_om"))).done hi.good hst _ _ fun s' F' x' => ?_
      have hi' := hi.exM' x'.low fun a m => notInL noc rfl (hwL a m)
      exact s1_block (after i pv b s' s0 wr0 hi' (hx.trans x'.low fun a m => hw a (List.mem_cons_of_mem _ m)) (hw L' List.mem_cons_self))
    | cons c cs ih =>
      intro i pv b s s0 wr0 hi hst hx hw
      refine s1_forLoop fun E => (hI _ ((hr2 _ _ _ _ _ _ _ _ _).le (by walk_at "m_om"))).item hi.good hst _ _ fun v s1 hgo => ?_
      intro E1
      refine hgo _ _ fun s2 F2 x2 vt hnm hst2 => ?_
      intro E2
      have hi2 := hi.exM' x2 fun a m => notInL noc rfl (hwL a m)
      refine assign_ (hr2 _ _ _ _ _ _ _ _ _).handled hf hi2 vt (.tup (by rfl) (by simp only [List.map, tgt]; walk_at "m_puts")) (fun q => by cases q) fun s3' x3' i3' => ?_
      intro K2 H2 gd2 lv2 hgd2 hK2
      have hst3' := hlow i3'.good ((hI A ((show Room A (k + 3) from hr).le (by walk_at "m_om"))).frame hst2 x3' fun b hb m => hwL b hb (modL noc rfl m))
      have hi3 := i3'.lowF (by walk_at "m_flat")
      have hx3 : Ex G (· ∈ wr0) s0 G.F₀ s3' G.F₀ := (hx.trans x2.low fun a m => hw a (List.mem_cons_of_mem _ m)).trans x3'.low fun a m => by have := modL noc rfl m; subst this; exact hw _ List.mem_cons_self
      have hfr := fun {ds : List D} {M : Addr → Prop} {s s' : Shared} (h : St ds s G.F₀) (x : Ex G M s G.F₀ s' G.F₀) (hM : ∀ a, M a → a = L') => (hI A ((show Room A (k + 3) from hr).le (by walk_at "m_om"))).frame h x fun b hb m => hwL b hb (hM b m)
      have hgf : (gd false || false) = false := by rw [hgd]; rfl
      refine s1_if (ts_bool (by walk_at "m_ev") (by with_unfolding_all rfl)) hi3 (by walk_at "m_flat") fun s4 i4 x4 => ?_
      have hst4 := hfr hst3' x4 fun a f => f.elim
      have hx4 := hx3.trans x4 fun _ f => f.elim
      cases b with
      | true =>
        refine s1_yieldT (l := [.int (i : Int), .str (("\\" : Str) ++ ⟨#[c]⟩)]) rfl hgf hgd2 (ev_tuple (evl_cons (by walk_at "m_ev") (evl_cons (ev_bin (by walk_at "m_ev") (by walk_at "m_ev") (o_cat (by show 1 + 1 ≤ _; decide))) evl_nil)) (Nat.le_of_ble_eq_true rfl) (by with_unfolding_all rfl)) (by intro d hd; simp at hd; rcases hd with rfl | rfl <;> rfl) i4 (by walk_at "m_flat") fun e s5 hv i5 x5 hgen => ?_
        refine ⟨hv, hx4.trans x5 fun _ f => f.elim, L' :: wr, _, hw, ⟨i5, hfr hst4 x5 fun a f => f.elim⟩, Ready.of (keeps_it noc (by walk_at "m_flat") (hI A ((show Room A (k + 3) from hr).le (by walk_at "m_om"))) hG) fun s6 hs6 => hgen s6 _ ?_⟩
        refine s1_stmt (x_assign hf (by walk_at "m_ev") (by walk_at "m_hold") (by walk_at "m_put") rfl (by with_unfolding_all rfl)) hs6.1 noc rfl (by walk_at "m_flat") fun s7 i7 x7 => ?_
        exact s1_nil (s1_nil (hK2 s7 _ (ih (i + 1) i false s7 s6 (L' :: wr) (i7.sub (by walk_at "m_sub")) (hfr hs6.2 x7 fun a h => h) (x7.weaken fun a h => h ▸ List.mem_cons_self) fun a h => .inl h)))
      | false =>
        refine s1_if (ts_cmp (by walk_at "m_ev") (by walk_at "m_ev") (c_eq_str.cast (d' := .bool (decide (c = 92))) (esc_test c)) (by with_unfolding_all rfl)) i4 (by walk_at "m_flat") fun s5 i5 x5 => ?_
        have hst5 := hfr hst4 x5 fun a f => f.elim
        have hx5 := hx4.trans x5 fun _ f => f.elim
        by_cases hc : c = 92
        · subst hc
          refine s1_stmt (x_assign hf (by walk_at "m_ev") (by walk_at "m_hold") (by walk_at "m_put") rfl (by with_unfolding_all rfl)) i5 noc rfl (by walk_at "m_flat") fun s6 i6 x6 => ?_
          exact s1_nil (s1_nil (s1_nil (hK2 s6 _ (ih (i + 1) i true s6 s0 wr0 (i6.sub (by walk_at "m_sub")) (hfr hst5 x6 fun a h => h) (hx5.trans x6 fun a h => by subst h; exact hw _ List.mem_cons_self) hw))))
        · have e1 : escD (c :: cs) i pv false = .tup [.int (i : Int), .str ⟨#[c]⟩] :: escD cs (i + 1) (i : Int) false := by rw [escD, if_neg hc]
          rw [decide_eq_false hc, e1]
          refine s1_yieldT (l := [.int (i : Int), .str ⟨#[c]⟩]) rfl hgf hgd2 (by walk_at "m_ev") (by intro d hd; simp at hd; rcases hd with rfl | rfl <;> rfl) i5 (by walk_at "m_flat") fun e s6 hv i6 x6 hgen => ?_
          refine ⟨hv, hx5.trans x6 fun _ f => f.elim, L' :: wr, _, hw, ⟨i6, hfr hst5 x6 fun a f => f.elim⟩, Ready.of (keeps_it noc (by walk_at "m_flat") (hI A ((show Room A (k + 3) from hr).le (by walk_at "m_om"))) hG) fun s7 hs7 => hgen s7 _ ?_⟩
          exact s1_nil (s1_nil (s1_nil (hK2 s7 _ (ih (i + 1) i false s7 s7 (L' :: wr) (hs7.1.sub (by walk_at "m_sub")) hs7.2 (Ex.refl hs7.1.good) fun a h => .inl h))))
  · refine loop x.cps.toList 0 0 false s3 s0 _ i3 hst3 (((x1.trans' x2).weaken fun a h => ?_).trans x3.low fun _ f => f.elim) fun a h => ?_
    · subst h; exact List.mem_cons_self
    · rcases List.mem_cons.mp h with rfl | h
      · exact .inl List.mem_cons_self
      · exact .inr (Nat.le_trans x1.size (Nat.le_trans x2.size (hwr a h)))
/- E16 -/
theorem sc_strip_quoted_realnames : ScOk (scopeOf "_strip_quoted_realnames") ["addr"] := ⟨by decide +kernel, by decide +kernel, by decide +kernel, by decide +kernel, by decide +kernel, by decide +kernel, by decide +kernel, by decide +kernel⟩
theorem sc_check_parenthesis : ScOk (scopeOf "_check_parenthesis") ["addr"] := ⟨by decide +kernel, by decide +kernel, by decide +kernel, by decide +kernel, by decide +kernel, by decide +kernel, by decide +kernel, by decide +kernel⟩
def escL : List Nat → Nat → Nat → Bool → List (Nat × Str)
  | [], _, p, true => [(p, "\\")]
  | [], _, _, false => []
  | c :: cs, i, _, true => (i, ("\\" : Str) ++ ⟨#[c]⟩) :: escL cs (i + 1) i false
  | c :: cs, i, _, false => if c = 92 then escL cs (i + 1) i true else (i, ⟨#[c]⟩) :: escL cs (i + 1) i false
abbrev itemD (a : Nat × Str) : D := .tup [.int (a.1 : Int), .str a.2]
theorem escD_map : ∀ (cs : List Nat) (i p : Nat) (b : Bool), escD cs i (p : Int) b = (escL cs i p b).map itemD
  | [], _, _, true => rfl
  | [], _, _, false => rfl
  | c :: cs, i, p, true => by rw [escD, escL, List.map_cons, escD_map cs]
  | c :: cs, i, p, false => by
    rw [escD, escL]
    split
    · exact escD_map cs _ _ _
    · rw [List.map_cons, escD_map cs]
def isT (t y : Str) : Bool := t.cps.toList == y.cps.toList
def opD : Option Nat → D
  | none => .none
  | some o => .int (o : Int)
def stripF (x : Str) : List (Nat × Str) → Nat → Option Nat → List Str → Nat × List Str
  | [], st, _, res => (st, res)
  | (p, t) :: l, st, op, res => if isT t "\"" then (match op with
      | none => stripF x l st (some p) res
      | some o => stripF x l (p + 1) none (if st = o then res else res ++ [Txt.slice x (some (st : Int)) (some (o : Int))])) else stripF x l st op res
theorem stripF_cons (x : Str) (p : Nat) (t : Str) (l : List (Nat × Str)) (st : Nat) (op : Option Nat) (res : List Str) : stripF x ((p, t) :: l) st op res = if isT t "\"" then (match op with
      | none => stripF x l st (some p) res
      | some o => stripF x l (p + 1) none (if st = o then res else res ++ [Txt.slice x (some (st : Int)) (some (o : Int))])) else stripF x l st op res := by cases op <;> rfl
def stripV (x : Str) : Str :=
  if Txt.contains x "\"" then
    let r := stripF x (escL x.cps.toList 0 0 false) 0 none []
    Txt.join "" (if r.1 < x.length then r.2 ++ [Txt.slice x (some (r.1 : Int)) none] else r.2)
  else x
theorem escL_length : ∀ (cs : List Nat) (i p : Nat) (b : Bool), (escL cs i p b).length ≤ cs.length + (if b then 1 else 0)
  | [], _, _, true => by simp [escL]
  | [], _, _, false => by simp [escL]
  | c :: cs, i, p, true => by have := escL_length cs (i + 1) i false; simp [escL] at this ⊢; walk_at "m_om"
  | c :: cs, i, p, false => by
    rw [escL]
    split
    · have := escL_length cs (i + 1) i true; simp at this ⊢; walk_at "m_om"
    · have := escL_length cs (i + 1) i false; simp at this ⊢; walk_at "m_om"
theorem joinOk_of {xs : List Str} {n : Nat} (h1 : ∀ t ∈ xs, t.length ≤ n) (h2 : xs.length * n ≤ 16777216) : JoinOk "" xs = true := by
  unfold JoinOk
  have key : ∀ (l : List Str) (a : Nat), (∀ t ∈ l, t.length ≤ n) → l.foldl (fun a t => a + t.length + ("" : Str).length) a ≤ a + l.length * n := by
    intro l
    induction l with
    | nil => intro a _; simp
    | cons t l ih =>
      intro a h
      have h3 := ih (a + t.length + ("" : Str).length) fun y hy => h y (List.mem_cons_of_mem _ hy)
      have h4 := h t List.mem_cons_self
      rw [List.foldl_cons, List.length_cons, Nat.add_mul, Nat.one_mul]
      have h5 : ("" : Str).length = 0 := by decide +kernel
      walk_at "m_om"
  have := key xs 0 h1
  rw [List.foldl_toArray'] <;> simp only [Builtin.Str.tooLong, Bool.not_eq_true', decide_eq_false_iff_not]
  rw [sizeLine_eq]; walk_at "m_om"
theorem fn_strip {G : Gx} (hT : Tp G) (x : Str) (hx : x.length ≤ 4000) : Fn G 11 "_strip_quoted_realnames" [.str x] (.str (stripV x)) := by
  show Fn G (10 + 1) _ _ _
  refine fn_of (hT.defs "_strip_quoted_realnames" ["addr"] (by decide +kernel) (by decide +kernel)) sc_strip_quoted_realnames rfl (by decide +kernel) fun A L' cs' q' a' fr' cd' N hr hf hown => ?_
  generalize hsc : scopeOf (Str.ofString "_strip_quoted_realnames") = sc at *
  conv at hsc => lhs; whnf
  subst hsc
  have hown2 : OwnC _ _ _ := ⟨hown⟩
  conv => arg 5; whnf
  show Xs _ _ _ _ _ [("addr", En.v _)] _
  have hE := gen_esc hT x (k := 6)
  rw [show (0 : Int) = ((0 : Nat) : Int) from rfl, escD_map] at hE
  have hlen : (escL x.cps.toList 0 0 false).length ≤ x.length := by have := escL_length x.cps.toList 0 0 false; simpa [Str.length] using this
  unfold stripV
  by_cases hq : Txt.contains x "\"" = true
  · rw [if_pos hq]
    refine xs_if (by walk_at "m_ts") (fun hb => by rw [hq] at hb; cases hb) fun _ => xs_on ?_
    refine xs_assign (d := .int ((0 : Nat) : Int)) hf (show Evals _ _ _ _ _ (D.int ((0 : Nat) : Int)) from ev_int) (by walk_at "m_hold") (by walk_at "m_put") (by with_unfolding_all rfl) ?_
    refine xs_assign (d := .none) hf (by walk_at "m_ev") (by walk_at "m_hold") (by walk_at "m_put") (by with_unfolding_all rfl) ?_
    refine xs_new (ρ' := fun al => [("addr", En.v (.str x)), ("start", En.v (.int ((0 : Nat) : Int))), ("open_pos", En.v .none), ("result", En.own al [])]) hf (by walk_at "m_evs") (by walk_at "m_hold") (fun a => by walk_at "m_put") (by decide) (by with_unfolding_all rfl) (by with_unfolding_all rfl) fun al => ?_
    refine xs_forgen (by walk_at "m_room") hf (ig_call (by walk_at "m_en") (by walk_at "m_kd") (by walk_at "m_evs") hE (by walk_at "m_room") (by with_unfolding_all rfl)) (by intro d hd; obtain ⟨a, _, rfl⟩ := List.mem_map.mp hd; exact ⟨_, rfl⟩) (by intro _; rfl) ?_
    refine loop_invS itemD (fun rest ρ => ∃ (st : Nat) (op : Option Nat) (res : List Str), ([("addr", En.v (.str x)), ("start", En.v (.int (st : Int))), ("open_pos", En.v (opD op)), ("result", En.own al (res.map D.str))] : Ro).Sublist ρ ∧ stripF x rest st op res = stripF x (escL x.cps.toList 0 0 false) 0 none [] ∧ res.length + rest.length ≤ x.length ∧ ∀ t ∈ res, t.length ≤ x.length) ?_ ?_ _ _ ⟨0, none, [], List.Sublist.refl _, rfl, by simpa using hlen, fun t h => (by cases h)⟩
    · rintro ρ ⟨st, op, res, hs, h1, h2, h3⟩
      refine xs_forget hs ?_
      have h1 : (st, res) = stripF x (escL x.cps.toList 0 0 false) 0 none [] := h1
      rw [← h1]
      dsimp only
      have hsz : res.length * x.length ≤ 16777216 := by
        have := Nat.mul_le_mul (show res.length ≤ 4000 by simp at h2; walk_at "m_om") hx; walk_at "m_om"
      have hsz1 : (res.length + 1) * x.length ≤ 16777216 := by
        have := Nat.mul_le_mul (show res.length + 1 ≤ 4001 by simp at h2; walk_at "m_om") hx; walk_at "m_om"
      refine xs_if (ts_cmp (by walk_at "m_ev") (by walk_at "m_ev") c_lt (by with_unfolding_all rfl)) (fun hb => ?_) (fun hb => ?_)
      · rw [if_pos (show st < x.length by simpa using hb)]
        refine xs_append (x := "result") hf (by walk_at "m_mem") (ev_slice_str (l := some (st : Int)) (u := none) (by walk_at "m_ev") (show Evals _ _ _ _ _ (D.int (st : Int)) from (by walk_at "m_ev")) trivial (by walk_at "m_om")) (by walk_at "m_put") (by rw [List.length_map]; simp at h2; walk_at "m_om") (by with_unfolding_all rfl) (by with_unfolding_all rfl) (by with_unfolding_all rfl) (by with_unfolding_all rfl) (by with_unfolding_all rfl) (xs_on ?_)
        rw [show res.map D.str ++ [D.str (Txt.slice x (some (st : Int)) none)] = (res ++ [Txt.slice x (some (st : Int)) none]).map D.str by simp]
        refine xs_freeze (x := "result") hf (by walk_at "m_mem") (by walk_at "m_put") (xs_return (evM_join (by walk_at "m_ev") (ev_name hf.toEnvF (by walk_at "m_mem")) (joinOk_of (n := x.length) (fun t ht => ?_) (by simpa using hsz1)) (by with_unfolding_all rfl) (by with_unfolding_all rfl) (by with_unfolding_all rfl)) rfl)
        rcases List.mem_append.mp ht with h | h
        · exact h3 t h
        · rw [List.mem_singleton] at h; subst h; exact Txt.slice_le _ _ _
      · rw [if_neg (show ¬ st < x.length by simpa using hb)]
        exact xs_on (xs_freeze (x := "result") hf (by walk_at "m_mem") (by walk_at "m_put") (xs_return (evM_join (by walk_at "m_ev") (ev_name hf.toEnvF (by walk_at "m_mem")) (joinOk_of (n := x.length) h3 hsz) (by with_unfolding_all rfl) (by with_unfolding_all rfl) (by with_unfolding_all rfl)) rfl))
    · rintro ⟨p, t⟩ rest ρ ⟨st, op, res, hs, h1, h2, h3⟩
      refine ⟨_, _, hs, .tup (by rfl) (by simp only [List.map, tgt]; walk_at "m_puts"), ?_⟩
      simp only [List.length_cons] at h2
      refine xs_if (b := isT t "\"") (ts_cmp (by walk_at "m_ev") (by walk_at "m_ev") c_eq_str (by with_unfolding_all rfl)) (fun hb => ?_) (fun hb => ?_)
      · rw [stripF_cons, if_pos hb] at h1
        cases op with
        | none =>
          dsimp only [opD]
          refine xs_if (b := true) (ts_cmp (by walk_at "m_ev") (by walk_at "m_ev") c_is_none (by with_unfolding_all rfl)) (fun _ => ?_) (fun h => by cases h)
          refine xs_assign (d := .int (p : Int)) hf (by walk_at "m_ev") (by walk_at "m_hold") (by walk_at "m_put") (by with_unfolding_all rfl) (xs_on (xs_on (xs_nil ⟨st, some p, res, ?_, h1, by walk_at "m_om", h3⟩)))
          dsimp only [opD]
          exact (by walk_at "m_sub")
        | some o =>
          dsimp only [opD]
          refine xs_if (b := false) (ts_cmp (by walk_at "m_ev") (by walk_at "m_ev") c_is_none (by with_unfolding_all rfl)) (fun h => by cases h) (fun _ => ?_)
          refine xs_if (b := ((st : Int) != (o : Int))) (ts_cmp (by walk_at "m_ev") (by walk_at "m_ev") c_ne (by with_unfolding_all rfl)) (fun hb => ?_) (fun hb => ?_)
          · refine xs_append (x := "result") hf (by walk_at "m_mem") (ev_slice_str (l := some (st : Int)) (u := some (o : Int)) (by walk_at "m_ev") (show Evals _ _ _ _ _ (D.int (st : Int)) from (by walk_at "m_ev")) (show Evals _ _ _ _ _ (D.int (o : Int)) from (by walk_at "m_ev")) (by walk_at "m_om")) (by walk_at "m_put") (by rw [List.length_map]; walk_at "m_om") (by with_unfolding_all rfl) (by with_unfolding_all rfl) (by with_unfolding_all rfl) (by with_unfolding_all rfl) (by with_unfolding_all rfl) (xs_on ?_)
            rw [show res.map D.str ++ [D.str (Txt.slice x (some (st : Int)) (some (o : Int)))] = (res ++ [Txt.slice x (some (st : Int)) (some (o : Int))]).map D.str by simp]
            refine xs_assign (d := .int ((p + 1 : Nat) : Int)) hf (ev_bin (by walk_at "m_ev") (show Evals _ _ _ _ _ (D.int ((1 : Nat) : Int)) from ev_int) o_addN) (by walk_at "m_hold") (by walk_at "m_put") (by with_unfolding_all rfl) ?_
            refine xs_assign (d := .none) hf (by walk_at "m_ev") (by walk_at "m_hold") (by walk_at "m_put") (by with_unfolding_all rfl) (xs_on (xs_on (xs_nil ⟨p + 1, none, res ++ [Txt.slice x (some (st : Int)) (some (o : Int))], (by dsimp only [opD]; walk_at "m_sub"), ?_, by simp; walk_at "m_om", fun t ht => ?_⟩)))
            · rw [← h1]
              dsimp only
              rw [if_neg (by intro e; subst e; simp at hb)]
            · rcases List.mem_append.mp ht with h | h
              · exact h3 t h
              · rw [List.mem_singleton] at h; subst h; exact Txt.slice_le _ _ _
          · refine xs_on ?_
            refine xs_assign (d := .int ((p + 1 : Nat) : Int)) hf (ev_bin (by walk_at "m_ev") (show Evals _ _ _ _ _ (D.int ((1 : Nat) : Int)) from ev_int) o_addN) (by walk_at "m_hold") (by walk_at "m_put") (by with_unfolding_all rfl) ?_
            refine xs_assign (d := .none) hf (by walk_at "m_ev") (by walk_at "m_hold") (by walk_at "m_put") (by with_unfolding_all rfl) (xs_on (xs_on (xs_nil ⟨p + 1, none, res, (by dsimp only [opD]; walk_at "m_sub"), ?_, by walk_at "m_om", h3⟩)))
            rw [← h1]
            dsimp only
            rw [if_pos (by simp at hb; walk_at "m_om")]
      · rw [stripF_cons, if_neg (by rw [hb]; decide)] at h1
        exact xs_on (xs_nil ⟨st, op, res, (by walk_at "m_sub"), h1, by walk_at "m_om", h3⟩)
  · rw [if_neg hq]
    exact xs_if (by walk_at "m_ts") (fun _ => xs_return (by walk_at "m_ev") rfl) fun hb => (by simp only [Bool.not_eq_true] at hq; rw [hq] at hb; cases hb)
/- E17 -/
def checkF : List (Nat × Str) → Int → Bool
  | [], n => n == 0
  | (_, t) :: l, n => if isT t "(" then checkF l (n + 1) else if isT t ")" then (if n - 1 < 0 then false else checkF l (n - 1)) else checkF l n
theorem checkF_cons (p : Nat) (t : Str) (l : List (Nat × Str)) (n : Int) : checkF ((p, t) :: l) n = if isT t "(" then checkF l (n + 1) else if isT t ")" then (if n - 1 < 0 then false else checkF l (n - 1)) else checkF l n := rfl
def checkV (x : Str) : Bool := checkF (escL (stripV x).cps.toList 0 0 false) 0
theorem fn_check {G : Gx} (hT : Tp G) (x : Str) (hx : x.length ≤ 4000) : Fn G 12 "_check_parenthesis" [.str x] (.bool (checkV x)) := by
  show Fn G (11 + 1) _ _ _
  refine fn_of (hT.defs "_check_parenthesis" ["addr"] (by decide +kernel) (by decide +kernel)) sc_check_parenthesis rfl (by decide +kernel) fun A L' cs' q' a' fr' cd' N hr hf hown => ?_
  generalize hsc : scopeOf (Str.ofString "_check_parenthesis") = sc at *
  conv at hsc => lhs; whnf
  subst hsc
  have hown2 : OwnC _ _ _ := ⟨hown⟩
  conv => arg 5; whnf
  show Xs _ _ _ _ _ [("addr", En.v _)] _
  have hS := fn_strip hT x hx
  have hE := gen_esc hT (stripV x) (k := 6)
  rw [show (0 : Int) = ((0 : Nat) : Int) from rfl, escD_map] at hE
  unfold checkV
  refine xs_assign hf (ev_call' (by walk_at "m_en") (by walk_at "m_kd") (by walk_at "m_evs") hS (by walk_at "m_room") (by with_unfolding_all rfl)) (by walk_at "m_hold") (by walk_at "m_put") (by with_unfolding_all rfl) ?_
  refine xs_assign (d := .int 0) hf (by walk_at "m_ev") (by walk_at "m_hold") (by walk_at "m_put") (by with_unfolding_all rfl) ?_
  refine xs_forgen (by walk_at "m_room") hf (ig_call (by walk_at "m_en") (by walk_at "m_kd") (by walk_at "m_evs") hE (by walk_at "m_room") (by with_unfolding_all rfl)) (by intro d hd; obtain ⟨a, _, rfl⟩ := List.mem_map.mp hd; exact ⟨_, rfl⟩) (by intro _; rfl) ?_
  refine loop_invS itemD (fun rest ρ => ∃ (n : Int), ([("addr", En.v (.str (stripV x))), ("opens", En.v (.int n))] : Ro).Sublist ρ ∧ checkF rest n = checkF (escL (stripV x).cps.toList 0 0 false) 0) ?_ ?_ _ _ ⟨0, List.Sublist.refl _, rfl⟩
  · rintro ρ ⟨n, hs, h1⟩
    refine xs_forget hs (xs_return (by walk_at "m_ev") ?_)
    rw [← h1]; rfl
  · rintro ⟨p, t⟩ rest ρ ⟨n, hs, h1⟩
    refine ⟨_, _, hs, .tup (by rfl) (by simp only [List.map, tgt]; walk_at "m_puts"), ?_⟩
    rw [checkF_cons] at h1
    refine xs_if (b := isT t "(") (ts_cmp (by walk_at "m_ev") (by walk_at "m_ev") c_eq_str (by with_unfolding_all rfl)) (fun hb => ?_) (fun hb => ?_)
    · rw [if_pos hb] at h1
      exact xs_aug hf (by walk_at "m_mem") (by walk_at "m_ev") (by walk_at "m_op") (by walk_at "m_hold") (by walk_at "m_put") (xs_on (xs_nil ⟨n + 1, (by walk_at "m_sub"), h1⟩))
    · rw [if_neg (by rw [hb]; decide)] at h1
      refine xs_if (b := isT t ")") (ts_cmp (by walk_at "m_ev") (by walk_at "m_ev") c_eq_str (by with_unfolding_all rfl)) (fun hb => ?_) (fun hb => ?_)
      · rw [if_pos hb] at h1
        refine xs_aug hf (by walk_at "m_mem") (by walk_at "m_ev") (by walk_at "m_op") (by walk_at "m_hold") (by walk_at "m_put") ?_
        refine xs_if (by walk_at "m_ts") (fun hb => xs_return (by walk_at "m_ev") ?_) (fun hb => xs_on (xs_on (xs_on (xs_nil ⟨n - 1, (by walk_at "m_sub"), ?_⟩))))
        · rw [← h1, if_pos (by simpa using hb)]; rfl
        · rw [← h1, if_neg (by simpa using hb)]
      · rw [if_neg (by rw [hb]; decide)] at h1
        exact xs_on (xs_on (xs_nil ⟨n, (by walk_at "m_sub"), h1⟩))
/- E20 -/
def escs : List (Nat × List Nat) → List Nat → List Nat
  | [], u => u
  | (c, z) :: ps, u => escs ps (u.flatMap (one c z))
theorem escs_hom : ∀ (ps : List (Nat × List Nat)) (u : List Nat), escs ps u = u.flatMap fun c => escs ps [c]
  | [], u => by simp [escs]
  | (c, z) :: ps, u => by
    rw [escs, escs_hom ps, List.flatMap_assoc]
    congr 1
    funext k
    rw [escs, ← escs_hom ps, List.flatMap_cons, List.flatMap_nil, List.append_nil]
def tableE (h : Nat) : List (Nat × List Nat) := match h with
  | 0 => [(38, ("&amp;" : Str).cps.toList), (60, ("&lt;" : Str).cps.toList), (62, ("&gt;" : Str).cps.toList)]
  | 1 => [(38, ("&amp;" : Str).cps.toList), (60, ("&lt;" : Str).cps.toList), (62, ("&gt;" : Str).cps.toList), (13, ("&#xD;" : Str).cps.toList)]
  | 2 => [(38, ("&amp;" : Str).cps.toList), (60, ("&lt;" : Str).cps.toList), (62, ("&gt;" : Str).cps.toList), (34, ("&quot;" : Str).cps.toList), (13, ("&#13;" : Str).cps.toList), (10, ("&#10;" : Str).cps.toList), (9, ("&#09;" : Str).cps.toList)]
  | 3 => [(38, ("&amp;" : Str).cps.toList), (62, ("&gt;" : Str).cps.toList), (34, ("&quot;" : Str).cps.toList)]
  | _ => [(38, ("&amp;" : Str).cps.toList), (60, ("&lt;" : Str).cps.toList), (34, ("&quot;" : Str).cps.toList), (9, ("&#x9;" : Str).cps.toList), (10, ("&#xA;" : Str).cps.toList), (13, ("&#xD;" : Str).cps.toList)]
theorem esc1_l {y z x : Str} {c : Nat} (hy : y = ⟨#[c]⟩) : (esc1 y z x).cps.toList = x.cps.toList.flatMap (one c z.cps.toList) := by subst hy; exact esc1_flat x z c
theorem esc_list (h : Nat) (hh : h < 5) (x : Str) : (esc (h : Int) x).cps.toList = escs (tableE h) x.cps.toList := by
  have a1 : ("&" : Str) = ⟨#[38]⟩ := by decide +kernel
  have a2 : ("<" : Str) = ⟨#[60]⟩ := by decide +kernel
  have a3 : (">" : Str) = ⟨#[62]⟩ := by decide +kernel
  have a4 : ("\"" : Str) = ⟨#[34]⟩ := by decide +kernel
  have a5 : ("\r" : Str) = ⟨#[13]⟩ := by decide +kernel
  have a6 : ("\n" : Str) = ⟨#[10]⟩ := by decide +kernel
  have a7 : ("\t" : Str) = ⟨#[9]⟩ := by decide +kernel
  match h, hh with
  | 0, _ => show (escAV x).cps.toList = _; unfold escAV; rw [esc1_l a3, esc1_l a2, esc1_l a1]; rfl
  | 1, _ => show (escBV x).cps.toList = _; unfold escBV; rw [esc1_l a5, esc1_l a3, esc1_l a2, esc1_l a1]; rfl
  | 2, _ => show (escCV x).cps.toList = _; unfold escCV; rw [esc1_l a7, esc1_l a6, esc1_l a5, esc1_l a4, esc1_l a3, esc1_l a2, esc1_l a1]; rfl
  | 3, _ => show (escDV x).cps.toList = _; unfold escDV; rw [esc1_l a4, esc1_l a3, esc1_l a1]; rfl
  | 4, _ => show (escEV x).cps.toList = _; unfold escEV; rw [esc1_l a5, esc1_l a6, esc1_l a7, esc1_l a4, esc1_l a2, esc1_l a1]; rfl
theorem digs_val (n : Nat) : ∀ ds : List Nat, (∀ d ∈ ds, d < 2 ^ n) → digsB n (valB n ds) ds.length = ds
  | [], _ => rfl
  | d :: ds, h => by
    have hd := h d List.mem_cons_self
    rw [valB, List.length_cons, digsB, Nat.add_mul_mod_self_right, Nat.mod_eq_of_lt hd, Nat.add_mul_div_right _ _ (Nat.pow_pos (by decide)), Nat.div_eq_of_lt hd, Nat.zero_add, digs_val n ds fun x hx => h x (List.mem_cons_of_mem _ hx)]
theorem nDig_val {n : Nat} (hn : 1 ≤ n) {ds : List Nat} (h : ∀ d ∈ ds, d < 2 ^ n) (hl : ∀ d, ds.getLast? = some d → 1 ≤ d) : nDig (valB n ds) n = ds.length := by
  rcases List.eq_nil_or_concat ds with rfl | ⟨l, d, rfl⟩
  · exact nDig_zero n hn
  · rw [List.concat_eq_append] at h hl ⊢
    have h1 : 1 ≤ d := hl d (by simp)
    have hlt := valB_lt n (l ++ [d]) h
    have hge : 2 ^ (n * l.length) ≤ valB n (l ++ [d]) := by
      rw [valB_append]
      have : valB n [d] = d := by simp [valB]
      rw [this]
      have := Nat.mul_le_mul_right (2 ^ (n * l.length)) h1
      walk_at "m_om"
    have b1 := bits_of_lt hlt
    have b2 : n * l.length < Builtin.Int.intBits ((valB n (l ++ [d]) : Nat) : Int) := by
      have := Nat.lt_of_le_of_lt hge (lt_of_bits (valB n (l ++ [d])))
      exact (Nat.pow_lt_pow_iff_right (by decide)).mp this
    unfold nDig
    generalize Builtin.Int.intBits ((valB n (l ++ [d]) : Nat) : Int) = b at b1 b2
    rw [List.length_append, List.length_singleton] at b1 ⊢
    rw [Nat.mul_add, Nat.mul_one] at b1
    refine Nat.div_eq_of_lt_le ?_ ?_
    · rw [Nat.add_mul, Nat.one_mul, Nat.mul_comm]; walk_at "m_om"
    · rw [Nat.succ_mul, Nat.add_mul, Nat.one_mul, Nat.mul_comm l.length]; walk_at "m_om"
theorem spike : (Txt.count (⟨#[38, 59, 59]⟩ : Str) ";") = 2 := by decide +kernel
/- N1 -/
theorem sc_law_cells : ScOk (scopeOf "_law_cells") ["script"] := ⟨by decide +kernel, by decide +kernel, by decide +kernel, by decide +kernel, by decide +kernel, by decide +kernel, by decide +kernel, by decide +kernel⟩
def firstV : List Int := [1, 3, 5, 2, 3, 8]
def cellIdx (n k : Nat) : Nat := (Builtin.Range.rangeSize (k : Int) (min 60 (n : Int)) 6).toNat
def cellV (ns : List Int) (k : Nat) : Int := (firstV[k]?).getD 0 + ((List.range (cellIdx ns.length k)).map fun i => (ns[k + i * 6]?).getD 0).sum
def cellsV (ns : List Int) : List Int := (List.range 6).map (cellV ns)
theorem cellIdx_lt {n k i : Nat} (h : i < cellIdx n k) : k + i * 6 < n ∧ i < 16777216 := by
  unfold cellIdx Builtin.Range.rangeSize at h
  simp only [show (6 : Int) > 0 by decide, if_true] at h
  have h63 : min (60 : Int) (n : Int) ≤ 60 := Int.min_le_left _ _
  have hn : min (60 : Int) (n : Int) ≤ n := Int.min_le_right _ _
  generalize min (60 : Int) (n : Int) = m at h h63 hn
  split at h <;> walk_at "m_om"
theorem cellIdx_le (n k : Nat) : cellIdx n k ≤ 16777216 := by
  rcases Nat.lt_or_ge (cellIdx n k) 16777217 with h | h
  · walk_at "m_om"
  · have := (cellIdx_lt (n := n) (k := k) (i := 16777216) (by walk_at "m_om")).2
    walk_at "m_om"
theorem fn_law_cells {G : Gx} (hT : Tp G) (ns : List Int) (hz : ns.length < 1000) {k : Nat} : Fn G (k + 2) "_law_cells" [.lst (ns.map .int)] (.lst ((cellsV ns).map .int)) := by
  refine fn_of (hT.defs "_law_cells" ["script"] (by decide +kernel) (by decide +kernel)) sc_law_cells rfl (by decide +kernel) fun A L' cs' q' a' fr' cd' N hr hf hown => ?_
  generalize hsc : scopeOf (Str.ofString "_law_cells") = sc at *
  conv at hsc => lhs; whnf
  subst hsc
  have hown2 : OwnC _ _ _ := ⟨hown⟩
  conv => arg 5; whnf
  show Xs _ _ _ _ _ [("script", En.v _)] _
  refine xs_assign hf (by walk_at "m_ev") (by walk_at "m_hold") (by walk_at "m_put") (by with_unfolding_all rfl) ?_
  have hlm : (ns.map D.int).length < 2 ^ 62 := by rw [List.length_map]; walk_at "m_om"
  refine xs_return ?_ rfl
  rw [show (cellsV ns).map D.int = (List.range 6).map fun k => D.int (cellV ns k) by unfold cellsV; rw [List.map_map]; rfl]
  apply ev_comp
  · walk_at "m_room"
  · walk_at "m_en"
  · walk_at "m_scc"
  · walk_at "m_fold"
  · exact it_range1 (by walk_at "m_room") (by walk_at "m_en") (by walk_at "m_kd") (Tp.bi hT _ (by decide +kernel)).1 (Tp.bi hT _ (by decide +kernel)).2 (by walk_at "m_ev") (by decide) (by decide) rfl (by with_unfolding_all rfl)
  · walk_at "m_capt"
  · intro cenv N' hf' ce
    refine ct_map (fun (k : Nat) => D.int ((0 : Int) + k * 1)) (fun k => D.int (cellV ns k)) (by walk_at "m_nin") (by walk_at "m_hold") (List.range 6) (by decide) fun k hk => ?_
    have hk7 : k < 6 := List.mem_range.mp hk
    rw [show ((0 : Int) + k * 1) = (k : Int) by walk_at "m_om"]
    show Evals _ _ _ [("first", En.v _), ("script", En.v _), ("k", En.v _)] _ _
    have hi : ItemD (.tup [.int 1, .int 3, .int 5, .int 2, .int 3, .int 8]) (k : Int) (.int ((firstV[k]?).getD 0)) := by
      rcases k with _ | _ | _ | _ | _ | _ | k
      all_goals first | exact ItemD.tup rfl (by decide) | walk_at "m_om"
    refine ev_bin (d1 := .int ((firstV[k]?).getD 0)) (d2 := .int ((List.range (cellIdx ns.length k)).map fun i => (ns[k + i * 6]?).getD 0).sum) (by walk_at "m_ev") ?_ o_add
    refine ev_bi' (ds := [.lst (((List.range (cellIdx ns.length k)).map fun i => (ns[k + i * 6]?).getD 0).map D.int)]) (by walk_at "m_en") (by walk_at "m_kd") (by walk_at "m_tpbi") (evl_cons ?_ evl_nil) (by walk_at "m_bi") (by with_unfolding_all rfl)
    rw [List.map_map]
    have hmin : min (60 : Int) (ns.length : Int) = ((min 60 ns.length : Nat) : Int) := by walk_at "m_om"
    apply ev_comp
    · walk_at "m_room"
    · walk_at "m_en"
    · walk_at "m_scc"
    · walk_at "m_fold"
    · refine it_range3 (a := (k : Int)) (n := min 60 ((ns.map D.int).length : Int)) (c := 6) (by walk_at "m_room") (by walk_at "m_en") (by walk_at "m_kd") (Tp.bi hT _ (by decide +kernel)).1 (Tp.bi hT _ (by decide +kernel)).2 (by walk_at "m_ev") (by walk_at "m_ev") (by walk_at "m_ev") (by decide) ?_ (by walk_at "m_np") rfl (by with_unfolding_all rfl)
      unfold Builtin.Range.small Builtin.Range.rangeSize Builtin.Range.rangeFitsLong
      rw [List.length_map, hmin]
      have h63 : min 60 ns.length ≤ 60 := Nat.min_le_left _ _
      generalize min 60 ns.length = m at h63 ⊢
      simp only [Bool.and_eq_true, Bool.or_eq_true, decide_eq_true_eq, beq_iff_eq, show (6 : Int) > 0 by decide, if_true]
      split <;> walk_at "m_om"
    · walk_at "m_capt"
    · intro cenv2 N2 hf2 ce2
      rw [List.length_map]
      show CTurns _ _ _ _ _ _ _ (spanInts ((k : Nat) : Int) ((6 : Nat) : Int) (cellIdx ns.length k)) _ _ _
      rw [spanInts_nat]
      refine ct_map (fun (i : Nat) => D.int ((k + i * 6 : Nat) : Int)) (fun i => D.int ((ns[k + i * 6]?).getD 0)) (by walk_at "m_nin") (by walk_at "m_hold") (List.range (cellIdx ns.length k)) ?_ fun i hi => ?_
      · rw [List.length_range]; exact cellIdx_le _ _
      · show Evals _ _ _ [("script", En.v _), ("j", En.v _)] _ _
        have hlt : k + i * 6 < ns.length := (cellIdx_lt (List.mem_range.mp hi)).1
        have hi : ItemD (.lst (ns.map D.int)) ((k + i * 6 : Nat) : Int) (.int ((ns[k + i * 6]?).getD 0)) := ItemD.lst (by simp [List.getElem?_eq_getElem hlt]) (by walk_at "m_om")
        walk_at "m_ev"
theorem sc_law_cap : ScOk (scopeOf "_law_cap") ["number"] := ⟨by decide +kernel, by decide +kernel, by decide +kernel, by decide +kernel, by decide +kernel, by decide +kernel, by decide +kernel, by decide +kernel⟩
def capV (n : Int) : Int := if n < 0 then -((-n).fmod (10 ^ 140)) else n.fmod (10 ^ 140)
theorem fn_law_cap {G : Gx} (hT : Tp G) (n : Int) {k : Nat} : Fn G (k + 1) "_law_cap" [.int n] (.int (capV n)) := by
  refine fn_of (hT.defs "_law_cap" ["number"] (by decide +kernel) (by decide +kernel)) sc_law_cap rfl (by decide +kernel) fun A L' cs' q' a' fr' cd' N hr hf hown => ?_
  generalize hsc : scopeOf (Str.ofString "_law_cap") = sc at *
  conv at hsc => lhs; whnf
  subst hsc
  have hown2 : OwnC _ _ _ := ⟨hown⟩
  conv => arg 5; whnf
  show Xs _ _ _ _ _ [("number", En.v _)] _
  have hp : Op2 G A (binaryOp .Pow) (.int 10) (.int 140) (.int (10 ^ 140)) := (o_pow (a := 10) (n := 140) (by decide) (by decide +kernel)).cast (by rfl)
  have h0 : (10 ^ 140 : Int) ≠ 0 := by decide +kernel

  refine xs_if (by walk_at "m_ts") (fun hb => xs_return (ev_un (ev_bin (by walk_at "m_ev") (ev_bin ev_int ev_int hp) (o_mod h0)) u_neg) ?_) fun hb => xs_on (xs_return (ev_bin (by walk_at "m_ev") (ev_bin ev_int ev_int hp) (o_mod h0)) ?_)
  · show D.int _ = D.int _
    unfold capV; rw [if_pos (by simpa using hb)]
  · show D.int _ = D.int _
    unfold capV; rw [if_neg (by simpa using hb)]
/- N2 -/
theorem sc_law_sign : ScOk (scopeOf "_law_sign") ["hand", "cell"] := ⟨by decide +kernel, by decide +kernel, by decide +kernel, by decide +kernel, by decide +kernel, by decide +kernel, by decide +kernel, by decide +kernel⟩
def sgs (h : Nat) : Str := (["&<>", "&<>\r", "&<>\"\r\n\t", "&>\"", "&<\"\r\n\t"] : List Str)[h]?.getD ""
def signC (h : Nat) (cell : Int) : Nat := (sgs h).cps.toList.getD (cell.fmod (sgs h).length).toNat 0
theorem sgs_len : ∀ h < 5, 3 ≤ (sgs h).length ∧ (sgs h).length ≤ 7 := by decide +kernel
theorem sign_mem {h : Nat} (hh : h < 5) (cell : Int) : ∃ i, i < (sgs h).length ∧ cell.fmod ((sgs h).length : Int) = (i : Int) ∧ (sgs h).cps[i]? = some (signC h cell) := by
  have hl := sgs_len h hh
  have h1 := Int.fmod_nonneg_of_pos cell (show (0 : Int) < ((sgs h).length : Int) by walk_at "m_om")
  have h2 := Int.fmod_lt_of_pos cell (show (0 : Int) < ((sgs h).length : Int) by walk_at "m_om")
  refine ⟨(cell.fmod ((sgs h).length : Int)).toNat, by walk_at "m_om", by walk_at "m_om", ?_⟩
  unfold signC
  have h3 : (cell.fmod ((sgs h).length : Int)).toNat < (sgs h).length := by walk_at "m_om"
  generalize (cell.fmod ((sgs h).length : Int)).toNat = i at h3
  have hi : i < (sgs h).cps.size := by exact h3
  rw [Array.getElem?_eq_getElem hi, List.getD_eq_getElem?_getD, List.getElem?_eq_getElem (by simpa using hi)]
  simp
theorem fn_law_sign {G : Gx} (hT : Tp G) (h : Nat) (hh : h < 5) (cell : Int) {k : Nat} : Fn G (k + 1) "_law_sign" [.int (h : Int), .int cell] (.str ⟨#[signC h cell]⟩) := by
  refine fn_of (hT.defs "_law_sign" ["hand", "cell"] (by decide +kernel) (by decide +kernel)) sc_law_sign rfl (by decide +kernel) fun A L' cs' q' a' fr' cd' N hr hf hown => ?_
  generalize hsc : scopeOf (Str.ofString "_law_sign") = sc at *
  conv at hsc => lhs; whnf
  subst hsc
  have hown2 : OwnC _ _ _ := ⟨hown⟩
  conv => arg 5; whnf
  show Xs _ _ _ _ _ [("hand", En.v _), ("cell", En.v _)] _
  have hl := sgs_len h hh
  have hi : ItemD (.tup [.str "&<>", .str "&<>\r", .str "&<>\"\r\n\t", .str "&>\"", .str "&<\"\r\n\t"]) (h : Int) (.str (sgs h)) := by
    rcases h with _ | _ | _ | _ | _ | h
    all_goals first | exact ItemD.tup rfl (by decide) | walk_at "m_om"
  refine xs_assign hf (by walk_at "m_ev") (by walk_at "m_hold") (by walk_at "m_put") (by with_unfolding_all rfl) ?_
  obtain ⟨i, h1, h2, h3⟩ := sign_mem hh cell
  have hb : Bi G A "len" [.str (sgs h)] (.int ((sgs h).length : Int)) := b_len_str (by walk_at "m_om")
  have h0 : ((sgs h).length : Int) ≠ 0 := by walk_at "m_om"
  refine xs_return (ev_item (by walk_at "m_ev") (i := (i : Int)) ?_ (ItemD.str h3 (by walk_at "m_om")) (by intro _ _; walk_at "m_rf")) rfl
  rw [← h2]
  exact ev_bin (by walk_at "m_ev") (ev_bi' (by walk_at "m_en") (by walk_at "m_kd") (by walk_at "m_tpbi") (by walk_at "m_evs") hb (by with_unfolding_all rfl)) (o_mod h0)
theorem ev_ifs {G : Gx} {A : Around} {env : Env} {ρ : Ro} {b : Bool} {u v : Str} {e1 e2 e3 : Expr} {p : Pos} (ht : Tests G A env ρ e1 b) (h1 : Evals G A env ρ e2 (.str u)) (h2 : Evals G A env ρ e3 (.str v)) : Evals G A env ρ (.IfExp e1 e2 e3 p) (.str (if b then u else v)) :=
  ev_if ht (fun hb => by subst hb; exact h1) (fun hb => by subst hb; exact h2)
theorem sc_law_spelled : ScOk (scopeOf "_law_spelled") ["hand", "sign"] := ⟨by decide +kernel, by decide +kernel, by decide +kernel, by decide +kernel, by decide +kernel, by decide +kernel, by decide +kernel, by decide +kernel⟩
def spelledV (h : Int) (x : Str) : Str := if x.cps.toList == ("&" : Str).cps.toList then "&amp;" else if x.cps.toList == ("<" : Str).cps.toList then "&lt;" else if x.cps.toList == (">" : Str).cps.toList then "&gt;" else if x.cps.toList == ("\"" : Str).cps.toList then "&quot;"
  else if x.cps.toList == ("\r" : Str).cps.toList then (if h == 2 then "&#13;" else "&#xD;") else if x.cps.toList == ("\n" : Str).cps.toList then (if h == 2 then "&#10;" else "&#xA;") else (if h == 2 then "&#09;" else "&#x9;")
theorem fn_law_spelled {G : Gx} (hT : Tp G) (h : Int) (x : Str) {k : Nat} : Fn G (k + 1) "_law_spelled" [.int h, .str x] (.str (spelledV h x)) := by
  refine fn_of (hT.defs "_law_spelled" ["hand", "sign"] (by decide +kernel) (by decide +kernel)) sc_law_spelled rfl (by decide +kernel) fun A L' cs' q' a' fr' cd' N hr hf hown => ?_
  generalize hsc : scopeOf (Str.ofString "_law_spelled") = sc at *
  conv at hsc => lhs; whnf
  subst hsc
  have hown2 : OwnC _ _ _ := ⟨hown⟩
  conv => arg 5; whnf
  show Xs _ _ _ _ _ [("hand", En.v _), ("sign", En.v _)] _
  refine xs_if (by walk_at "m_ts") (fun hb => xs_return (by walk_at "m_ev") ?_) fun hb => xs_on (xs_if (by walk_at "m_ts") (fun hb1 => xs_return (by walk_at "m_ev") ?_) fun hb1 => xs_on (xs_if (by walk_at "m_ts") (fun hb2 => xs_return (by walk_at "m_ev") ?_) fun hb2 => xs_on (xs_if (by walk_at "m_ts") (fun hb3 => xs_return (by walk_at "m_ev") ?_) fun hb3 => xs_on (xs_if (by walk_at "m_ts") (fun hb4 => xs_return (ev_ifs (by walk_at "m_ts") (by walk_at "m_ev") (by walk_at "m_ev")) ?_) fun hb4 => xs_on (xs_if (by walk_at "m_ts") (fun hb5 => xs_return (ev_ifs (by walk_at "m_ts") (by walk_at "m_ev") (by walk_at "m_ev")) ?_) fun hb5 => xs_on (xs_return (ev_ifs (by walk_at "m_ts") (by walk_at "m_ev") (by walk_at "m_ev")) ?_))))))
  all_goals (show D.str _ = D.str _; simp only [spelledV, *, if_true, if_false, Bool.false_eq_true])
/- N3 -/
theorem ev_mapI {G : Gx} {A : Around} {env : Env} {ρ : Ro} {α : Type} {x : Str} {px pos : Pos} {elt iter : Expr} {scope : Scope} {ρc : Ro} (f g : α → D) (as : List α) (hr : Room A 0) (he : EnvF env) (sk : ScComp scope) (hs : ∀ v, foldedSetIterable iter env v = pure v) (hi : Items G A env ρ (.Name x px) iter (as.map f)) (hc : Capt env ρ (frees scope) ρc) (hz : as.length ≤ 16777216) (hx : x ∉ ρc.map (·.1))
    (hb : ∀ cenv N', FrOk G cenv N' → CEnv scope cenv N' → Holds cenv N' x ∧ ∀ a ∈ as, Evals G A cenv (ρc ++ [(x, .v (f a))]) elt (g a)) : Evals G A env ρ (.ListComp elt [⟨.Name x px, iter, [], 0⟩] scope pos) (.lst (as.map g)) :=
  ev_comp hr he sk hs hi hc (fun cenv N' hf' ce => ct_map f g hx (hb cenv N' hf' ce).1 as hz (hb cenv N' hf' ce).2)
abbrev natD (k : Nat) : D := .int (k : Int)
theorem it_rangeN {G : Gx} {A : Around} {env : Env} {ρ : Ro} {t e : Expr} {p pos : Pos} {n : Nat} (hr : Room A 0) (he : EnvF env) (hx : env.kindOf "range" = some .globalImplicit) (hm : G.mg "range" = none ∧ G.mb "range" = bootBuiltins "range") (hl : Evals G A env ρ e (.int (n : Int))) (h1 : n < 2 ^ 62)
    (hn : isName t = true := by rfl) (hs : NoStar pos [e] env := by rfl) : Items G A env ρ t (.Call (.Name "range" p) [e] [] pos) ((List.range n).map natD) := by
  have := it_range1 (t := t) (n := (n : Int)) (pos := pos) (p := p) hr he hx hm.1 hm.2 hl (by walk_at "m_om") (by walk_at "m_om") hn hs
  have e1 : spanInts 0 1 ((n : Int)).toNat = (List.range n).map natD := by
    rw [show ((n : Int)).toNat = n from rfl]
    unfold spanInts
    refine List.map_congr_left fun i _ => ?_
    show D.int _ = D.int _
    congr 1; walk_at "m_om"
  rwa [e1] at this
theorem ints_item (l : List Int) (i : Nat) (h : i < l.length) (hz : l.length < 2 ^ 62) : ItemD (.lst (l.map D.int)) (i : Int) (.int (l.getD i 0)) := by
  refine ItemD.lst ?_ (by walk_at "m_om")
  rw [List.getElem?_map, List.getElem?_eq_getElem h, List.getD_eq_getElem?_getD, List.getElem?_eq_getElem h]; rfl
theorem cho_fit : ∀ c < 10, (choV c).length = 2 * c + 1 ∧ ∀ x ∈ choV c, -1000000 < x ∧ x < 1000000 := by decide +kernel
theorem k_fit : ∀ c < 10, ∀ i < 2 * c + 1, 0 ≤ kOf c i * (kOf c i - 1) ∧ kOf c i * (kOf c i - 1) ≤ 90 := by decide +kernel
theorem getD_fit' {l : List Int} (h : ∀ x ∈ l, -1000000 < x ∧ x < 1000000) (i : Nat) : -1000000 < l.getD i 0 ∧ l.getD i 0 < 1000000 := by
  rw [List.getD_eq_getElem?_getD]
  cases e : l[i]? with
  | none => decide
  | some x => exact h x (List.mem_of_getElem? e)
theorem sc_law_sum : ScOk (scopeOf "_law_sum") ["q", "chords"] := ⟨by decide +kernel, by decide +kernel, by decide +kernel, by decide +kernel, by decide +kernel, by decide +kernel, by decide +kernel, by decide +kernel⟩
theorem fn_law_sum {G : Gx} (hT : Tp G) (q : Int) (c : Nat) (h9 : c ≤ 9) (hq : Builtin.Int.intBits q ≤ 2000) {k : Nat} : Fn G (k + 2) "_law_sum" [.int q, .int (c : Int)] (.int (sumG (intO q) c)) := by
  refine fn_of (hT.defs "_law_sum" ["q", "chords"] (by decide +kernel) (by decide +kernel)) sc_law_sum rfl (by decide +kernel) fun A L' cs' q' a' fr' cd' N hr hf hown => ?_
  generalize hsc : scopeOf (Str.ofString "_law_sum") = sc at *
  conv at hsc => lhs; whnf
  subst hsc
  have hown2 : OwnC _ _ _ := ⟨hown⟩
  conv => arg 5; whnf
  show Xs _ _ _ _ _ [("q", En.v _), ("chords", En.v _)] _
  have hbr := hT.bi "range" (by decide +kernel)
  refine xs_assign (d := .lst [.int 1]) hf (by walk_at "m_ev") (by walk_at "m_hold") (by walk_at "m_put") (by with_unfolding_all rfl) ?_
  have h2c : Op2 G A (binaryOp .Mult) (.int 2) (.int (c : Int)) (.int ((2 * c : Nat) : Int)) := (o_mul (IntMulOk.of_left (by decide +kernel))).cast (by push_cast; rfl)
  refine xs_for (by walk_at "m_room") hf (it_rangeN (by walk_at "m_room") (by walk_at "m_en") (by walk_at "m_kd") hbr (by walk_at "m_ev") (by walk_at "m_om") rfl (by with_unfolding_all rfl)) (by intro _; rfl) ?_
  refine loop_invS natD (fun rest ρ => ∃ p l, ([("q", En.v (.int q)), ("chords", En.v (.int (c : Int))), ("choices", En.v (.lst (l.map D.int)))] : Ro).Sublist ρ ∧ rest = List.range' p rest.length ∧ l.length = p + 1 ∧ rest.foldl choStep l = choV c ∧ p + rest.length = 2 * c) ?_ ?_ _ _ ⟨0, [1], List.Sublist.refl _, by rw [List.length_range, List.range_eq_range'], rfl, rfl, by rw [List.length_range, Nat.zero_add]⟩
  · rintro ρ ⟨p, l, hs, _, hl, hc, _⟩
    have hc : l = choV c := hc
    subst hc
    refine xs_forget hs ?_
    refine xs_assign hf (by walk_at "m_ev") (by walk_at "m_hold") (by walk_at "m_put") (by with_unfolding_all rfl) ?_
    have ek : ((c : Int) + 1 - -(c : Int)).toNat = 2 * c + 1 := by walk_at "m_om"
    refine xs_for (by walk_at "m_room") hf (it_range2 (a := -(c : Int)) (n := (c : Int) + 1) (by walk_at "m_room") (by walk_at "m_en") (by walk_at "m_kd") hbr.1 hbr.2 (by walk_at "m_ev") (by walk_at "m_ev") (by walk_at "m_om") (by walk_at "m_om") (by walk_at "m_om") (by walk_at "m_om") rfl (by with_unfolding_all rfl)) (by intro _; rfl) ?_
    rw [ek, show spanInts (-(c : Int)) 1 (2 * c + 1) = (List.range (2 * c + 1)).map fun i => D.int (kOf c i) by
      unfold spanInts kOf
      refine List.map_congr_left fun i _ => ?_
      show D.int _ = D.int _
      congr 1; walk_at "m_om"]
    refine loop_invS (fun i => D.int (kOf c i)) (fun rest ρ => ∃ w, ([("q", En.v (.int q)), ("chords", En.v (.int (c : Int))), ("choices", En.v (.lst ((choV c).map D.int))), ("whole", En.v (.int w))] : Ro).Sublist ρ ∧ rest.foldl (sumStep (intO q) c) w = sumG (intO q) c ∧ ∀ i ∈ rest, i < 2 * c + 1) ?_ ?_ _ _ ⟨0, List.Sublist.refl _, rfl, fun i hi => List.mem_range.mp hi⟩
    · rintro ρ ⟨w, hs, hw, _⟩
      refine xs_forget hs (xs_return (by walk_at "m_ev") ?_)
      show D.int _ = D.int _
      rw [← hw]; rfl
    · rintro i rest ρ ⟨w, hs, hw, hi⟩
      have hlt := hi i List.mem_cons_self
      obtain ⟨f1, f2⟩ := cho_fit c (by walk_at "m_om")
      obtain ⟨g1, g2⟩ := k_fit c (by walk_at "m_om") i hlt
      have g3 := getD_fit' f2 i
      refine ⟨_, _, hs, .name (by walk_at "m_hold") (by walk_at "m_put"), ?_⟩
      show Xs _ _ _ _ _ [("q", En.v _), ("chords", En.v _), ("choices", En.v _), ("whole", En.v _), ("k", En.v _)] _
      have it : ItemD (.lst ((choV c).map D.int)) ((c : Int) + kOf c i) (.int ((choV c).getD i 0)) := by
        rw [show (c : Int) + kOf c i = (i : Int) by unfold kOf; walk_at "m_om"]
        exact ints_item _ _ (by walk_at "m_om") (by walk_at "m_om")
      have m1 : IntMulOk (kOf c i) (kOf c i - 1) := IntMulOk.of_left (small_bits (by unfold kOf; walk_at "m_om") (by unfold kOf; walk_at "m_om"))
      have hnp : Builtin.divisionGoesByPylong (kOf c i * (kOf c i - 1)) 2 = false := PyProof.noPylong_small (by walk_at "m_om")
      have he0 : 0 ≤ (kOf c i * (kOf c i - 1)).fdiv 2 := Int.fdiv_nonneg g1 (by decide)
      have he1 : (kOf c i * (kOf c i - 1)).fdiv 2 ≤ 45 := by rw [Int.fdiv_eq_ediv_of_nonneg _ (by decide)]; walk_at "m_om"
      have hz : (Builtin.Int.intBits q : Int) * (kOf c i * (kOf c i - 1)).fdiv 2 ≤ 2 ^ 27 := by
        have := Int.mul_le_mul (show (Builtin.Int.intBits q : Int) ≤ 2000 by walk_at "m_om") he1 he0 (by decide)
        walk_at "m_om"
      have hm : IntMulOk (q ^ ((kOf c i * (kOf c i - 1)).fdiv 2).toNat) ((choV c).getD i 0) := IntMulOk.of_right (small_bits g3.1 g3.2)
      have ep : pwG (intO q) (intO q).x (eOf c i) = q ^ ((kOf c i * (kOf c i - 1)).fdiv 2).toNat := pw_int q q _
      refine xs_assign hf (by walk_at "m_ev") (by walk_at "m_hold") (by walk_at "m_put") (by with_unfolding_all rfl) ?_
      have hst : ∀ (P : Out → Prop) v, sumStep (intO q) c w i = v → LoopEnd (fun ρ => ∃ w, ([("q", En.v (.int q)), ("chords", En.v (.int (c : Int))), ("choices", En.v (.lst ((choV c).map D.int))), ("whole", En.v (.int w))] : Ro).Sublist ρ ∧ rest.foldl (sumStep (intO q) c) w = sumG (intO q) c ∧ ∀ i ∈ rest, i < 2 * c + 1) P (.next [("q", En.v (.int q)), ("chords", En.v (.int (c : Int))), ("choices", En.v (.lst ((choV c).map D.int))), ("whole", En.v (.int v)), ("k", En.v (.int (kOf c i))), ("part", En.v (.int (q ^ ((kOf c i * (kOf c i - 1)).fdiv 2).toNat * (choV c).getD i 0)))]) := fun P v hv => by
        subst hv
        exact ⟨_, (by walk_at "m_sub"), hw, fun i hi' => hi i (List.mem_cons_of_mem _ hi')⟩
      refine xs_if (by walk_at "m_ts") (fun hb => ?_) fun hb => ?_
      · refine xs_aug hf (by walk_at "m_mem") (by walk_at "m_ev") (by walk_at "m_op") (by walk_at "m_hold") (by walk_at "m_put") (xs_on (xs_nil (hst _ _ ?_)))
        unfold sumStep; rw [if_pos hb, ep]; rfl
      · refine xs_aug hf (by walk_at "m_mem") (by walk_at "m_ev") (by walk_at "m_op") (by walk_at "m_hold") (by walk_at "m_put") (xs_on (xs_nil (hst _ _ ?_)))
        unfold sumStep; rw [if_neg (by rw [hb]; decide), ep]; rfl
  · rintro p0 rest ρ ⟨p, l, hs, hr1, hl, hc, hp⟩
    rw [List.length_cons, List.range'_succ] at hr1
    obtain ⟨rfl, hr2⟩ := List.cons.inj hr1
    rw [List.length_cons] at hp
    refine ⟨_, _, hs, .name (by walk_at "m_hold") (by walk_at "m_put"), ?_⟩
    show Xs _ _ _ _ _ [("q", En.v _), ("chords", En.v _), ("choices", En.v _), ("place", En.v _)] _
    refine xs_assign (d := .lst ((choStep l p0).map D.int)) hf (ev_bin (d1 := .lst ([.int 1] ++ (List.range p0).map fun k => D.int (l.getD k 0 + l.getD (k + 1) 0))) (d2 := .lst [.int 1]) (ev_bin (d1 := .lst [.int 1]) (d2 := .lst ((List.range p0).map fun k => D.int (l.getD k 0 + l.getD (k + 1) 0))) (by walk_at "m_ev") ?_ (o_addl ?_)) (by walk_at "m_ev") ((o_addl ?_).cast ?_)) (by walk_at "m_hold") (by walk_at "m_put") (by with_unfolding_all rfl) ?_
    · refine ev_mapI natD _ (List.range p0) (by walk_at "m_room") (by walk_at "m_en") (by walk_at "m_scc") (by intro _; rfl) (it_rangeN (by walk_at "m_room") (by walk_at "m_en") (by walk_at "m_kd") hbr (by walk_at "m_ev") (by walk_at "m_om") rfl (by with_unfolding_all rfl)) (by walk_at "m_capt") (by rw [List.length_range]; walk_at "m_om") (by walk_at "m_nin") (fun cenv N' hf' ce => ⟨(by walk_at "m_hold"), fun k hk => ?_⟩)
      show Evals _ _ _ [("choices", En.v _), ("k", En.v _)] _ _
      have hk' := List.mem_range.mp hk
      have i1 := ints_item l k (by walk_at "m_om") (by walk_at "m_om")
      have i2 : ItemD (.lst (l.map D.int)) ((k : Int) + 1) (.int (l.getD (k + 1) 0)) := ints_item l (k + 1) (by walk_at "m_om") (by walk_at "m_om")
      walk_at "m_ev"
    · simp only [List.length_cons, List.length_nil, List.length_map, List.length_range]; walk_at "m_om"
    · simp only [List.length_append, List.length_cons, List.length_nil, List.length_map, List.length_range]; walk_at "m_om"
    · unfold choStep
      simp only [List.map_append, List.map_cons, List.map_nil, List.map_map]
      rfl
    · refine xs_nil ⟨p0 + 1, choStep l p0, (by walk_at "m_sub"), hr2, ?_, hc, by walk_at "m_om"⟩
      unfold choStep
      simp only [List.length_append, List.length_cons, List.length_nil, List.length_map, List.length_range]; walk_at "m_om"
/- N4 -/
def LB (l : List Int) (m : Nat) : Prop := ∀ x ∈ l, Builtin.Int.intBits x ≤ m
theorem LB.getD {l : List Int} {m : Nat} (h : LB l m) (i : Nat) : Builtin.Int.intBits (l.getD i 0) ≤ m := by
  rw [List.getD_eq_getElem?_getD]
  cases e : l[i]? with
  | none => exact Nat.le_trans (by decide +kernel : Builtin.Int.intBits 0 ≤ 0) (Nat.zero_le _)
  | some x => exact h x (List.mem_of_getElem? e)
theorem LB.last {l : List Int} {m : Nat} (h : LB l m) : Builtin.Int.intBits (l.getLastD 0) ≤ m := by
  rw [List.getLastD_eq_getLast?]
  cases e : l.getLast? with
  | none => exact Nat.le_trans (by decide +kernel : Builtin.Int.intBits 0 ≤ 0) (Nat.zero_le _)
  | some x => exact h x (List.mem_of_getLast? e)
theorem LB.step {q : Int} (hq : Builtin.Int.intBits q ≤ 2000) {l : List Int} {m : Nat} (h : LB l m) : LB (ladStep (intO q) l) (m + 2001) := by
  intro x hx
  rcases List.mem_append.mp hx with h1 | h1
  · exact Nat.le_trans (h x h1) (by walk_at "m_om")
  · rw [List.mem_singleton.mp h1]
    show Builtin.Int.intBits (l.getLastD 0 * q + 1) ≤ _
    have := PySem.intBits_add_le (PySem.intBits_mul_le h.last hq) (show Builtin.Int.intBits 1 ≤ 1 by decide +kernel)
    walk_at "m_om"
theorem LB.ways {q : Int} {c m n : Nat} {lad w : List Int} (hl : LB lad n) (hw : LB w m) : LB (wayStep (intO q) c lad w) (m + n + 1) := by
  intro x hx
  obtain ⟨k, _, rfl⟩ := List.mem_map.mp hx
  have h1 : LB ([(0 : Int)] ++ w.take (w.length - 1)) m := by
    intro y hy
    rcases List.mem_append.mp hy with h | h
    · rw [List.mem_singleton.mp h]; exact Nat.le_trans (by decide +kernel : Builtin.Int.intBits 0 ≤ 0) (Nat.zero_le _)
    · exact hw y (List.mem_of_mem_take h)
  have h2 : LB (((List.range c).map fun k => w.getD (k + 1) 0 * lad.getD (k + 1) 0) ++ [0]) (m + n) := by
    intro y hy
    rcases List.mem_append.mp hy with h | h
    · obtain ⟨j, _, rfl⟩ := List.mem_map.mp h
      exact PySem.intBits_mul_le (hw.getD _) (hl.getD _)
    · rw [List.mem_singleton.mp h]; exact Nat.le_trans (by decide +kernel : Builtin.Int.intBits 0 ≤ 0) (Nat.zero_le _)
  have := PySem.intBits_add_le (h1.getD k) (h2.getD k)
  show Builtin.Int.intBits (_ + _) ≤ _
  refine Nat.le_trans this ?_
  walk_at "m_om"
theorem sc_law_walk : ScOk (scopeOf "_law_walk") ["q", "chords"] := ⟨by decide +kernel, by decide +kernel, by decide +kernel, by decide +kernel, by decide +kernel, by decide +kernel, by decide +kernel, by decide +kernel⟩
theorem fn_law_walk {G : Gx} (hT : Tp G) (q : Int) (c : Nat) (h9 : c ≤ 9) (hq : Builtin.Int.intBits q ≤ 2000) {k : Nat} : Fn G (k + 2) "_law_walk" [.int q, .int (c : Int)] (.int (walkG (intO q) c)) := by
  refine fn_of (hT.defs "_law_walk" ["q", "chords"] (by decide +kernel) (by decide +kernel)) sc_law_walk rfl (by decide +kernel) fun A L' cs' q' a' fr' cd' N hr hf hown => ?_
  generalize hsc : scopeOf (Str.ofString "_law_walk") = sc at *
  conv at hsc => lhs; whnf
  subst hsc
  have hown2 : OwnC _ _ _ := ⟨hown⟩
  conv => arg 5; whnf
  show Xs _ _ _ _ _ [("q", En.v _), ("chords", En.v _)] _
  have hbr := hT.bi "range" (by decide +kernel)
  refine xs_new (ρ' := fun a => [("q", En.v (.int q)), ("chords", En.v (.int (c : Int))), ("ladder", En.own a [.int 0])]) hf (by walk_at "m_evs") (by walk_at "m_hold") (fun a => by walk_at "m_put") (by decide) (by with_unfolding_all rfl) (by with_unfolding_all rfl) fun a => ?_
  refine xs_for (by walk_at "m_room") hf (it_rangeN (by walk_at "m_room") (by walk_at "m_en") (by walk_at "m_kd") hbr (by walk_at "m_ev") (by walk_at "m_om") rfl (by with_unfolding_all rfl)) (by intro _; rfl) ?_
  refine loop_invS natD (fun rest ρ => ∃ p l, ([("q", En.v (.int q)), ("chords", En.v (.int (c : Int))), ("ladder", En.own a (l.map D.int))] : Ro).Sublist ρ ∧ l.length = p + 1 ∧ LB l (2001 * p) ∧ rest.foldl (fun l _ => ladStep (intO q) l) l = ladG (intO q) c ∧ p + rest.length = c) ?_ ?_ _ _ ⟨0, [0], List.Sublist.refl _, rfl, fun x hx => by rw [List.mem_singleton.mp hx]; decide +kernel, rfl, by rw [List.length_range, Nat.zero_add]⟩
  · rintro ρ ⟨p, l, hs, hl, hb, hc, hp⟩
    have hc : l = ladG (intO q) c := hc
    rw [List.length_nil] at hp
    refine xs_forget hs ?_
    refine xs_freeze hf (by walk_at "m_mem") (by walk_at "m_put") ?_
    have hrep : Op2 G A (binaryOp .Mult) (.lst [.int 0]) (.int (c : Int)) (.lst ((List.replicate c (0 : Int)).map D.int)) := by
      refine (o_repl (l := [.int 0]) (n := (c : Int)) (by walk_at "m_om") (by simp only [List.length_cons, List.length_nil]; walk_at "m_om") (by walk_at "m_om")).cast ?_
      rw [show ((c : Int)).toNat = c from rfl, List.map_replicate, List.flatten_replicate_singleton]
    refine xs_assign (d := .lst (([1] ++ List.replicate c (0 : Int)).map D.int)) hf (ev_bin (d1 := .lst [.int 1]) (by walk_at "m_ev") (ev_bin (d1 := .lst [.int 0]) (by walk_at "m_ev") (by walk_at "m_ev") hrep) ((o_addl (by simp only [List.length_cons, List.length_nil, List.length_map, List.length_replicate]; walk_at "m_om")).cast (by simp only [List.map_append, List.map_cons, List.map_nil]))) (by walk_at "m_hold") (by walk_at "m_put") (by with_unfolding_all rfl) ?_
    have h2c : Op2 G A (binaryOp .Mult) (.int 2) (.int (c : Int)) (.int ((2 * c : Nat) : Int)) := (o_mul (IntMulOk.of_left (by decide +kernel))).cast (by push_cast; rfl)
    refine xs_for (by walk_at "m_room") hf (it_rangeN (by walk_at "m_room") (by walk_at "m_en") (by walk_at "m_kd") hbr (by walk_at "m_ev") (by walk_at "m_om") rfl (by with_unfolding_all rfl)) (by intro _; rfl) ?_
    refine loop_invS natD (fun rest ρ => ∃ n w, ([("q", En.v (.int q)), ("chords", En.v (.int (c : Int))), ("ladder", En.v (.lst (l.map D.int))), ("ways", En.v (.lst (w.map D.int)))] : Ro).Sublist ρ ∧ w.length = c + 1 ∧ LB w (1 + 18010 * n) ∧ rest.foldl (fun w _ => wayStep (intO q) c (ladG (intO q) c) w) w = waysG (intO q) c (2 * c) ∧ n + rest.length = 2 * c) ?_ ?_ _ _ ⟨0, _, List.Sublist.refl _, by simp only [List.length_append, List.length_cons, List.length_nil, List.length_replicate]; walk_at "m_om", ?_, rfl, by rw [List.length_range, Nat.zero_add]⟩
    · rintro ρ ⟨n, w, hs, hw, _, hg, _⟩
      have hg : w = waysG (intO q) c (2 * c) := hg
      have it : ItemD (.lst (w.map D.int)) (0 : Int) (.int (w.getD 0 0)) := ints_item w 0 (by walk_at "m_om") (by walk_at "m_om")
      refine xs_forget hs (xs_return (by walk_at "m_ev") ?_)
      show D.int _ = D.int _
      rw [hg]; rfl
    · rintro i rest ρ ⟨n, w, hs, hw, hwb, hg, hn⟩
      rw [List.length_cons] at hn
      refine ⟨_, _, hs, .name (by walk_at "m_hold") (by walk_at "m_put"), ?_⟩
      show Xs _ _ _ _ _ [("q", En.v _), ("chords", En.v _), ("ladder", En.v _), ("ways", En.v _), ("place", En.v _)] _
      refine xs_assign (d := .lst (([0] ++ w.take (w.length - 1)).map D.int)) hf (ev_bin (d1 := .lst [.int 0]) (d2 := .lst ((w.map D.int).take ((w.map D.int).length - 1))) (by walk_at "m_ev") (ev_list_butlast (by walk_at "m_ev") (by walk_at "m_ev") (by rw [List.length_map]; walk_at "m_om")) ((o_addl (by simp only [List.length_cons, List.length_nil, List.length_map, List.length_take]; walk_at "m_om")).cast (by simp only [List.map_append, List.map_cons, List.map_nil, List.map_take, List.length_map]))) (by walk_at "m_hold") (by walk_at "m_put") (by with_unfolding_all rfl) ?_
      refine xs_assign (d := .lst ((((List.range c).map fun k => w.getD (k + 1) 0 * l.getD (k + 1) 0) ++ [0]).map D.int)) hf (ev_bin (d1 := .lst ((List.range c).map fun k => D.int (w.getD (k + 1) 0 * l.getD (k + 1) 0))) (d2 := .lst [.int 0]) (ev_mapI natD _ (List.range c) (by walk_at "m_room") (by walk_at "m_en") (by walk_at "m_scc") (by intro _; rfl) (it_rangeN (by walk_at "m_room") (by walk_at "m_en") (by walk_at "m_kd") hbr (by walk_at "m_ev") (by walk_at "m_om") rfl (by with_unfolding_all rfl)) (by walk_at "m_capt") (by rw [List.length_range]; walk_at "m_om") (by walk_at "m_nin") (fun cenv N' hf' ce => ⟨(by walk_at "m_hold"), fun k hk => ?_⟩)) (by walk_at "m_ev") ((o_addl (by simp only [List.length_cons, List.length_nil, List.length_map, List.length_range]; walk_at "m_om")).cast ?_)) (by walk_at "m_hold") (by walk_at "m_put") (by with_unfolding_all rfl) ?_
      · show Evals _ _ _ [("ladder", En.v _), ("ways", En.v _), ("k", En.v _)] _ _
        have hk' := List.mem_range.mp hk
        have i1 : ItemD (.lst (w.map D.int)) ((k : Int) + 1) (.int (w.getD (k + 1) 0)) := ints_item w (k + 1) (by walk_at "m_om") (by walk_at "m_om")
        have i2 : ItemD (.lst (l.map D.int)) ((k : Int) + 1) (.int (l.getD (k + 1) 0)) := ints_item l (k + 1) (by walk_at "m_om") (by walk_at "m_om")
        have hm : IntMulOk (w.getD (k + 1) 0) (l.getD (k + 1) 0) := IntMulOk.of_bits (Nat.le_trans (hwb.getD _) (by walk_at "m_om")) (Nat.le_trans (hb.getD _) (by walk_at "m_om"))
        walk_at "m_ev"
      · simp only [List.map_append, List.map_cons, List.map_nil, List.map_map]; rfl
      have ew : (wayStep (intO q) c l w).map D.int = (List.range (c + 1)).map fun k => D.int (([0] ++ w.take (w.length - 1)).getD k 0 + (((List.range c).map fun k => w.getD (k + 1) 0 * l.getD (k + 1) 0) ++ [0]).getD k 0) := by unfold wayStep; rw [List.map_map]; rfl
      refine xs_assign (d := .lst ((wayStep (intO q) c l w).map D.int)) hf (Evals.cast (ev_mapI natD _ (List.range (c + 1)) (by walk_at "m_room") (by walk_at "m_en") (by walk_at "m_scc") (by intro _; rfl) (it_rangeN (n := c + 1) (by walk_at "m_room") (by walk_at "m_en") (by walk_at "m_kd") hbr (ev_bin (by walk_at "m_ev") (by walk_at "m_ev") (o_add.cast (by push_cast; rfl))) (by walk_at "m_om") rfl (by with_unfolding_all rfl)) (by walk_at "m_capt") (by rw [List.length_range]; walk_at "m_om") (by walk_at "m_nin") (fun cenv N' hf' ce => ⟨(by walk_at "m_hold"), fun k hk => ?_⟩)) (by rw [ew])) (by walk_at "m_hold") (by walk_at "m_put") (by with_unfolding_all rfl) ?_
      · show Evals _ _ _ [("above", En.v _), ("below", En.v _), ("k", En.v _)] _ _
        have hk' := List.mem_range.mp hk
        have i1 := ints_item ([0] ++ w.take (w.length - 1)) k (by simp only [List.length_append, List.length_cons, List.length_nil, List.length_take]; walk_at "m_om") (by simp only [List.length_append, List.length_cons, List.length_nil, List.length_take]; walk_at "m_om")
        have i2 := ints_item (((List.range c).map fun k => w.getD (k + 1) 0 * l.getD (k + 1) 0) ++ [0]) k (by simp only [List.length_append, List.length_cons, List.length_nil, List.length_map, List.length_range]; walk_at "m_om") (by simp only [List.length_append, List.length_cons, List.length_nil, List.length_map, List.length_range]; walk_at "m_om")
        exact ev_bin (ev_item (by walk_at "m_ev") (by walk_at "m_ev") i1 (by intro _ _; walk_at "m_rf")) (ev_item (by walk_at "m_ev") (by walk_at "m_ev") i2 (by intro _ _; walk_at "m_rf")) o_add
      · refine xs_nil ⟨n + 1, wayStep (intO q) c l w, (by walk_at "m_sub"), by unfold wayStep; rw [List.length_map, List.length_range], ?_, ?_, by walk_at "m_om"⟩
        · have := LB.ways (q := q) (c := c) hb hwb
          exact fun x hx => Nat.le_trans (this x hx) (by walk_at "m_om")
        · rw [hc]; exact hg
    · intro x hx
      rcases List.mem_append.mp hx with h | h
      · rw [List.mem_singleton.mp h]; decide +kernel
      · rw [List.eq_of_mem_replicate h]; decide +kernel
  · rintro p0 rest ρ ⟨p, l, hs, hl, hb, hc, hp⟩
    rw [List.length_cons] at hp
    refine ⟨_, _, hs, .name (by walk_at "m_hold") (by walk_at "m_put"), ?_⟩
    show Xs _ _ _ _ _ [("q", En.v _), ("chords", En.v _), ("ladder", En.own a _), ("place", En.v _)] _
    have hne : l ≠ [] := fun e => by rw [e] at hl; cases hl
    have hlast : (l.map D.int).getLast? = some (.int (l.getLastD 0)) := by
      rw [List.getLast?_map, List.getLastD_eq_getLast?]
      cases e : l.getLast? with
      | none => exact absurd (List.getLast?_eq_none_iff.mp e) hne
      | some x => rfl
    have hm : IntMulOk (l.getLastD 0) q := IntMulOk.of_bits (Nat.le_trans hb.last (by walk_at "m_om")) (by walk_at "m_om")
    refine xs_append hf (by walk_at "m_mem") (ev_bin (ev_bin (ev_own_last (by walk_at "m_en") (by walk_at "m_mem") hlast (by rw [List.length_map]; walk_at "m_om")) (by walk_at "m_ev") (o_mul hm)) (by walk_at "m_ev") o_add) (by walk_at "m_put") ?_ (by with_unfolding_all rfl) (by with_unfolding_all rfl) (by decide) (by with_unfolding_all rfl) (by with_unfolding_all rfl) ?_
    · rw [List.length_map]; walk_at "m_om"
    refine xs_nil ⟨p + 1, ladStep (intO q) l, ?_, ?_, fun x hx => Nat.le_trans (hb.step hq x hx) (by walk_at "m_om"), hc, by walk_at "m_om"⟩
    · have e : (ladStep (intO q) l).map D.int = l.map D.int ++ [D.int (l.getLastD 0 * q + 1)] := by unfold ladStep; rw [List.map_append]; rfl
      rw [e]
      walk_at "m_sub"
    · unfold ladStep; rw [List.length_append, hl]; rfl
/- N5 -/
theorem sc_law_rows : ScOk (scopeOf "_law_rows") ["few", "sign", "spelled"] := ⟨by decide +kernel, by decide +kernel, by decide +kernel, by decide +kernel, by decide +kernel, by decide +kernel, by decide +kernel, by decide +kernel⟩
def rowOf (r : LRow) : D := .tup [.str (mkS r.bare), .str (mkS r.due), .int (r.opened : Int), .int r.height, .bool r.good]
theorem str40 : ("(" : Str) = mkS [40] := by decide +kernel
theorem str41 : (")" : Str) = mkS [41] := by decide +kernel
theorem pow4 {p : Nat} (h : p ≤ 6) : 4 ^ p ≤ 4096 := Nat.pow_le_pow_right (by decide) h
theorem fn_law_rows {G : Gx} (hT : Tp G) (few : Nat) (hf3 : few ≤ 3) (sg sp : List Nat) (h1 : sg.length ≤ 1) (h2 : sp.length ≤ 6) {k : Nat} : Fn G (k + 2) "_law_rows" [.int (few : Int), .str (mkS sg), .str (mkS sp)] (.lst ((lrows few sg sp).map rowOf)) := by
  refine fn_of (hT.defs "_law_rows" ["few", "sign", "spelled"] (by decide +kernel) (by decide +kernel)) sc_law_rows rfl (by decide +kernel) fun A L' cs' q' a' fr' cd' N hr hf hown => ?_
  generalize hsc : scopeOf (Str.ofString "_law_rows") = sc at *
  conv at hsc => lhs; whnf
  subst hsc
  have hown2 : OwnC _ _ _ := ⟨hown⟩
  conv => arg 5; whnf
  show Xs _ _ _ _ _ [("few", En.v _), ("sign", En.v _), ("spelled", En.v _)] _
  have hbr := hT.bi "range" (by decide +kernel)
  have hbm := hT.bi "max" (by decide +kernel)
  have h2c : Op2 G A (binaryOp .Mult) (.int 2) (.int (few : Int)) (.int ((2 * few : Nat) : Int)) := (o_mul (IntMulOk.of_left (by decide +kernel))).cast (by push_cast; rfl)
  refine xs_assign (d := .lst [.tup [.str "", .str "", .int 0, .int 0, .bool true]]) hf (by walk_at "m_ev") (by walk_at "m_hold") (by walk_at "m_put") (by with_unfolding_all rfl) ?_
  refine xs_for (by walk_at "m_room") hf (it_rangeN (by walk_at "m_room") (by walk_at "m_en") (by walk_at "m_kd") hbr (by walk_at "m_ev") (by walk_at "m_om") rfl (by with_unfolding_all rfl)) (by intro _; rfl) ?_
  refine loop_invS natD (fun rest ρ => ∃ p rows, ([("few", En.v (.int (few : Int))), ("sign", En.v (.str (mkS sg))), ("spelled", En.v (.str (mkS sp))), ("rows", En.v (.lst (rows.map rowOf)))] : Ro).Sublist ρ ∧ rest = List.range' p rest.length ∧ RowsFit few p rows ∧ rest.foldl (lrowsStep few sg sp) rows = lrows few sg sp ∧ p + rest.length = 2 * few) ?_ ?_ _ _
    ⟨0, [⟨[], [], 0, 0, true⟩], List.Sublist.refl _, by rw [List.length_range, List.range_eq_range'], ⟨Nat.le_refl 1, fun r hr => by rw [List.mem_singleton.mp hr]; exact ⟨Nat.zero_le _, by decide, Nat.le_refl 0, Nat.le_refl 0⟩⟩, rfl, by rw [List.length_range, Nat.zero_add]⟩
  · rintro ρ ⟨p, rows, hs, _, _, hg, _⟩
    have hg : rows = lrows few sg sp := hg
    subst hg
    exact xs_forget hs (xs_return (by walk_at "m_ev") rfl)
  · rintro p0 rest ρ ⟨p, rows, hs, hr1, hfit, hg, hp⟩
    rw [List.length_cons, List.range'_succ] at hr1
    obtain ⟨rfl, hr2⟩ := List.cons.inj hr1
    rw [List.length_cons] at hp
    have hfit' := fitStep hf3 h1 h2 hfit
    have hsz := Nat.le_trans hfit'.size (pow4 (by walk_at "m_om"))
    refine ⟨_, _, hs, .name (by walk_at "m_hold") (by walk_at "m_put"), ?_⟩
    refine xs_new (ρ' := fun a => [("few", En.v (.int (few : Int))), ("sign", En.v (.str (mkS sg))), ("spelled", En.v (.str (mkS sp))), ("rows", En.v (.lst (rows.map rowOf))), ("place", En.v (natD p0)), ("grown", En.own a [])]) hf (by walk_at "m_evs") (by walk_at "m_hold") (fun a => by walk_at "m_put") (by decide) (by with_unfolding_all rfl) (by with_unfolding_all rfl) fun a => ?_
    refine xs_for (by walk_at "m_room") hf (it_list (by walk_at "m_room") (by walk_at "m_ev") (by rfl) (by intro _ d hd; obtain ⟨r, _, rfl⟩ := List.mem_map.mp hd; exact ⟨_, rfl⟩)) (by intro _; rfl) ?_
    refine loop_invS rowOf (fun more ρ => ∃ acc, ([("few", En.v (.int (few : Int))), ("sign", En.v (.str (mkS sg))), ("spelled", En.v (.str (mkS sp))), ("place", En.v (natD p0)), ("grown", En.own a (acc.map rowOf))] : Ro).Sublist ρ ∧ acc ++ more.flatMap (lrowStep few sg sp p0) = lrowsStep few sg sp rows p0 ∧ ∀ r ∈ more, RowFit few p0 r) ?_ ?_ _ _ ⟨[], (by show List.Sublist [_, _, _, _, (Str.ofString "grown", En.own a [])] _; walk_at "m_sub"), rfl, hfit.row⟩
    · rintro ρ ⟨acc, hs, hac, _⟩
      have hac : acc = lrowsStep few sg sp rows p0 := by rw [← hac]; simp
      refine xs_forget hs ?_
      refine xs_freeze hf (by walk_at "m_mem") (by walk_at "m_put") ?_
      refine xs_assign hf (by walk_at "m_ev") (by walk_at "m_hold") (by walk_at "m_put") (by with_unfolding_all rfl) ?_
      rw [hac]
      exact xs_nil ⟨p0 + 1, lrowsStep few sg sp rows p0, (by walk_at "m_sub"), hr2, hfit', hg, by walk_at "m_om"⟩
    · rintro r more ρ ⟨acc, hs, hac, hall⟩
      have hfr := hall r List.mem_cons_self
      have hlen : acc.length + (lrowStep few sg sp p0 r).length ≤ 4096 := by
        have := congrArg List.length hac
        rw [List.flatMap_cons, List.length_append, List.length_append] at this
        walk_at "m_om"
      have hb4 := hfr.bare
      have hd4 := hfr.due
      have ho4 := hfr.op
      have hh4 := hfr.ht
      refine ⟨_, _, hs, .tup (by rfl) (by simp only [List.map, tgt, rowOf]; walk_at "m_puts"), ?_⟩
      show Xs _ _ _ _ _ [("few", En.v _), ("sign", En.v _), ("spelled", En.v _), ("place", En.v _), ("grown", En.own a _), ("bare", En.v _), ("due", En.v _), ("opened", En.v _), ("height", En.v _), ("good", En.v _)] _
      have l40 : ("(" : Str).length = 1 := by decide +kernel
      have l41 : (")" : Str).length = 1 := by decide +kernel
      have lb : (mkS r.bare).length = r.bare.length := mkS_len _
      have ld : (mkS r.due).length = r.due.length := mkS_len _
      have hall' : ∀ x ∈ more, RowFit few p0 x := fun x hx => hall x (List.mem_cons_of_mem _ hx)
      have eA : ∀ acc' : List LRow, acc' = acc ++ lrowA few r → acc'.map rowOf = acc.map rowOf ++ (lrowA few r).map rowOf := fun acc' h => by rw [h, List.map_append]
      refine xs_mid (P1 := fun ρ' => ρ' = ([("few", En.v (.int (few : Int))), ("sign", En.v (.str (mkS sg))), ("spelled", En.v (.str (mkS sp))), ("place", En.v (natD p0)), ("grown", En.own a ((acc ++ lrowA few r).map rowOf)), ("bare", En.v (.str (mkS r.bare))), ("due", En.v (.str (mkS r.due))), ("opened", En.v (.int (r.opened : Int))), ("height", En.v (.int r.height)), ("good", En.v (.bool r.good))] : Ro)) (x_if (by walk_at "m_ts") (fun hb => ?_) (fun hb => ?_)) ?_
      · have hlt : r.opened < few := by simpa using hb
        have e : (acc ++ lrowA few r).map rowOf = acc.map rowOf ++ [.tup [.str (mkS r.bare ++ "("), .str (mkS r.due ++ "("), .int ((r.opened : Int) + 1), .int (r.height + 1), .bool r.good]] := by
          unfold lrowA
          rw [if_pos hlt, List.map_append, str40, mkS_app, mkS_app]; rfl
        rw [e]
        refine xs_append hf (by walk_at "m_mem") (ev_tuple (evl_cons (ev_bin (by walk_at "m_ev") (by walk_at "m_ev") (o_cat (by walk_at "m_om"))) (evl_cons (ev_bin (by walk_at "m_ev") (by walk_at "m_ev") (o_cat (by walk_at "m_om"))) (by walk_at "m_evs"))) (by simp only [List.length_cons, List.length_nil]; walk_at "m_om") (by with_unfolding_all rfl)) (by walk_at "m_put") ?_ (by with_unfolding_all rfl) (by with_unfolding_all rfl) (by decide) (by with_unfolding_all rfl) (by with_unfolding_all rfl) (xs_nil rfl)
        rw [List.length_map]; walk_at "m_om"
      · have hlt : ¬ r.opened < few := by simpa using hb
        have e : acc ++ lrowA few r = acc := by unfold lrowA; rw [if_neg hlt, List.append_nil]
        rw [e]
        exact xs_nil rfl
      · rintro _ rfl
        refine xs_if (by walk_at "m_ts") (fun hb => ?_) (fun hb => xs_on (xs_nil ⟨acc ++ lrowA few r, (by walk_at "m_sub"), ?_, hall'⟩))
        · have hlt : (p0 : Int) - (r.opened : Int) < (few : Int) := by simpa using hb
          have em : max (1 : Int) r.height = (((max 1 r.height).toNat : Nat) : Int) := by walk_at "m_om"
          have hmx : Bi G A "max" [.int 1, .int r.height] (.int (((max 1 r.height).toNat : Nat) : Int)) := by
            rw [← em]; exact b_max2 (by walk_at "m_room")
          have hB : lrowB few sg sp p0 r = (List.range (max 1 r.height).toNat).map (lrowC sg sp r) := by unfold lrowB; rw [if_pos hlt]
          have hl2 : acc.length + ((lrowA few r).length + (max 1 r.height).toNat) ≤ 4096 := by
            unfold lrowStep at hlen
            rw [hB, List.length_append, List.length_map, List.length_range] at hlen
            exact hlen
          refine xs_for (by walk_at "m_room") hf (it_rangeN (by walk_at "m_room") (by walk_at "m_en") (by walk_at "m_kd") hbr (ev_bi' (by walk_at "m_en") (by walk_at "m_kd") hbm (by walk_at "m_evs") hmx (by with_unfolding_all rfl)) (by walk_at "m_om") rfl (by with_unfolding_all rfl)) (by intro _; rfl) ?_
          refine loop_invS natD (fun rest ρ => ∃ j acc2, ([("few", En.v (.int (few : Int))), ("sign", En.v (.str (mkS sg))), ("spelled", En.v (.str (mkS sp))), ("place", En.v (natD p0)), ("grown", En.own a (acc2.map rowOf)), ("bare", En.v (.str (mkS r.bare))), ("due", En.v (.str (mkS r.due))), ("opened", En.v (.int (r.opened : Int))), ("height", En.v (.int r.height)), ("good", En.v (.bool r.good))] : Ro).Sublist ρ ∧ acc2 ++ rest.map (lrowC sg sp r) = acc ++ lrowStep few sg sp p0 r ∧ j = acc2.length ∧ j + rest.length ≤ 4096 ∧ ∀ o ∈ rest, o < (max 1 r.height).toNat) ?_ ?_ _ _
            ⟨_, acc ++ lrowA few r, List.Sublist.refl _, by unfold lrowStep; rw [hB, List.append_assoc], rfl, by rw [List.length_append, List.length_range]; walk_at "m_om", fun o ho => List.mem_range.mp ho⟩
          · rintro ρ ⟨j, acc2, hs, hac2, _, _, _⟩
            rw [List.map_nil, List.append_nil] at hac2
            refine xs_on (xs_nil ⟨acc2, ?_, ?_, hall'⟩)
            · exact List.Sublist.trans (by walk_at "m_sub") hs
            · rw [hac2, List.append_assoc, ← List.flatMap_cons]; exact hac
          · rintro over rest ρ ⟨j, acc2, hs, hac2, hj, hj2, hov⟩
            have hlt2 := hov over List.mem_cons_self
            rw [List.length_cons] at hj2
            refine ⟨_, _, hs, .name (by walk_at "m_hold") (by walk_at "m_put"), ?_⟩
            show Xs _ _ _ _ _ [("few", En.v _), ("sign", En.v _), ("spelled", En.v _), ("place", En.v _), ("grown", En.own a _), ("bare", En.v _), ("due", En.v _), ("opened", En.v _), ("height", En.v _), ("good", En.v _), ("over", En.v _)] _
            have n1 : over * sg.length ≤ 2 * 1 := Nat.mul_le_mul (by walk_at "m_om") h1
            have n2 : over * sp.length ≤ 2 * 6 := Nat.mul_le_mul (by walk_at "m_om") h2
            have ls : (mkS sg).length = sg.length := mkS_len _
            have lp : (mkS sp).length = sp.length := mkS_len _
            have lr1 : (Txt.mul (mkS sg) (over : Int)).length ≤ 2 := by rw [mul_mkS, mkS_len, repl_len]; walk_at "m_om"
            have lr2 : (Txt.mul (mkS sp) (over : Int)).length ≤ 12 := by rw [mul_mkS, mkS_len, repl_len]; walk_at "m_om"
            have e : (acc2 ++ [lrowC sg sp r over]).map rowOf = acc2.map rowOf ++ [.tup [.str (mkS r.bare ++ ")" ++ Txt.mul (mkS sg) (over : Int)), .str (mkS r.due ++ ")" ++ Txt.mul (mkS sp) (over : Int)), .int (r.opened : Int), .int (r.height - 1), .bool (r.good && decide (0 < r.height))]] := by
              rw [List.map_append, mul_mkS, mul_mkS, str41, mkS_app, mkS_app, mkS_app, mkS_app]; rfl
            refine xs_append (d := .tup [.str (mkS r.bare ++ ")" ++ Txt.mul (mkS sg) (over : Int)), .str (mkS r.due ++ ")" ++ Txt.mul (mkS sp) (over : Int)), .int (r.opened : Int), .int (r.height - 1), .bool (r.good && decide (0 < r.height))]) hf (by walk_at "m_mem") (ev_tuple (evl_cons (ev_bin (ev_bin (by walk_at "m_ev") (by walk_at "m_ev") (o_cat (by walk_at "m_om"))) (ev_bin (by walk_at "m_ev") (by walk_at "m_ev") (o_rep (mulOk_small (by walk_at "m_om") (by walk_at "m_om") (by walk_at "m_om")))) (o_cat (by rw [str_len_append]; walk_at "m_om"))) (evl_cons (ev_bin (ev_bin (by walk_at "m_ev") (by walk_at "m_ev") (o_cat (by walk_at "m_om"))) (ev_bin (by walk_at "m_ev") (by walk_at "m_ev") (o_rep (mulOk_small (by walk_at "m_om") (by walk_at "m_om") (by walk_at "m_om")))) (o_cat (by rw [str_len_append]; walk_at "m_om"))) (evl_cons (by walk_at "m_ev") (evl_cons (by walk_at "m_ev") (evl_cons (ev_and (by walk_at "m_ev") (fun _ => ev_cmp (by walk_at "m_ev") (by walk_at "m_ev") c_gt (by with_unfolding_all rfl))) evl_nil))))) (by simp only [List.length_cons, List.length_nil]; walk_at "m_om") (by with_unfolding_all rfl)) (ρ' := [("few", En.v (.int (few : Int))), ("sign", En.v (.str (mkS sg))), ("spelled", En.v (.str (mkS sp))), ("place", En.v (natD p0)), ("grown", En.own a ((acc2 ++ [lrowC sg sp r over]).map rowOf)), ("bare", En.v (.str (mkS r.bare))), ("due", En.v (.str (mkS r.due))), ("opened", En.v (.int (r.opened : Int))), ("height", En.v (.int r.height)), ("good", En.v (.bool r.good)), ("over", En.v (natD over))]) (by rw [e]; walk_at "m_put") ?_ (by with_unfolding_all rfl) (by with_unfolding_all rfl) (by decide) (by with_unfolding_all rfl) (by with_unfolding_all rfl) ?_
            · rw [List.length_map]; walk_at "m_om"
            · exact xs_nil ⟨j + 1, acc2 ++ [lrowC sg sp r over], (by walk_at "m_sub"), by rw [← hac2, List.map_cons, List.append_assoc]; rfl, by rw [hj, List.length_append]; rfl, by walk_at "m_om", fun o ho => hov o (List.mem_cons_of_mem _ ho)⟩
        · have hlt : ¬ (p0 : Int) - (r.opened : Int) < (few : Int) := by simpa using hb
          have e : lrowStep few sg sp p0 r = lrowA few r := by unfold lrowStep lrowB; rw [if_neg hlt, List.append_nil]
          rw [← hac, List.flatMap_cons, e, List.append_assoc]
/- N6 -/
def spL (h c : Nat) : List Nat := (spelledV (h : Int) ⟨#[c]⟩).cps.toList
def cnts (few : Nat) : List Nat := match few with
  | 1 => [1]
  | 2 => [2, 1]
  | _ => [5, 6, 3, 1]
def rowOk (h : Nat) (r : LRow) : Bool := (escs (tableE h) r.bare == r.due) && (!(r.due.contains 34)) && (checkF (escL r.due 0 0 false) 0 == r.good)
def goodCounts (rows : List LRow) : List Int := (rows.filter (·.good)).map fun r => Txt.count (mkS r.due) ";"
def histo (few : Nat) (cs : List Int) : List Nat := (List.range (few * (few - 1) / 2 + 1)).map fun (k : Nat) => (cs.filter (· == (k : Int))).length
def rowsOk (few h c : Nat) : Bool := (lrows few [c] (spL h c)).all (rowOk h) && (histo few (goodCounts (lrows few [c] (spL h c))) == cnts few)
def allRows (few h : Nat) : Bool := (sgs h).cps.toList.all (rowsOk few h)
theorem rows1 : ∀ h < 5, allRows 1 h = true := by decide +kernel
theorem rows2 : ∀ h < 5, allRows 2 h = true := by decide +kernel
theorem rows30 : allRows 3 0 = true := by decide +kernel
theorem rows31 : allRows 3 1 = true := by decide +kernel
theorem rows32 : allRows 3 2 = true := by decide +kernel
theorem rows33 : allRows 3 3 = true := by decide +kernel
theorem rows34 : allRows 3 4 = true := by decide +kernel
theorem rows_all {few h : Nat} (h1 : 1 ≤ few) (h3 : few ≤ 3) (hh : h < 5) : allRows few h = true := by
  have : few = 1 ∨ few = 2 ∨ few = 3 := by walk_at "m_om"
  rcases this with rfl | rfl | rfl
  · exact rows1 h hh
  · exact rows2 h hh
  · have : h = 0 ∨ h = 1 ∨ h = 2 ∨ h = 3 ∨ h = 4 := by walk_at "m_om"
    rcases this with rfl | rfl | rfl | rfl | rfl
    · exact rows30
    · exact rows31
    · exact rows32
    · exact rows33
    · exact rows34
theorem signC_mem {h : Nat} (hh : h < 5) (cell : Int) : signC h cell ∈ (sgs h).cps.toList := by
  obtain ⟨i, _, _, h3⟩ := sign_mem hh cell
  exact Array.mem_def.mp (Array.mem_of_getElem? h3)
theorem spL_len {h : Nat} (hh : h < 5) (cell : Int) : (spL h (signC h cell)).length ≤ 6 := by
  have : ∀ h < 5, ∀ c ∈ (sgs h).cps.toList, (spL h c).length ≤ 6 := by decide +kernel
  exact this h hh _ (signC_mem hh cell)
theorem check_plain {u : List Nat} (h : u.contains 34 = false) : checkV (mkS u) = checkF (escL u 0 0 false) 0 := by
  unfold checkV
  have e : stripV (mkS u) = mkS u := by
    unfold stripV
    rw [if_neg]
    rw [show ("\"" : Str) = ⟨#[34]⟩ by decide +kernel]
    intro hc
    have h2 : (decide (34 ∈ (mkS u).cps.toList)) = true := by rw [← PySem.StrLaws.found_one]; exact hc
    rw [mkS_list, decide_eq_true_iff] at h2
    rw [List.contains_eq_mem, decide_eq_false_iff_not] at h
    exact h h2
  rw [e, mkS_list]
theorem row_true {few h : Nat} (h1 : 1 ≤ few) (h3 : few ≤ 3) (hh : h < 5) (cell : Int) {r : LRow} (hr : r ∈ lrows few [signC h cell] (spL h (signC h cell))) : esc (h : Int) (mkS r.bare) = mkS r.due ∧ checkV (mkS r.due) = r.good := by
  have a := List.all_eq_true.mp (rows_all h1 h3 hh) _ (signC_mem hh cell)
  unfold rowsOk at a
  rw [Bool.and_eq_true] at a
  have b := List.all_eq_true.mp a.1 r hr
  unfold rowOk at b
  simp only [Bool.and_eq_true, Bool.not_eq_true', beq_iff_eq] at b
  obtain ⟨⟨b1, b2⟩, b3⟩ := b
  refine ⟨?_, by rw [check_plain b2, b3]⟩
  rw [← mkS_of (esc (h : Int) (mkS r.bare)), esc_list h hh, mkS_list, b1]
theorem counts_true {few h : Nat} (h1 : 1 ≤ few) (h3 : few ≤ 3) (hh : h < 5) (cell : Int) : histo few (goodCounts (lrows few [signC h cell] (spL h (signC h cell)))) = cnts few := by
  have a := List.all_eq_true.mp (rows_all h1 h3 hh) _ (signC_mem hh cell)
  unfold rowsOk at a
  rw [Bool.and_eq_true] at a
  exact beq_iff_eq.mp a.2
theorem lrows_fit {few : Nat} (h3 : few ≤ 3) {sg sp : List Nat} (h1 : sg.length ≤ 1) (h2 : sp.length ≤ 6) : RowsFit few (2 * few) (lrows few sg sp) := by
  have key : ∀ (n p : Nat) (rows : List LRow), RowsFit few p rows → RowsFit few (p + n) ((List.range' p n).foldl (lrowsStep few sg sp) rows) := by
    intro n
    induction n with
    | zero => intro p rows h; exact h
    | succ n ih =>
      intro p rows h
      rw [List.range'_succ, List.foldl_cons]
      have := ih (p + 1) _ (fitStep (sg := sg) (sp := sp) h3 h1 h2 h)
      rwa [show p + 1 + n = p + (n + 1) by walk_at "m_om"] at this
  have := key (2 * few) 0 [⟨[], [], 0, 0, true⟩] ⟨Nat.le_refl 1, fun r hr => by rw [List.mem_singleton.mp hr]; exact ⟨Nat.zero_le _, by decide, Nat.le_refl 0, Nat.le_refl 0⟩⟩
  unfold lrows
  rw [List.range_eq_range']
  rwa [Nat.zero_add] at this
/-- the counts at a width are the walk's value -/
theorem cnts_pol : ∀ few < 4, 1 ≤ few → ptrim (walkG polO few) = (cnts few).map fun (n : Nat) => (n : Int) := by decide +kernel
theorem pev_valB (w : Nat) : ∀ l : List Nat, pev ((2 : Int) ^ w) (l.map fun (n : Nat) => (n : Int)) = ((valB w l : Nat) : Int)
  | [] => rfl
  | d :: l => by
    rw [List.map_cons, pev, pev_valB w l, valB]
    push_cast
    rw [Int.mul_comm]
theorem walk_val {few : Nat} (h1 : 1 ≤ few) (h3 : few ≤ 3) (w : Nat) : walkG (intO ((2 : Int) ^ w)) few = ((valB w (cnts few) : Nat) : Int) := by
  rw [← (pev_hom _).walk, ← pev_trim, cnts_pol few (by walk_at "m_om") h1, pev_valB]
theorem cnts_lt {few w : Nat} (hw : 4 ≤ w) : ∀ d ∈ cnts few, d < 2 ^ w := by
  have h16 : 16 ≤ 2 ^ w := Nat.pow_le_pow_right (n := 2) (by decide) hw
  intro d hd
  unfold cnts at hd
  split at hd <;> simp at hd <;> walk_at "m_om"
theorem cnts_len (few : Nat) : (cnts few).length ≤ 4 := by
  unfold cnts; split <;> decide
theorem cnts_last (few : Nat) : ∀ d, (cnts few).getLast? = some d → 1 ≤ d := by
  intro d hd
  unfold cnts at hd
  split at hd <;> simp at hd <;> walk_at "m_om"
theorem cnts_dig {few w : Nat} (hw : 4 ≤ w) : digsB w (valB w (cnts few)) (nDig (valB w (cnts few)) w) = cnts few ∧ nDig (valB w (cnts few)) w ≤ 4 := by
  have e := nDig_val (n := w) (by walk_at "m_om") (cnts_lt (few := few) hw) (cnts_last few)
  rw [e]
  exact ⟨digs_val w _ (cnts_lt hw), cnts_len few⟩
/- N7 -/
theorem sclaw : ScOk (scopeOf "law") ["script"] := ⟨by decide +kernel, by decide +kernel, by decide +kernel, by decide +kernel, by decide +kernel, by decide +kernel, by decide +kernel, by decide +kernel⟩
theorem ct_filter0 {G : Gx} {A : Around} {env : Env} {N : Nat} {α : Type} {x : Str} {p : Pos} {elt : Expr} {ifs : List Expr} {ρ0 : Ro} (f g : α → D) (c : α → Bool) (as : List α) (hx : x ∉ ρ0.map (·.1)) (hk : Holds env N x) (ht : ∀ a, TestsAll G A env (ρ0 ++ [(x, .v (f a))]) ifs (c a)) (hz : as.length ≤ 16777216) (he : ∀ a ∈ as, c a = true → Evals G A env (ρ0 ++ [(x, .v (f a))]) elt (g a)) :
    CTurns G A env N (CAct G A env N elt []) (.Name x p) ifs (as.map f) ρ0 [] fun acc' _ => acc' = (as.filter c).map g := by
  have := ct_filter (G := G) (A := A) (p := p) (elt := elt) (ifs := ifs) f g c hx hk ht as ρ0 [] (.inl rfl) (by simpa using hz) he
  rw [List.nil_append] at this
  exact this
theorem xs_mapT {G : Gx} {A : Around} {env : Env} {N : Nat} {ρ : Ro} {P : Out → Prop} {α : Type} {x y : Str} {px py pos spos : Pos} {elt iter : Expr} {scope : Scope} {ρc ρ' : Ro} {rest : List Stmt} {out : List D} (f g : α → D) (as : List α) (hr : Room A 0) (fr : FrOk G env N) (sk : ScComp scope) (hs : ∀ v, foldedSetIterable iter env v = pure v) (hI : Items G A env ρ (.Name x px) iter (as.map f)) (hc : Capt env ρ (frees scope) ρc) (hz : as.length ≤ 16777216) (hx : x ∉ ρc.map (·.1))
    (hb : ∀ cenv N', FrOk G cenv N' → CEnv scope cenv N' → Holds cenv N' x ∧ ∀ a ∈ as, Evals G A cenv (ρc ++ [(x, .v (f a))]) elt (g a)) (ho : as.map g = out) (hk : Holds env N y) (hp : Put y (.v (.lst out)) ρ ρ')
    (hsw : swapsWith (.ListComp elt [⟨.Name x px, iter, [], 0⟩] scope pos) (some (.Name y py)) spos.line env = pure true) (h : Xs G A env N rest ρ' P) : Xs G A env N (.Assign [.Name y py] (.ListComp elt [⟨.Name x px, iter, [], 0⟩] scope pos) spos :: rest) ρ P := by
  subst ho
  exact xs_cons (x_comp hr fr sk hs hI hc (fun cenv N' hf' ce => ct_map f g hx (hb cenv N' hf' ce).1 as hz (hb cenv N' hf' ce).2) hk hp hsw h)
def fewV (ns : List Int) : Nat := 1 + ((cellV ns 0).fmod 3).toNat
def manyV (ns : List Int) : Nat := 1 + ((cellV ns 1).fmod 9).toNat
def handV (ns : List Int) : Nat := ((cellV ns 3).fmod 5).toNat
def widthV (ns : List Int) : Nat := 4 + ((cellV ns 5).fmod 1500).toNat
theorem fmod_nn (a : Int) {b : Int} (hb : 0 < b) : ((a.fmod b).toNat : Int) = a.fmod b ∧ (a.fmod b).toNat < b.toNat := by
  have h1 := Int.fmod_nonneg_of_pos a hb
  have h2 := Int.fmod_lt_of_pos a hb
  walk_at "m_om"
theorem cells_item (ns : List Int) (k : Nat) (hk : k < 6) : ItemD (.lst ((cellsV ns).map D.int)) (k : Int) (.int (cellV ns k)) := by
  refine ItemD.lst ?_ (by walk_at "m_om")
  unfold cellsV
  rw [List.getElem?_map, List.getElem?_map, List.getElem?_range hk]; rfl
theorem cap_abs (n : Int) : (capV n).natAbs ≤ 10 ^ 140 := by
  have h0 : (0 : Int) < 10 ^ 140 := by decide +kernel
  unfold capV
  split
  · have h1 := Int.fmod_nonneg_of_pos (-n) h0
    have h2 := Int.fmod_lt_of_pos (-n) h0
    have h3 : ((10 : Int) ^ 140) = ((10 ^ 140 : Nat) : Int) := by decide +kernel
    rw [h3] at h1 h2 ⊢
    walk_at "m_om"
  · have h1 := Int.fmod_nonneg_of_pos n h0
    have h2 := Int.fmod_lt_of_pos n h0
    have h3 : ((10 : Int) ^ 140) = ((10 ^ 140 : Nat) : Int) := by decide +kernel
    rw [h3] at h1 h2 ⊢
    walk_at "m_om"
theorem bits_abs {x : Int} {k : Nat} (h : x.natAbs < 2 ^ k) : Builtin.Int.intBits x ≤ k := PySem.intBits_le_iff.mpr h
theorem pow_bits {x : Int} {m c k : Nat} (h : x.natAbs < 2 ^ m) (hk : m * c ≤ k) (hc : 1 ≤ c) : Builtin.Int.intBits (x ^ c) ≤ k := by
  refine bits_abs ?_
  rw [Int.natAbs_pow]
  exact Nat.lt_of_lt_of_le (Nat.pow_lt_pow_left h (by walk_at "m_om")) (by rw [← Nat.pow_mul]; exact Nat.pow_le_pow_right (by decide) hk)
theorem goodCounts_cons (r : LRow) (rows : List LRow) : goodCounts (r :: rows) = if r.good then Txt.count (mkS r.due) ";" :: goodCounts rows else goodCounts rows := by
  unfold goodCounts
  rw [List.filter_cons]
  cases r.good <;> rfl
theorem range_few {few : Nat} (h1 : 1 ≤ few) (h3 : few ≤ 3) : ((few : Int) * ((few : Int) - 1)).fdiv 2 + 1 = ((few * (few - 1) / 2 + 1 : Nat) : Int) := by
  have : few = 1 ∨ few = 2 ∨ few = 3 := by walk_at "m_om"
  rcases this with rfl | rfl | rfl <;> decide
theorem law_body {G : Gx} (hTn : Tn G) (ns : List Int) (hz : ns.length ≤ 63) : ∀ (A : Around) (L' : Addr) (cs' : List (Str × Addr)) (q' : Str) (a' : Option Addr) (cd' : Value) (N : Nat), Room A 399 → A.frames = some [mkE (scopeOf "law") L' cs' q' a' cd' (some L')] → FrOk G (mkE (scopeOf "law") L' cs' q' a' cd' (some L')) N →
    (∀ x c, (scopeOf "law").names.lookup x = some .cell → cs'.lookup x = some c → N ≤ c) → Xs G A (mkE (scopeOf "law") L' cs' q' a' cd' (some L')) N (bodyOf "law") [("script", En.v (.lst (ns.map .int)))] (RetIs (.bool true)) := by
  intro A L' cs' q' a' cd' N hr hfrs hf hown
  have hT := hTn.tp
  generalize hsc : scopeOf (Str.ofString "law") = sc at *
  conv at hsc => lhs; whnf
  subst hsc
  have hown2 : OwnC _ _ _ := ⟨hown⟩
  conv => arg 5; whnf
  show Xs _ _ _ _ _ [("script", En.v _)] _
  have hcl := fn_law_cells hT ns (by walk_at "m_om") (k := 0)
  have hlm : (ns.map D.int).length < 2 ^ 62 := by rw [List.length_map]; walk_at "m_om"
  refine xs_assign hf (ev_call' (by walk_at "m_en") (by walk_at "m_kd") (by walk_at "m_evs") hcl (by walk_at "m_room") (by with_unfolding_all rfl)) (by walk_at "m_hold") (by walk_at "m_put") (by with_unfolding_all rfl) ?_
  have hbr := hT.bi "range" (by decide +kernel)
  have hbl := hT.bi "len" (by decide +kernel)
  have hi0 := cells_item ns 0 (by decide)
  have hi1 := cells_item ns 1 (by decide)
  have hi2 := cells_item ns 2 (by decide)
  have hi3 := cells_item ns 3 (by decide)
  have hi4 := cells_item ns 4 (by decide)
  have hi5 := cells_item ns 5 (by decide)
  have c0 := fmod_nn (cellV ns 0) (b := 3) (by decide)
  have c1 := fmod_nn (cellV ns 1) (b := 9) (by decide)
  have c3 := fmod_nn (cellV ns 3) (b := 5) (by decide)
  have c5 := fmod_nn (cellV ns 5) (b := 1500) (by decide)
  have e0 : ((fewV ns : Nat) : Int) = 1 + (cellV ns 0).fmod 3 := by unfold fewV; walk_at "m_om"
  have e1 : ((manyV ns : Nat) : Int) = 1 + (cellV ns 1).fmod 9 := by unfold manyV; walk_at "m_om"
  have e3 : ((handV ns : Nat) : Int) = (cellV ns 3).fmod 5 := c3.1
  have e5 : ((widthV ns : Nat) : Int) = 4 + (cellV ns 5).fmod 1500 := by unfold widthV; walk_at "m_om"
  have f1 : 1 ≤ fewV ns := Nat.le_add_right 1 _
  have f3 : fewV ns ≤ 3 := by have := c0.2; simp at this; unfold fewV; walk_at "m_om"
  have g1 : 1 ≤ manyV ns := Nat.le_add_right 1 _
  have g9 : manyV ns ≤ 9 := by have := c1.2; simp at this; unfold manyV; walk_at "m_om"
  have hh5 : handV ns < 5 := c3.2
  have hw4 : 4 ≤ widthV ns := Nat.le_add_right 4 _
  have hw : widthV ns ≤ 1503 := by have := c5.2; simp at this; unfold widthV; walk_at "m_om"
  refine xs_assign (d := natD (fewV ns)) hf (ev_bin (by walk_at "m_ev") (ev_bin (ev_item (by walk_at "m_ev") (show Evals _ _ _ _ _ (D.int ((0 : Nat) : Int)) from ev_int) hi0 (by intro _ _; walk_at "m_rf")) (by walk_at "m_ev") (o_mod (by decide))) (o_add.cast (by rw [← e0]))) (by walk_at "m_hold") (by walk_at "m_put") (by with_unfolding_all rfl) ?_
  refine xs_assign (d := natD (manyV ns)) hf (ev_bin (by walk_at "m_ev") (ev_bin (ev_item (by walk_at "m_ev") (show Evals _ _ _ _ _ (D.int ((1 : Nat) : Int)) from ev_int) hi1 (by intro _ _; walk_at "m_rf")) (by walk_at "m_ev") (o_mod (by decide))) (o_add.cast (by rw [← e1]))) (by walk_at "m_hold") (by walk_at "m_put") (by with_unfolding_all rfl) ?_
  have hcap := fn_law_cap hT (cellV ns 2) (k := 0)
  refine xs_assign (d := .int (capV (cellV ns 2))) hf (ev_call' (by walk_at "m_en") (by walk_at "m_kd") (evl_cons (ev_item (by walk_at "m_ev") (show Evals _ _ _ _ _ (D.int ((2 : Nat) : Int)) from ev_int) hi2 (by intro _ _; walk_at "m_rf")) evl_nil) hcap (by walk_at "m_room") (by with_unfolding_all rfl)) (by walk_at "m_hold") (by walk_at "m_put") (by with_unfolding_all rfl) ?_
  refine xs_assign (d := natD (handV ns)) hf (ev_bin (ev_item (by walk_at "m_ev") (show Evals _ _ _ _ _ (D.int ((3 : Nat) : Int)) from ev_int) hi3 (by intro _ _; walk_at "m_rf")) (by walk_at "m_ev") ((o_mod (by decide)).cast (by rw [← e3]))) (by walk_at "m_hold") (by walk_at "m_put") (by with_unfolding_all rfl) ?_
  have hsg := fn_law_sign hT (handV ns) hh5 (cellV ns 4) (k := 0)
  refine xs_assign (d := .str ⟨#[signC (handV ns) (cellV ns 4)]⟩) hf (ev_call' (by walk_at "m_en") (by walk_at "m_kd") (evl_cons (by walk_at "m_ev") (evl_cons (ev_item (by walk_at "m_ev") (show Evals _ _ _ _ _ (D.int ((4 : Nat) : Int)) from ev_int) hi4 (by intro _ _; walk_at "m_rf")) evl_nil)) hsg (by walk_at "m_room") (by with_unfolding_all rfl)) (by walk_at "m_hold") (by walk_at "m_put") (by with_unfolding_all rfl) ?_
  refine xs_assign (d := natD (widthV ns)) hf (ev_bin (by walk_at "m_ev") (ev_bin (ev_item (by walk_at "m_ev") (show Evals _ _ _ _ _ (D.int ((5 : Nat) : Int)) from ev_int) hi5 (by intro _ _; walk_at "m_rf")) (by walk_at "m_ev") (o_mod (by decide))) (o_add.cast (by rw [← e5]))) (by walk_at "m_hold") (by walk_at "m_put") (by with_unfolding_all rfl) ?_
  have hqa := cap_abs (cellV ns 2)
  generalize fewV ns = few at *
  generalize manyV ns = many at *
  generalize handV ns = hand at *
  generalize widthV ns = width at *
  generalize capV (cellV ns 2) = q at *
  obtain ⟨cell4, hcell4⟩ : ∃ x, x = cellV ns 4 := ⟨_, rfl⟩
  rw [← hcell4] at hsg ⊢
  have hspl := spL_len hh5 cell4
  have hsd := fn_law_spelled hT (hand : Int) ⟨#[signC hand cell4]⟩ (k := 0)
  have esg : (⟨#[signC hand cell4]⟩ : Str) = mkS [signC hand cell4] := rfl
  have esp : spelledV (hand : Int) ⟨#[signC hand cell4]⟩ = mkS (spL hand (signC hand cell4)) := (mkS_of _).symm
  rw [esp] at hsd
  have hrw := fn_law_rows hT few f3 [signC hand cell4] (spL hand (signC hand cell4)) (by simp) hspl (k := 0)
  have hrt := fun r hr => row_true (few := few) f1 f3 hh5 cell4 (r := r) hr
  have hct := counts_true (few := few) f1 f3 hh5 cell4
  have hrf := lrows_fit (few := few) f3 (sg := [signC hand cell4]) (sp := spL hand (signC hand cell4)) (by simp) hspl
  rw [esg] at hsd ⊢
  generalize signC hand cell4 = sc at *
  generalize lrows few [sc] (spL hand sc) = rows at *
  have hrl : rows.length ≤ 4096 := Nat.le_trans hrf.size (pow4 (by walk_at "m_om"))
  refine xs_forget (ρ' := [("few", En.v (natD few)), ("many", En.v (natD many)), ("q", En.v (.int q)), ("hand", En.v (natD hand)), ("sign", En.v (.str (mkS [sc]))), ("width", En.v (natD width))]) (by walk_at "m_sub") ?_
  refine xs_new (ρ' := fun a => [("few", En.v (natD few)), ("many", En.v (natD many)), ("q", En.v (.int q)), ("hand", En.v (natD hand)), ("sign", En.v (.str (mkS [sc]))), ("width", En.v (natD width)), ("crossed", En.own a [])]) hf (by walk_at "m_evs") (by walk_at "m_hold") (fun a => by walk_at "m_put") (by decide) (by with_unfolding_all rfl) (by with_unfolding_all rfl) fun a => ?_
  refine xs_for (by walk_at "m_room") hf (it_list (ds := rows.map rowOf) (by walk_at "m_room") (ev_call' (by walk_at "m_en") (by walk_at "m_kd") (evl_cons (by walk_at "m_ev") (evl_cons (by walk_at "m_ev") (evl_cons (ev_call' (by walk_at "m_en") (by walk_at "m_kd") (by walk_at "m_evs") hsd (by walk_at "m_room") (by with_unfolding_all rfl)) evl_nil))) hrw (by walk_at "m_room") (by with_unfolding_all rfl)) (by rfl) (by intro _ d hd; obtain ⟨r, _, rfl⟩ := List.mem_map.mp hd; exact ⟨_, rfl⟩)) (by intro _; rfl) ?_
  refine loop_invS rowOf (fun rest ρ => ∃ acc : List Int, ([("few", En.v (natD few)), ("many", En.v (natD many)), ("q", En.v (.int q)), ("hand", En.v (natD hand)), ("width", En.v (natD width)), ("crossed", En.own a (acc.map D.int))] : Ro).Sublist ρ ∧ acc ++ goodCounts rest = goodCounts rows ∧ (∀ r ∈ rest, r ∈ rows) ∧ acc.length + rest.length ≤ 4096) ?_ ?_ _ _ ⟨[], (by show List.Sublist [_, _, _, _, _, (Str.ofString "crossed", En.own a [])] _; walk_at "m_sub"), rfl, fun r hr => hr, by simpa using hrl⟩
  · rintro ρ ⟨acc, hs, hac, _, hal⟩
    have hac : acc = goodCounts rows := by rw [← hac]; show acc = acc ++ []; rw [List.append_nil]
    rw [← hac] at hct
    refine xs_forget hs ?_
    refine xs_freeze hf (by walk_at "m_mem") (by walk_at "m_put") ?_
    have hm1 : IntMulOk (few : Int) ((few : Int) - 1) := IntMulOk.of_left (small_bits (by walk_at "m_om") (by walk_at "m_om"))
    have hmb : (few : Int) * ((few : Int) - 1) ≤ 6 ∧ 0 ≤ (few : Int) * ((few : Int) - 1) := by
      have : few = 1 ∨ few = 2 ∨ few = 3 := by walk_at "m_om"
      rcases this with rfl | rfl | rfl <;> decide
    have hnp : Builtin.divisionGoesByPylong ((few : Int) * ((few : Int) - 1)) 2 = false := PyProof.noPylong_small (by walk_at "m_om")
    have hrg := range_few f1 f3
    have hnl : few * (few - 1) / 2 + 1 ≤ 4 := by
      have : few = 1 ∨ few = 2 ∨ few = 3 := by walk_at "m_om"
      rcases this with rfl | rfl | rfl <;> decide
    have ecn : (cnts few).map natD = (List.range (few * (few - 1) / 2 + 1)).map fun (k : Nat) => natD (acc.filter (· == (k : Int))).length := by
      rw [← hct]; unfold histo; rw [List.map_map]; rfl
    refine xs_mapT (out := (cnts few).map natD) natD _ (List.range (few * (few - 1) / 2 + 1)) (by walk_at "m_room") hf (by walk_at "m_scc") (by intro _; rfl) (it_rangeN (by walk_at "m_room") (by walk_at "m_en") (by walk_at "m_kd") hbr (ev_bin (ev_bin (by walk_at "m_ev") (by walk_at "m_ev") (o_div (by decide) hnp)) (by walk_at "m_ev") (o_add.cast (by rw [hrg]))) (by walk_at "m_om") rfl (by with_unfolding_all rfl)) (by walk_at "m_capt") (by rw [List.length_range]; walk_at "m_om") (by walk_at "m_nin") (fun cenv N' hf' ce => ⟨(by walk_at "m_hold"), fun k hk => ?_⟩) ecn.symm (by walk_at "m_hold") (by walk_at "m_put") (by with_unfolding_all rfl) ?_
    · show Evals _ _ _ [("crossed", En.v _), ("k", En.v _)] _ (natD (acc.filter fun x => x == (k : Int)).length)
      have hfl : (acc.filter fun x => x == (k : Int)).length ≤ 4096 := Nat.le_trans (List.length_filter_le _ _) (by walk_at "m_om")
      have hln : Bi G A "len" [.lst ((acc.filter fun x => x == (k : Int)).map D.int)] (natD (acc.filter fun x => x == (k : Int)).length) := by
        have := b_len_list (G := G) (A := A) (l := (acc.filter fun x => x == (k : Int)).map D.int) (by rw [List.length_map]; walk_at "m_om")
        rwa [List.length_map] at this
      refine ev_bi' (ds := [.lst ((acc.filter fun x => x == (k : Int)).map D.int)]) (by walk_at "m_en") (by walk_at "m_kd") hbl (evl_cons ?_ evl_nil) hln (by with_unfolding_all rfl)
      refine ev_comp (by walk_at "m_room") (by walk_at "m_en") (by walk_at "m_scc") (by intro _; rfl) (it_list (ds := acc.map D.int) (by walk_at "m_room") (by walk_at "m_ev") rfl (fun h => by cases h)) (by walk_at "m_capt") (fun cenv2 N2 hf2 ce2 => ?_)
      refine ct_filter0 D.int D.int (fun x => x == (k : Int)) acc (by walk_at "m_nin") (by walk_at "m_hold") (fun m => ?_) (by walk_at "m_om") (fun m _ _ => ?_)
      · show Tests _ _ _ [("k", En.v _), ("one", En.v _)] _ _
        exact ts_cmp (by walk_at "m_ev") (by walk_at "m_ev") c_eq (by with_unfolding_all rfl)
      · show Evals _ _ _ [("k", En.v _), ("one", En.v _)] _ _
        walk_at "m_ev"
    show Xs _ _ _ _ _ [("few", En.v _), ("many", En.v _), ("q", En.v _), ("hand", En.v _), ("width", En.v _), ("crossed", En.v _), ("counts", En.v (natsD (cnts few)))] _
    have hpw : (Builtin.Int.intBits 2 : Int) * (width : Int) ≤ 2 ^ 27 := by rw [show Builtin.Int.intBits 2 = 2 by decide +kernel]; walk_at "m_om"
    refine xs_assign (d := .int ((2 : Int) ^ width)) hf (ev_bin (by walk_at "m_ev") (by walk_at "m_ev") ((o_pow (by walk_at "m_om") hpw).cast (by rw [Int.toNat_natCast]))) (by walk_at "m_hold") (by walk_at "m_put") (by with_unfolding_all rfl) ?_
    have hpn : (2 : Int) ^ width = ((2 ^ width : Nat) : Int) := by push_cast; rfl
    have hp16 : 16 ≤ 2 ^ width := Nat.pow_le_pow_right (n := 2) (by decide) hw4
    have hp1 : (2 : Int) ^ width ≠ 1 := by rw [hpn]; walk_at "m_om"
    have hpa : ((2 : Int) ^ width).natAbs < 2 ^ 1504 := by
      rw [hpn]; exact Nat.lt_of_le_of_lt (Nat.pow_le_pow_right (by decide) hw) (Nat.pow_lt_pow_right (by decide) (by decide))
    have hpb := bits_abs hpa
    have hma : ((1 : Int) - 2 ^ width).natAbs < 2 ^ 1504 := by
      have : ((1 : Int) - 2 ^ width).natAbs < 2 ^ width := by rw [hpn]; walk_at "m_om"
      exact Nat.lt_trans this (Nat.pow_lt_pow_right (by decide) (by walk_at "m_om"))
    have hS1 := fn_law_sum hT ((2 : Int) ^ width) few (by walk_at "m_om") (by walk_at "m_om") (k := 0)
    have hW1 := fn_law_walk hT ((2 : Int) ^ width) few (by walk_at "m_om") (by walk_at "m_om") (k := 0)
    have hdv := div_value hp1 f1 (by walk_at "m_om" : few ≤ 9)
    have hDv := fn_divmod hTn (sumG (intO ((2 : Int) ^ width)) few) (((1 : Int) - 2 ^ width) ^ few) (Int.pow_ne_zero (by walk_at "m_om")) (Nat.le_trans (pow_bits hma (Nat.mul_le_mul_left 1504 f3) f1) (by decide)) (div_fit hp1 f1 (by walk_at "m_om"))
    rw [hdv.1, hdv.2] at hDv
    have hwv := walk_val f1 f3 width
    rw [hwv] at hDv hW1
    have hdg := cnts_dig (few := few) hw4
    have hI := (fn_int2digits hTn (valB width (cnts few)) width (by walk_at "m_om") (by walk_at "m_om") (by walk_at "m_om")).up (k' := 399) (by walk_at "m_om")
    rw [hdg.1] at hI
    have hcl4 := cnts_len few
    have hD2 := (fn_digits2int hTn (cnts few) width (by walk_at "m_om") (by walk_at "m_om") (cnts_lt hw4)).up (k' := 399) (by walk_at "m_om")
    have hpf : (Builtin.Int.intBits ((1 : Int) - 2 ^ width) : Int) * (few : Int) ≤ 2 ^ 27 := by
      have h1 := bits_abs hma
      have := Int.mul_le_mul (show (Builtin.Int.intBits ((1 : Int) - 2 ^ width) : Int) ≤ 1504 by walk_at "m_om") (show (few : Int) ≤ 3 by walk_at "m_om") (by walk_at "m_om") (by decide)
      walk_at "m_om"
    generalize valB width (cnts few) = V at *
    have eq1 : natsD (cnts few) = .lst (((cnts few).map fun (m : Nat) => (m : Int)).map D.int) := by unfold natsD; rw [List.map_map]; rfl
    rw [eq1] at hI hD2 ⊢
    refine xs_if (b := false) (ts_cmp (d1 := .tup ([(V : Int), 0].map D.int)) (d2 := .tup ([(V : Int), 0].map D.int)) (ev_call' (by walk_at "m_en") (by walk_at "m_kd") (evl_cons (ev_call' (by walk_at "m_en") (by walk_at "m_kd") (by walk_at "m_evs") hS1 (by walk_at "m_room") (by with_unfolding_all rfl)) (evl_cons (ev_bin (d1 := .int ((1 : Int) - 2 ^ width)) (by walk_at "m_ev") (by walk_at "m_ev") ((o_pow (by walk_at "m_om") hpf).cast (by rw [Int.toNat_natCast]))) evl_nil)) hDv (by walk_at "m_room") (by with_unfolding_all rfl)) (ev_tuple (evl_cons (ev_call' (by walk_at "m_en") (by walk_at "m_kd") (by walk_at "m_evs") hD2 (by walk_at "m_room") (by with_unfolding_all rfl)) (evl_cons (by walk_at "m_ev") evl_nil)) (by simp) (by with_unfolding_all rfl)) ((c_ne_tints (by walk_at "m_room")).cast (by simp)) (by with_unfolding_all rfl)) (fun h => by cases h) (fun _ => xs_on ?_)
    refine xs_if (b := false) (ts_cmp (ev_call' (by walk_at "m_en") (by walk_at "m_kd") (evl_cons (ev_call' (by walk_at "m_en") (by walk_at "m_kd") (by walk_at "m_evs") hW1 (by walk_at "m_room") (by with_unfolding_all rfl)) (evl_cons (by walk_at "m_ev") evl_nil)) hI (by walk_at "m_room") (by with_unfolding_all rfl)) (by walk_at "m_ev") ((c_ne_ints (by walk_at "m_room")).cast (by simp)) (by with_unfolding_all rfl)) (fun h => by cases h) (fun _ => xs_on ?_)
    -- the drawn q
    have hqb : q.natAbs < 2 ^ 466 := Nat.lt_of_le_of_lt hqa (by decide +kernel)
    have hqB := bits_abs hqb
    have hqm : ((1 : Int) - q).natAbs < 2 ^ 467 := by
      have : (2 : Nat) ^ 467 = 2 ^ 466 * 2 := Nat.pow_succ ..
      have h1 : 1 ≤ 2 ^ 466 := Nat.pow_pos (by decide)
      walk_at "m_om"
    have hS2 := fn_law_sum hT q many g9 (by walk_at "m_om") (k := 0)
    have hW2 := fn_law_walk hT q many g9 (by walk_at "m_om") (k := 0)
    have hpq : (Builtin.Int.intBits ((1 : Int) - q) : Int) * (many : Int) ≤ 2 ^ 27 := by
      have h1 := bits_abs hqm
      have := Int.mul_le_mul (show (Builtin.Int.intBits ((1 : Int) - q) : Int) ≤ 467 by walk_at "m_om") (show (many : Int) ≤ 9 by walk_at "m_om") (by walk_at "m_om") (by decide)
      walk_at "m_om"
    by_cases hq1 : q = 1
    · subst hq1
      have hz0 : ((1 : Int) - 1) ^ many = 0 := by rw [show (1 : Int) - 1 = 0 by rfl]; exact Int.zero_pow (by walk_at "m_om")
      have hbz := hT.bi "ZeroDivisionError" (by decide +kernel)
      obtain ⟨ad, o, fd, hm, ho, hd, ok, hcl0, hcode⟩ := hT.defs "int_divmod" ["a", "b"] (by decide +kernel) (by decide +kernel)
      have skd := scint_divmod
      generalize hbd : bodyOf (Str.ofString "int_divmod") = bd at *
      conv at hbd => lhs; whnf
      subst hbd
      generalize hsd2 : scopeOf (Str.ofString "int_divmod") = sd at *
      conv at hsd2 => lhs; whnf
      subst hsd2
      have hX : bootBuiltins "ZeroDivisionError" = some (.type "ZeroDivisionError") := ExcClass.boot excClass_ZeroDivisionError
      have hself : isSubtype (.type "ZeroDivisionError") (.type "ZeroDivisionError") = pure true := by rw [isSubtype_type]; kernel_rfl
      have hexc : isSubtype (.type "ZeroDivisionError") (.type "BaseException") = pure true := by rw [isSubtype_type]; kernel_rfl
      have hnt : isSubtype (.type ((Manifest.find? "ZeroDivisionError").elim "type" fun y => y.metatype)) (.type "tuple") = pure false := by rw [show ((Manifest.find? "ZeroDivisionError").elim "type" fun y => y.metatype) = "type" by kernel_rfl, isSubtype_type]; kernel_rfl
      refine xs_cons (x_try_exc (X := "ZeroDivisionError") ?_ hf (by walk_at "m_kd") hbz hX hself hexc hnt hfrs rfl fun e => ?_)
      · refine assign_raise (ad := ad) (o := o) (fd := fd) (ds := [.int (sumG (intO 1) many), .int 0]) hf (by walk_at "m_kd") hm ho hd (evl_cons (ev_call' (by walk_at "m_en") (by walk_at "m_kd") (by walk_at "m_evs") hS2 (by walk_at "m_room") (by with_unfolding_all rfl)) (evl_cons (ev_bin (d1 := .int ((1 : Int) - 1)) (by walk_at "m_ev") (by walk_at "m_ev") ((o_pow (by walk_at "m_om") hpq).cast (by rw [Int.toNat_natCast, hz0]))) evl_nil)) (fun s F i vs r Q E kE => ?_) (by with_unfolding_all rfl) (by with_unfolding_all rfl)
        refine call_raise (k := 398) (X := "ZeroDivisionError") ho hd ok hcl0 hcode skd rfl (by decide +kernel) (fun A L cs q a cd N hr2 hf2 => ?_) (by kernel_rfl!) hbz hX excClass_ZeroDivisionError hself hr hfrs rfl rfl i hf r kE
        show Tests _ _ _ [("a", En.v _), ("b", En.v (.int 0))] _ _
        exact ts_cmp (by walk_at "m_ev") (by walk_at "m_ev") (c_eq.cast (by rfl)) (by with_unfolding_all rfl)
      · exact xs_return (d := .bool true) (ev_cmp (by walk_at "m_ev") (by walk_at "m_ev") (c_eq.cast (by rfl)) (by with_unfolding_all rfl)) (show D.bool true = D.bool true from rfl)
    · have hdv2 := div_value hq1 g1 g9
      have hDw := fn_divmod hTn (sumG (intO q) many) (((1 : Int) - q) ^ many) (Int.pow_ne_zero (by walk_at "m_om")) (Nat.le_trans (pow_bits hqm (Nat.mul_le_mul_left 467 g9) g1) (by decide)) (div_fit hq1 g1 g9)
      rw [hdv2.1, hdv2.2] at hDw
      have hne : (q != 1) = true := by rw [bne_iff_ne]; exact hq1
      refine xs_try ?_
      refine xs_assign (d := pairI (walkG (intO q) many) 0) hf (ev_call' (by walk_at "m_en") (by walk_at "m_kd") (evl_cons (ev_call' (by walk_at "m_en") (by walk_at "m_kd") (by walk_at "m_evs") hS2 (by walk_at "m_room") (by with_unfolding_all rfl)) (evl_cons (ev_bin (d1 := .int ((1 : Int) - q)) (by walk_at "m_ev") (by walk_at "m_ev") ((o_pow (by walk_at "m_om") hpq).cast (by rw [Int.toNat_natCast]))) evl_nil)) hDw (by walk_at "m_room") (by with_unfolding_all rfl)) (by walk_at "m_hold") (by walk_at "m_put") (by with_unfolding_all rfl) ?_
      refine xs_on (xs_on ?_)
      refine xs_return (ev_and (a := true) (b := true) (ev_cmp (by walk_at "m_ev") (by walk_at "m_ev") (c_ne.cast (congrArg D.bool hne)) (by with_unfolding_all rfl)) (fun _ => ev_cmp (d1 := .tup ([walkG (intO q) many, 0].map D.int)) (d2 := .tup ([walkG (intO q) many, 0].map D.int)) (show Evals _ _ _ _ _ (pairI (walkG (intO q) many) 0) from (by walk_at "m_ev")) (ev_tuple (evl_cons (ev_call' (by walk_at "m_en") (by walk_at "m_kd") (by walk_at "m_evs") hW2 (by walk_at "m_room") (by with_unfolding_all rfl)) (evl_cons (by walk_at "m_ev") evl_nil)) (by simp) (by with_unfolding_all rfl)) ((c_eq_tints (by walk_at "m_room")).cast (by simp)) (by with_unfolding_all rfl))) rfl
  · rintro r rest ρ ⟨acc, hs, hac, hin, hal⟩
    have hrm := hin r List.mem_cons_self
    obtain ⟨t1, t2⟩ := hrt r hrm
    have hfit := hrf.row r hrm
    have hb4 := hfit.bare
    have hd4 := hfit.due
    rw [List.length_cons] at hal
    have hWr := fn_law_write hT (hand : Int) (mkS r.bare) (by rw [mkS_len]; walk_at "m_om") (k := 0)
    rw [t1] at hWr
    have hC := fn_check hT (mkS r.due) (by rw [mkS_len]; walk_at "m_om")
    rw [t2] at hC
    rw [goodCounts_cons] at hac
    refine ⟨_, _, hs, .tup (by rfl) (by simp only [List.map, tgt]; walk_at "m_puts"), ?_⟩
    show Xs _ _ _ _ _ [("few", En.v _), ("many", En.v _), ("q", En.v _), ("hand", En.v _), ("width", En.v _), ("crossed", En.own a _), ("bare", En.v _), ("due", En.v _), ("opened", En.v _), ("height", En.v _), ("good", En.v _)] _
    refine xs_assign hf (ev_call' (by walk_at "m_en") (by walk_at "m_kd") (by walk_at "m_evs") hWr (by walk_at "m_room") (by with_unfolding_all rfl)) (by walk_at "m_hold") (by walk_at "m_put") (by with_unfolding_all rfl) ?_
    refine xs_if (b := false) (ts_or (a := false) (b := false) (ts_cmp (by walk_at "m_ev") (by walk_at "m_ev") (c_ne_str.cast (by simp)) (by with_unfolding_all rfl)) (fun _ => ts_cmp (ev_call' (by walk_at "m_en") (by walk_at "m_kd") (by walk_at "m_evs") hC (by walk_at "m_room") (by with_unfolding_all rfl)) (by walk_at "m_ev") (c_isnot_bool.cast (by simp)) (by with_unfolding_all rfl))) (fun h => by cases h) (fun _ => xs_on ?_)
    refine xs_if (b := r.good) (ts_bool (by walk_at "m_ev") (by with_unfolding_all rfl)) (fun hb => ?_) (fun hb => xs_on (xs_nil ⟨acc, (by walk_at "m_sub"), ?_, fun x hx => hin x (List.mem_cons_of_mem _ hx), by walk_at "m_om"⟩))
    · rw [if_pos hb] at hac
      refine xs_append (ρ' := [("few", En.v (natD few)), ("many", En.v (natD many)), ("q", En.v (.int q)), ("hand", En.v (natD hand)), ("width", En.v (natD width)), ("crossed", En.own a ((acc ++ [Txt.count (mkS r.due) ";"]).map D.int)), ("bare", En.v (.str (mkS r.bare))), ("due", En.v (.str (mkS r.due))), ("opened", En.v (.int (r.opened : Int))), ("height", En.v (.int r.height)), ("good", En.v (.bool r.good)), ("written", En.v (.str (mkS r.due)))]) hf (by walk_at "m_mem") (evM_count (by walk_at "m_ev") (by walk_at "m_ev") (by with_unfolding_all rfl) (by with_unfolding_all rfl) (by with_unfolding_all rfl)) (by rw [show (acc ++ [Txt.count (mkS r.due) ";"]).map D.int = acc.map D.int ++ [D.int (Txt.count (mkS r.due) ";")] by rw [List.map_append]; rfl]; walk_at "m_put") ?_ (by with_unfolding_all rfl) (by with_unfolding_all rfl) (by decide) (by with_unfolding_all rfl) (by with_unfolding_all rfl) ?_
      · rw [List.length_map]; walk_at "m_om"
      · exact xs_on (xs_nil ⟨acc ++ [Txt.count (mkS r.due) ";"], (by walk_at "m_sub"), by rw [List.append_assoc]; exact hac, fun x hx => hin x (List.mem_cons_of_mem _ hx), by rw [List.length_append, List.length_singleton]; walk_at "m_om"⟩)
    · rw [if_neg (by rw [hb]; decide)] at hac
      exact hac
/- E21 -/
theorem zip_look : ∀ (ps : List Str) (vals : List Value), vals.length = ps.length → ps.Nodup → ps.filterMap (fun n => ((ps.zip vals).lookup n).map fun v => (n, v)) = ps.zip vals ∧ ∀ n ∈ ps, ((ps.zip vals).lookup n).isNone = false
  | [], _, _, _ => ⟨rfl, fun n h => by cases h⟩
  | p :: ps, [], h, _ => by simp at h
  | p :: ps, v :: vals, h, hn => by
    have hn' := List.nodup_cons.mp hn
    obtain ⟨h1, h2⟩ := zip_look ps vals (by simpa using h) hn'.2
    have key : ∀ n ∈ ps, (((p :: ps).zip (v :: vals)).lookup n) = ((ps.zip vals).lookup n) := by
      intro n hm
      rw [List.zip_cons_cons, List.lookup_cons]
      have : (n == p) = false := by
        rw [beq_eq_false_iff_ne]; intro e; subst e; exact hn'.1 hm
      rw [this]
    have hp : (((p :: ps).zip (v :: vals)).lookup p) = some v := by
      rw [List.zip_cons_cons, List.lookup_cons, beq_self_eq_true]
    have fmc : ∀ {l : List Str} {f g : Str → Option (Str × Value)}, (∀ n ∈ l, f n = g n) → l.filterMap f = l.filterMap g := by
      intro l f g h
      induction l with
      | nil => rfl
      | cons a l ih => rw [List.filterMap_cons, List.filterMap_cons, h a List.mem_cons_self, ih fun n hn => h n (List.mem_cons_of_mem _ hn)]
    constructor
    · rw [List.filterMap_cons, hp]
      simp only [Option.map_some]
      rw [fmc (g := fun n => ((ps.zip vals).lookup n).map fun v => (n, v)) fun n hm => by rw [key n hm], h1]
      rfl
    · intro n hm
      rcases List.mem_cons.mp hm with rfl | hm
      · rw [hp]; rfl
      · rw [key n hm]; exact h2 n hm
theorem dec_skip {c : Prop} {α : Type} {f : ¬ c → α} {g : c → α} {inst : Decidable c} {z : α} (hc : ¬ c) (h : f hc = z) : (Decidable.rec (motive := fun _ => α) f g inst : α) = z := by
  cases inst with
  | isFalse _ => exact h
  | isTrue h' => exact absurd h' hc
theorem zip_skip {α β γ δ : Type} {X : List α} {Y : List β} (hY : Y = []) {s : γ} {F : α × β → γ → Sem (ForInStep γ)} {K : γ → Sem δ} {z : Sem δ} (h : K s = z) : (Sem.bind (forIn (X.zip Y) s F) K) = z := by
  subst hY
  rw [List.zip_nil_right]
  exact h
theorem bind_plain {fd : FuncData} {vals : List Value} (h1 : fd.params.posonlyargs = []) (h2 : fd.params.kwonlyargs = []) (h3 : fd.params.vararg = none) (h4 : fd.params.kwarg = none) (h5 : fd.defaults = .none) (hlen : vals.length = (fd.params.args.map (·.arg)).length) (hnd : (fd.params.args.map (·.arg)).Nodup) :
    bindArgs fd ⟨vals, []⟩ = pure ((fd.params.args.map (·.arg)).zip vals) := by
  obtain ⟨nm, qn, ⟨po, as, va, ko, kd, kw, df⟩, bd, sc, gl, clo, dfl, kdf, doc, pm, ann, cd, ct, bu⟩ := fd
  dsimp only at h1 h2 h3 h4 h5 hlen hnd ⊢
  subst h1 h2 h3 h4 h5
  obtain ⟨z1, z2⟩ := zip_look (as.map (·.arg)) vals hlen hnd
  have hmiss : (List.filter (fun n => (List.lookup n ((as.map (·.arg)).zip vals)).isNone) (as.map (·.arg))) = [] := by
    rw [List.filter_eq_nil_iff]
    intro n hn
    rw [z2 n hn]; decide
  have hl2 : ¬ ((decide (vals.length > (as.map (·.arg)).length) && true) = true) := by rw [hlen]; simp
  conv => lhs; whnf
  refine dec_skip hl2 ?_
  conv => lhs; whnf
  refine dec_skip (by simp only [List.map_nil, List.nil_append, Option.getD_none, List.drop_nil, List.length_nil, Nat.sub_zero, List.take_length, hmiss]; decide) ?_
  conv => lhs; whnf
  refine zip_skip (by simp) ?_
  conv => lhs; whnf
  exact congrArg Sem.pure (by simp only [List.map_nil, List.nil_append, List.append_nil]; exact z1)
/-- a def without anything special about its parameters -/
def plainA (a : Arguments) : Bool := a.posonlyargs.isEmpty && a.kwonlyargs.isEmpty && a.vararg.isNone && a.kwarg.isNone && a.defaults.isEmpty && a.kw_defaults.isEmpty && decide ((a.args.map (·.arg)).Nodup)
def allPlain (p : Program) : Bool := p.main.body.all fun st => match st with
  | .FunctionDef _ a _ _ _ _ _ _ _ _ => plainA a
  | _ => true
/-- all but the rows that name a module -/
def keepS (st : Stmt) : Bool := match st with
  | .Assign [.Name x _] _ _ => x != "__name__"
  | _ => true
theorem theDef_mem {p : Program} {n : Str} {a : Arguments} {b : List Stmt} {sc : Scope} (h : p.theDef n = some (a, b, sc)) : ∃ ret tsc bind pos, Stmt.FunctionDef n a b [] ret [] sc tsc bind pos ∈ p.main.body := by
  unfold Program.theDef at h
  split at h
  · rename_i name args body ret scope tsc bind pos hf
    cases h
    have hm : Stmt.FunctionDef name a b [] ret [] sc tsc bind pos ∈ [Stmt.FunctionDef name a b [] ret [] sc tsc bind pos] := List.mem_cons_self
    rw [← hf] at hm
    obtain ⟨h1, h2⟩ := List.mem_filter.mp hm
    have : name = n := by simpa using h2
    subst this
    exact ⟨_, _, _, _, h1⟩
  · cases h
theorem theDef_keep {p q : Program} (hq : q.main.body = p.main.body.filter keepS) (n : Str) : q.theDef n = p.theDef n := by
  unfold Program.theDef
  rw [hq, List.filter_filter]
  congr 1
  refine List.filter_congr fun st _ => ?_
  cases st <;> first | rfl | exact Bool.and_true _
theorem rec_of {p q : Program} (hq : q.main.body = p.main.body.filter keepS) (hp : allPlain p = true) {n : Str} {a : Arguments} {b : List Stmt} {sc : Scope} (h : p.theDef n = some (a, b, sc)) : plainA a = true ∧ ∃ pos, (⟨n, a, b, sc, pos⟩ : DefRec) ∈ recsOf q := by
  obtain ⟨ret, tsc, bind, pos, hm⟩ := theDef_mem h
  have hpl : plainA a = true := List.all_eq_true.mp hp _ hm
  refine ⟨hpl, pos, ?_⟩
  have hmq : Stmt.FunctionDef n a b [] ret [] sc tsc bind pos ∈ q.main.body := by
    rw [hq]; exact List.mem_filter.mpr ⟨hm, rfl⟩
  unfold recsOf
  refine List.mem_filterMap.mpr ⟨_, hmq, ?_⟩
  have hd : q.theDef n = some (a, b, sc) := by rw [theDef_keep hq]; exact h
  simp only [hd]
  simp only [plainA, Bool.and_eq_true, List.isEmpty_iff] at hpl
  obtain ⟨⟨⟨⟨⟨⟨h1, h2⟩, h3⟩, h4⟩, h5⟩, h6⟩, h7⟩ := hpl
  rw [h5, h2, h6]
  rfl
def biNames : List Str := ["len", "range", "min", "max", "sum", "reversed", "zip", "divmod", "enumerate", "ZeroDivisionError"]
def biOk (q : Program) (L : List Str) : Bool := biNames.all fun x => !startupNames.contains x && !L.contains x && !((recsOf q).map (·.name)).contains x && !((litsOf q).map (·.1)).contains x && !((clssOf q L).map (·.name)).contains x && x != "__name__"
theorem oldK_of {T : List Addr} {h h' : Heap} (k : Kp T h h') (hT : ∀ P ∈ T, isCodeTable h P) : OldK h h' := by
  refine ⟨fun b o e => ?_, fun b o e => ?_⟩
  · cases ht : isTab o with
    | false => exact .inl (k.keep b o e ht)
    | true =>
      rcases k.tab b o e ht with q | ⟨hb, vs, more, rfl, q⟩
      · exact .inl q
      · exact .inr (.inl ⟨hT b hb, rfl, vs, more, rfl, q⟩)
  · cases ht : isTab o with
    | false => exact ⟨o, k.keep b o e ht⟩
    | true =>
      rcases k.tab b o e ht with q | ⟨hb, vs, more, rfl, q⟩
      · exact ⟨_, q⟩
      · exact ⟨_, q⟩
theorem nestOk_keep {h h' : Heap} {c P : Addr} {pos : Pos} {qual : Str} (x : NestOk h c P pos qual) (k : ∀ b o, h.get? b = some o → codey o = true → h'.get? b = some o) : NestOk h' c P pos qual := by
  obtain ⟨⟨o, vs, file, tf, flags, tg, inF, text, tt, e, e2, e3, r⟩, y⟩ := x
  refine ⟨⟨o, vs, file, tf, flags, tg, inF, text, tt, k _ _ e (by unfold codey; rw [e2, e3]; rfl), e2, e3, r⟩, ?_⟩
  rcases y with y | ⟨c', o', vs', t, y1, y2, y3, y4, y5⟩
  · exact .inl (k _ _ y rfl)
  · exact .inr ⟨c', o', vs', t, k _ _ y1 rfl, k _ _ y2 (by unfold codey; rw [y3, y4]; rfl), y3, y4, y5⟩
theorem nestOk_ext {h h' : Heap} {c P P' : Addr} {pos : Pos} {qual : Str} (x : NestOk h c P pos qual) (hx : Heap.ExtBut P' h h') (hne : P ≠ P') (hP' : ∃ ps, h.get? P' = some (tabObj ps)) : NestOk h' c P pos qual := by
  obtain ⟨ps, hP'⟩ := hP'
  have ne : ∀ {b : Addr} {o : Obj}, h.get? b = some o → o.cls = .type "code" → b ≠ P' := fun e ec q => by subst q; rw [hP'] at e; cases e; cases ec
  obtain ⟨⟨o, vs, file, tf, flags, tg, inF, text, tt, e, e2, r⟩, y⟩ := x
  refine ⟨⟨o, vs, file, tf, flags, tg, inF, text, tt, hx _ _ (ne e e2) e, e2, r⟩, ?_⟩
  rcases y with y | ⟨c', o', vs', t, y1, y2, y3, y4, y5⟩
  · exact .inl (hx _ _ hne y)
  · exact .inr ⟨c', o', vs', t, hx _ _ hne y1, hx _ _ (ne y2 y3) y2, y3, y4, y5⟩
theorem NestOk.tab {h : Heap} {c P : Addr} {pos : Pos} {qual : Str} (x : NestOk h c P pos qual) : ∃ ps, h.get? P = some (tabObj ps) := by
  obtain ⟨_, y | ⟨c', o', vs', t, y, _⟩⟩ := x
  · exact ⟨_, y⟩
  · exact ⟨_, y⟩
/-- where a def's code and its table of codes lie -/
structure HasTab (m : Str → Option Value) (h : Heap) (x : Str) (c P : Addr) : Prop where
  at' : ∃ f o fd oc vs, m x = some (.ref f) ∧ h.get? f = some o ∧ o.data = .func fd ∧ fd.code = .ref c ∧ h.get? c = some oc ∧ oc.data = .fields vs ∧ vs[11]? = some (.ref P)
def tabAt (h : Heap) (x : Str) : Option (Addr × Addr) := match h.nsMap mainGlobals x with
  | some (.ref f) => (match h.get? f with
    | some o => (match o.data with
      | .func fd => (match fd.code with
        | .ref c => (match h.get? c with
          | some oc => (match oc.data with
            | .fields vs => (match (vs[11]? : Option Value) with
              | some (.ref P) => some (c, P)
              | _ => none)
            | _ => none)
          | none => none)
        | _ => none)
      | _ => none)
    | none => none)
  | _ => none
theorem hasTab_of {h : Heap} {x : Str} {p : Addr × Addr} (e : tabAt h x = some p) : HasTab (h.nsMap mainGlobals) h x p.1 p.2 := by
  unfold tabAt at e
  split at e
  · rename_i f hf
    split at e
    · rename_i o ho
      split at e
      · rename_i fd hd
        split at e
        · rename_i c hc
          split at e
          · rename_i oc hoc
            split at e
            · rename_i vs hvs
              split at e
              · rename_i P hP
                cases e
                exact ⟨f, o, fd, oc, vs, hf, ho, hd, hc, hoc, hvs, hP⟩
              · cases e
            · cases e
          · cases e
        · cases e
      · cases e
    · cases e
  · cases e
def apartB (h : Heap) : Bool := match tabAt h "_digits2int", tabAt h "_int2digits" with
  | some p, some q => p.2 != q.2
  | _, _ => false
/-- the tables of the two defs that make a def are two -/
def Apart (h : Heap) : Prop := ∃ m c1 P1 c2 P2, h.Ns mainGlobals m ∧ HasTab m h "_digits2int" c1 P1 ∧ HasTab m h "_int2digits" c2 P2 ∧ P1 ≠ P2
def hookT : Hook := ⟨Bool, fun s => s.heap.isNs mainGlobals && apartB s.heap, fun _ => true, fun _ h => Apart h, fun w s e => by
    obtain ⟨h1, h2⟩ := Bool.and_eq_true_iff.mp e
    unfold apartB at h2
    cases e1 : tabAt s.heap "_digits2int" with
    | none => rw [e1] at h2; cases h2
    | some p =>
    cases e2 : tabAt s.heap "_int2digits" with
    | none => rw [e1, e2] at h2; cases h2
    | some q =>
    rw [e1, e2] at h2
    exact ⟨_, _, _, _, _, .of_isNs h1, hasTab_of e1, hasTab_of e2, by simpa using h2⟩, fun w h h' x k => by
    obtain ⟨m, c1, P1, c2, P2, hn, ⟨f, o, fd, oc, vs, a1, a2, a3, a4, a5, a6, a7⟩, ⟨f', o', fd', oc', vs', b1, b2, b3, b4, b5, b6, b7⟩, hne⟩ := x
    exact ⟨m, c1, P1, c2, P2, hn.keeps k, ⟨f, o, fd, oc, vs, a1, k _ _ a2, a3, a4, k _ _ a5, a6, a7⟩, ⟨f', o', fd', oc', vs', b1, k _ _ b2, b3, b4, k _ _ b5, b6, b7⟩, hne⟩⟩
theorem ns_same {h : Heap} {a : Addr} {m m' : Str → Option Value} (x : h.Ns a m) (y : h.Ns a m') (n : Str) : m n = m' n := by
  obtain ⟨o, es, ep, e, hd, _, hf⟩ := x
  obtain ⟨o', es', ep', e', hd', _, hf'⟩ := y
  rw [e] at e'; cases e'
  rw [hd] at hd'; cases hd'
  rw [← hf, ← hf']
theorem hasTab_code {q : Program} {L : List Str} {mean : ExcName → Option Value} {mg mb : Str → Option Value} {h : Heap} (T : Top q L mean mg mb h) {d : DefRec} (hd : d ∈ recsOf q) {c P : Addr} {m : Str → Option Value} (hn : h.Ns mainGlobals m) (x : HasTab m h d.name c P) :
    CodeHd h c P ∧ h.get? P = some (tabObj #[]) ∧ ∃ a o fd, mg d.name = some (.ref a) ∧ h.get? a = some o ∧ o.data = .func fd ∧ fd.code = .ref c := by
  obtain ⟨a, o, fd, c', P', h1, h2, h3, h4, h5, h6⟩ := T.tab d hd
  obtain ⟨f, o2, fd2, oc, vs, a1, a2, a3, a4, a5, a6, a7⟩ := x
  rw [ns_same hn T.g, h1] at a1; cases a1
  rw [h2] at a2; cases a2
  rw [h3] at a3; cases a3
  rw [h4] at a4; cases a4
  have h6' := h6
  obtain ⟨⟨oc', vs', g1, g2, g3, g4⟩, g5⟩ := h6'
  rw [a5] at g1; cases g1
  rw [a6] at g3; cases g3
  rw [a7] at g4; cases g4
  exact ⟨CodeHd.of h5 h6, g5, a, o, fd, h1, h2, h3, h4⟩
/-- the program without the rows that name a module -/
def viewP (p : Program) : Program := { p with main := { p.main with body := p.main.body.filter keepS } }
/- E22 -/
theorem def_at {G : Gx} {q : Program} {L : List Str} {mean : ExcName → Option Value} (hq : q.main.body = Pg.main.body.filter keepS) (hp : allPlain Pg = true) (T : Top q L mean G.mg G.mb G.h₁) {n : Str} {a : Arguments} {b : List Stmt} {sc : Scope} (h : Pg.theDef n = some (a, b, sc)) :
    ∃ (ad : Addr) (o : Obj) (fd : FuncData), G.mg n = some (.ref ad) ∧ G.h₁.get? ad = some o ∧ o.data = .func fd ∧ DefOk fd (a.args.map (·.arg)) b sc ∧ fd.closure = [] ∧ (∀ h, Kp G.T G.h₁ h → h.CodeRec fd.code fd.qualname) ∧ fd.qualname = n := by
  obtain ⟨hpl, pos, hm⟩ := rec_of hq hp h
  obtain ⟨ad, o, pm, code, doc, h1, h2, h3, h4⟩ := T.fn _ hm
  obtain ⟨ad', o', fd', c, P, g1, g2, g3, g4, g5, g6⟩ := T.tab _ hm
  have e1 : ad = ad' := by have := h1.symm.trans g1; simpa using this
  subst e1
  have e2 : o = o' := by have := h2.symm.trans g2; simpa using this
  subst e2
  have e3 : docDef n a b sc pm code doc = fd' := by have := h3.symm.trans g3; simpa using this
  simp only [plainA, Bool.and_eq_true, List.isEmpty_iff, Option.isNone_iff_eq_none, decide_eq_true_eq] at hpl
  obtain ⟨⟨⟨⟨⟨⟨p1, p2⟩, p3⟩, p4⟩, p5⟩, p6⟩, p7⟩ := hpl
  refine ⟨ad, o, docDef n a b sc pm code doc, h1, h2, h3, ⟨rfl, rfl, rfl, rfl, fun vals hv => bind_plain p1 p2 p3 p4 rfl hv p7⟩, rfl, fun h k => ?_, rfl⟩
  obtain ⟨c2, oc, vs, t, r1, r2, r3, r4⟩ := h4
  have e4 : c2 = c := by
    rw [← e3] at g4
    have : code = .ref c := g4
    rw [r1] at this; simpa using this
  subst e4
  obtain ⟨⟨o2, vs2, t1, t2, t3, t4⟩, _⟩ := g6
  rw [r2] at t1; cases t1
  exact ⟨c2, oc, vs, t, r1, k.keep _ _ r2 (isTab_cls t2), r3, r4⟩
theorem ints_of_well {P : Params} {h : Heap} {F : Fz} : ∀ {vs : List Value} {ns : List Int}, WellAll P h vs (ofPys (ns.map PyData.int)) → RdL F vs (ns.map D.int)
  | _, [], x => by
    cases x; exact .nil
  | _, n :: ns, x => by
    have x' : WellAll P h _ (.int n :: ofPys (ns.map PyData.int)) := x
    cases x' with
    | cons h1 h2 =>
      cases h1
      exact .cons .int (ints_of_well h2)
theorem room_caller : Room callerA 400 := ⟨rfl, by decide, by decide⟩
theorem law2_top {q : Program} {L : List Str} {mean : ExcName → Option Value} {w : World} {s : Shared} {mg mb : Str → Option Value} (hq : q.main.body = Pg.main.body.filter keepS) (hp : allPlain Pg = true) (hbi : biOk q L = true) (hval : valOf q "_DIV_LIMIT" = some (.int 4000)) (T : Top q L mean mg mb s.heap) (X : Apart s.heap)
    (hg : s.gens = #[]) {fa : Addr} (hmg : mg "law" = some (.ref fa)) {v : Value} {ns : List Int} {Pm : Params} (hW : Well Pm s.heap v (ofPy (.list (ns.map PyData.int)))) (hn : ns.length ≤ 63)
    {Q : Value → Shared → Prop} {E : Value → Shared → Prop} (k : ∀ s', OldK s.heap s'.heap → s'.os = s.os → AllBare s'.gens → Q (.bool true) s') : wpAny (model PySem.Challenge.rw_ul0015_02.row.prog w) callerA (call (.ref fa) [v]) Q E s := by
  have hW' : Well Pm s.heap v (.list (ofPys (ns.map PyData.int))) := hW
  cases hW' with
  | @list l vs _ hl hvs =>
  -- the tables of the two defs that make a def
  obtain ⟨m, c1, P1, c2, P2, hnm, ht1, ht2, hne⟩ := X
  have td : ∀ n, (Pg.theDef n).isSome = true → ∃ a, Pg.theDef n = some (a, bodyOf n, scopeOf n) := fun n h => by
    obtain ⟨⟨a, b, sc⟩, e⟩ := Option.isSome_iff_exists.mp h
    exact ⟨a, by unfold bodyOf scopeOf; rw [e]⟩
  obtain ⟨a1, e1⟩ := td "_digits2int" (by decide +kernel)
  obtain ⟨a2, e2⟩ := td "_int2digits" (by decide +kernel)
  obtain ⟨_, pos1, f1⟩ := rec_of hq hp e1
  obtain ⟨_, pos2, f2⟩ := rec_of hq hp e2
  obtain ⟨hC1, hP1, hX1⟩ := hasTab_code T f1 hnm ht1
  obtain ⟨hC2, hP2, hX2⟩ := hasTab_code T f2 hnm ht2
  have low3 : cStatics < s.heap.objs.size := by obtain ⟨mc, h, _⟩ := T.nolimit; exact h.lt
  let F0 : Fz := fun a => if a = l then some (lObj vs 0) else none
  let G : Gx := { prog := PySem.Challenge.rw_ul0015_02.row.prog, w := w, mg := mg, mb := mb, T := [P1, P2], h₁ := s.heap, low := ⟨T.g.lt, T.b.lt, low3⟩, os := s.os, F₀ := F0, inv := fun h => NestOk h c1 P1 (innerPos "_digits2int") "_digits2int.<locals>.inner" ∧ NestOk h c2 P2 (innerPos "_int2digits") "_int2digits.<locals>.inner", invK := fun h h' i kk => ⟨nestOk_keep i.1 kk, nestOk_keep i.2 kk⟩, tk := 0 }
  have hgood : Good G s F0 := by
    refine ⟨Kp.refl _ _, T.g, T.b, T.nolimit, AllBare.of_eq hg, Nat.zero_le _, rfl, fun a o e => ?_, fun a o e => ?_, Fz.le.refl _, ⟨hC1, .inl hP1⟩, ⟨hC2, .inl hP2⟩⟩
    · by_cases h : a = l
      · subst h
        have : some (lObj vs 0) = some o := by simpa [F0] using e
        cases this; exact hl
      · simp [F0, h] at e
    · by_cases h : a = l
      · have : some (lObj vs 0) = some o := by simpa [F0, h] using e
        cases this; rfl
      · simp [F0, h] at e
  have hDef : ∀ n ps, (Pg.theDef n).isSome = true → (match Pg.theDef n with | some (a, _, _) => a.args.map (·.arg) | none => []) = ps → Def G.on n ps (bodyOf n) (scopeOf n) := fun n ps h hps => by
    obtain ⟨a, e⟩ := td n h
    obtain ⟨ad, o, fd, q1, q2, q3, q4, q5, q6, q7⟩ := def_at (G := G.on) hq hp T e
    rw [e] at hps
    subst hps
    exact ⟨ad, o, fd, q1, q2, q3, q4, q5, q6⟩
  have hTp : Tp G.on := by
    refine ⟨Nat.le_refl 1, rfl, hDef, ?_, fun x hx => ?_⟩
    · obtain ⟨v, h1, h2⟩ := T.const _ _ hval
      cases h2 s.heap with
      | int i t => exact ⟨t, h1⟩
    · have := List.all_eq_true.mp hbi x hx
      simp only [Bool.and_eq_true, Bool.not_eq_true', List.contains_eq_mem, decide_eq_false_iff_not, bne_iff_ne] at this
      obtain ⟨⟨⟨⟨⟨q1, q2⟩, q3⟩, q4⟩, q5⟩, q6⟩ := this
      exact ⟨T.free x q1 q2 q3 q4 q5, T.builtins x q6⟩
  have hDC : ∀ n ps c, (Pg.theDef n).isSome = true → (match Pg.theDef n with | some (a, _, _) => a.args.map (·.arg) | none => []) = ps → (∃ a o fd, mg n = some (.ref a) ∧ s.heap.get? a = some o ∧ o.data = .func fd ∧ fd.code = .ref c) → DefC G.on n ps (bodyOf n) (scopeOf n) (.ref c) n := fun n ps c h hps ht => by
    obtain ⟨a', o', fd', x1, x2, x3, x4⟩ := ht
    obtain ⟨a, e⟩ := td n h
    obtain ⟨ad, o, fd, q1, q2, q3, q4, q5, q6, q7⟩ := def_at (G := G.on) hq hp T e
    rw [e] at hps
    subst hps
    exact ⟨ad, o, fd, q1, q2, q3, q4, q5, q6, (by have y1 := x1.symm.trans q1; cases y1; have y2 := x2.symm.trans q2; cases y2; have y3 := x3.symm.trans q3; cases y3; exact x4), q7⟩
  have hmain : ∀ P ps, s.heap.get? P = some (tabObj ps) → mainGlobals ≠ P ∧ builtinsNs ≠ P := fun P ps h => by
    refine ⟨fun e => ?_, fun e => ?_⟩
    · obtain ⟨o, es, ep, e2, hd, _⟩ := T.g
      rw [e, h] at e2; cases e2; cases hd
    · obtain ⟨o, es, ep, e2, hd, _⟩ := T.b
      rw [e, h] at e2; cases e2; cases hd
  have hbm : ∀ P, s.heap.get? P = some (tabObj #[]) → ∃ bm ob, G.on.mg "__builtins__" = some (.ref bm) ∧ bm ≠ builtinsNs ∧ bm ≠ mainGlobals ∧ bm ≠ P ∧ G.on.h₁.get? bm = some ob ∧ ob.cls = .type "module" ∧ ob.dict = some builtinsNs ∧ ob.data = .plain := fun P hP => by
    obtain ⟨bm, ob, b1, b2, b3, b4, b5, b6⟩ := T.bmain
    refine ⟨bm, ob, b1, b2, fun e => ?_, fun e => ?_, b3, b4, b5, b6⟩
    · obtain ⟨o, es, ep, e2, hd, _⟩ := T.g
      rw [← e, b3] at e2; cases e2; rw [hd] at b6; cases b6
    · rw [e, hP] at b3; cases b3; cases b4
  have hTn : Tn G.on := by
    refine ⟨hTp, ⟨c1, P1, hDC _ _ _ (by decide +kernel) (by decide +kernel) hX1, ?_⟩, ⟨c2, P2, hDC _ _ _ (by decide +kernel) (by decide +kernel) hX2, ?_⟩⟩
    · exact ⟨List.mem_cons_self, hmain _ _ hP1, fun h i => i.1, fun h h' i hx n => ⟨n, nestOk_ext i.2 hx (Ne.symm hne) i.1.tab⟩, hbm _ hP1⟩
    · exact ⟨List.mem_cons_of_mem _ List.mem_cons_self, hmain _ _ hP2, fun h i => i.2, fun h h' i hx n => ⟨nestOk_ext i.1 hx hne i.2.tab, n⟩, hbm _ hP2⟩
  -- the call
  obtain ⟨al, el⟩ := td "law" (by decide +kernel)
  obtain ⟨ad, o, fd, q1, q2, q3, q4, q5, q6, q7⟩ := def_at (G := G) hq hp T el
  have hal : al.args.map (·.arg) = (["script"] : List Str) := by
    have : (match Pg.theDef "law" with | some (a, _, _) => a.args.map (·.arg) | none => []) = (["script"] : List Str) := by decide +kernel
    rw [el] at this; exact this
  rw [hal] at q4
  have efa : ad = fa := by have : some (Value.ref ad) = some (.ref fa) := q1.symm.trans hmg; simpa using this
  subst efa
  have hrd : Rd F0 (.ref l) (.lst (ns.map .int)) := .lst (n := 0) (by simp [F0]) (ints_of_well hvs)
  refine call_top2 (G := G) (k := 399) q4 sclaw q5 q2 q3 (q6 _ (Kp.refl _ _)) room_caller rfl hgood hrd (by decide +kernel) (by decide +kernel) (law_body hTn ns hn) fun v s' F' gd r => ?_
  cases r
  refine k s' (oldK_of gd.base fun P hP => ?_) gd.os gd.bare
  rcases List.mem_cons.mp hP with rfl | hP
  · exact (hC1.tab hP1).isCodeTable
  · rw [List.mem_singleton.mp hP]; exact (hC2.tab hP2).isCodeTable
end Mine
set_option maxRecDepth 100000
set_option maxHeartbeats 4000000
namespace Mine
abbrev Qv : Program := viewP Pg
abbrev lw : OpenLaw := PySem.Challenge.rw_ul0015_02
theorem lk1 : sreFenced lw.row.prog.main = true := by kernel_rfl
theorem lk3 : namesResolve lw.row.prog = true := by kernel_rfl
theorem lk6 : (namesMeet lw.row.prog lw.row.prog.main.body fun _ n => attrL n) = true := by kernel_rfl
theorem lkOpen : looksOpen lw.row.prog = true := look_both (look_both (look_both (look_both (look_both lk1 (by kernel_rfl)) lk3) (by kernel_rfl)) (by kernel_rfl)) lk6
theorem partS : lw.row.partSaid = true := look_both (look_both (look_both (look_both (look_both (look_both (look_both (look_both (look_both (look_both (look_both (look_both (look_both lkOpen (by kernel_rfl)) (by kernel_rfl)) (by kernel_rfl)) (by kernel_rfl)) (by kernel_rfl)) (by kernel_rfl)) (by kernel_rfl)) (by kernel_rfl)) (by kernel_rfl)) (by kernel_rfl)) (by kernel_rfl)) (by kernel_rfl)) (by kernel_rfl)
theorem rowS : lw.row.wellSaid = true := look_both (look_both partS (by kernel_rfl)) (by kernel_rfl)
theorem said : PySem.Challenge.rw_ul0015_02.wellSaid = true := look_both (look_both (look_both (look_both (look_both (look_both (look_both (look_both (look_both (look_both (look_both (look_both (look_both (look_both (look_both (look_both (look_both (look_both rowS (by kernel_rfl)) (by kernel_rfl)) (by kernel_rfl)) (by kernel_rfl)) (by kernel_rfl)) (by kernel_rfl)) (by kernel_rfl)) (by kernel_rfl)) (by kernel_rfl)) (by kernel_rfl)) (by kernel_rfl)) (by kernel_rfl)) (by kernel_rfl)) (by kernel_rfl)) (by kernel_rfl)) (by kernel_rfl)) (by kernel_rfl)) (by kernel_rfl)
theorem left : LeftO PySem.Challenge.rw_ul0015_02.row.prog Qv [] (fun s => xlAt Qv [] s && recOk (RowW.records PySem.Challenge.rw_ul0015_02.row.toRowW) s) (Hook.obs hookT) (Hook.val hookT) 1720 := fun w => by kernel_rfl
end Mine
theorem PySem.Challenge.cw_ul0015_02_holds : PySem.Challenge.rw_ul0015_02.Holds := by
  refine holds_law Mine.said fun sd => ?_
  refine holds_open (q := Mine.Qv) (loose := []) (XP := XL Mine.Qv []) (YP := Hook.says Mine.hookT) (N := 1720) Mine.left (Hook.of Mine.hookT) (Hook.keeps Mine.hookT) (fun s e => xl_of s (Bool.and_eq_true_iff.mp e).1) XL.keeps (by rfl) (by rfl) (by rfl) (fun s e => recFacts_of (Bool.and_eq_true_iff.mp e).2) (by rfl) sd (by decide +kernel) ⟨rfl, rfl, rfl, rfl, rfl, by decide +kernel⟩ ?hw ?hc
  case hw => exact ⟨[.list []], by decide +kernel, by decide +kernel⟩
  intro w s₀ s₁ mg mb G Y fa o pm cd doc dV kV ho hd hcd hD hmg hg args vals as hpre hlay hrd hwl hlo
  refine Ground.open G ?_
  intro T B D TE TW
  clear hd hcd hD ho TW TE B D
  obtain ⟨ns, rfl, hn⟩ := Mine.args_law (l := PySem.Challenge.rw_ul0015_02) rfl rfl (pre_splitW hpre).1 (pre_splitW hpre).2
  cases hwl with
  | cons hv hr =>
  cases hr
  refine Mine.law2_top (ns := ns) (Pm := w.params) (by kernel_rfl) (by decide +kernel) (by decide +kernel) (by kernel_rfl) T Y hg hmg hv hn fun s' h1 h2 h3 => ?_
  refine ⟨.inl ⟨_, .bool true, [], rfl, fun cls => rfl, .bool true, ?_, fun _ => ⟨List.nodup_nil, fun a h => by cases h⟩⟩, h1, h2, h3⟩
  exact Mine.post_law PySem.Challenge.rw_ul0015_02 _
