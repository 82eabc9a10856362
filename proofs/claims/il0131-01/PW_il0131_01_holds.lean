import PyProof.Rows.All
import Wide.All
import OpenK.AllK
import Wide.FinOn
import KE.KUnpack
import PyProof.ZipIter
import PyProof.EnumMake
import PyProof.CollectWalk
import KE.KTypeName
import KE.KStar
import PyProof.Rows.RaiseClass
import PyProof.CallStr
import PyProof.EqAt
import PyProof.P3Eq
import PyProof.SeqRoads2
import KE.KSortTup
import KE.KLam
import PyProof.AttrMiss
import KE.KSuper
import PyProof.DictWalks
import PyProof.DictItems
import PyProof.ListOps
import PyProof.ListMulRoad
import PyProof.CompUse
import PySem.Challenge.RW_il0131_01
section
open PySem PySem.W PyProof.Rows
set_option Elab.async false
section
set_option maxRecDepth 100000
local macro_rules | `(tactic| o_head $_) => `(tactic| assumption)
/-- its only use: «k_head» writes the top's heap out, as Mine.hd.heap_.. -/
theorem Mine.hd (h : PySem.Challenge.rw_il0131_01.row.Holds) : PySem.Challenge.rw_il0131_01.row.Holds := by k_head
end
end
section
open PySem PySem.W PySem.Spec PySem.Calls PyProof.Rows
set_option Elab.async false
set_option tactic.hygienic false
set_option maxRecDepth 100000
namespace Mine

/-- our data -/
inductive Dt where
  | none
  | bool (b : Bool)
  | int (i : Int)
  | str (x : Str)
  | tup (ds : List Dt)
  | lst (ds : List Dt)
  | pr (a b : Str)
  | dct (kvs : List (Str × Str))
  | raw (v : Value)

noncomputable def isTab (_ : Addr) : Bool := false

section
variable (P : Program) (w : World)

/-- a dict's values are the texts -/
inductive StrVals : List (Str × Value) → List (Str × Str) → Prop
  | nil : StrVals [] []
  | cons (k x : Str) (t : Tok) {r : List (Str × Value)} {q : List (Str × Str)} : StrVals r q → StrVals ((k, .str x t) :: r) ((k, x) :: q)
theorem StrVals.length {r : List (Str × Value)} {q : List (Str × Str)} (h : StrVals r q) : r.length = q.length := by
  induction h with
  | nil => rfl
  | cons k x t h ih => exact congrArg Nat.succ ih

mutual
/-- the value, over the stable part g, is the datum -/
inductive Rd (g : Heap) : Value → Dt → Prop
  | none : Rd g .none .none
  | bool (b : Bool) : Rd g (.bool b) (.bool b)
  | int (i : Int) (t : Tok) : Rd g (.int i t) (.int i)
  | str (x : Str) (t : Tok) : Rd g (.str x t) (.str x)
  | tup {a : Addr} {vs : Array Value} {ds : List Dt} {n : Nat} : g.get? a = some { cls := .type "tuple", data := .seq vs n } → Rds g vs.toList ds → Rd g (.ref a) (.tup ds)
  | lst {a : Addr} {vs : Array Value} {ds : List Dt} {n : Nat} : g.get? a = some { cls := .type "list", data := .seq vs n } → Rds g vs.toList ds → Rd g (.ref a) (.lst ds)
  | pr {a dx : Addr} {x y : Str} {t u : Tok} {n : Nat} : g.get? a = some { cls := .ref 215, dict := some dx, data := .seq #[.str x t, .str y u] n } → g.get? dx = some { cls := .type "dict", data := .dict #[] } → Rd g (.ref a) (.pr x y)
  | dct {a : Addr} {kvs : List (Str × Value)} {ds : List (Str × Str)} : g.DictOf (strKind P w) a kvs → StrVals kvs ds → Rd g (.ref a) (.dct ds)
  | raw (v : Value) : Rd g v (.raw v)
inductive Rds (g : Heap) : List Value → List Dt → Prop
  | nil : Rds g [] []
  | cons {v : Value} {vs : List Value} {d : Dt} {ds : List Dt} : Rd g v d → Rds g vs ds → Rds g (v :: vs) (d :: ds)
end

theorem range_at {α : Type} {n i : Nat} {f : Nat → α} {d : α} (h : ((List.range n).map f)[i]? = some d) : i < n ∧ f i = d := by
  rw [List.getElem?_map] at h
  obtain ⟨j, hj, e⟩ := Option.map_eq_some_iff.mp h
  obtain ⟨q, z⟩ := List.getElem?_eq_some_iff.mp hj
  rw [List.getElem_range] at z
  rw [List.length_range] at q
  exact ⟨q, z ▸ e⟩
noncomputable def Kp (g h : Heap) : Prop := ∀ b o, g.get? b = some o → h.get? b = some o
theorem Kp.refl (g : Heap) : Kp g g := fun _ _ e => e
theorem Kp.trans {a b c : Heap} (x : Kp a b) (y : Kp b c) : Kp a c := fun _ _ e => y _ _ (x _ _ e)

variable {P w}
theorem Rd.mono {g g' : Heap} (k : Kp g g') {v : Value} {d : Dt} (r : Rd P w g v d) : Rd P w g' v d :=
  Rd.rec (motive_1 := fun v d _ => Rd P w g' v d) (motive_2 := fun vs ds _ => Rds P w g' vs ds) .none .bool .int .str (fun e _ ih => .tup (k _ _ e) ih) (fun e _ ih => .lst (k _ _ e) ih) (fun e a => .pr (k _ _ e) (k _ _ a)) (fun e r => .dct (e.keep k) r) .raw .nil (fun _ _ a b => .cons a b) r
/-- what a reading says of the value -/
noncomputable def Rd.Inv (P : Program) (w : World) (g : Heap) (v : Value) : Dt → Prop
  | .none => v = .none
  | .bool b => v = .bool b
  | .int i => ∃ t, v = .int i t
  | .str x => ∃ t, v = .str x t
  | .tup ds => ∃ a vs n, v = .ref a ∧ g.get? a = some { cls := .type "tuple", data := .seq vs n } ∧ Rds P w g vs.toList ds
  | .lst ds => ∃ a vs n, v = .ref a ∧ g.get? a = some { cls := .type "list", data := .seq vs n } ∧ Rds P w g vs.toList ds
  | .pr x y => ∃ a dx t u n, v = .ref a ∧ g.get? a = some { cls := .ref 215, dict := some dx, data := .seq #[.str x t, .str y u] n } ∧ g.get? dx = some { cls := .type "dict", data := .dict #[] }
  | .dct ds => ∃ a kvs, v = .ref a ∧ g.DictOf (strKind P w) a kvs ∧ StrVals kvs ds
  | .raw u => v = u
theorem Rd.inv {g : Heap} {v : Value} {d : Dt} (r : Rd P w g v d) : Rd.Inv P w g v d :=
  Rd.rec (motive_1 := fun v d _ => Rd.Inv P w g v d) (motive_2 := fun _ _ _ => True) rfl (fun _ => rfl) (fun _ t => ⟨t, rfl⟩) (fun _ t => ⟨t, rfl⟩) (fun e r _ => ⟨_, _, _, rfl, e, r⟩) (fun e r _ => ⟨_, _, _, rfl, e, r⟩) (fun e a => ⟨_, _, _, _, _, rfl, e, a⟩) (fun e r => ⟨_, _, rfl, e, r⟩) (fun _ => rfl) trivial (fun _ _ _ _ => trivial) r
theorem Rds.ind {g : Heap} {m : List Value → List Dt → Prop} (nil : m [] []) (cons : ∀ v vs d ds, Rd P w g v d → Rds P w g vs ds → m vs ds → m (v :: vs) (d :: ds)) {vs : List Value} {ds : List Dt} (r : Rds P w g vs ds) : m vs ds :=
  Rds.rec (motive_1 := fun _ _ _ => True) (motive_2 := fun vs ds _ => m vs ds) trivial (fun _ => trivial) (fun _ _ => trivial) (fun _ _ => trivial) (fun _ _ _ => trivial) (fun _ _ _ => trivial) (fun _ _ => trivial) (fun _ _ => trivial) (fun _ => trivial) nil (fun a b _ ih => cons _ _ _ _ a b ih) r
theorem Rds.mono {g g' : Heap} (k : Kp g g') {vs : List Value} {ds : List Dt} (r : Rds P w g vs ds) : Rds P w g' vs ds := r.ind .nil fun _ _ _ _ a _ ih => .cons (a.mono k) ih
theorem Rds.length {g : Heap} {vs : List Value} {ds : List Dt} (r : Rds P w g vs ds) : vs.length = ds.length := r.ind (m := fun vs ds => vs.length = ds.length) rfl fun _ _ _ _ _ _ ih => congrArg Nat.succ ih
noncomputable def Rds.Inv (P : Program) (w : World) (g : Heap) (vs : List Value) : List Dt → Prop
  | [] => vs = []
  | d :: ds => ∃ v r, vs = v :: r ∧ Rd P w g v d ∧ Rds P w g r ds
theorem Rds.inv {g : Heap} {vs : List Value} {ds : List Dt} (r : Rds P w g vs ds) : Rds.Inv P w g vs ds := r.ind (m := Rds.Inv P w g) rfl fun _ _ _ _ a b _ => ⟨_, _, rfl, a, b⟩
theorem Rds.one {g : Heap} {vs : List Value} {d : Dt} (r : Rds P w g vs [d]) : ∃ v, vs = [v] ∧ Rd P w g v d := by
  obtain ⟨v, q, rfl, a, b⟩ := r.inv
  obtain rfl := b.inv
  exact ⟨v, rfl, a⟩
theorem Rds.two {g : Heap} {vs : List Value} {d e : Dt} (r : Rds P w g vs [d, e]) : ∃ v u, vs = [v, u] ∧ Rd P w g v d ∧ Rd P w g u e := by
  obtain ⟨v, q, rfl, a, b⟩ := r.inv
  obtain ⟨u, rfl, c⟩ := b.one
  exact ⟨v, u, rfl, a, c⟩
theorem Rds.strs2 {g : Heap} {vs : Array Value} {x y : Str} (r : Rds P w g vs.toList [.str x, .str y]) : ∃ t u, vs = #[.str x t, .str y u] := by
  obtain ⟨l⟩ := vs
  obtain ⟨a, b, e, ra, rb⟩ := r.two
  obtain ⟨t, rfl⟩ := ra.inv
  obtain ⟨u, rfl⟩ := rb.inv
  exact ⟨t, u, congrArg Array.mk e⟩
theorem Rds.append {g : Heap} {vs : List Value} {ds : List Dt} {ws : List Value} {es : List Dt} (x : Rds P w g vs ds) (r : Rds P w g ws es) : Rds P w g (vs ++ ws) (ds ++ es) := x.ind (m := fun vs ds => Rds P w g (vs ++ ws) (ds ++ es)) r fun _ _ _ _ a _ ih => .cons a ih
theorem Rds.get {g : Heap} {vs : List Value} {ds : List Dt} {i : Nat} {d : Dt} (r : Rds P w g vs ds) (e : ds[i]? = some d) : ∃ v, vs[i]? = some v ∧ Rd P w g v d :=
  r.ind (m := fun vs ds => ∀ i : Nat, ds[i]? = some d → ∃ v, vs[i]? = some v ∧ Rd P w g v d) (fun _ e => nomatch e) (fun v _ _ _ a _ ih i e => match i, e with
    | 0, e => ⟨v, rfl, Option.some.inj e ▸ a⟩
    | i + 1, e => ih i e) i e
theorem Rds.get' {g : Heap} {vs : List Value} {ds : List Dt} {i : Nat} {v : Value} (r : Rds P w g vs ds) (e : vs[i]? = some v) : ∃ d, ds[i]? = some d ∧ Rd P w g v d :=
  r.ind (m := fun vs ds => ∀ i : Nat, vs[i]? = some v → ∃ d, ds[i]? = some d ∧ Rd P w g v d) (fun _ e => nomatch e) (fun _ _ d _ a _ ih i e => match i, e with
    | 0, e => ⟨d, rfl, Option.some.inj e ▸ a⟩
    | i + 1, e => ih i e) i e

/-- from (g, h) to (g', h'): the tables apart, all that stood stands; g has grown by what is new alone -/
structure Ext (g h g' h' : Heap) : Prop where
  keep : ∀ b o, isTab b = false → h.get? b = some o → h'.get? b = some o
  size : h.objs.size ≤ h'.objs.size
  sub : Kp g' h'
  same : ∀ a, a < h.objs.size → g'.get? a = g.get? a
end

theorem Ext.refl {g h : Heap} (k : Kp g h) : Ext g h g h := ⟨fun _ _ _ e => e, Nat.le_refl _, k, fun _ _ => rfl⟩
theorem Ext.trans {g h g' h' g'' h'' : Heap} (x : Ext g h g' h') (y : Ext g' h' g'' h'') : Ext g h g'' h'' :=
  ⟨fun b o t e => y.keep b o t (x.keep b o t e), Nat.le_trans x.size y.size, y.sub, fun a e => (y.same a (Nat.lt_of_lt_of_le e x.size)).trans (x.same a e)⟩
theorem Ext.grow {g h g' h' : Heap} (k : Kp g h) (x : Ext g h g' h') : Kp g g' := fun b o e => by
  rw [x.same b (Heap.lt_size (k b o e))]; exact e

/-- g with o at a -/
noncomputable def gput (g : Heap) (a : Addr) (o : Obj) : Heap :=
  ⟨(Array.range (max g.objs.size (a + 1))).map fun i => if i = a then o else (g.objs[i]?).getD { cls := .none, data := .freed }, g.life⟩
theorem gput_self (g : Heap) (a : Addr) (o : Obj) (hf : o.isFreed = false) : (gput g a o).get? a = some o := by
  refine Heap.get?_some_iff.mpr ⟨?_, hf⟩
  have : a < max g.objs.size (a + 1) := Nat.lt_of_lt_of_le (Nat.lt_succ_self a) (Nat.le_max_right ..)
  simp [gput, this]
theorem gput_other (g : Heap) {a b : Addr} (o : Obj) (hb : b ≠ a) : (gput g a o).get? b = g.get? b := by
  cases e : g.get? b with
  | some o' =>
    obtain ⟨e1, e2⟩ := Heap.get?_some_iff.mp e
    refine Heap.get?_some_iff.mpr ⟨?_, e2⟩
    have hl := Heap.lt_size e
    have : b < max g.objs.size (a + 1) := Nat.lt_of_lt_of_le hl (Nat.le_max_left ..)
    simp [gput, this, hb, e1]
  | none =>
    cases q : (gput g a o).get? b with
    | none => rfl
    | some o' =>
      obtain ⟨e1, e2⟩ := Heap.get?_some_iff.mp q
      simp only [gput, Array.getElem?_map, Option.map_eq_some_iff] at e1
      obtain ⟨i, hi, hj⟩ := e1
      rw [Array.getElem?_range] at hi
      split at hi
      · cases hi
        rw [if_neg hb] at hj
        cases x : g.objs[b]? with
        | none => rw [x] at hj; subst hj; cases e2
        | some y =>
          rw [x] at hj; subst hj
          have := Heap.get?_some_iff.mpr ⟨x, e2⟩
          rw [e] at this; cases this
      · cases hi
theorem none_above (h : Heap) {a : Addr} (l : h.objs.size ≤ a) : h.get? a = none := by
  cases e : h.get? a with
  | none => rfl
  | some o => exact absurd (Heap.lt_size e) (Nat.not_lt.mpr l)
theorem get?_size (h : Heap) : h.get? h.objs.size = none := none_above h (Nat.le_refl _)
theorem ext_push {g h : Heap} (k : Kp g h) (o : Obj) : Ext g h g (h.push o) :=
  ⟨fun _ _ _ e => Heap.get?_push_of_some o e, by rw [Heap.size_push]; exact Nat.le_succ _, fun b o' e => Heap.get?_push_of_some o (k b o' e), fun _ _ => rfl⟩
theorem ext_put {g h : Heap} (k : Kp g h) (o : Obj) (hf : o.isFreed = false) : Ext g h (gput g h.objs.size o) (h.push o) := by
  have x := ext_push k o
  refine ⟨x.keep, x.size, fun b o' e => ?_, fun a e => gput_other _ _ (Nat.ne_of_lt e)⟩
  by_cases hb : b = h.objs.size
  · subst hb
    rw [gput_self _ _ _ hf] at e
    cases e
    exact Heap.get?_push_size h hf
  · rw [gput_other _ _ hb] at e
    exact x.sub b o' e

theorem runs_size {M : Model} {Γ : PySem.Ctx} {p : Pos} {t : Sem Fin} {fs : List Frame} {s s' : Shared} {e : End} (h : Runs M Γ p t fs s e s') : s.heap.objs.size ≤ s'.heap.objs.size := by
  induction h <;> (try simp only [Shared.setGen, Heap.size_push, Heap.size_after_update] at *) <;> omega
theorem wakes_size {M : Model} {Γ : PySem.Ctx} {p : Pos} {g : Nat} {r : Resume} {s s' : Shared} {res : GenResult} (h : Wakes M Γ p g r s res s') : s.heap.objs.size ≤ s'.heap.objs.size := by
  unfold Wakes at h
  split at h
  · exact h.elim
  · split at h
    · obtain ⟨e₁, s₁, hr, _, _, rfl⟩ := h; exact (runs_size hr : (s.setGen g .running).heap.objs.size ≤ s₁.heap.objs.size)
    · rw [h.2]; exact Nat.le_refl _
    · rw [h.2]; exact Nat.le_refl _
  · obtain ⟨e₁, s₁, hr, _, _, rfl⟩ := h; exact (runs_size hr : (s.setGen g .running).heap.objs.size ≤ s₁.heap.objs.size)
  · rw [h.2]; exact Nat.le_refl _
  · rw [h.2]; exact Nat.le_refl _
theorem wp_size {α : Type} (M : Model) (Γ : PySem.Ctx) (n : Nat) (t : Sem α) : ∀ (Q : α → Pos → Shared → Prop) (E : Value → Pos → Shared → Prop) (p : Pos) (s : Shared), n ≤ s.heap.objs.size → Sem.wp M Γ t Q E p s →
    Sem.wp M Γ t (fun a p' s' => n ≤ s'.heap.objs.size ∧ Q a p' s') (fun e p' s' => n ≤ s'.heap.objs.size ∧ E e p' s') p s := by
  induction t with
  | pure a => exact fun Q E p s l h => ⟨l, h⟩
  | raise e => exact fun Q E p s l h => ⟨l, h⟩
  | unsupported _ => exact fun Q E p s _ h => h
  | finish _ => exact fun Q E p s _ h => h
  | rule _ k ih => exact fun Q E p s l h => ih () Q E p s l h
  | «at» p' k ih => exact fun Q E p s l h => ih () Q E p' s l h
  | load a _ k ih => exact fun Q E p s l h => let ⟨o, ho, h⟩ := h; ⟨o, ho, ih o Q E p s l h⟩
  | update a _ f k ih => exact fun Q E p s l h => ⟨h.1, ih () Q E p _ (by show n ≤ (s.heap.update a f).objs.size; rw [Heap.size_after_update]; exact l) h.2⟩
  | loadIfAlive a k ih => exact fun Q E p s l h => ih _ Q E p s l h
  | point _ k ih => exact fun Q E p s l h => ih () Q E p s l h
  | register _ _ => exact fun Q E p s _ h => h
  | alloc o k ih => exact fun Q E p s l h => ih _ Q E p _ (by show n ≤ (s.heap.push o).objs.size; rw [Heap.size_push]; exact Nat.le_succ_of_le l) h
  | fresh k ih => exact fun Q E p s l h => ih _ Q E p _ l h
  | ask k ih => exact fun Q E p s l h => ih _ Q E p s l h
  | choose src m k ih => exact fun Q E p s l h => ⟨h.1, ih _ Q E p _ l h.2⟩
  | os q _ k ih => exact fun Q E p s l h => ih _ Q E p _ l h
  | call c hd _ _ k ih => exact fun Q E p s l h => let ⟨r, s', hr, h⟩ := h; ⟨r, s', hr, ih r Q E p s' (Nat.le_trans l (runs_size hr)) h⟩
  | handled own k ih => exact fun Q E p s l h => ih _ Q E p s l h
  | genState g k ih => exact fun Q E p s l h => let ⟨st, hs, h⟩ := h; ⟨st, hs, ih _ Q E p s l h⟩
  | newGen c k ih => exact fun Q E p s l h => ih _ Q E p _ l h
  | resume g r _ k ih => exact fun Q E p s l h => let ⟨res, s', hw, h⟩ := h; ⟨res, s', hw, ih res Q E p s' (Nat.le_trans l (wakes_size hw)) h⟩
  | yield _ _ _ _ => exact fun Q E p s _ h => h
  | stack k ih => exact fun Q E p s l h => ih _ Q E p s l h
  | fork _ _ => exact fun Q E p s _ h => h
  | thread k ih => exact fun Q E p s l h => ih _ Q E p s l h
  | await _ _ _ _ _ => exact fun Q E p s _ h => h
/-- the heap never shrinks, the tokens only grow -/
theorem grows {α : Type} {M : Model} {A : Around} {s : Shared} {t : Sem α} {Q : α → Shared → Prop} {E : Value → Shared → Prop} (p : 0 < s.toks)
    (h : wpAny M A t (fun a s' => 0 < s'.toks → s.heap.objs.size ≤ s'.heap.objs.size → Q a s') E s) : wpAny M A t Q E s := by
  have q : wpAny M A t (fun a s' => s.heap.objs.size ≤ s'.heap.objs.size → Q a s') E s :=
    wpAny_with_toks (n := 1) p (wpAny_mono h (fun a s' x y => x y) fun _ _ x _ => x)
  exact fun Γ p hΓ => Sem.wp_mono M Γ t (fun a p' s' x => x.2 x.1) (fun e p' s' x => x.2) p s (wp_size M Γ _ t _ _ p s (Nat.le_refl _) (q Γ p hΓ))
end Mine
end
section
open PySem PySem.W PySem.Spec PySem.Calls PyProof.Rows
set_option Elab.async false
set_option tactic.hygienic false
set_option linter.unusedVariables false
set_option maxRecDepth 100000
namespace Mine

structure Wo where
  K : Frag
  mg : Str → Option Value
  mb : Str → Option Value
  X : List Addr := []
  inv : Heap → Prop := fun _ => True
  invm : ∀ {g g' : Heap}, Kp g g' → inv g → inv g'

structure Wd (W : Wo) (g : Heap) : Prop where
  k : W.K.In g
  gn : g.Ns mainGlobals W.mg
  bn : g.Ns builtinsNs W.mb
  nl : g.NoLimit
  mb : ∀ x : Str, x ≠ "__name__" → W.mb x = bootBuiltins x
  tabs : ∀ a, isTab a = true → g.get? a = none
  bm : ∃ bm ob, W.mg "__builtins__" = some (.ref bm) ∧ bm ≠ builtinsNs ∧ g.get? bm = some ob ∧ ob.cls = .type "module" ∧ ob.dict = some builtinsNs ∧ ob.data = .plain
  iv : W.inv g

structure Ok (W : Wo) (g : Heap) (s : Shared) : Prop where
  sub : Kp g s.heap
  wd : Wd W g
  tb : ∀ a, isTab a = true → a < s.heap.objs.size
  pos : 0 < s.toks

noncomputable def CellIs (h : Heap) (c : Addr) (v : Value) : Prop := h.IsCell c (some v)
/-- in this frame the name holds the value -/
noncomputable def Holds (env : Env) (h : Heap) (x : Str) (v : Value) : Prop :=
  (env.kindOf x = some .local ∧ isTab env.locals = false ∧ ∃ m, h.Ns env.locals m ∧ m x = some v) ∨
  ((env.kindOf x = some .cell ∨ env.kindOf x = some .free) ∧ ∃ c, env.cells.lookup x = some c ∧ isTab c = false ∧ h.IsCell c (some v))

section
variable {prog : Program} {w : World} {W : Wo} {A : Around} {env : Env} {g h g' h' : Heap} {ρ : Str → Option Dt}

theorem Wd.mono (x : Wd W g) (k : Kp g g') (t : ∀ a, isTab a = true → g'.get? a = none) : Wd W g' :=
  ⟨x.k.keeps k, x.gn.keeps k, x.bn.keeps k, x.nl.keeps k, x.mb, t, let ⟨bm, ob, a, b, c, d⟩ := x.bm; ⟨bm, ob, a, b, k _ _ c, d⟩, W.invm k x.iv⟩
theorem Ok.ext {s : Shared} {tk : Nat} (x : Ok W g s) (e : Ext g s.heap g' h') (p : 0 < tk) : Ok W g' { s with heap := h', toks := tk } :=
  ⟨e.sub, x.wd.mono (Ext.grow x.sub e) fun a t => (e.same a (x.tb a t)).trans (x.wd.tabs a t), fun a t => Nat.lt_of_lt_of_le (x.tb a t) e.size, p⟩

theorem ns_ext {a : Addr} {m : Str → Option Value} (t : isTab a = false) (n : h.Ns a m) (e : Ext g h g' h') : h'.Ns a m :=
  let ⟨o, es, ep, ho, r⟩ := n; ⟨o, es, ep, e.keep _ _ t ho, r⟩
theorem Holds.ext {x : Str} {v : Value} (q : Holds env h x v) (e : Ext g h g' h') : Holds env h' x v := by
  rcases q with ⟨a, t, m, n, b⟩ | ⟨a, c, b, t, o, ho, hd⟩
  · exact .inl ⟨a, t, m, ns_ext t n e, b⟩
  · exact .inr ⟨a, c, b, t, o, e.keep _ _ t ho, hd⟩

/-- what an expression's evaluation stands on -/
structure SE (prog : Program) (w : World) (W : Wo) (env : Env) (g : Heap) (s : Shared) (ρ : Str → Option Dt) : Prop extends Ok W g s where
  fn : env.scope.kind = .function
  gl : env.globals = mainGlobals
  bt : env.builtins = builtinsNs
  lv : env.locals < s.heap.objs.size ∧ isTab env.locals = false
  cv : ∀ p ∈ env.cells, p.2 < s.heap.objs.size ∧ isTab p.2 = false
  vars : ∀ x d, ρ x = some d → ∃ v, Holds env s.heap x v ∧ Rd prog w g v d
theorem SE.ext {s : Shared} {tk : Nat} (x : SE prog w W env g s ρ) (e : Ext g s.heap g' h') (p : 0 < tk) : SE prog w W env g' { s with heap := h', toks := tk } ρ :=
  ⟨x.toOk.ext e p, x.fn, x.gl, x.bt, ⟨Nat.lt_of_lt_of_le x.lv.1 e.size, x.lv.2⟩, fun q hq => ⟨Nat.lt_of_lt_of_le (x.cv q hq).1 e.size, (x.cv q hq).2⟩, fun y d q => let ⟨v, a, b⟩ := x.vars y d q; ⟨v, a.ext e, b.mono (Ext.grow x.sub e)⟩⟩

/-- the tree, run from s, hands on a value that is the datum -/
noncomputable def Res (prog : Program) (w : World) (A : Around) (g : Heap) (s : Shared) (t : Sem Value) (d : Dt) : Prop :=
  ∀ (Q : Value → Shared → Prop) (E : Value → Shared → Prop), (∀ v h' g' tk, Ext g s.heap g' h' → Rd prog w g' v d → Q v { s with heap := h', toks := tk }) → wpAny (model prog w) A t Q E s
structure Ev (prog : Program) (w : World) (W : Wo) (A : Around) (env : Env) (ρ : Str → Option Dt) (e : Expr) (d : Dt) : Prop where
  run : ∀ g s, SE prog w W env g s ρ → Res prog w A g s (eval e env) d
noncomputable def EvL (prog : Program) (w : World) (W : Wo) (A : Around) (env : Env) (ρ : Str → Option Dt) : List Expr → List Dt → Prop
  | [], [] => True
  | e :: es, d :: ds => Ev prog w W A env ρ e d ∧ starEach (e :: es) env = (false, eval e env) :: starEach es env ∧ EvL prog w W A env ρ es ds
  | _, _ => False

theorem Res.use {s : Shared} {t : Sem Value} {d : Dt} {Q : Value → Shared → Prop} {E : Value → Shared → Prop} (r : Res prog w A g s t d) (p : 0 < s.toks)
    (k : ∀ v h' g' tk, 0 < tk → Ext g s.heap g' h' → Rd prog w g' v d → Q v { s with heap := h', toks := tk }) : wpAny (model prog w) A t Q E s :=
  wpAny_with_toks (n := 1) p (r _ _ fun v h' g' tk e x => fun (q : 1 ≤ tk) => k v h' g' tk q e x)
theorem Res.here {s : Shared} {t : Sem Value} {d : Dt} {v : Value} (k : Kp g s.heap) (r : Rd prog w g v d)
    (h : ∀ (Q : Value → Shared → Prop) (E : Value → Shared → Prop), (∀ tk, Q v { s with toks := tk }) → wpAny (model prog w) A t Q E s) : Res prog w A g s t d :=
  fun Q E q => h Q E fun tk => q v s.heap g tk (Ext.refl k) r

theorem ev_name {x : Str} {pos : Pos} {d : Dt} (q : ρ x = some d) (hd : (x == ("__debug__" : Str)) = false := by decide +kernel) (hc : (x == ("__classdict__" : Str)) = false := by decide +kernel) :
    Ev prog w W A env ρ (.Name x pos) d := .mk fun g s S Q E k => by
  obtain ⟨v, H, r⟩ := S.vars x d q
  have fin : Q v s := k v s.heap g s.toks (Ext.refl S.sub) r
  rcases H with ⟨a, _, m, n, b⟩ | ⟨a, c, b, _, o⟩
  · exact wpAny_Name (wpAny_loadName_local S.fn a n b fin) hd
  · rcases a with a | a
    · exact wpAny_Name (wpAny_loadName_cell S.fn a b o fin) hd
    · exact wpAny_Name (wpAny_loadName_free S.fn a b o fin hc) hd
theorem ev_str {x : Str} {n : Nat} {pos : Pos} : Ev prog w W A env ρ (.Constant (.str x) n pos) (.str x) := .mk fun g s S Q E k =>
  Constant_str (k _ s.heap g _ (Ext.refl S.sub) (.str ..))
theorem ev_int {i : Int} {n : Nat} {pos : Pos} : Ev prog w W A env ρ (.Constant (.int i) n pos) (.int i) := .mk fun g s S Q E k =>
  wpAny_Constant_int (k _ s.heap g _ (Ext.refl S.sub) (.int ..))
theorem ev_none {n : Nat} {pos : Pos} : Ev prog w W A env ρ (.Constant .none n pos) .none := .mk fun g s S Q E k =>
  wpAny_Constant_none (k _ s.heap g s.toks (Ext.refl S.sub) .none)
theorem ev_bool {b : Bool} {n : Nat} {pos : Pos} : Ev prog w W A env ρ (.Constant (.bool b) n pos) (.bool b) := .mk fun g s S Q E k =>
  wpAny_Constant_bool (k _ s.heap g s.toks (Ext.refl S.sub) (.bool b))

theorem evl_nil : EvL prog w W A env ρ [] [] := trivial
theorem evl_cons {e : Expr} {es : List Expr} {d : Dt} {ds : List Dt} (x : Ev prog w W A env ρ e d) (y : EvL prog w W A env ρ es ds)
    (hs : starEach (e :: es) env = (false, eval e env) :: starEach es env := by rfl) : EvL prog w W A env ρ (e :: es) (d :: ds) := ⟨x, hs, y⟩
theorem EvL.spliced {pos : Pos} : ∀ {es : List Expr} {ds : List Dt} {g : Heap} {s : Shared} {Q : List Value → Shared → Prop} {E : Value → Shared → Prop}, EvL prog w W A env ρ es ds → SE prog w W env g s ρ →
    (∀ vs h' g' tk, 0 < tk → Ext g s.heap g' h' → Rds prog w g' vs ds → Q vs { s with heap := h', toks := tk }) → wpAny (model prog w) A (PySem.spliced (backTo pos (starEach es env))) Q E s
  | [], [], g, s, _, _, _, S, k => wpAny_pure (k _ s.heap g s.toks S.pos (Ext.refl S.sub) .nil)
  | [], _ :: _, _, _, _, _, x, _, _ => x.elim
  | _ :: _, [], _, _, _, _, x, _, _ => x.elim
  | e :: es, d :: ds, g, s, Q, E, ⟨x, hs, y⟩, S, k => by
    rw [hs]
    show wpAny _ _ (PySem.spliced ((false, eval e env) :: backTo pos (starEach es env))) Q E s
    refine spliced_cons ((x.run g s S).use S.pos fun v h₁ g₁ tk₁ p₁ e₁ r₁ => ?_)
    refine EvL.spliced y (S.ext e₁ p₁) fun vs h₂ g₂ tk₂ p₂ e₂ r₂ => ?_
    exact k _ h₂ g₂ tk₂ p₂ (e₁.trans e₂) (.cons (r₁.mono (Ext.grow e₁.sub e₂)) r₂)
theorem EvL.plain {pos : Pos} : ∀ {es : List Expr} {ds : List Dt}, EvL prog w W A env ρ es ds → (backTo pos (starEach es env)).any (·.1) = false
  | [], [], _ => rfl
  | [], _ :: _, x => x.elim
  | _ :: _, [], x => x.elim
  | e :: es, d :: ds, ⟨x, hs, y⟩ => by
    rw [hs]
    show (false || (backTo pos (starEach es env)).any (·.1)) = false
    rw [EvL.plain y]; rfl
theorem EvL.args {pos : Pos} {f : Value} {es : List Expr} {ds : List Dt} {s : Shared} {Q : Args → Shared → Prop} {E : Value → Shared → Prop} (r : EvL prog w W A env ρ es ds) (S : SE prog w W env g s ρ)
    (k : ∀ vs h' g' tk, 0 < tk → Ext g s.heap g' h' → Rds prog w g' vs ds → Q ⟨vs, []⟩ { s with heap := h', toks := tk }) : wpAny (model prog w) A (evalArgs f true (backTo pos (starEach es env)) []) Q E s := by
  have q := EvL.spliced (pos := pos) (Q := fun vs s' => Q ⟨vs, []⟩ s') (E := E) r S k
  match es, ds, r with
  | [], [], _ => exact evalArgs_nil3 (k _ s.heap g s.toks S.pos (Ext.refl S.sub) .nil)
  | e :: es, d :: ds, r =>
    rw [r.2.1] at q ⊢
    exact evalArgs_plain q

theorem small {n : Nat} (h : Nat.ble n sizeLine = true) : n ≤ sizeLine := Nat.le_of_ble_eq_true h
theorem ev_tuple {es : List Expr} {n : Nat} {pos : Pos} {ds : List Dt} (x : EvL prog w W A env ρ es ds) (hz : ds.length ≤ sizeLine := by exact small rfl) : Ev prog w W A env ρ (.Tuple es n pos) (.tup ds) := .mk fun g s S Q E k => by
  refine wpAny_Tuple_spliced (x.spliced S fun vs h₁ g₁ tk₁ _ e₁ r₁ => ⟨by rw [r₁.length]; exact hz, ?_⟩)
  have p := ext_put e₁.sub { cls := .type "tuple", data := .seq vs.toArray } rfl
  exact k _ _ _ tk₁ (e₁.trans p) (.tup (n := 0) (gput_self _ _ _ rfl) (by simpa using r₁.mono (Ext.grow e₁.sub p)))
theorem ev_list {es : List Expr} {pos : Pos} {ds : List Dt} (x : EvL prog w W A env ρ es ds) (hz : ds.length ≤ sizeLine := by exact small rfl) : Ev prog w W A env ρ (.List es pos) (.lst ds) := .mk fun g s S Q E k => by
  refine wpAny_List_spliced (x.spliced S fun vs h₁ g₁ tk₁ _ e₁ r₁ => ⟨by rw [r₁.length]; exact hz, ?_⟩)
  have p := ext_put e₁.sub { cls := .type "list", data := .seq vs.toArray } rfl
  exact k _ _ _ tk₁ (e₁.trans p) (.lst (n := 0) (gput_self _ _ _ rfl) (by simpa using r₁.mono (Ext.grow e₁.sub p)))

/-- an operation's datum -/
noncomputable def Bin (prog : Program) (w : World) (W : Wo) (A : Around) (t : Value → Value → Sem Value) (d₁ d₂ d : Dt) : Prop :=
  ∀ g s v₁ v₂, Ok W g s → Rd prog w g v₁ d₁ → Rd prog w g v₂ d₂ → Res prog w A g s (t v₁ v₂) d
/-- two expressions, then an operation -/
theorem two {l r : Expr} {t : Value → Value → Sem Value} {d₁ d₂ d : Dt} {s : Shared} {Q : Value → Shared → Prop} {E : Value → Shared → Prop} (x : Ev prog w W A env ρ l d₁) (y : Ev prog w W A env ρ r d₂) (b : Bin prog w W A t d₁ d₂ d)
    (S : SE prog w W env g s ρ) (k : ∀ v h' g' tk, Ext g s.heap g' h' → Rd prog w g' v d → Q v { s with heap := h', toks := tk }) :
    wpAny (model prog w) A (eval l env) (fun a s₁ => wpAny (model prog w) A (eval r env) (fun b s₂ => wpAny (model prog w) A (t a b) Q E s₂) E s₁) E s := by
  refine (x.run g s S).use S.pos fun v₁ h₁ g₁ tk₁ p₁ e₁ r₁ => ?_
  refine (y.run g₁ _ (S.ext e₁ p₁)).use p₁ fun v₂ h₂ g₂ tk₂ p₂ e₂ r₂ => ?_
  refine b g₂ _ v₁ v₂ ((S.ext e₁ p₁).ext e₂ p₂).toOk (r₁.mono (Ext.grow e₁.sub e₂)) r₂ Q E fun v h₃ g₃ tk₃ e₃ r₃ => ?_
  exact k v h₃ g₃ tk₃ ((e₁.trans e₂).trans e₃) r₃
theorem ev_bin {l r : Expr} {op : Operator} {pos : Pos} {d₁ d₂ d : Dt} (x : Ev prog w W A env ρ l d₁) (y : Ev prog w W A env ρ r d₂) (b : Bin prog w W A (binaryOp op) d₁ d₂ d) : Ev prog w W A env ρ (.BinOp l op r pos) d :=
  .mk fun _ _ S _ _ k => wpAny_BinOp (two x y b S k)
theorem ev_cmp {l r : Expr} {op : CmpOp} {pos : Pos} {d₁ d₂ d : Dt} (x : Ev prog w W A env ρ l d₁) (y : Ev prog w W A env ρ r d₂) (b : Bin prog w W A (compareOp op) d₁ d₂ d)
    (hm : behindInMarks op r = false := by with_unfolding_all rfl) : Ev prog w W A env ρ (.Compare l [op] [r] pos) d :=
  .mk fun _ _ S _ _ k => wpAny_Compare1 (two x y b S k) hm
theorem ev_sub {value slice : Expr} {pos : Pos} {d₁ d₂ d : Dt} (x : Ev prog w W A env ρ value d₁) (y : Ev prog w W A env ρ slice d₂) (b : Bin prog w W A (subscriptTail value slice) d₁ d₂ d) : Ev prog w W A env ρ (.Subscript value slice pos) d :=
  .mk fun _ _ S _ _ k => Subscript_ (two x y b S k)

theorem bin_ss {t : Value → Value → Sem Value} {x y : Str} {d : Dt} (h : ∀ g s a b, Ok W g s → Res prog w A g s (t (.str x a) (.str y b)) d) : Bin prog w W A t (.str x) (.str y) d := fun g s v₁ v₂ O r₁ r₂ => by
  obtain ⟨a, rfl⟩ := r₁.inv
  obtain ⟨b, rfl⟩ := r₂.inv
  exact h g s a b O
theorem bin_ii {t : Value → Value → Sem Value} {x y : Int} {d : Dt} (h : ∀ g s a b, Ok W g s → Res prog w A g s (t (.int x a) (.int y b)) d) : Bin prog w W A t (.int x) (.int y) d := fun g s v₁ v₂ O r₁ r₂ => by
  obtain ⟨a, rfl⟩ := r₁.inv
  obtain ⟨b, rfl⟩ := r₂.inv
  exact h g s a b O
theorem bin_addS {x y : Str} (hz : x.length + y.length ≤ sizeLine) : Bin prog w W A (binaryOp .Add) (.str x) (.str y) (.str (x ++ y)) := bin_ss fun g s _ _ O Q E k =>
  PyProof.Rows.add_str (fun t' tk => k _ s.heap g tk (Ext.refl O.sub) (.str ..)) hz
theorem bin_addI {x y : Int} : Bin prog w W A (binaryOp .Add) (.int x) (.int y) (.int (x + y)) := bin_ii fun g s _ _ O Q E k =>
  wpAny_add_int (k _ s.heap g _ (Ext.refl O.sub) (.int ..))
theorem bin_mod {x y : Int} (hy : y ≠ 0) : Bin prog w W A (binaryOp .Mod) (.int x) (.int y) (.int (x.fmod y)) := bin_ii fun g s _ _ O Q E k =>
  PyProof.Rows.mod_int' hy (k _ s.heap g _ (Ext.refl O.sub) (.int ..))
theorem bin_div {x y : Int} (hy : y ≠ 0) (hp : Builtin.divisionGoesByPylong x y = false) : Bin prog w W A (binaryOp .FloorDiv) (.int x) (.int y) (.int (x.fdiv y)) := bin_ii fun g s _ _ O Q E k =>
  PyProof.Rows.floordiv_int hy (k _ s.heap g _ (Ext.refl O.sub) (.int ..)) (.inl hp)
theorem bin_mul {x y : Int} (hm : IntMulOk x y) : Bin prog w W A (binaryOp .Mult) (.int x) (.int y) (.int (x * y)) := bin_ii fun g s _ _ O Q E k =>
  PyProof.Rows.mul_int (k _ s.heap g _ (Ext.refl O.sub) (.int ..)) hm
theorem bin_pow {x y : Int} (hn : 0 ≤ y) (hz : (Builtin.Int.intBits x : Int) * y ≤ 2 ^ 27) : Bin prog w W A (binaryOp .Pow) (.int x) (.int y) (.int (x ^ y.toNat)) := bin_ii fun g s _ _ O Q E k =>
  PyProof.Rows.pow_int hn hz (k _ s.heap g _ (Ext.refl O.sub) (.int ..))
theorem bin_eqS {x y : Str} : Bin prog w W A (compareOp .Eq) (.str x) (.str y) (.bool (x == y)) := bin_ss fun g s _ _ O Q E k =>
  PyProof.Rows.eq_str (k _ s.heap g s.toks (Ext.refl O.sub) (.bool _))
end
end Mine
end
section
open PySem PySem.W PySem.Spec PySem.Calls PyProof.Rows PySem.Builtin PySem.Builtin.Str
set_option Elab.async false
set_option tactic.hygienic false
set_option linter.unusedVariables false
set_option maxRecDepth 100000
namespace Mine
section
variable {prog : Program} {w : World} {W : Wo} {A : Around} {env : Env} {g h g' h' : Heap} {ρ : Str → Option Dt}

theorem Rd.isList {v : Value} {ds : List Dt} (k : Kp g h) (r : Rd prog w g v (.lst ds)) : ∃ a vs, v = .ref a ∧ h.IsList a vs ∧ Rds prog w g vs.toList ds := by
  obtain ⟨a, vs, n, rfl, e, r⟩ := r.inv
  exact ⟨_, _, rfl, ⟨_, k _ _ e, rfl, _, rfl⟩, r⟩
theorem Rd.isTup {v : Value} {ds : List Dt} (k : Kp g h) (r : Rd prog w g v (.tup ds)) : ∃ a vs, v = .ref a ∧ IsTup h a vs ∧ Rds prog w g vs.toList ds := by
  obtain ⟨a, vs, n, rfl, e, r⟩ := r.inv
  exact ⟨_, _, rfl, ⟨_, k _ _ e, rfl, _, rfl⟩, r⟩

/-- an index that is no slice -/
noncomputable def Plain (slice : Expr) : Prop := ∀ o i, subscripted slice false o i = operate [o, i] (getItem o i)

theorem bin_itemL {value slice : Expr} {ds : List Dt} {i : Int} {d : Dt} (h0 : 0 ≤ i) (hi : i < 2 ^ 63) (hd : ds[i.toNat]? = some d) (hs : Plain slice := by intro _ _; rfl) : Bin prog w W A (subscriptTail value slice) (.lst ds) (.int i) d := fun g s v₁ v₂ O r₁ r₂ Q E k => by
  obtain ⟨a, vs, rfl, L, R⟩ := r₁.isList O.sub
  obtain ⟨t, rfl⟩ := r₂.inv
  obtain ⟨x, hx, rx⟩ := R.get hd
  exact tail_any L.typeIs slot_list_getitem.lookup (wpAny_getItem_list L h0 hi (by simpa using hx) (k x s.heap g s.toks (Ext.refl O.sub) rx)) (hs _ _)
theorem seqIndex_at {i : Int} {n : Nat} (h0 : 0 ≤ i) (hi : i < n) : seqIndex? i n = some i.toNat := by
  unfold seqIndex?
  rw [if_neg (Int.not_lt.mpr h0), if_pos]
  rw [decide_eq_true h0, decide_eq_true hi]
  rfl
theorem bin_itemT {value slice : Expr} {ds : List Dt} {i : Int} {d : Dt} (h0 : 0 ≤ i) (hi : i < 2 ^ 63) (hd : ds[i.toNat]? = some d) (hs : Plain slice := by intro _ _; rfl) : Bin prog w W A (subscriptTail value slice) (.tup ds) (.int i) d := fun g s v₁ v₂ O r₁ r₂ Q E k => by
  obtain ⟨a, vs, rfl, L, R⟩ := r₁.isTup O.sub
  obtain ⟨t, rfl⟩ := r₂.inv
  obtain ⟨x, hx, rx⟩ := R.get hd
  have hl : i.toNat < ds.length := by
    obtain ⟨q, _⟩ := List.getElem?_eq_some_iff.mp hd
    exact q
  have hz : vs.size = ds.length := by rw [← Array.length_toList, R.length]
  refine tail_any L.typeIs slot_tuple_getitem.lookup (PyProof.Rows.getItem_tuple L (j := i.toNat) (x := x) (by omega) hi ?_ (by simpa using hx) (k x s.heap g s.toks (Ext.refl O.sub) rx)) (hs _ _)
  exact seqIndex_at h0 (by rw [hz]; omega)
theorem bin_itemS {value slice : Expr} {x : Str} {i : Int} {c : Nat} (hr : (decide (i < -(2 ^ 63 : Int)) || decide (i ≥ 2 ^ 63)) = false) (hc : (seqIndex? i x.length).bind (x.cps[·]?) = some c) (hs : Plain slice := by intro _ _; rfl) :
    Bin prog w W A (subscriptTail value slice) (.str x) (.int i) (.str ⟨#[c]⟩) := fun g s v₁ v₂ O r₁ r₂ Q E k => by
  obtain ⟨t, rfl⟩ := r₁.inv
  obtain ⟨u, rfl⟩ := r₂.inv
  exact tail_any (typeIs_str s _ _) F.slot_str_getitem.lookup (PyProof.Rows.getItem_str hr hc (k _ s.heap g _ (Ext.refl O.sub) (.str ..))) (hs _ _)
theorem strVals_at {kvs : List (Str × Value)} {ds : List (Str × Str)} (q : StrVals kvs ds) {x y : Str} (e : ds.lookup x = some y) : ∃ t, valueAt kvs x = some (.str y t) := by
  induction q with
  | nil => cases e
  | cons k x' t h ih =>
    unfold valueAt at ih ⊢
    rw [List.lookup_cons] at e
    rw [List.find?_cons]
    by_cases hk : k = x
    · rw [hk, beq_self_eq_true] at e
      cases e
      exact ⟨t, by rw [decide_eq_true hk]; rfl⟩
    · rw [beq_false_of_ne fun z => hk z.symm] at e
      rw [decide_eq_false hk]
      exact ih e
theorem bin_itemD {value slice : Expr} {ds : List (Str × Str)} {x y : Str} (e : ds.lookup x = some y) (hs : Plain slice := by intro _ _; rfl) : Bin prog w W A (subscriptTail value slice) (.dct ds) (.str x) (.str y) := fun g s v₁ v₂ O r₁ r₂ Q E k => by
  obtain ⟨t, rfl⟩ := r₂.inv
  obtain ⟨a, kvs, rfl, hd, hv⟩ := r₁.inv
  have M := (hd.keep O.sub).mapOf
  obtain ⟨t', ht'⟩ := strVals_at hv e
  exact tail_any M.typeIs slot_dict_getitem.lookup (wpAny_getItem_of (strKind_is prog w x t) M ht' (k _ s.heap g _ (Ext.refl O.sub) (.str ..))) (hs _ _)

/-- a slice's part -/
noncomputable def EvP (prog : Program) (w : World) (W : Wo) (A : Around) (env : Env) (ρ : Str → Option Dt) : Option Expr → Option Int → Prop
  | none, none => True
  | some e, some i => Ev prog w W A env ρ e (.int i)
  | _, _ => False
theorem EvP.use {lo : Option Expr} {i : Option Int} {s : Shared} {Q : Value → Shared → Prop} {E : Value → Shared → Prop} (x : EvP prog w W A env ρ lo i) (S : SE prog w W env g s ρ)
    (k : ∀ v h' g' tk, 0 < tk → Ext g s.heap g' h' → (∃ p : Option (Int × Tok), v = partValue p ∧ p.map (·.1) = i) → IsPart v i → Q v { s with heap := h', toks := tk }) : wpAny (model prog w) A (evalPart lo env) Q E s := by
  cases lo with
  | none =>
    cases i with
    | none => exact wpAny_evalPart_none (k _ s.heap g s.toks S.pos (Ext.refl S.sub) ⟨none, rfl, rfl⟩ .none)
    | some i => exact x.elim
  | some e =>
    cases i with
    | none => exact x.elim
    | some i =>
      refine wpAny_evalPart_some ((show Ev prog w W A env ρ e (.int i) from x).run g s S |>.use S.pos fun v h' g' tk p e r => ?_)
      obtain ⟨t, rfl⟩ := r.inv
      exact k _ h' g' tk p e ⟨some (i, _), rfl, rfl⟩ (.int ..)

theorem ev_sliceS {value : Expr} {lo hi : Option Expr} {i j : Option Int} {p pos : Pos} {x : Str} (hv : Ev prog w W A env ρ value (.str x)) (hl : EvP prog w W A env ρ lo i) (hh : EvP prog w W A env ρ hi j) (hz : x.length ≤ sizeLine) :
    Ev prog w W A env ρ (.Subscript value (.Slice lo hi none p) pos) (.str (Txt.slice x i j)) := .mk fun g s S Q E k => by
  refine Subscript_ ((hv.run g s S).use S.pos fun v h₁ g₁ tk₁ p₁ e₁ r₁ => ?_)
  obtain ⟨t, rfl⟩ := r₁.inv
  have S1 := S.ext e₁ p₁
  refine wpAny_Slice (hl.use S1 fun a h₂ g₂ tk₂ p₂ e₂ qa _ => ?_)
  have S2 := S1.ext e₂ p₂
  refine hh.use S2 fun b h₃ g₃ tk₃ p₃ e₃ qb _ => ?_
  rw [evalPart_none]
  refine wpAny_pure ?_
  obtain ⟨la, rfl, rfl⟩ := qa
  obtain ⟨lb, rfl, rfl⟩ := qb
  have px := ext_push e₃.sub { cls := .type "slice", data := .fields #[partValue la, partValue lb, .none] }
  refine tail_any (typeIs_str _ _ _) F.slot_str_getitem.lookup (wpAny_getItem_str_slice (l := la) (u := lb) (st := none) ⟨_, Heap.get?_push_size _ rfl, rfl, rfl⟩ rfl ?_) rfl
  have ex := ((e₁.trans e₂).trans e₃).trans px
  exact post_val_or_str ⟨Nat.le_trans (Txt.slice_le x _ _) hz, fun t' tk => k _ _ g₃ tk ex (.str ..)⟩

theorem Rds.take {vs : List Value} {ds : List Dt} (n : Nat) (r : Rds prog w g vs ds) : Rds prog w g (vs.take n) (ds.take n) :=
  r.ind (m := fun vs ds => ∀ n, Rds prog w g (vs.take n) (ds.take n)) (fun n => by rw [List.take_nil, List.take_nil]; exact .nil) (fun _ _ _ _ a _ ih n => match n with
    | 0 => .nil
    | n + 1 => .cons a (ih n)) n
end
end Mine
end
section
open PySem PySem.W PySem.Spec PySem.Calls PyProof.Rows PySem.Builtin PySem.Builtin.Str
set_option Elab.async false
set_option tactic.hygienic false
set_option linter.unusedVariables false
set_option maxRecDepth 100000
namespace Mine
section
variable {prog : Program} {w : World} {W : Wo} {A : Around} {env : Env} {g h g' h' : Heap} {ρ : Str → Option Dt}

/-- room for n more frames -/
structure Room (A : Around) (n : Nat) : Prop where
  hd : A.handled = none
  dp : A.depth + n < recursionLimit
  un : A.units + 64 * n + 128 < cLine

/-- the call of a built-in method: what it asks -/
noncomputable def Mt (prog : Program) (w : World) (W : Wo) (A : Around) (id : String) (d₀ : Dt) (ds : List Dt) (d : Dt) : Prop :=
  ∀ g s v vs, Ok W g s → Rd prog w g v d₀ → Rds prog w g vs ds → Res prog w A g s (call (.builtin id) (v :: vs)) d
/-- every such value is of the built-in type T -/
noncomputable def Ty (prog : Program) (w : World) (T : String) (d : Dt) : Prop :=
  ∀ (g : Heap) (s : Shared) v, Kp g s.heap → Rd prog w g v d → s.TypeIs v T ∧ (∀ a, v = .ref a → ∃ ob, s.heap.get? a = some ob ∧ ob.dict = none)
theorem ty_str {x : Str} : Ty prog w "str" (.str x) := fun g s v k r => by
  obtain ⟨t, rfl⟩ := r.inv
  exact ⟨typeIs_str _ _ _, fun _ e => nomatch e⟩
theorem ty_lst {ds : List Dt} : Ty prog w "list" (.lst ds) := fun g s v k r => by
  obtain ⟨a, vs, n, rfl, e, r⟩ := r.inv
  exact ⟨⟨_, k _ _ e, rfl⟩, fun b q => by cases q; exact ⟨_, k _ _ e, rfl⟩⟩
theorem ev_meth {o : Expr} {name : Str} {apos pos : Pos} {args : List Expr} {T id : String} {d₀ d : Dt} {ds : List Dt} (x : Ev prog w W A env ρ o d₀) (y : EvL prog w W A env ρ args ds) (c : Mt prog w W A id d₀ ds d)
    (T1 : Ty prog w T d₀) (pa : PlainAttrs T) (slot : Slot T name id) (hty : typeOf (.builtin id) = pure (.type "method_descriptor"))
    (hbase : attributeBase o name env (eval o env) = eval o env := by rfl)
    (hfew : ((backTo pos (starEach args env)).all (fun x => !x.1) && (backToKw pos (keywordEach [] env)).all (fun x => x.1.isSome)
      && decide (args.length + ([] : List Keyword).length + (if ([] : List Keyword).isEmpty then 0 else 1) < 30)) = true := by rfl)
    (hline : (apos.endLine == pos.line) = true := by rfl) : Ev prog w W A env ρ (.Call (.Attribute o name apos) args [] pos) d := .mk fun g s S Q E k => by
  refine wpAny_Call_method hbase hfew hline pa slot hty ((x.run g s S).use S.pos fun v h₁ g₁ tk₁ p₁ e₁ r₁ => ?_)
  obtain ⟨t1, t2⟩ := T1 g₁ { s with heap := h₁, toks := tk₁ } v e₁.sub r₁
  refine ⟨t1, t2, callWith_builtin y.plain (y.args (S.ext e₁ p₁) fun vs h₂ g₂ tk₂ p₂ e₂ r₂ => ?_)⟩
  refine c g₂ _ v vs ((S.ext e₁ p₁).ext e₂ p₂).toOk (r₁.mono (Ext.grow e₁.sub e₂)) r₂ Q E fun u h₃ g₃ tk₃ e₃ r₃ => ?_
  exact k u h₃ g₃ tk₃ ((e₁.trans e₂).trans e₃) r₃

/-- a def's contract at these data, n frames deep -/
noncomputable def Fn (prog : Program) (w : World) (W : Wo) (n : Nat) (a : Addr) (ds : List Dt) (d : Dt) : Prop :=
  ∀ A g s vs, Room A n → Ok W g s → Rds prog w g vs ds → Res prog w A g s (call (.ref a) vs) d
theorem ev_global {f : Str} {p : Pos} {v : Value} {s : Shared} {Q : Value → Shared → Prop} {E : Value → Shared → Prop} (S : SE prog w W env g s ρ) (hk : env.kindOf f = some .globalImplicit) (hf : W.mg f = some v) (q : Q v s)
    (hd : (f == ("__debug__" : Str)) = false := by decide +kernel) : wpAny (model prog w) A (eval (.Name f p) env) Q E s :=
  Name_function_global S.fn hk (loadGlobal_global (by rw [S.gl]; exact S.wd.gn.keeps S.sub) hf q) hd
theorem ev_builtin {f : Str} {p : Pos} {v : Value} {s : Shared} {Q : Value → Shared → Prop} {E : Value → Shared → Prop} (S : SE prog w W env g s ρ) (hk : env.kindOf f = some .globalImplicit) (hf : W.mg f = none) (hb : bootBuiltins f = some v) (q : Q v s)
    (hn : f ≠ "__name__" := by decide +kernel) (hd : (f == ("__debug__" : Str)) = false := by decide +kernel) : wpAny (model prog w) A (eval (.Name f p) env) Q E s :=
  Name_function_global S.fn hk (loadGlobal_builtin (by rw [S.gl]; exact S.wd.gn.keeps S.sub) hf (by rw [S.bt]; exact S.wd.bn.keeps S.sub) ((S.wd.mb f hn).trans hb) q) hd
theorem ev_call {f : Str} {p pos : Pos} {args : List Expr} {ds : List Dt} {d : Dt} {a : Addr} {n : Nat} {o : Obj} {fd : FuncData} (y : EvL prog w W A env ρ args ds) (hk : env.kindOf f = some .globalImplicit) (hf : W.mg f = some (.ref a))
    (ho : W.K.lookup a = some o) (hd : o.data = .func fd) (c : Fn prog w W n a ds d) (R : Room A n) (hx : (f == ("__debug__" : Str)) = false := by decide +kernel) : Ev prog w W A env ρ (.Call (.Name f p) args [] pos) d := .mk fun g s S Q E k => by
  refine wpAny_Call_NameR (ev_global S hk hf (callWith_function (o := o) (fd := fd) (y.args S fun vs h₂ g₂ tk₂ p₂ e₂ r₂ => ?_)) hx)
  have S2 := S.ext e₂ p₂
  refine ⟨⟨e₂.sub _ _ (S2.wd.k _ _ ho), hd⟩, c A g₂ _ vs R S2.toOk r₂ Q E fun u h₃ g₃ tk₃ e₃ r₃ => ?_⟩
  exact k u h₃ g₃ tk₃ (e₂.trans e₃) r₃
/-- a built-in function, a built-in class: what the call asks -/
noncomputable def Bt (prog : Program) (w : World) (W : Wo) (A : Around) (f : Value) (ds : List Dt) (d : Dt) : Prop :=
  ∀ g s vs, Ok W g s → Rds prog w g vs ds → Res prog w A g s (call f vs) d
theorem ev_callB {f : Str} {p pos : Pos} {args : List Expr} {ds : List Dt} {d : Dt} {id : String} (y : EvL prog w W A env ρ args ds) (hk : env.kindOf f = some .globalImplicit) (hf : W.mg f = none) (hb : bootBuiltins f = some (.builtin id))
    (c : Bt prog w W A (.builtin id) ds d) (hn : f ≠ "__name__" := by decide +kernel) (hx : (f == ("__debug__" : Str)) = false := by decide +kernel) : Ev prog w W A env ρ (.Call (.Name f p) args [] pos) d := .mk fun g s S Q E k => by
  refine wpAny_Call_NameR (ev_builtin S hk hf hb (callWith_builtin y.plain (y.args S fun vs h₂ g₂ tk₂ p₂ e₂ r₂ => ?_)) hn hx)
  exact c g₂ _ vs (S.ext e₂ p₂).toOk r₂ Q E fun u h₃ g₃ tk₃ e₃ r₃ => k u h₃ g₃ tk₃ (e₂.trans e₃) r₃
theorem ev_callT {f : Str} {p pos : Pos} {args : List Expr} {ds : List Dt} {d : Dt} {T : String} (y : EvL prog w W A env ρ args ds) (hk : env.kindOf f = some .globalImplicit) (hf : W.mg f = none) (hb : bootBuiltins f = some (.type T))
    (c : Bt prog w W A (.type T) ds d) (hn : f ≠ "__name__" := by decide +kernel) (hx : (f == ("__debug__" : Str)) = false := by decide +kernel) : Ev prog w W A env ρ (.Call (.Name f p) args [] pos) d := .mk fun g s S Q E k => by
  refine wpAny_Call_NameR (ev_builtin S hk hf hb (PySem.callWith_type y.plain (y.args S fun vs h₂ g₂ tk₂ p₂ e₂ r₂ => ?_)) hn hx)
  exact c g₂ _ vs (S.ext e₂ p₂).toOk r₂ Q E fun u h₃ g₃ tk₃ e₃ r₃ => k u h₃ g₃ tk₃ (e₂.trans e₃) r₃

mutual
noncomputable def Dt.py : Dt → PyData
  | .none => .none
  | .bool b => .bool b
  | .int i => .int i
  | .str x => .str x
  | .tup ds => .tuple (Dt.pys ds)
  | .lst ds => .list (Dt.pys ds)
  | .pr _ _ => .none
  | .dct _ => .none
  | .raw _ => .none
noncomputable def Dt.pys : List Dt → List PyData
  | [] => []
  | d :: ds => d.py :: Dt.pys ds
end
mutual
noncomputable def Dt.ok : Dt → Bool
  | .none => true
  | .bool _ => true
  | .int _ => true
  | .str x => PyData.strOk x
  | .tup ds => Dt.oks ds
  | .lst ds => Dt.oks ds
  | .pr _ _ => false
  | .dct _ => false
  | .raw _ => false
noncomputable def Dt.oks : List Dt → Bool
  | [] => true
  | d :: ds => d.ok && Dt.oks ds
end
theorem Rd.reads {v : Value} {d : Dt} (r : Rd prog w g v d) (h : d.ok = true) : ∃ as, Reads g v d.py as :=
  Rd.rec (motive_1 := fun v d _ => d.ok = true → ∃ as, Reads g v d.py as) (motive_2 := fun vs ds _ => Dt.oks ds = true → ∃ as, ReadsAll g vs (Dt.pys ds) as)
    (fun _ => ⟨_, .none⟩) (fun b _ => ⟨_, .bool b⟩) (fun i t _ => ⟨_, .int i t⟩) (fun x t _ => ⟨_, .str x t⟩) (fun e _ ih h => (ih h).elim fun _ q => ⟨_, .tuple e rfl rfl q⟩) (fun e _ ih h => (ih h).elim fun _ q => ⟨_, .list e rfl rfl q⟩)
    (fun _ _ h => (Bool.false_ne_true h).elim) (fun _ _ h => (Bool.false_ne_true h).elim) (fun _ h => (Bool.false_ne_true h).elim) (fun _ => ⟨_, .nil⟩)
    (fun _ _ ia ib h => (ia ((Bool.and_eq_true _ _).mp h).1).elim fun _ q => (ib ((Bool.and_eq_true _ _).mp h).2).elim fun _ r => ⟨_, .cons q r⟩) r h
theorem reads_kp {h : Heap} {v : Value} {d : PyData} {as : List Addr} (k : Kp g h) (r : Reads g v d as) : Reads h v d as := Reads.keeps k r
theorem bin_neD {d₁ d₂ : Dt} (o₁ : d₁.ok = true) (o₂ : d₂.ok = true) (s₁ : SeqAt.shaped d₁.py = true) (s₂ : SeqAt.shaped d₂.py = true) (R : A.units + 64 < cLine) : Bin prog w W A (compareOp .NotEq) d₁ d₂ (.bool (!PyData.eqv d₁.py d₂.py)) := fun g s v₁ v₂ O r₁ r₂ Q E k => by
  obtain ⟨as, q₁⟩ := r₁.reads o₁
  obtain ⟨bs, q₂⟩ := r₂.reads o₂
  exact SeqAt.compareNe_shaped (reads_kp O.sub q₁) (reads_kp O.sub q₂) s₁ s₂ R (k _ s.heap g s.toks (Ext.refl O.sub) (.bool _))
theorem bin_neRefl {d : Dt} (o : d.ok = true) (sh : SeqAt.shaped d.py = true) (R : A.units + 64 < cLine) : Bin prog w W A (compareOp .NotEq) d d (.bool false) := by
  have := bin_neD (prog := prog) (w := w) (W := W) o o sh sh R
  rw [SeqAt.eqv_refl d.py (SeqAt.canLay_of_shaped sh)] at this
  exact this

theorem strsAre_of {vs : List Value} {ys : List Str} (r : Rds prog w g vs (ys.map .str)) : StrsAre vs ys := by
  induction ys generalizing vs with
  | nil => obtain rfl := r.inv; exact .nil
  | cons y ys ih =>
    obtain ⟨v, vs, rfl, a, b⟩ := r.inv
    obtain ⟨t, rfl⟩ := a.inv
    exact .cons _ _ (ih b)
theorem rds_of_strs {vs : List Value} {ys : List Str} (r : StrsAre vs ys) : Rds prog w g vs (ys.map .str) := by
  induction r with
  | nil => exact .nil
  | cons y t r ih => exact .cons (.str ..) ih
theorem mt_join {x : Str} {ys : List Str} (hz : (ys.map (·.length)).sum + ys.length * x.length ≤ 16777216) : Mt prog w W A "str.join" (.str x) [.lst (ys.map .str)] (.str (Txt.join x ys)) := fun g s v vs O r rs Q E k => by
  obtain ⟨t, rfl⟩ := r.inv
  obtain ⟨a, rfl, a⟩ := rs.one
  obtain ⟨D, its, rfl, L, R⟩ := a.isList O.sub
  exact PyProof.Rows.join_list L (strsAre_of R) hz fun t' tk => k _ s.heap g tk (Ext.refl O.sub) (.str ..)
theorem mt_split {x y : Str} {n : Int} (hy : (y.length == 0) = false) (hk : (decide (n < -(2 ^ 63 : Int)) || decide (n ≥ 2 ^ 63)) = false) (hz : x.length + 2 ≤ sizeLine) :
    Mt prog w W A "str.split" (.str x) [.str y, .int n] (.lst ((Txt.splitMax x y n).map .str)) := fun g s v vs O r rs Q E k => by
  obtain ⟨t, rfl⟩ := r.inv
  obtain ⟨a, b, rfl, a, b⟩ := rs.two
  obtain ⟨u, rfl⟩ := a.inv
  obtain ⟨v, rfl⟩ := b.inv
  have hn : (partsBetween x (occurrences x y 0 x.length (limitOf x n)) y.length).length ≤ sizeLine := by
    have e1 := StrLaws.occ_length_le_len x y 0 x.length (limitOf x n)
    rw [length_partsBetween]; omega
  have fin : ∀ (l : List (Str × Tok)) tk, l.map (·.1) = Txt.splitMax x y n → Q (.ref s.heap.objs.size) { s with heap := s.heap.push { cls := .type "list", data := .seq (strValues l).toArray }, toks := tk } := fun l tk e => by
    have pp := ext_put O.sub { cls := .type "list", data := .seq (strValues l).toArray } rfl
    refine k _ _ _ tk pp (.lst (n := 0) (gput_self _ _ _ rfl) ?_)
    rw [← e]
    simpa using rds_of_strs (strsAre_of_values l)
  cases h1 : (decide (x.length < y.length) || decide (strKind x < strKind y))
  · cases hf : (occurrences x y 0 x.length (limitOf x n)).isEmpty
    · refine call_meets F.slot_str_split (typeIs_str _ _ _) F.entry_str_split (F.args_str_split_3 _ _ _) (meets_str_split_sep_max x y n t u v hk h1 hy hf (by omega) hn) ?_
      show wants Q E _ { s with toks := _, heap := s.heap.push { cls := .type "list", data := .seq (strsFrom s.toks (partsBetween x (occurrences x y 0 x.length (limitOf x n)) y.length)).toArray } }
      rw [strsFrom_eq]
      exact fin (numbered s.toks _) _ ((numbered_texts _ _).trans ((if_neg (ne_true_of_eq_false h1)).trans (if_neg (ne_true_of_eq_false hf))).symm)
    · exact call_meets F.slot_str_split (typeIs_str _ _ _) F.entry_str_split (F.args_str_split_3 _ _ _) (meets_str_split_max_not_found x y n t u v hk h1 hy hf)
        (fin [(x, t)] s.toks ((if_neg (ne_true_of_eq_false h1)).trans (if_pos hf)).symm)
  · exact call_meets F.slot_str_split (typeIs_str _ _ _) F.entry_str_split (F.args_str_split_3 _ _ _) (meets_str_split_max_cannot_occur x y n t u v hk h1)
      (fin [(x, t)] s.toks (if_pos h1).symm)
theorem mt_strip {x : Str} (hz : x.length ≤ sizeLine) : Mt prog w W A "str.strip" (.str x) [] (.str (Txt.strip x)) := fun g s v vs O r rs Q E k => by
  obtain ⟨t, rfl⟩ := r.inv
  obtain rfl := rs.inv
  exact SC.strip (fun t' tk => k _ s.heap g tk (Ext.refl O.sub) (.str ..)) hz
/-- a replacement by written texts -/
theorem ev_replace {o : Expr} {apos pos pa pb : Pos} {k₁ k₂ : Nat} {x y z : Str} (hx : Ev prog w W A env ρ o (.str x)) (hyz : (y == z) = false) (hb : x.length + (x.length + 1) * z.length ≤ 16777216)
    (hbase : attributeBase o "replace" env (eval o env) = eval o env := by rfl) (hline : (apos.endLine == pos.line) = true := by rfl) :
    Ev prog w W A env ρ (.Call (.Attribute o "replace" apos) [.Constant (.str y) k₁ pa, .Constant (.str z) k₂ pb] [] pos) (.str (Txt.replace x y z)) := .mk fun g s S Q E k => by
  refine wpAny_Call_method hbase rfl hline F.plainAttrs_str F.slot_str_replace F.type_str_replace ((hx.run g s S).use S.pos fun v h₁ g₁ tk₁ p₁ e₁ r₁ => ?_)
  obtain ⟨t, rfl⟩ := r₁.inv
  refine ⟨typeIs_str _ _ _, (fun _ e => nomatch e), callWith_builtin rfl (evalArgs_plain (spliced_cons (Constant_str (k := k₁) (pos := pa) (spliced_cons (Constant_str (k := k₂) (pos := pb) (spliced_nil ?_))))))⟩
  exact SC.replace (Nat.ne_of_gt p₁) (Nat.succ_ne_zero _) (Nat.ne_of_lt (Nat.lt_succ_self _)) hyz hb fun t' tk => k _ h₁ g₁ tk e₁ (.str ..)
theorem ev_len {f : Str} {p pos : Pos} {e : Expr} {ds : List Dt} (x : Ev prog w W A env ρ e (.lst ds)) (hk : env.kindOf "len" = some .globalImplicit) (hf : W.mg "len" = none) (hz : ds.length < 2 ^ 62)
    (hs : starEach [e] env = [(false, eval e env)] := by rfl) : Ev prog w W A env ρ (.Call (.Name "len" p) [e] [] pos) (.int ds.length) :=
  ev_callB (evl_cons x evl_nil hs) hk hf boot_len fun g s vs O rs Q E k => by
      obtain ⟨a, rfl, a⟩ := rs.one
      obtain ⟨D, its, rfl, L, R⟩ := a.isList O.sub
      have hsz : its.size = ds.length := by rw [← Array.length_toList, R.length]
      refine PySem.Calls.call_len_list L (by rw [hsz]; omega) ?_
      rw [hsz]
      exact k _ s.heap g _ (Ext.refl O.sub) (.int ..)

/-- what a test comes to -/
structure Tst (prog : Program) (w : World) (W : Wo) (A : Around) (env : Env) (ρ : Str → Option Dt) (e : Expr) (b : Bool) : Prop where
  run : ∀ g s, SE prog w W env g s ρ → ∀ (Q : Bool → Shared → Prop) (E : Value → Shared → Prop), (∀ h' g' tk, 0 < tk → Ext g s.heap g' h' → Q b { s with heap := h', toks := tk }) → wpAny (model prog w) A (isTrue e env (eval e env)) Q E s
theorem tst_cmp {l r : Expr} {op : CmpOp} {pos : Pos} {d₁ d₂ : Dt} {b : Bool} (x : Ev prog w W A env ρ l d₁) (y : Ev prog w W A env ρ r d₂) (c : Bin prog w W A (compareOp op) d₁ d₂ (.bool b))
    (hm : behindInMarks op r = false := by with_unfolding_all rfl) : Tst prog w W A env ρ (.Compare l [op] [r] pos) b := .mk fun g s S Q E k => by
  refine wpAny_with_toks (n := 1) S.pos (wpAny_isTrue_Compare1 (two x y c S fun v h' g' tk e r => ?_) hm)
  obtain rfl := r.inv
  exact wpAny_truthy_bool fun (q : 1 ≤ tk) => k h' g' tk q e
theorem tst_or2 {x y : Expr} {pos : Pos} {b c : Bool} (hx : Tst prog w W A env ρ x b) (hy : b = false → Tst prog w W A env ρ y c) : Tst prog w W A env ρ (.BoolOp .Or [x, y] pos) (b || c) := .mk fun g s S Q E k => by
  refine wpAny_isTrue_BoolOp (wpAny_allTrue_Or_cons (hx.run g s S _ E fun h₁ g₁ tk₁ p₁ e₁ => ?_))
  cases b with
  | true => exact k h₁ g₁ tk₁ p₁ e₁
  | false =>
    refine wpAny_allTrue_Or_cons ((hy rfl).run g₁ _ (S.ext e₁ p₁) _ E fun h₂ g₂ tk₂ p₂ e₂ => ?_)
    cases c with
    | true => exact k h₂ g₂ tk₂ p₂ (e₁.trans e₂)
    | false => exact wpAny_allTrue_Or_nil (k h₂ g₂ tk₂ p₂ (e₁.trans e₂))
theorem tst_or3 {x y z : Expr} {pos : Pos} {b c d : Bool} (hx : Tst prog w W A env ρ x b) (hy : b = false → Tst prog w W A env ρ y c) (hz : b = false → c = false → Tst prog w W A env ρ z d) : Tst prog w W A env ρ (.BoolOp .Or [x, y, z] pos) (b || (c || d)) := .mk fun g s S Q E k => by
  refine wpAny_isTrue_BoolOp (wpAny_allTrue_Or_cons (hx.run g s S _ E fun h₁ g₁ tk₁ p₁ e₁ => ?_))
  cases b with
  | true => exact k h₁ g₁ tk₁ p₁ e₁
  | false =>
    refine wpAny_allTrue_Or_cons ((hy rfl).run g₁ _ (S.ext e₁ p₁) _ E fun h₂ g₂ tk₂ p₂ e₂ => ?_)
    cases c with
    | true => exact k h₂ g₂ tk₂ p₂ (e₁.trans e₂)
    | false =>
      refine wpAny_allTrue_Or_cons ((hz rfl rfl).run g₂ _ ((S.ext e₁ p₁).ext e₂ p₂) _ E fun h₃ g₃ tk₃ p₃ e₃ => ?_)
      cases d with
      | true => exact k h₃ g₃ tk₃ p₃ ((e₁.trans e₂).trans e₃)
      | false => exact wpAny_allTrue_Or_nil (k h₃ g₃ tk₃ p₃ ((e₁.trans e₂).trans e₃))
theorem tst_and2 {x y : Expr} {pos : Pos} {b c : Bool} (hx : Tst prog w W A env ρ x b) (hy : b = true → Tst prog w W A env ρ y c) : Tst prog w W A env ρ (.BoolOp .And [x, y] pos) (b && c) := .mk fun g s S Q E k => by
  refine wpAny_isTrue_BoolOp (wpAny_allTrue_And_cons (hx.run g s S _ E fun h₁ g₁ tk₁ p₁ e₁ => ?_))
  cases b with
  | false => exact k h₁ g₁ tk₁ p₁ e₁
  | true =>
    refine wpAny_allTrue_And_cons ((hy rfl).run g₁ _ (S.ext e₁ p₁) _ E fun h₂ g₂ tk₂ p₂ e₂ => ?_)
    cases c with
    | false => exact k h₂ g₂ tk₂ p₂ (e₁.trans e₂)
    | true => exact wpAny_allTrue_And_nil (k h₂ g₂ tk₂ p₂ (e₁.trans e₂))
theorem tst_bool {x : Str} {pos : Pos} {b : Bool} (hx : Ev prog w W A env ρ (.Name x pos) (.bool b)) : Tst prog w W A env ρ (.Name x pos) b := .mk fun g s S Q E k => by
  refine wpAny_isTrue_value ((hx.run g s S).use S.pos fun v h' g' tk p e r => ?_)
  obtain rfl := r.inv
  exact wpAny_truthy_bool (k h' g' tk p e)
end
end Mine
end
section
open PySem PySem.W PySem.Spec PySem.Calls PyProof.Rows PySem.Builtin PySem.Builtin.Str
set_option Elab.async false
set_option tactic.hygienic false
set_option linter.unusedVariables false
set_option maxRecDepth 100000
namespace Mine
section
variable {prog : Program} {w : World} {W : Wo} {A : Around} {env : Env} {g h g' h' g'' h'' : Heap} {ρ : Str → Option Dt}

/-- as Ext, but at the addresses X all may have changed -/
structure ExtX (X : List Addr) (g h g' h' : Heap) : Prop where
  keep : ∀ b o, isTab b = false → b ∉ X → h.get? b = some o → h'.get? b = some o
  size : h.objs.size ≤ h'.objs.size
  sub : Kp g' h'
  same : ∀ a, a < h.objs.size → g'.get? a = g.get? a
theorem Ext.toX {X : List Addr} (x : Ext g h g' h') : ExtX X g h g' h' := ⟨fun b o t _ e => x.keep b o t e, x.size, x.sub, x.same⟩
theorem ExtX.trans {X : List Addr} (x : ExtX X g h g' h') (y : ExtX X g' h' g'' h'') : ExtX X g h g'' h'' :=
  ⟨fun b o t n e => y.keep b o t n (x.keep b o t n e), Nat.le_trans x.size y.size, y.sub, fun a e => (y.same a (Nat.lt_of_lt_of_le e x.size)).trans (x.same a e)⟩
theorem ExtX.mono {X Y : List Addr} (x : ExtX X g h g' h') (m : ∀ a ∈ X, a ∈ Y) : ExtX Y g h g' h' := ⟨fun b o t n e => x.keep b o t (fun q => n (m _ q)) e, x.size, x.sub, x.same⟩
theorem ExtX.grow {X : List Addr} (k : Kp g h) (x : ExtX X g h g' h') : Kp g g' := fun b o e => by
  rw [x.same b (Heap.lt_size (k b o e))]; exact e
/-- what is new at X was not there -/
theorem ExtX.toExt {X : List Addr} (x : ExtX X g h g' h') (f : ∀ a ∈ X, h.get? a = none) : Ext g h g' h' :=
  ⟨fun b o t e => x.keep b o t (fun q => by rw [f b q] at e; cases e) e, x.size, x.sub, x.same⟩
theorem Ok.extX {X : List Addr} {s : Shared} {tk : Nat} (x : Ok W g s) (e : ExtX X g s.heap g' h') (p : 0 < tk) : Ok W g' { s with heap := h', toks := tk } :=
  ⟨e.sub, x.wd.mono (ExtX.grow x.sub e) fun a t => (e.same a (x.tb a t)).trans (x.wd.tabs a t), fun a t => Nat.lt_of_lt_of_le (x.tb a t) e.size, p⟩
theorem Holds.extX {X : List Addr} {x : Str} {v : Value} (q : Holds env h x v) (e : ExtX X g h g' h') (hl : env.locals ∉ X) (hc : ∀ p ∈ env.cells, p.2 ∉ X) : Holds env h' x v := by
  rcases q with ⟨a, t, m, n, b⟩ | ⟨a, c, b, t, o, ho, hd⟩
  · obtain ⟨o, es, ep, ho, r⟩ := n
    exact .inl ⟨a, t, m, ⟨o, es, ep, e.keep _ _ t hl ho, r⟩, b⟩
  · have : (x, c) ∈ env.cells := by
      clear e ho hd t o a
      generalize env.cells = l at b
      induction l with
      | nil => simp at b
      | cons p l ih =>
        obtain ⟨y, d⟩ := p
        simp only [List.lookup_cons] at b
        cases hy : x == y with
        | true => rw [hy] at b; cases b; rw [eq_of_beq hy]; exact .head _
        | false => rw [hy] at b; exact .tail _ (ih b)
    exact .inr ⟨a, c, b, t, o, e.keep _ _ t (hc _ this) ho, hd⟩
theorem SE.extX {X : List Addr} {s : Shared} {tk : Nat} (x : SE prog w W env g s ρ) (e : ExtX X g s.heap g' h') (p : 0 < tk) (hl : env.locals ∉ X) (hc : ∀ p ∈ env.cells, p.2 ∉ X) : SE prog w W env g' { s with heap := h', toks := tk } ρ :=
  ⟨x.toOk.extX e p, x.fn, x.gl, x.bt, ⟨Nat.lt_of_lt_of_le x.lv.1 e.size, x.lv.2⟩, fun q hq => ⟨Nat.lt_of_lt_of_le (x.cv q hq).1 e.size, (x.cv q hq).2⟩, fun y d q => let ⟨v, a, b⟩ := x.vars y d q; ⟨v, a.extX e hl hc, b.mono (ExtX.grow x.sub e)⟩⟩

/-- a target: what it binds -/
inductive Pats : List Expr → List Dt → List (Str × Dt) → Prop
  | nil : Pats [] [] []
  | cons {x : Str} {p : Pos} {es : List Expr} {d : Dt} {ds : List Dt} {bs : List (Str × Dt)} : Pats es ds bs → Pats (.Name x p :: es) (d :: ds) ((x, d) :: bs)
inductive Pat : Expr → Dt → List (Str × Dt) → Prop
  | name {x : Str} {p : Pos} {d : Dt} : Pat (.Name x p) d [(x, d)]
  | tup {es : List Expr} {n : Nat} {p : Pos} {ds : List Dt} {bs : List (Str × Dt)} : Pats es ds bs → Pat (.Tuple es n p) (.tup ds) bs

theorem pats_len {es : List Expr} {ds : List Dt} {bs : List (Str × Dt)} (p : Pats es ds bs) : (assignEach es env).length = ds.length ∧ (assignEach es env).findIdx? (·.1) = none := by
  induction p with
  | nil => exact ⟨rfl, rfl⟩
  | @cons x q es d ds bs p ih =>
    have e : assignEach (.Name x q :: es) env = (false, assign (.Name x q) env) :: assignEach es env := rfl
    rw [e]
    refine ⟨congrArg Nat.succ ih.1, ?_⟩
    rw [List.findIdx?_cons, ih.2]
    rfl
theorem lk_self {x : Str} {d : Dt} {bs : List (Str × Dt)} : ((x, d) :: bs).lookup x = some d := by rw [List.lookup_cons, beq_self_eq_true]
theorem lk_ne {x y : Str} {d : Dt} {bs : List (Str × Dt)} (h : y ≠ x) : ((x, d) :: bs).lookup y = bs.lookup y := by rw [List.lookup_cons, beq_false_of_ne h]
theorem lk_none {y : Str} {bs : List (Str × Dt)} (h : y ∉ bs.map (·.1)) : bs.lookup y = none := by
  induction bs with
  | nil => rfl
  | cons c cs ih =>
    have h : y ∉ c.1 :: cs.map (·.1) := h
    rw [List.mem_cons, not_or] at h
    exact (lk_ne (d := c.2) h.1).trans (ih h.2)

/-- what an assignment to names of the frame leaves -/
noncomputable def Bound (prog : Program) (w : World) (env : Env) (g : Heap) (s : Shared) (m : Str → Option Value) (bs : List (Str × Dt)) (Q : Unit → Shared → Prop) : Prop :=
  ∀ h' tk m', 0 < tk → (∀ b o, b ≠ env.locals → s.heap.get? b = some o → h'.get? b = some o) → h'.Ns env.locals m' → (∀ x d, bs.lookup x = some d → ∃ v, m' x = some v ∧ Rd prog w g v d) →
    (∀ x, bs.lookup x = none → m' x = m x) → Q () { s with heap := h', toks := tk }
theorem bound_store {x : Str} {v : Value} {d : Dt} {m : Str → Option Value} {s : Shared} {Q : Unit → Shared → Prop} {E : Value → Shared → Prop} (hk : env.kindOf x = some .local) (fn : env.scope.kind = .function) (hn : s.heap.Ns env.locals m) (r : Rd prog w g v d)
    (h : Bound prog w env g s m [(x, d)] Q) : wpAny (model prog w) A (storeName env x v) Q E s := by
  refine wpAny_storeName_local hk hn (fun h' hn' hs' => h h' _ _ (Nat.succ_pos _) (fun b o hb e => hs'.extBut b o hb e) hn' (fun y e hy => ?_) fun y hy => ?_) (by rw [fn]; rfl)
  · by_cases q : y = x
    · rw [q, lk_self] at hy
      cases hy
      exact ⟨v, if_pos q, r⟩
    · rw [lk_ne q] at hy; cases hy
  · by_cases q : y = x
    · rw [q, lk_self] at hy; cases hy
    · exact if_neg q
theorem bound_pats {es : List Expr} {ds : List Dt} {bs : List (Str × Dt)} {Q : Unit → Shared → Prop} {E : Value → Shared → Prop} (p : Pats es ds bs) : ∀ {vs : List Value} {m : Str → Option Value} {s : Shared}, (∀ x ∈ bs.map (·.1), env.kindOf x = some .local) → (bs.map (·.1)).Nodup →
    env.scope.kind = .function → 0 < s.toks → s.heap.Ns env.locals m → Rds prog w g vs ds → Bound prog w env g s m bs Q → wpAny (model prog w) A (assignInOrder ((assignEach es env).map (·.2)) vs) Q E s := by
  induction p with
  | nil =>
    intro vs m s _ _ _ hp hn r h
    obtain rfl := r.inv
    exact wpAny_assignInOrder_none (h s.heap s.toks m hp (fun _ _ _ e => e) hn (fun _ _ q => nomatch q) fun _ _ => rfl)
  | @cons x q es d ds bs p ih =>
    intro vs m s hk nd fn hp hn r h
    obtain ⟨v, vs, rfl, r, rs⟩ := r.inv
    have nd := List.nodup_cons.mp nd
    refine wpAny_assignInOrder_more (wpAny_assign_Name (bound_store (hk x (.head _)) fn hn r fun h₁ tk₁ m₁ p₁ k₁ n₁ a₁ b₁ => ?_))
    refine ih (fun y hy => hk y (.tail _ hy)) nd.2 fn p₁ n₁ rs fun h₂ tk₂ m₂ p₂ k₂ n₂ a₂ b₂ => ?_
    refine h h₂ tk₂ m₂ p₂ (fun b o hb e => k₂ b o hb (k₁ b o hb e)) n₂ (fun y e q => ?_) fun y q => ?_
    · by_cases hy : y = x
      · rw [hy, lk_self] at q
        cases q
        obtain ⟨v, hv, rv⟩ := a₁ x d lk_self
        exact ⟨v, by rw [hy]; exact (b₂ x (lk_none nd.1)).trans hv, rv⟩
      · rw [lk_ne hy] at q
        exact a₂ y e q
    · by_cases hy : y = x
      · rw [hy, lk_self] at q; cases q
      · rw [lk_ne hy] at q
        exact (b₂ y q).trans (b₁ y (lk_ne hy))
theorem pat_assign {t : Expr} {d : Dt} {bs : List (Str × Dt)} {v : Value} {m : Str → Option Value} {s : Shared} {Q : Unit → Shared → Prop} {E : Value → Shared → Prop} (hh : A.handled = none) (p : Pat t d bs) (hk : ∀ x ∈ bs.map (·.1), env.kindOf x = some .local) (nd : (bs.map (·.1)).Nodup)
    (fn : env.scope.kind = .function) (hp : 0 < s.toks) (sub : Kp g s.heap) (hn : s.heap.Ns env.locals m) (r : Rd prog w g v d) (h : Bound prog w env g s m bs Q) : wpAny (model prog w) A (assign t env v) Q E s := by
  cases p with
  | name => exact wpAny_assign_Name (bound_store (hk _ (.head _)) fn hn r h)
  | tup ps =>
      obtain ⟨a, vs, n, rfl, e, rs⟩ := r.inv
      obtain ⟨l1, l2⟩ := pats_len (env := env) ps
      have ht : s.heap.IsTuple a vs := ⟨_, sub _ _ e, rfl, ⟨_, rfl⟩⟩
      refine wpAny_assign_Tuple hh ht (by rw [l1, ← rs.length, Array.length_toList]) l2 fun h' hs' => ?_
      have k' : ∀ b o, s.heap.get? b = some o → h'.get? b = some o := fun b o e => hs' b o (fun q => by subst q; rw [get?_size] at e; cases e) e
      exact bound_pats ps hk nd fn hp (hn.keeps k') rs fun h₂ tk₂ m₂ p₂ k₂ n₂ a₂ b₂ => h h₂ tk₂ m₂ p₂ (fun b o hb e => k₂ b o hb (k' b o e)) n₂ a₂ b₂
end
end Mine
end
section
open PySem PySem.W PySem.Spec PySem.Calls PyProof.Rows PySem.Builtin PySem.Builtin.Str
set_option Elab.async false
set_option tactic.hygienic false
set_option linter.unusedVariables false
set_option maxRecDepth 100000
namespace Mine
section
variable {prog : Program} {w : World} {W : Wo} {A : Around} {env : Env} {g h g' h' g'' h'' : Heap} {ρ : Str → Option Dt}

/-- the next item, the target's tuple let go -/
noncomputable def NextGo (prog : Program) (w : World) (A : Around) (t : Expr) (it : Value) (Q : Option Value → Shared → Prop) (E : Value → Shared → Prop) (s : Shared) : Prop :=
  wpAny (model prog w) A (pyNext it) (fun r s₁ => match r with
    | none => Q none s₁
    | some v => wpAny (model prog w) A (letOwnedTupleGo t it v) (fun _ s₂ => Q (some v) s₂) E s₁) E s
/-- an iterator, new since h₀, that walks over the data -/
structure IsIt (prog : Program) (w : World) (W : Wo) (A : Around) (t : Expr) (g₀ h₀ : Heap) (I : Addr) (fp wr : List Addr) (St : Nat → Heap → Prop) (ds : List Dt) : Prop where
  frame : ∀ i h h', St i h → (∀ b ∈ fp, ∀ o, h.get? b = some o → h'.get? b = some o) → St i h'
  item : ∀ i d g (s : Shared) (Q : Option Value → Shared → Prop) (E : Value → Shared → Prop), ds[i]? = some d → Ok W g s → Kp g₀ g → (∀ b ∈ wr, g.get? b = none) → St i s.heap →
    (∀ v g' h' tk, 0 < tk → ExtX wr g s.heap g' h' → Rd prog w g' v d → St (i + 1) h' → Q (some v) { s with heap := h', toks := tk }) → NextGo prog w A t (.ref I) Q E s
  done : ∀ g (s : Shared) (Q : Option Value → Shared → Prop) (E : Value → Shared → Prop), Ok W g s → Kp g₀ g → (∀ b ∈ wr, g.get? b = none) → St ds.length s.heap →
    (∀ g' h' tk, 0 < tk → ExtX wr g s.heap g' h' → Q none { s with heap := h', toks := tk }) → NextGo prog w A t (.ref I) Q E s
  self : ∀ i (s : Shared) (Q : Value → Shared → Prop) (E : Value → Shared → Prop), St i s.heap → Q (.ref I) s → wpAny (model prog w) A (pyIter (.ref I)) Q E s
  new : ∀ b ∈ wr, h₀.objs.size ≤ b ∧ isTab b = false ∧ g₀.get? b = none
  fpo : ∀ b ∈ fp, b ∈ wr ∨ (isTab b = false ∧ (g₀.get? b).isSome = true)
/-- the library's walkers -/
theorem IsIt.ofWalks {t : Expr} {g₀ h₀ : Heap} {I : Addr} {fp wr : List Addr} {P : Nat → Value → Prop} {St : Nat → Heap → Prop} {ds : List Dt} (wk : Walks prog w A I fp wr ds.length P St)
    (rd : ∀ i v, P i v → ∃ d, ds[i]? = some d ∧ Rd prog w g₀ v d) (new : ∀ b ∈ wr, h₀.objs.size ≤ b ∧ isTab b = false ∧ g₀.get? b = none) (fpo : ∀ b ∈ fp, b ∈ wr ∨ (isTab b = false ∧ (g₀.get? b).isSome = true))
    (go : ∀ i (s : Shared) t v (Q : Unit → Shared → Prop) (E : Value → Shared → Prop), St i s.heap → Q () s → (∃ d, Rd prog w g₀ v d) → (∃ j, P j v) → wpAny (model prog w) A (letOwnedTupleGo t (.ref I) v) Q E s) : IsIt prog w W A t g₀ h₀ I fp wr St ds where
  frame := wk.frame
  item := fun i d g s Q E hd O kp off st k => by
    refine grows O.pos (wk.item i _ _ _ (by
      obtain ⟨q, _⟩ := List.getElem?_eq_some_iff.mp hd
      exact q) st fun v h₂ tk₂ hv st₂ k₂ => fun p₂ z₂ => ?_)
    obtain ⟨d', hd', rd'⟩ := rd i v hv
    rw [hd] at hd'
    cases hd'
    refine go (i + 1) _ _ _ _ _ st₂ ?_ ⟨d, rd'⟩ ⟨i, hv⟩
    exact k v g h₂ tk₂ p₂ ⟨fun b o _ n e => k₂ b o n e, z₂, fun b o e => k₂ b o (fun q => by rw [off b q] at e; cases e) (O.sub b o e), fun _ _ => rfl⟩ (rd'.mono kp) st₂
  done := fun g s Q E O kp off st k => by
    refine grows O.pos (wk.done _ _ _ st fun h₂ tk₂ k₂ => fun p₂ z₂ => ?_)
    exact k g h₂ tk₂ p₂ ⟨fun b o _ n e => k₂ b o n e, z₂, fun b o e => k₂ b o (fun q => by rw [off b q] at e; cases e) (O.sub b o e), fun _ _ => rfl⟩
  self := wk.self
  new := new
  fpo := fpo
/-- what stands behind «for»: it gives the data one by one -/
noncomputable def Src (prog : Program) (w : World) (W : Wo) (A : Around) (env : Env) (ρ : Str → Option Dt) (iter t : Expr) (ds : List Dt) : Prop :=
  ∀ g s (Q : Value → Shared → Prop) (E : Value → Shared → Prop), SE prog w W env g s ρ →
    (∀ I fp wr St h' g' tk, 0 < tk → Ext g s.heap g' h' → IsIt prog w W A t g' s.heap I fp wr St ds → St 0 h' → (∀ b ∈ wr, b < h'.objs.size) → Q (.ref I) { s with heap := h', toks := tk }) →
    wpAny (model prog w) A (eval iter env) (fun x s₁ => wpAny (model prog w) A (pyIter x) Q E s₁) E s

theorem not_tab_size {s : Shared} (O : Ok W g s) : isTab s.heap.objs.size = false := by
  cases e : isTab s.heap.objs.size with
  | false => rfl
  | true => exact absurd (O.tb _ e) (Nat.lt_irrefl _)
theorem none_of_size {s : Shared} (O : Ok W g s) : g.get? s.heap.objs.size = none := by
  cases e : g.get? s.heap.objs.size with
  | none => rfl
  | some o => have := O.sub _ _ e; rw [get?_size] at this; cases this

/-- a target's tuple let go by an iterator that owns none -/
theorem own_go {t : Expr} {I : Addr} {v : Value} {n : String} {vs : Array Value} {o : Obj} {s : Shared} {Q : Unit → Shared → Prop} {E : Value → Shared → Prop} (ho : s.heap.get? I = some o) (hc : o.cls = .type n) (hd : o.data = .fields vs)
    (hn : ["enumerate", "zip", "dict_itemiterator", "dict_reverseitemiterator", "odict_iterator", "itertools.zip_longest", "itertools.pairwise"].contains n = false) (q : Q () s) : wpAny (model prog w) A (letOwnedTupleGo t (.ref I) v) Q E s := by
  have key : ∀ T, wpAny (model prog w) A (letOwnedTupleGo (.Tuple [] 0 default) (.ref I) (.ref T)) Q E s := fun T => by
    unfold letOwnedTupleGo
    refine wpAny_bind (wpAny_load ho ?_)
    rw [hc, hd]
    show wpAny _ A (if (["enumerate", "zip", "dict_itemiterator", "dict_reverseitemiterator", "odict_iterator", "itertools.zip_longest", "itertools.pairwise"].contains n && vs[0]? == some (rawInt T)) = true then _ else _) Q E s
    rw [hn, Bool.false_and, if_neg Bool.false_ne_true]
    exact wpAny_pure q
  cases t with
  | Tuple => cases v with
    | ref T => exact key T
    | _ => exact wpAny_pure q
  | List => cases v with
    | ref T => exact key T
    | _ => exact wpAny_pure q
  | _ => exact wpAny_pure q
theorem src_list {iter t : Expr} {ds : List Dt} (hh : A.handled = none) (x : Ev prog w W A env ρ iter (.lst ds)) : Src prog w W A env ρ iter t ds := fun g s Q E S k => by
  refine (x.run g s S).use S.pos fun v h₁ g₁ tk₁ p₁ e₁ r₁ => ?_
  have O1 := (S.ext e₁ p₁).toOk
  obtain ⟨a, vs, n, rfl, e, r⟩ := r₁.inv
  · have L : h₁.IsList a vs := ⟨_, e₁.sub _ _ e, rfl, _, rfl⟩
    refine wpAny_pyIter_list L ?_
    have hz : vs.size = ds.length := by rw [← Array.length_toList, r.length]
    have nt := not_tab_size O1
    have ne : a ≠ h₁.objs.size := fun q => by have := e₁.sub _ _ e; rw [q, get?_size] at this; cases this
    have px := ext_push e₁.sub { cls := .type "list_iterator", data := .fields #[.ref a, .int 0 0] }
    refine k h₁.objs.size [h₁.objs.size, a] [h₁.objs.size] (fun i h => h.IsListIter h₁.objs.size a i ∧ h.IsList a vs) _ g₁ tk₁ p₁ (e₁.trans px) (IsIt.ofWalks (P := fun i v => vs[i]? = some v) (by rw [← hz]; exact Walks.list hh _ a ne vs) (fun i v hv => ?_) ?_ ?_ ?_) ?_ ?_
    · exact r.get' (by simpa using hv)
    · intro b hb
      rw [List.mem_singleton.mp hb]
      exact ⟨e₁.size, nt, none_of_size O1⟩
    · intro b hb
      rcases List.mem_cons.mp hb with rfl | hb
      · exact .inl (.head _)
      · rw [List.mem_singleton.mp hb]
        refine .inr ⟨?_, by rw [e]; rfl⟩
        cases q : isTab a with
        | false => rfl
        | true => have := O1.wd.tabs a q; rw [e] at this; cases this
    · intro i s' t v Q' E' st q hv _
      obtain ⟨o, h1, h2, h3⟩ := st.1
      exact own_go h1 h2 h3 (by decide +kernel) q
    · exact ⟨⟨_, Heap.get?_push_size _ rfl, rfl, rfl⟩, L.extBut (fun b o _ e => Heap.get?_push_of_some _ e) (Ne.symm (Ne.symm ne))⟩
    · intro b hb
      rw [List.mem_singleton.mp hb, Heap.size_push]; exact Nat.lt_succ_self _
/-- range(n) -/
theorem src_range {e t : Expr} {p pos : Pos} {n : Nat} (hh : A.handled = none) (x : Ev prog w W A env ρ e (.int n)) (hk : env.kindOf "range" = some .globalImplicit) (hf : W.mg "range" = none) (hn : n < 2 ^ 61)
    (hs : starEach [e] env = [(false, eval e env)] := by rfl) : Src prog w W A env ρ (.Call (.Name "range" p) [e] [] pos) t ((List.range n).map fun (i : Nat) => .int i) := fun g s Q E S k => by
  refine wpAny_Call_NameR (ev_builtin S hk hf (v := .type "range") (by decide +kernel) (PySem.callWith_type (EvL.plain (evl_cons x evl_nil hs)) ((evl_cons x evl_nil hs).args S fun vs h₁ g₁ tk₁ p₁ e₁ r₁ => ?_)))
  obtain ⟨a, rfl, a⟩ := r₁.one
  obtain ⟨tn, rfl⟩ := a.inv
  · have O1 := (S.ext e₁ p₁).toOk
    refine call_range_1 ?_
    refine wpAny_pyIter_range (IsRange.new ..) (small_one (by omega) (by omega) (by omega) (by omega)) ?_
    have pa := ext_push e₁.sub { cls := .type "range", data := .fields #[.int 0 tk₁, .int n tn, .int 1 (tk₁ + 1)] }
    have O2 := O1.ext (tk := tk₁ + 1 + 1) pa (Nat.succ_pos _)
    have pb := ext_push pa.sub { cls := .type "range_iterator", data := .fields #[rawInt 0, rawInt (Builtin.Range.rangeSize 0 n 1), rawInt 1] }
    have nt := not_tab_size O2
    have hz : Builtin.Range.rangeSize 0 n 1 = (n : Int) := by rw [rangeSize_one]; split <;> omega
    have fin := fun (I : Addr) => k I [I] [I] (fun i h => IsRangeIter h I (0 + (i : Nat) * 1) ((n : Int) - (i : Nat)) 1)
    refine fin _ _ g₁ _ (Nat.succ_pos _) ((e₁.trans pa).trans pb) (IsIt.ofWalks (P := fun i v => i < n ∧ ∃ t, v = .int (0 + (i : Nat) * 1) t) ?_ (fun i v hv => ?_) ?_ ?_ ?_) ?_ ?_
    · rw [List.length_map, List.length_range]
      exact (Walks.range hh _ 0 1 n).bound
    · obtain ⟨hi, t, rfl⟩ := hv
      exact ⟨.int i, by simp [hi], by simpa using (Rd.int (i : Int) t : Rd prog w g₁ _ _)⟩
    · intro b hb
      rw [List.mem_singleton.mp hb]
      exact ⟨(e₁.trans pa).size, nt, none_of_size O2⟩
    · exact fun b hb => .inl hb
    · exact fun i s' t v Q' E' st q hv _ => own_go (show s'.heap.get? _ = some _ from st) rfl rfl (by decide +kernel) q
    · show IsRangeIter _ _ _ _ _
      have q := Heap.get?_push_size (h₁.push { cls := .type "range", data := .fields #[.int 0 tk₁, .int n tn, .int 1 (tk₁ + 1)] }) (o := { cls := .type "range_iterator", data := .fields #[rawInt 0, rawInt (Builtin.Range.rangeSize 0 n 1), rawInt 1] }) rfl
      rw [hz] at q ⊢
      simpa using q
    · intro b hb
      rw [List.mem_singleton.mp hb]
      show _ < (Heap.push _ _).objs.size
      rw [Heap.size_push (Heap.push _ _)]; exact Nat.lt_succ_self _
noncomputable def chars (y : Str) : List Dt := y.cps.toList.map fun c => .str ⟨#[c]⟩
/-- a text, sign by sign -/
theorem src_str {iter t : Expr} {y : Str} (hh : A.handled = none) (x : Ev prog w W A env ρ iter (.str y)) : Src prog w W A env ρ iter t (chars y) := fun g s Q E S k => by
  refine (x.run g s S).use S.pos fun v h₁ g₁ tk₁ p₁ e₁ r₁ => ?_
  have O1 := (S.ext e₁ p₁).toOk
  obtain ⟨u, rfl⟩ := r₁.inv
  refine wpAny_pyIter_str fun o St W₁ st => ?_
  have px := ext_push e₁.sub o
  have nt := not_tab_size O1
  have hn : (chars y).length = y.cps.size := by simp [chars]
  refine k _ _ _ _ _ g₁ tk₁ p₁ (e₁.trans px) (IsIt.ofWalks (P := SignAt y) (by rw [hn]; exact W₁ _ hh) (fun i v hv => ?_) ?_ ?_ ?_) st ?_
  · obtain ⟨c, u', hc, rfl⟩ := hv
    exact ⟨.str ⟨#[c]⟩, by simp [chars, hc], .str ..⟩
  · intro b hb
    rw [List.mem_singleton.mp hb]
    exact ⟨e₁.size, nt, none_of_size O1⟩
  · exact fun b hb => .inl hb
  · intro i s' t v Q' E' st q hv hj
    obtain ⟨j, c, u', hc, rfl⟩ := hj
    cases t <;> exact wpAny_pure q
  · intro b hb
    rw [List.mem_singleton.mp hb]
    show _ < (Heap.push _ _).objs.size
    rw [Heap.size_push]; exact Nat.lt_succ_self _
end
end Mine
end
section
open PySem PySem.W PySem.Spec PySem.Calls PyProof.Rows PySem.Builtin PySem.Builtin.Str
set_option Elab.async false
set_option tactic.hygienic false
set_option linter.unusedVariables false
set_option maxRecDepth 100000
namespace Mine
section
variable {prog : Program} {w : World} {W : Wo} {A : Around} {env : Env} {g h g' h' g'' h'' : Heap} {ρ : Str → Option Dt}

/-- a turn of the innermost loop of a list comprehension -/
noncomputable def TurnLast (prog : Program) (w : World) (A : Around) (elt target : Expr) (it acc : Value) (env : Env) (R : Result → Shared → Prop) (I : Nat → Shared → Prop) (n : Nat) (s : Shared) : Prop :=
  NextGo prog w A target it (fun r s₁ => match r with
    | none => R (.ok .next) s₁
    | some v => wpAny (model prog w) A (assign target env v) (fun _ s₂ => wpAny (model prog w) A (eval elt env) (fun x s₃ =>
        wpAny (model prog w) A (call (.builtin "list.append") [acc, x]) (fun _ s₄ => ∃ m, m < n ∧ I m s₄) (notedBy (model prog w) A env fun e s' => R (.error e) s') s₃)
        (notedBy (model prog w) A env fun e s' => R (.error e) s') s₂) (notedBy (model prog w) A env fun e s' => R (.error e) s') s₁) (notedBy (model prog w) A env fun e s' => R (.error e) s') s
theorem turn_body {elt target iter : Expr} {it acc : Value} {c : Code} {R : Result → Shared → Prop} {I : Nat → Shared → Prop} {n : Nat} {s : Shared} (T : TurnLast prog w A elt target it acc env R I n s) :
    wpAny (model prog w) A (standAt iter.pos >>= fun _ => pyNext it >>= fun r => match r with
      | none => pure (.done .next)
      | some v => letOwnedTupleGo target it v >>= fun _ => assign target env v >>= fun _ =>
        (eval elt env >>= fun x => call (.builtin "list.append") [acc, x] >>= fun _ => pure ()) >>= fun _ => again c)
      (fun fin s' => match fin with | .done f => R (.ok f) s' | .again c' => c' = c ∧ ∃ m, m < n ∧ I m s') (notedBy (model prog w) A env fun e s' => R (.error e) s') s := by
  refine wpAny_bind (wpAny_standAt (wpAny_bind (wpAny_mono T (fun r s₁ h₁ => ?_) fun _ _ h' => h')))
  cases r with
  | none => exact wpAny_pure h₁
  | some v =>
    refine wpAny_bind (wpAny_mono h₁ (fun _ s₁' h₁' => ?_) fun _ _ h' => h')
    exact wpAny_bind (wpAny_mono h₁' (fun _ s₂ h₂ => wpAny_bind (wpAny_bind (wpAny_mono h₂ (fun x s₃ h₃ => wpAny_bind (wpAny_mono h₃
      (fun _ s₄ h₄ => wpAny_pure (wpAny_pure ⟨rfl, h₄⟩)) fun _ _ h' => h')) fun _ _ h' => h'))) fun _ _ h' => h')
/-- the loop c goes by such turns -/
noncomputable def Goes (prog : Program) (w : World) (A : Around) (elt target : Expr) (it acc : Value) (env : Env) (c : Code) : Prop :=
  ∀ (R : Result → Shared → Prop) (I : Nat → Shared → Prop), (∀ n s, I n s → TurnLast prog w A elt target it acc env R I n s) → ∀ n s, I n s → codeAny (model prog w) A c R s
theorem goes1 {elt target iter : Expr} {scope : Scope} {pos : Pos} {it acc : Value} : Goes prog w A elt target it acc env (.compLoop (.ListComp elt [⟨target, iter, [], 0⟩] scope pos) 0 it acc env) := fun R I turn n s h => by
  refine codeAny_loop rfl I (fun n s hI => ?_) n h
  show wpAny _ _ ((compTurn (.ListComp elt [⟨target, iter, [], 0⟩] scope pos) 0 it acc env).onRaise (fun x => do noteFrame x env; theTreesLotGoes x)) _ _ s
  refine wpAny_noted ?_
  rw [compTurn_list1]
  exact turn_body (turn n s hI)
theorem compTurn_last2 (elt t₀ i₀ target iter : Expr) (scope : Scope) (pos : Pos) (it acc : Value) (env : Env) :
    compTurn (.ListComp elt [⟨t₀, i₀, [], 0⟩, ⟨target, iter, [], 0⟩] scope pos) 1 it acc env = (standAt iter.pos >>= fun _ => pyNext it >>= fun r => match r with
      | none => pure (.done .next)
      | some v => letOwnedTupleGo target it v >>= fun _ => assign target env v >>= fun _ =>
        (eval elt env >>= fun x => call (.builtin "list.append") [acc, x] >>= fun _ => pure ()) >>= fun _ =>
          again (.compLoop (.ListComp elt [⟨t₀, i₀, [], 0⟩, ⟨target, iter, [], 0⟩] scope pos) 1 it acc env)) := by rfl
theorem goes2 {elt t₀ i₀ target iter : Expr} {scope : Scope} {pos : Pos} {it acc : Value} : Goes prog w A elt target it acc env (.compLoop (.ListComp elt [⟨t₀, i₀, [], 0⟩, ⟨target, iter, [], 0⟩] scope pos) 1 it acc env) := fun R I turn n s h => by
  refine codeAny_loop rfl I (fun n s hI => ?_) n h
  show wpAny _ _ ((compTurn (.ListComp elt [⟨t₀, i₀, [], 0⟩, ⟨target, iter, [], 0⟩] scope pos) 1 it acc env).onRaise (fun x => do noteFrame x env; theTreesLotGoes x)) _ _ s
  refine wpAny_noted ?_
  rw [compTurn_last2]
  exact turn_body (turn n s hI)

noncomputable def ovl (bs : List (Str × Dt)) (ρ : Str → Option Dt) : Str → Option Dt := fun x => match bs.lookup x with
  | some d => some d
  | none => ρ x

theorem plainList_ne_ns {h : Heap} {D C : Addr} {ys : Array Value} {m : Str → Option Value} (a : h.PlainList D ys) (b : h.Ns C m) : D ≠ C := by
  obtain ⟨n, e⟩ := a
  obtain ⟨o, es, ep, ho, hd, _⟩ := b
  rintro rfl
  rw [e] at ho; cases ho; cases hd

theorem ns_unique {h : Heap} {C : Addr} {m m' : Str → Option Value} (a : h.Ns C m) (b : h.Ns C m') (x : Str) : m x = m' x := by
  obtain ⟨o, es, ep, ho, hd, _, hf⟩ := a
  obtain ⟨o', es', ep', ho', hd', _, hf'⟩ := b
  rw [ho] at ho'
  cases ho'
  rw [hd] at hd'
  cases hd'
  rw [← hf, hf']

/-- the state of a comprehension under way: its frame, its list -/
structure Acc (prog : Program) (w : World) (W : Wo) (cenv : Env) (D : Addr) (ρ : Str → Option Dt) (g : Heap) (s : Shared) (rs : List Dt) : Prop where
  se : SE prog w W cenv g s ρ
  ns : ∃ m, s.heap.Ns cenv.locals m
  acc : ∃ ys, s.heap.PlainList D ys ∧ Rds prog w g ys.toList rs
  offC : g.get? cenv.locals = none
  offD : g.get? D = none
  tD : isTab D = false
  cD : ∀ p ∈ cenv.cells, p.2 ≠ D ∧ p.2 ≠ cenv.locals

theorem Acc.extX {cenv : Env} {D : Addr} {X : List Addr} {s : Shared} {tk : Nat} {rs : List Dt} (x : Acc prog w W cenv D ρ g s rs) (e : ExtX X g s.heap g' h') (p : 0 < tk) (hX : ∀ b ∈ X, b ≠ cenv.locals ∧ b ≠ D ∧ ∀ p ∈ cenv.cells, p.2 ≠ b) :
    Acc prog w W cenv D ρ g' { s with heap := h', toks := tk } rs := by
  have nC : cenv.locals ∉ X := fun q => (hX _ q).1 rfl
  have nD : D ∉ X := fun q => (hX _ q).2.1 rfl
  obtain ⟨m, o, es, ep, ho, r⟩ := x.ns
  obtain ⟨ys, ⟨n, hy⟩, hr⟩ := x.acc
  refine ⟨x.se.extX e p nC fun p hp q => (hX _ q).2.2 p hp rfl, ⟨m, o, es, ep, e.keep _ _ x.se.lv.2 nC ho, r⟩, ⟨ys, ⟨n, e.keep _ _ x.tD nD hy⟩, hr.mono (ExtX.grow x.se.sub e)⟩, ?_, ?_, x.tD, x.cD⟩
  · rw [e.same _ x.se.lv.1]; exact x.offC
  · rw [e.same _ (Heap.lt_size hy)]; exact x.offD
theorem Acc.ext {cenv : Env} {D : Addr} {s : Shared} {tk : Nat} {rs : List Dt} (x : Acc prog w W cenv D ρ g s rs) (e : Ext g s.heap g' h') (p : 0 < tk) : Acc prog w W cenv D ρ g' { s with heap := h', toks := tk } rs :=
  x.extX (X := []) e.toX p (fun _ q => nomatch q)

/-- a store into the frame -/
theorem extX_of_but {a : Addr} {h h' : Heap} (k : Kp g h) (off : g.get? a = none) (hk : ∀ b o, b ≠ a → h.get? b = some o → h'.get? b = some o) (z : h.objs.size ≤ h'.objs.size) : ExtX [a] g h g h' :=
  ⟨fun b o _ n e => hk b o (fun q => n (by rw [q]; exact .head _)) e, z, fun b o e => hk b o (fun q => by rw [q, off] at e; cases e) (k b o e), fun _ _ => rfl⟩

theorem lookup_mem' {β : Type} {x : Str} {c : β} {l : List (Str × β)} (h : l.lookup x = some c) : (x, c) ∈ l := by
  induction l with
  | nil => cases h
  | cons y l ih =>
    rw [List.lookup_cons] at h
    cases q : x == y.1 with
    | true => rw [q] at h; cases h; rw [eq_of_beq q]; exact .head _
    | false => rw [q] at h; exact .tail _ (ih h)
theorem lookup_mem {β : Type} {x : Str} {d : β} {bs : List (Str × β)} (h : bs.lookup x = some d) : x ∈ bs.map (·.1) := List.mem_map_of_mem (f := (·.1)) (lookup_mem' h)
theorem ovl_none {bs : List (Str × Dt)} {y : Str} (h : bs.lookup y = none) : ovl bs ρ y = ρ y := by unfold ovl; rw [h]
/-- a target in a comprehension's frame takes its datum -/
theorem Acc.bind {cenv : Env} {D : Addr} {s : Shared} {rs : List Dt} {t : Expr} {d : Dt} {bs : List (Str × Dt)} {v : Value} {Q : Unit → Shared → Prop} {E : Value → Shared → Prop} (a : Acc prog w W cenv D ρ g s rs) (hh : A.handled = none) (p : Pat t d bs) (hk : ∀ x ∈ bs.map (·.1), cenv.kindOf x = some .local) (nd : (bs.map (·.1)).Nodup)
    (dj : ∀ y e, ρ y = some e → bs.lookup y = none) (r : Rd prog w g v d) (k : ∀ h' tk, 0 < tk → Acc prog w W cenv D (ovl bs ρ) g { s with heap := h', toks := tk } rs → ExtX [cenv.locals] g s.heap g h' → Q () { s with heap := h', toks := tk }) : wpAny (model prog w) A (assign t cenv v) Q E s := by
  obtain ⟨m₂, n₂⟩ := a.ns
  refine grows a.se.pos (pat_assign hh p hk nd a.se.fn a.se.pos a.se.sub n₂ r fun h₃ tk₃ m₃ p₃ k₃ n₃ b₃ c₃ => fun _ z₃ => ?_)
  have x₃ : ExtX [cenv.locals] g s.heap g h₃ := extX_of_but a.se.sub a.offC k₃ z₃
  have stay : ∀ y u, bs.lookup y = none → Holds cenv s.heap y u → Holds cenv h₃ y u := fun y u hb hu => by
    rcases hu with ⟨q1, q2, m', n', hm'⟩ | ⟨q1, cc, q2, q3, o, q4, q5⟩
    · exact .inl ⟨q1, q2, m₃, n₃, (c₃ y hb).trans ((ns_unique n₂ n' y).trans hm')⟩
    · exact .inr ⟨q1, cc, q2, q3, o, x₃.keep _ _ q3 (fun z => (a.cD (y, cc) (lookup_mem' q2)).2 (List.mem_singleton.mp z)) q4, q5⟩
  obtain ⟨ys, ⟨nn, hy⟩, hr'⟩ := a.acc
  refine k h₃ tk₃ p₃ ⟨⟨a.se.toOk.extX x₃ p₃, a.se.fn, a.se.gl, a.se.bt, ⟨Nat.lt_of_lt_of_le a.se.lv.1 x₃.size, a.se.lv.2⟩, fun q hq => ⟨Nat.lt_of_lt_of_le (a.se.cv q hq).1 x₃.size, (a.se.cv q hq).2⟩, fun y d' q => ?_⟩, ⟨m₃, n₃⟩, ⟨ys, ⟨nn, k₃ _ _ (plainList_ne_ns ⟨nn, hy⟩ n₂) hy⟩, hr'⟩, a.offC, a.offD, a.tD, a.cD⟩ x₃
  unfold ovl at q
  cases hb : bs.lookup y with
  | some d'' =>
    rw [hb] at q; cases q
    obtain ⟨u, hu, ru⟩ := b₃ y _ hb
    exact ⟨u, .inl ⟨hk y (lookup_mem hb), a.se.lv.2, m₃, n₃, hu⟩, ru⟩
  | none =>
    rw [hb] at q
    obtain ⟨u, hu, ru⟩ := a.se.vars y d' q
    exact ⟨u, stay y u hb hu, ru⟩
theorem Acc.less {cenv : Env} {D : Addr} {s : Shared} {rs : List Dt} {ρ' : Str → Option Dt} (a : Acc prog w W cenv D ρ g s rs) (h : ∀ y e, ρ' y = some e → ρ y = some e) : Acc prog w W cenv D ρ' g s rs :=
  { a with se := { a.se with vars := fun y e q => a.se.vars y e (h y e q) } }

/-- where a loop of a comprehension stands -/
inductive LInv (prog : Program) (w : World) (W : Wo) (cenv : Env) (D : Addr) (ρ : Str → Option Dt) (g : Heap) (s : Shared) (N : Nat) (acc : Nat → List Dt) (X : List Addr) (St : Nat → Heap → Prop) (Z : Nat → Heap → Heap → Prop) (n : Nat) (s' : Shared) : Prop
  | mk (i : Nat) (g' h' : Heap) (tk : Nat) : n + i = N + 1 → i ≤ N → s' = { s with heap := h', toks := tk } → 0 < tk → Acc prog w W cenv D ρ g' s' (acc i) → ExtX X g s.heap g' h' → St i h' → Z i g' h' → LInv prog w W cenv D ρ g s N acc X St Z n s'
/-- the loop, whole; its items may change things at Y -/
theorem loop_lastX {elt target : Expr} {it : Addr} {cenv : Env} {D : Addr} {c : Code} {R : Result → Shared → Prop} {fp wr : List Addr} {St : Nat → Heap → Prop} {ds out rs : List Dt} {s : Shared} {h₀ : Heap} {Y : List Addr} {Z : Nat → Heap → Heap → Prop}
    (hh : A.handled = none) (G : Goes prog w A elt target (.ref it) (.ref D) cenv c) (a : Acc prog w W cenv D ρ g s rs) (I : IsIt prog w W A target g h₀ it fp wr St ds) (st : St 0 s.heap) (hw : ∀ b ∈ wr, b ≠ cenv.locals ∧ b ≠ D ∧ (∀ p ∈ cenv.cells, p.2 ≠ b) ∧ b < s.heap.objs.size)
    (hl : out.length = ds.length) (hz : rs.length + ds.length ≤ sizeLine)
    (zf : ∀ i g h g' h', Z i g h → Kp g g' → (∀ a ∈ Y, ∀ o, h.get? a = some o → h'.get? a = some o) → Z i g' h')
    (hY : ∀ a ∈ Y, a ≠ cenv.locals ∧ a ≠ D ∧ a ∉ wr ∧ (∀ p ∈ cenv.cells, p.2 ≠ a) ∧ a < s.heap.objs.size ∧ g.get? a = none) (z0 : Z 0 g s.heap)
    (helt : ∀ (i : Nat) d r, ds[i]? = some d → out[i]? = some r → ∃ bs, Pat target d bs ∧ (∀ x ∈ bs.map (·.1), cenv.kindOf x = some .local) ∧ (bs.map (·.1)).Nodup ∧ (∀ y e, ρ y = some e → bs.lookup y = none) ∧
      ∀ g₁ s₁ (Q : Value → Shared → Prop) (E : Value → Shared → Prop), Kp g g₁ → SE prog w W cenv g₁ s₁ (ovl bs ρ) → Z i g₁ s₁.heap → (∀ a ∈ Y, g₁.get? a = none ∧ a < s₁.heap.objs.size) →
        (∀ v g' h' tk, 0 < tk → ExtX Y g₁ s₁.heap g' h' → Rd prog w g' v r → Z (i + 1) g' h' → Q v { s₁ with heap := h', toks := tk }) → wpAny (model prog w) A (eval elt cenv) Q E s₁)
    (k : ∀ g' h' tk, 0 < tk → Acc prog w W cenv D ρ g' { s with heap := h', toks := tk } (rs ++ out) → ExtX (cenv.locals :: D :: (wr ++ Y)) g s.heap g' h' → Z ds.length g' h' → R (.ok .next) { s with heap := h', toks := tk }) : codeAny (model prog w) A c R s := by
  refine G R (LInv prog w W cenv D ρ g s ds.length (fun i => rs ++ out.take i) (cenv.locals :: D :: (wr ++ Y)) St Z) ?_ (ds.length + 1) s ?_
  · rintro n s' ⟨i, g₁, h₁, tk₁, hn, hi, rfl, p₁, a₁, e₁, st₁, y₁⟩
    have gw : ∀ b ∈ wr, g₁.get? b = none := fun b hb => (e₁.same b (hw b hb).2.2.2).trans (I.new b hb).2.2
    have gr₁ : Kp g g₁ := ExtX.grow a.se.sub e₁
    have offw : ∀ b ∈ wr, b ≠ cenv.locals ∧ b ≠ D ∧ ∀ p ∈ cenv.cells, p.2 ≠ b := fun b hb => ⟨(hw b hb).1, (hw b hb).2.1, (hw b hb).2.2.1⟩
    unfold TurnLast
    rcases Nat.lt_or_eq_of_le hi with hlt | rfl
    · cases n with
      | zero =>
        rw [Nat.zero_add] at hn
        rw [hn] at hlt
        exact absurd hlt (Nat.not_lt.mpr (Nat.le_succ _))
      | succ n =>
        have hd := List.getElem?_eq_getElem hlt
        have hr := List.getElem?_eq_getElem (hl ▸ hlt)
        refine I.item i _ g₁ _ _ _ hd a₁.se.toOk gr₁ gw st₁ fun v g₂ h₂ tk₂ p₂ x₂ rd st₂ => ?_
        have a₂ := a₁.extX x₂ p₂ offw
        have y₂ := zf i _ _ _ _ y₁ (ExtX.grow a₁.se.sub x₂) fun b hb o e => x₂.keep b o rfl (hY b hb).2.2.1 e
        obtain ⟨bs, pt, hk, nd, dj, ev⟩ := helt i _ _ hd hr
        refine a₂.bind hh pt hk nd dj rd fun h₃ tk₃ p₃ a₃ x₃ => ?_
        refine ev g₂ _ _ _ (gr₁.trans (ExtX.grow a₁.se.sub x₂)) a₃.se (zf i _ _ _ _ y₂ (Kp.refl _) fun b hb o e => x₃.keep b o rfl (fun z => (hY b hb).1 (List.mem_singleton.mp z)) e)
          (fun b hb => ⟨(x₂.same b (Nat.lt_of_lt_of_le (hY b hb).2.2.2.2.1 e₁.size)).trans ((e₁.same b (hY b hb).2.2.2.2.1).trans (hY b hb).2.2.2.2.2), Nat.lt_of_lt_of_le (hY b hb).2.2.2.2.1 (Nat.le_trans e₁.size (Nat.le_trans x₂.size x₃.size))⟩) fun y g₄ h₄ tk₄ p₄ e₄ r₄ y₄ => ?_
        have a₄ := (a₃.extX e₄ p₄ fun b hb => ⟨(hY b hb).1, (hY b hb).2.1, (hY b hb).2.2.2.1⟩).less (ρ' := ρ) fun y e q => by rw [ovl_none (dj y e q)]; exact q
        obtain ⟨ys, hy, hr'⟩ := a₄.acc
        have hys : ys.size ≤ sizeLine := by
          rw [← Array.length_toList, hr'.length, List.length_append]
          exact Nat.le_trans (Nat.add_le_add_left (Nat.le_trans (List.length_take_le' ..) (Nat.le_of_eq hl)) _) hz
        refine wpAny_list_append_plain (hsz := hys) hy fun h₅ hl₅ hs₅ => ?_
        have x₅ : ExtX [D] g₄ h₄ g₄ h₅ := extX_of_but a₄.se.sub a₄.offD (fun b o hb e => hs₅.extBut b o hb e) (Nat.le_of_eq hs₅.1.symm)
        refine ⟨n, Nat.lt_succ_self n, i + 1, g₄, h₅, tk₄, (Nat.add_right_comm n i 1).trans hn, hlt, rfl, p₄, ?_, ?_, ?_, zf _ _ _ _ _ y₄ (Kp.refl _) fun b hb o e => hs₅.extBut b o (hY b hb).2.1 e⟩
        · obtain ⟨m₄, n₄⟩ := a₄.ns
          refine ⟨a₄.se.extX x₅ p₄ (fun q => plainList_ne_ns hy n₄ (List.mem_singleton.mp q).symm) fun p hp q => (a₄.cD p hp).1 (List.mem_singleton.mp q), ⟨m₄, n₄.sameBut hs₅ (Ne.symm (plainList_ne_ns hy n₄))⟩, ⟨_, hl₅, ?_⟩, a₄.offC, a₄.offD, a₄.tD, a₄.cD⟩
          rw [List.take_add_one, hr, ← List.append_assoc, Array.toList_push]
          exact hr'.append (.cons r₄ .nil)
        · exact (((e₁.trans (x₂.mono fun b hb => .tail _ (.tail _ (List.mem_append_left _ hb)))).trans (x₃.mono fun b hb => by rw [List.mem_singleton.mp hb]; exact .head _)).trans (e₄.mono fun b hb => .tail _ (.tail _ (List.mem_append_right _ hb)))).trans (x₅.mono fun b hb => by rw [List.mem_singleton.mp hb]; exact .tail _ (.head _))
        · refine I.frame _ _ _ st₂ fun b hb o e => ?_
          have f : b ≠ cenv.locals ∧ b ≠ D ∧ b ∉ Y := by
            rcases I.fpo b hb with q | ⟨q1, q2⟩
            · exact ⟨(hw b q).1, (hw b q).2.1, fun z => (hY b z).2.2.1 q⟩
            · exact ⟨fun e => (by rw [e, a.offC] at q2; cases q2), fun e => (by rw [e, a.offD] at q2; cases q2), fun z => (by rw [(hY b z).2.2.2.2.2] at q2; cases q2)⟩
          exact hs₅.extBut b o f.2.1 (e₄.keep b o rfl f.2.2 (x₃.keep b o rfl (fun z => f.1 (List.mem_singleton.mp z)) e))
    · refine I.done g₁ _ _ _ a₁.se.toOk gr₁ gw st₁ fun g₂ h₂ tk₂ p₂ x₂ => ?_
      have a₂ := a₁.extX x₂ p₂ offw
      rw [← hl, List.take_length] at a₂
      exact k g₂ h₂ tk₂ p₂ a₂ (e₁.trans (x₂.mono fun b hb => .tail _ (.tail _ (List.mem_append_left _ hb)))) (zf _ _ _ _ _ y₁ (ExtX.grow a₁.se.sub x₂) fun b hb o e => x₂.keep b o rfl (hY b hb).2.2.1 e)
  · exact ⟨0, g, s.heap, s.toks, rfl, Nat.zero_le _, rfl, a.se.pos, by rw [List.take_zero, List.append_nil]; exact a, ⟨fun _ _ _ _ e => e, Nat.le_refl _, a.se.sub, fun _ _ => rfl⟩, st, z0⟩
theorem loop_last {elt target : Expr} {it : Addr} {cenv : Env} {D : Addr} {c : Code} {R : Result → Shared → Prop} {fp wr : List Addr} {St : Nat → Heap → Prop} {ds out rs : List Dt} {s : Shared} {h₀ : Heap}
    (hh : A.handled = none) (G : Goes prog w A elt target (.ref it) (.ref D) cenv c) (a : Acc prog w W cenv D ρ g s rs) (I : IsIt prog w W A target g h₀ it fp wr St ds) (st : St 0 s.heap) (hw : ∀ b ∈ wr, b ≠ cenv.locals ∧ b ≠ D ∧ (∀ p ∈ cenv.cells, p.2 ≠ b) ∧ b < s.heap.objs.size)
    (hl : out.length = ds.length) (hz : rs.length + ds.length ≤ sizeLine)
    (helt : ∀ (i : Nat) d r, ds[i]? = some d → out[i]? = some r → ∃ bs, Pat target d bs ∧ (∀ x ∈ bs.map (·.1), cenv.kindOf x = some .local) ∧ (bs.map (·.1)).Nodup ∧ (∀ y e, ρ y = some e → bs.lookup y = none) ∧ Ev prog w W A cenv (ovl bs ρ) elt r)
    (k : ∀ g' h' tk, 0 < tk → Acc prog w W cenv D ρ g' { s with heap := h', toks := tk } (rs ++ out) → ExtX (cenv.locals :: D :: wr) g s.heap g' h' → R (.ok .next) { s with heap := h', toks := tk }) : codeAny (model prog w) A c R s :=
  loop_lastX (Y := []) (Z := fun _ _ _ => True) hh G a I st hw hl hz (fun _ _ _ _ _ z _ _ => z) (fun _ h => nomatch h) trivial
    (fun i d r hd hr => (helt i d r hd hr).imp fun bs b => ⟨b.1, b.2.1, b.2.2.1, b.2.2.2.1, fun g₁ s₁ Q E _ S _ _ kk => (b.2.2.2.2.run g₁ s₁ S).use S.pos fun v h' g' tk p e r => kk v g' h' tk p e.toX r trivial⟩)
    fun g' h' tk p a e _ => k g' h' tk p a (by rw [List.append_nil] at e; exact e)
end
end Mine
end
section
open PySem PySem.W PySem.Spec PySem.Calls PyProof.Rows PySem.Builtin PySem.Builtin.Str
set_option Elab.async false
set_option tactic.hygienic false
set_option linter.unusedVariables false
set_option maxRecDepth 100000
namespace Mine
section
variable {prog : Program} {w : World} {W : Wo} {A : Around} {env : Env} {g h g' h' g'' h'' : Heap} {ρ : Str → Option Dt}

theorem aNe {a b : Nat} (h : @Ne Nat a b) : @Ne Addr a b := h
theorem aLt {a b : Nat} (h : @LT.lt Nat _ a b) : @LT.lt Addr _ a b := h
theorem aLtN {a b : Addr} (h : @LT.lt Addr _ a b) : @LT.lt Nat _ a b := h
theorem szN {h : Heap} {a : Addr} {o : Obj} (e : h.get? a = some o) : @LT.lt Nat _ a h.objs.size := Heap.lt_size e
theorem aEq {a b : Addr} (h : a = b) : @Eq Nat a b := h
theorem aEq' {a b : Nat} (h : @Eq Nat a b) : @Eq Addr a b := h
/-- the names that a comprehension takes from around it -/
noncomputable def ClOk (env : Env) (scope : Scope) (cl : List (Str × Addr)) (ns : List Str) : Prop :=
  ∀ x ∈ ns, (env.kindOf x = some .cell ∨ env.kindOf x = some .free) ∧ ((relabel scope env).names.lookup x = some .cell ∨ (relabel scope env).names.lookup x = some .free) ∧ cl.lookup x = env.cells.lookup x
noncomputable def clρ (ns : List Str) (ρ : Str → Option Dt) : Str → Option Dt := fun x => if ns.contains x then ρ x else none
theorem clok_nil {scope : Scope} {cl : List (Str × Addr)} : ClOk env scope cl [] := fun _ h => nomatch h
theorem clok_cell {scope : Scope} {cl : List (Str × Addr)} {x : Str} {ns : List Str} (r : ClOk env scope cl ns) (h1 : env.kindOf x = some .cell) (h2 : (relabel scope env).names.lookup x = some .cell) (h3 : cl.lookup x = env.cells.lookup x) : ClOk env scope cl (x :: ns) := fun y hy => by
  rcases List.mem_cons.mp hy with rfl | hy
  · exact ⟨.inl h1, .inl h2, h3⟩
  · exact r y hy

/-- the outermost loop of a comprehension, from the start -/
noncomputable def LoopSpec (prog : Program) (w : World) (W : Wo) (A : Around) (env : Env) (ρc : Str → Option Dt) (e target : Expr) (scope : Scope) (cl : List (Str × Addr)) (ds out : List Dt) : Prop :=
  ∀ C D g s it h₀ fp wr St R, IsIt prog w W A target g h₀ it fp wr St ds → Acc prog w W (compEnvC scope cl C env) D ρc g s [] → St 0 s.heap → (∀ b ∈ wr, b ≠ C ∧ b ≠ D ∧ (∀ p ∈ cl, p.2 ≠ b) ∧ b < s.heap.objs.size) →
    (∀ g' h' tk, 0 < tk → Acc prog w W (compEnvC scope cl C env) D ρc g' { s with heap := h', toks := tk } out → ExtX (C :: D :: wr) g s.heap g' h' → R (.ok .next) { s with heap := h', toks := tk }) →
    codeAny (model prog w) A (.compLoop e 0 (.ref it) (.ref D) (compEnvC scope cl C env)) R s

theorem spec1 {elt target iter : Expr} {scope : Scope} {pos : Pos} {cl : List (Str × Addr)} {ρc : Str → Option Dt} {ds out : List Dt} (hh : A.handled = none) (hl : out.length = ds.length) (hz : ds.length ≤ sizeLine)
    (helt : ∀ C (i : Nat) d r, ds[i]? = some d → out[i]? = some r → ∃ bs, Pat target d bs ∧ (∀ x ∈ bs.map (·.1), (compEnvC scope cl C env).kindOf x = some .local) ∧ (bs.map (·.1)).Nodup ∧ (∀ y e, ρc y = some e → bs.lookup y = none) ∧ Ev prog w W A (compEnvC scope cl C env) (ovl bs ρc) elt r) :
    LoopSpec prog w W A env ρc (.ListComp elt [⟨target, iter, [], 0⟩] scope pos) target scope cl ds out := fun C D g s it h₀ fp wr St R I a st hw k =>
  loop_last hh goes1 a I st hw hl (by simpa using hz) (helt C) k

set_option tactic.hygienic true in
theorem comp_core {elt target iter : Expr} {ifs : List Expr} {rest : List Comprehension} {scope : Scope} {pos : Pos} {cl : List (Str × Addr)} {ns : List Str} {ds out : List Dt} {it : Addr} {h₀ : Heap} {fp wr : List Addr} {St : Nat → Heap → Prop} {s : Shared} {R : Value → Addr → Result → Shared → Prop} {E : Value → Shared → Prop}
    (L : LoopSpec prog w W A env (clρ ns ρ) (.ListComp elt (⟨target, iter, ifs, 0⟩ :: rest) scope pos) target scope cl ds out)
    (hcl : ∀ p ∈ cl, p ∈ env.cells) (hco : ClOk env scope cl ns) (hkind : scope.kind = .function) (hcell : ∀ y ∈ scope.names, y.2 ≠ .cell)
    (I : IsIt prog w W A target g h₀ it fp wr St ds) (S : SE prog w W env g s ρ) (ec : ∀ p ∈ env.cells, p.2 < h₀.objs.size) (st : St 0 s.heap) (hw : ∀ b ∈ wr, b < s.heap.objs.size)
    (k : ∀ D C g' h' tk, 0 < tk → ExtX wr g s.heap g' h' → s.heap.objs.size ≤ D → s.heap.objs.size ≤ C → isTab D = false → isTab C = false → D ≠ C → (∃ m, h'.Ns C m) → g'.get? D = none → g'.get? C = none → (∃ ys, h'.PlainList D ys ∧ Rds prog w g' ys.toList out) → D < h'.objs.size →
      R (.ref D) C (.ok .next) { s with heap := h', toks := tk }) :
    wpAny (model prog w) A (newList []) (fun acc s₃ => wpAny (model prog w) A (newFunctionEnv scope env.globals cl [] env.qual none .none (some env)) (fun cenv s₄ =>
      codeAny (model prog w) A (.compStart (.ListComp elt (⟨target, iter, ifs, 0⟩ :: rest) scope pos) 0 (.ref it) acc { cenv with scope := relabel scope env }) (R acc cenv.locals) s₄) E s₃) E s := by
  have nt := not_tab_size S.toOk
  have fD := none_of_size S.toOk
  have gC : g.get? (s.heap.objs.size + 1) = none := by
    cases e : g.get? (s.heap.objs.size + 1) with
    | none => rfl
    | some o => exact absurd (Nat.lt_succ_self _) (Nat.not_lt.mpr (Nat.le_of_lt (Heap.lt_size (S.sub _ _ e))))
  have ntC : isTab (s.heap.objs.size + 1) = false := by
    cases e : isTab (s.heap.objs.size + 1) with
    | false => rfl
    | true => exact absurd (Nat.lt_succ_self _) (Nat.not_lt.mpr (Nat.le_of_lt (S.tb _ e)))
  refine wpAny_newObj_type (wpAny_newFunctionEnv hcell (fun y hy => nomatch hy) (fun h₁ hns₁ hsb₁ => ?_) hkind)
  have zC : (s.heap.push { cls := .type "list", dict := none, data := .seq ([] : List Value).toArray }).objs.size = s.heap.objs.size + 1 := Heap.size_push ..
  dsimp only at hns₁ hsb₁ ⊢
  rw [zC] at hns₁ hsb₁ ⊢
  have hl₁ : h₁.objs.size = s.heap.objs.size + 2 := by rw [hsb₁.1, Heap.size_push, zC]
  have old : ∀ b o, s.heap.get? b = some o → h₁.get? b = some o := fun b o e => by
    have := szN e
    exact hsb₁.extBut b o (aNe (by omega)) (Heap.get?_push_of_some _ (Heap.get?_push_of_some _ e))
  have hacc : h₁.PlainList s.heap.objs.size #[] := ⟨_, hsb₁.extBut _ _ (aNe (by omega)) (Heap.get?_push_of_some _ (Heap.get?_push_size _ rfl))⟩
  have e₁ : Ext g s.heap g h₁ := ⟨fun b o _ e => old b o e, by omega, fun b o e => old b o (S.sub b o e), fun _ _ => rfl⟩
  have cb : ∀ p ∈ cl, p.2 < s.heap.objs.size := fun p hp => (S.cv p (hcl p hp)).1
  have a₁ : Acc prog w W (compEnvC scope cl (s.heap.objs.size + 1) env) s.heap.objs.size (clρ ns ρ) g { s with heap := h₁, toks := s.toks + ([] : List (Str × Value)).length } [] := by
    refine ⟨⟨S.toOk.ext e₁ (Nat.lt_of_lt_of_le S.pos (Nat.le_add_right ..)), hkind, S.gl, S.bt, ⟨aLt (by show @LT.lt Nat _ _ h₁.objs.size; rw [hl₁]; show s.heap.objs.size + 1 < _; omega), ntC⟩, fun p hp => ⟨aLt (by have := aLtN (cb p hp); show @LT.lt Nat _ _ h₁.objs.size; omega), (S.cv p (hcl p hp)).2⟩, fun x d hx => ?_⟩, ⟨_, hns₁⟩, ⟨#[], hacc, .nil⟩, gC, fD, nt, fun p hp => ?_⟩
    · unfold clρ at hx
      split at hx
      · rename_i hn
        obtain ⟨q1, q2, q3⟩ := hco x (List.contains_iff_mem.mp hn)
        obtain ⟨v, hv, rv⟩ := S.vars x d hx
        refine ⟨v, ?_, rv⟩
        rcases hv with ⟨z, _⟩ | ⟨z, c, b, t, o, ho, hd⟩
        · rw [z] at q1; rcases q1 with q1 | q1 <;> cases q1
        · exact .inr ⟨q2, c, q3.trans b, t, o, old _ _ ho, hd⟩
      · cases hx
    · have := aLtN (cb p hp)
      exact ⟨aNe (by omega), aNe (by show @Ne Nat p.2 (s.heap.objs.size + 1); omega)⟩
  have st₁ : St 0 h₁ := I.frame _ _ _ st fun b _ o e => old b o e
  have loop : codeAny (model prog w) A (.compLoop (.ListComp elt (⟨target, iter, ifs, 0⟩ :: rest) scope pos) 0 (.ref it) (.ref s.heap.objs.size) (compEnvC scope cl (s.heap.objs.size + 1) env)) (R (.ref s.heap.objs.size) (s.heap.objs.size + 1)) { s with heap := h₁, toks := s.toks + ([] : List (Str × Value)).length } := by
    refine L (s.heap.objs.size + 1) s.heap.objs.size g _ it h₀ fp wr St _ I a₁ st₁ (fun b hb => ?_) fun g' h' tk p a e => ?_
    · have := aLtN (hw b hb)
      exact ⟨aNe (by omega), aNe (by omega), fun p hp q => by have := aLtN (ec p (hcl p hp)); have := (I.new b hb).1; have := aEq q; omega, aLt (by show @LT.lt Nat _ b h₁.objs.size; omega)⟩
    · have ex : ExtX ((s.heap.objs.size + 1) :: s.heap.objs.size :: wr) g s.heap g' h' := e₁.toX.trans e
      refine k _ _ g' h' tk p ⟨fun b o t n q => ex.keep b o t (fun q' => ?_) q, ex.size, ex.sub, ex.same⟩ (Nat.le_refl _) (Nat.le_succ _) nt ntC (aNe (by omega)) a.ns a.offD a.offC a.acc (Nat.lt_of_lt_of_le (by show @LT.lt Nat _ _ h₁.objs.size; omega) e.size)
      have := szN q
      rcases List.mem_cons.mp q' with q' | q'
      · have := aEq q'; omega
      · rcases List.mem_cons.mp q' with q' | q'
        · have := aEq q'; omega
        · exact n q'
  exact codeAny_compStart_list loop (I.self 0 _ _ _ st₁ loop)

/-- new at X: as if nothing but the new -/
theorem Ext.transX {X : List Addr} (x : Ext g h g' h') (y : ExtX X g' h' g'' h'') (f : ∀ a ∈ X, h.objs.size ≤ a) : Ext g h g'' h'' :=
  ⟨fun b o t e => y.keep b o t (fun q => Nat.lt_irrefl _ (Nat.lt_of_lt_of_le (Heap.lt_size e) (f b q))) (x.keep b o t e), Nat.le_trans x.size y.size, y.sub, fun a e => (y.same a (Nat.lt_of_lt_of_le e x.size)).trans (x.same a e)⟩
theorem ExtX.transX {X Y : List Addr} (x : ExtX Y g h g' h') (y : ExtX X g' h' g'' h'') (f : ∀ a ∈ X, h.objs.size ≤ a ∨ a ∈ Y) : ExtX Y g h g'' h'' :=
  ⟨fun b o t n e => y.keep b o t (fun q => (f b q).elim (fun z => Nat.lt_irrefl _ (Nat.lt_of_lt_of_le (Heap.lt_size e) z)) n) (x.keep b o t n e), Nat.le_trans x.size y.size, y.sub, fun a e => (y.same a (Nat.lt_of_lt_of_le e x.size)).trans (x.same a e)⟩
theorem ExtX.nil (x : ExtX [] g h g' h') : Ext g h g' h' := ⟨fun b o t e => x.keep b o t (fun q => nomatch q) e, x.size, x.sub, x.same⟩
/-- an object off g is taken into g -/
theorem ext_claim {a : Addr} {o : Obj} (k : Kp g h) (e : h.get? a = some o) (n : h''.objs.size ≤ a) (x : Ext g'' h'' g h) : Ext g'' h'' (gput g a o) h := by
  obtain ⟨_, hf⟩ := Heap.get?_some_iff.mp e
  refine ⟨x.keep, x.size, fun b o' q => ?_, fun b hb => ?_⟩
  · by_cases hb : b = a
    · subst hb
      rw [gput_self _ _ _ hf] at q
      cases q
      exact e
    · rw [gput_other _ _ hb] at q
      exact k b o' q
  · rw [gput_other _ _ (aNe (by omega))]
    exact x.same b hb
theorem extX_claim {X : List Addr} {a : Addr} {o : Obj} (k : Kp g h) (e : h.get? a = some o) (n : h''.objs.size ≤ a) (x : ExtX X g'' h'' g h) : ExtX X g'' h'' (gput g a o) h :=
  have y := ext_claim (g'' := g) (h'' := ⟨#[], h.life⟩) k e (Nat.zero_le _) ⟨fun b o _ q => by have := Heap.lt_size q; exact absurd this (Nat.not_lt_zero _), Nat.zero_le _, k, fun a q => absurd q (Nat.not_lt_zero _)⟩
  ⟨x.keep, x.size, y.sub, fun b hb => by
    rw [gput_other _ _ (aNe (by omega))]
    exact x.same b hb⟩
theorem kp_gput {a : Addr} {o : Obj} (n : g.get? a = none) : Kp g (gput g a o) := fun b o' e => by
  rw [gput_other _ _ (fun q => by subst q; rw [n] at e; cases e)]; exact e

theorem ev_comp {elt target iter : Expr} {rest : List Comprehension} {scope : Scope} {pos : Pos} {cl : List (Str × Addr)} (ns : List Str) {ds out : List Dt} (src : Src prog w W A env ρ iter target ds)
    (hclos : closureFor scope env = pure cl) (hcl : ∀ p ∈ cl, p ∈ env.cells) (hco : ClOk env scope cl ns)
    (L : LoopSpec prog w W A env (clρ ns ρ) (.ListComp elt (⟨target, iter, [], 0⟩ :: rest) scope pos) target scope cl ds out)
    (hkind : scope.kind = .function := by rfl) (hcell : ∀ y ∈ scope.names, y.2 ≠ .cell := by decide)
    (hnames : ∀ x ∈ scope.names, x.2 = .local → scope.names.lookup x.1 = some .local := by decide) (hs : ∀ x, foldedSetIterable iter env x = pure x := by intro _; rfl) :
    Ev prog w W A env ρ (.ListComp elt (⟨target, iter, [], 0⟩ :: rest) scope pos) (.lst out) := .mk fun g s S Q E q => by
  rw [eval_ListComp]
  refine wpAny_comprehension_free (use := none) rfl hs hclos hkind hnames ?_
  refine src g s _ E S fun I fp wr St h₁ g₁ tk₁ p₁ e₁ it st hw => ?_
  refine comp_core L hcl hco hkind hcell it (S.ext e₁ p₁) (fun p hp => (S.cv p hp).1) st hw fun D C g₂ h₂ tk₂ p₂ e₂ hD hC tD tC nDC ns₂ oD oC acc zD => ?_
  obtain ⟨m, hm⟩ := ns₂
  refine ⟨m, hm, fun h₃ hs₃ => ?_⟩
  obtain ⟨ys, ⟨n, hy⟩, hr⟩ := acc
  have x : Ext g s.heap g₂ h₂ := e₁.transX e₂ fun a ha => (it.new a ha).1
  have x₃ : Ext g s.heap g₂ h₃ := x.transX (extX_of_but x.sub oC (fun b o hb e => hs₃.extBut b o hb e) (Nat.le_of_eq hs₃.1.symm)) fun a ha => by
    rw [List.mem_singleton.mp ha]; exact Nat.le_trans e₁.size hC
  have hy₃ := hs₃.extBut D _ nDC hy
  exact q _ h₃ _ tk₂ (ext_claim x₃.sub hy₃ (Nat.le_trans e₁.size hD) x₃) (.lst (gput_self _ _ _ rfl) (hr.mono (kp_gput oD)))
end
end Mine
end
section
open PySem PySem.W PySem.Spec PySem.Calls PyProof.Rows PySem.Builtin PySem.Builtin.Str
set_option Elab.async false
set_option tactic.hygienic false
set_option linter.unusedVariables false
set_option maxRecDepth 100000
namespace Mine
section
variable {prog : Program} {w : World} {W : Wo} {A : Around} {env : Env} {g h g' h' g'' h'' : Heap} {ρ : Str → Option Dt}
theorem compTurn_first2 (elt t₀ i₀ t₁ i₁ : Expr) (scope : Scope) (pos : Pos) (it acc : Value) (env : Env) :
    compTurn (.ListComp elt [⟨t₀, i₀, [], 0⟩, ⟨t₁, i₁, [], 0⟩] scope pos) 0 it acc env = (standAt i₀.pos >>= fun _ => pyNext it >>= fun r => match r with
      | none => pure (.done .next)
      | some v => letOwnedTupleGo t₀ it v >>= fun _ => assign t₀ env v >>= fun _ =>
        (eval i₁ env >>= fun x => standAt i₁.pos >>= fun _ => foldedSetIterable i₁ env x >>= fun x => holding [x] (pyIter x) >>= fun it' =>
          runOwn (.compStart (.ListComp elt [⟨t₀, i₀, [], 0⟩, ⟨t₁, i₁, [], 0⟩] scope pos) 1 it' acc env) env >>= fun _ =>
          again (.compLoop (.ListComp elt [⟨t₀, i₀, [], 0⟩, ⟨t₁, i₁, [], 0⟩] scope pos) 0 it acc env))) := by rfl
theorem compStart_1 {elt t₀ i₀ t₁ i₁ : Expr} {scope : Scope} {pos : Pos} {it acc : Value} {R : Result → Shared → Prop} {s : Shared}
    (h0 : codeAny (model prog w) A (.compLoop (.ListComp elt [⟨t₀, i₀, [], 0⟩, ⟨t₁, i₁, [], 0⟩] scope pos) 1 it acc env) R s)
    (h : wpAny (model prog w) A (pyIter it) (fun it' s' => codeAny (model prog w) A (.compLoop (.ListComp elt [⟨t₀, i₀, [], 0⟩, ⟨t₁, i₁, [], 0⟩] scope pos) 1 it' acc env) R s')
      (notedBy (model prog w) A env fun x s' => R (.error x) s') s) :
    codeAny (model prog w) A (.compStart (.ListComp elt [⟨t₀, i₀, [], 0⟩, ⟨t₁, i₁, [], 0⟩] scope pos) 1 it acc env) R s := by
  refine codeAny_of_tree ?_
  show wpAny _ _ ((compStart (.ListComp elt [⟨t₀, i₀, [], 0⟩, ⟨t₁, i₁, [], 0⟩] scope pos) 1 it acc env).onRaise (fun x => do noteFrame x env; standAt theWindowsPlace)) _ _ s
  refine wpAny_notedAt ?_
  unfold compStart
  show wpAny _ _ (ask >>= _) _ _ s
  refine wpAny_bind (wpAny_askSetting (wpAny_ite ?_))
  split
  · first
      | exact wpAny_bind (wpAny_pure (wpAny_pure (And.intro rfl h0)))
      | exact wpAny_pure (And.intro rfl h0)
  · refine wpAny_bind (wpAny_rule ?_)
    show wpAny _ _ (standAt i₁.pos >>= _) _ _ s
    exact wpAny_bind (wpAny_standAt (wpAny_bind (wpAny_mono h (fun it' s' h' => wpAny_pure (And.intro rfl h')) fun _ _ x => x)))
theorem ExtX.drop {X Y : List Addr} (x : ExtX (X ++ Y) g h g' h') (f : ∀ a ∈ Y, h.objs.size ≤ a) : ExtX X g h g' h' :=
  ⟨fun b o t n e => x.keep b o t (fun q => by
    rcases List.mem_append.mp q with q | q
    · exact n q
    · exact Nat.lt_irrefl _ (Nat.lt_of_lt_of_le (Heap.lt_size e) (f b q))) e, x.size, x.sub, x.same⟩
theorem next_some {t : Expr} {it : Value} {k0 : Sem PySem.Fin} {kv : Value → Sem PySem.Fin} {Q : PySem.Fin → Shared → Prop} {E : Value → Shared → Prop} {s : Shared} (h : NextGo prog w A t it (fun r s₂ => match r with | none => wpAny (model prog w) A k0 Q E s₂ | some v => wpAny (model prog w) A (kv v) Q E s₂) E s) :
    wpAny (model prog w) A (pyNext it) (fun r s₁ => wpAny (model prog w) A (match r with | none => k0 | some v => letOwnedTupleGo t it v >>= fun _ => kv v) Q E s₁) E s :=
  wpAny_mono h (fun r s₁ h₁ => by
    cases r with
    | none => exact h₁
    | some v => exact wpAny_bind h₁) fun _ _ e => e
theorem spec2 {elt t₀ i₀ t₁ i₁ : Expr} {scope : Scope} {pos : Pos} {cl : List (Str × Addr)} {ρc : Str → Option Dt} {ds : List Dt} {outs : List (List Dt)} (hh : A.handled = none) (hl : outs.length = ds.length) (hz : outs.flatten.length ≤ sizeLine) (hs : ∀ cenv x, foldedSetIterable i₁ cenv x = pure x)
    (ht : ∀ C (i : Nat) d os, ds[i]? = some d → outs[i]? = some os → ∃ bs ds', Pat t₀ d bs ∧ (∀ x ∈ bs.map (·.1), (compEnvC scope cl C env).kindOf x = some .local) ∧ (bs.map (·.1)).Nodup ∧ (∀ y e, ρc y = some e → bs.lookup y = none) ∧
      Src prog w W A (compEnvC scope cl C env) (ovl bs ρc) i₁ t₁ ds' ∧ os.length = ds'.length ∧
      ∀ (j : Nat) d' r, ds'[j]? = some d' → os[j]? = some r → ∃ bs', Pat t₁ d' bs' ∧ (∀ x ∈ bs'.map (·.1), (compEnvC scope cl C env).kindOf x = some .local) ∧ (bs'.map (·.1)).Nodup ∧ (∀ y e, ovl bs ρc y = some e → bs'.lookup y = none) ∧ Ev prog w W A (compEnvC scope cl C env) (ovl bs' (ovl bs ρc)) elt r) :
    LoopSpec prog w W A env ρc (.ListComp elt [⟨t₀, i₀, [], 0⟩, ⟨t₁, i₁, [], 0⟩] scope pos) t₀ scope cl ds outs.flatten := fun C D g s it h₀ fp wr St R I a st hw k => by
  refine codeAny_loop rfl (LInv prog w W (compEnvC scope cl C env) D ρc g s ds.length (fun i => (outs.take i).flatten) (C :: D :: wr) St fun _ _ _ => True)
    (fun n s' hI => ?_) (ds.length + 1) ⟨0, g, s.heap, s.toks, rfl, Nat.zero_le _, rfl, a.se.pos, by simpa using a, ⟨fun _ _ _ _ e => e, Nat.le_refl _, a.se.sub, fun _ _ => rfl⟩, st, trivial⟩
  obtain ⟨i, g₁, h₁, tk₁, hn, hi, rfl, p₁, a₁, e₁, st₁, -⟩ := hI
  show wpAny _ _ ((compTurn _ 0 _ _ _).onRaise (fun x => do noteFrame x (compEnvC scope cl C env); theTreesLotGoes x)) _ _ _
  refine wpAny_noted ?_
  rw [compTurn_first2]
  refine wpAny_bind (wpAny_standAt (wpAny_bind ?_))
  have gw : ∀ b ∈ wr, g₁.get? b = none := fun b hb => (e₁.same b (hw b hb).2.2.2).trans (I.new b hb).2.2
  have fo : ∀ b ∈ fp, b ≠ C ∧ b ≠ D ∧ isTab b = false := fun b hb => by
    rcases I.fpo b hb with q | ⟨q1, q2⟩
    · exact ⟨(hw b q).1, (hw b q).2.1, (I.new b q).2.1⟩
    · refine ⟨fun e => ?_, fun e => ?_, q1⟩
      · rw [e] at q2
        have := a.offC
        rw [show (compEnvC scope cl C env).locals = C from rfl] at this
        rw [this] at q2; cases q2
      · rw [e, a.offD] at q2; cases q2
  have gr₁ : Kp g g₁ := ExtX.grow a.se.sub e₁
  by_cases hlt : i < ds.length
  · obtain ⟨d, hd⟩ : ∃ d, ds[i]? = some d := ⟨_, List.getElem?_eq_getElem hlt⟩
    obtain ⟨os, ho⟩ : ∃ os, outs[i]? = some os := ⟨_, List.getElem?_eq_getElem (by rw [hl]; exact hlt)⟩
    obtain ⟨bs, ds', pt, hk, nd, dj, src, hlen, helt⟩ := ht C i d os hd ho
    refine next_some (I.item i d g₁ _ _ _ hd a₁.se.toOk gr₁ gw st₁ fun v g₂ h₂ tk₂ p₂ x₂ rd st₂ => ?_)
    have a₂ := a₁.extX x₂ p₂ fun b hb => ⟨(hw b hb).1, (hw b hb).2.1, (hw b hb).2.2.1⟩
    refine wpAny_bind (a₂.bind hh pt hk nd dj rd fun h₃ tk₃ p₃ a₃ x₃ => ?_)
    refine wpAny_bind (wpAny_mono (src g₂ _ _ _ a₃.se fun I' fp' wr' St' h₅ g₅ tk₅ p₅ e₅ it' st' hw' => ?_) (fun x s₄ h₄ => wpAny_bind (wpAny_standAt (wpAny_bind (wpAny_of_eq (hs _ x) (wpAny_bind (wpAny_holding h₄)))))) fun _ _ e => e)
    have a₅ := a₃.ext e₅ p₅
    have tk1 : (outs.take (i + 1)).flatten = (outs.take i).flatten ++ os := by
      rw [List.take_add_one, ho, List.flatten_append]; simp
    have hz' : (outs.take i).flatten.length + ds'.length ≤ sizeLine := by
      have h1 : (outs.take (i + 1)).flatten.length ≤ outs.flatten.length := by
        have := congrArg (fun l => (List.flatten l).length) (List.take_append_drop (i + 1) outs)
        simp only [List.flatten_append, List.length_append] at this
        omega
      rw [tk1, List.length_append, hlen] at h1
      omega
    have loop : ∀ R' : Result → Shared → Prop, (∀ g' h' tk, 0 < tk → Acc prog w W (compEnvC scope cl C env) D (ovl bs ρc) g' { s with heap := h', toks := tk } ((outs.take i).flatten ++ os) → ExtX (C :: D :: wr') g₅ h₅ g' h' → R' (.ok .next) { s with heap := h', toks := tk }) →
        codeAny (model prog w) A (.compLoop (.ListComp elt [⟨t₀, i₀, [], 0⟩, ⟨t₁, i₁, [], 0⟩] scope pos) 1 (.ref I') (.ref D) (compEnvC scope cl C env)) R' { s with heap := h₅, toks := tk₅ } := fun R' kR =>
      loop_last hh goes2 a₅ it' st' (fun b hb => by
        have n1 := (it'.new b hb).1
        refine ⟨fun q => ?_, fun q => ?_, fun p hp q => ?_, hw' b hb⟩
        · rw [q] at n1; exact absurd a₃.se.lv.1 (Nat.not_lt.mpr n1)
        · obtain ⟨ys, ⟨nn, hy⟩, _⟩ := a₃.acc
          rw [q] at n1; exact absurd (Heap.lt_size hy) (Nat.not_lt.mpr n1)
        · rw [← q] at n1; exact absurd (a₃.se.cv p hp).1 (Nat.not_lt.mpr n1)) hlen hz' helt kR
    refine wpAny_bind (wpAny_runOwn (compStart_1 (loop _ ?_) (it'.self 0 _ _ _ st' (loop _ ?_))))
    all_goals
      intro g₆ h₆ tk₆ p₆ a₆ e₆
      have x₆ : ExtX [C, D] g₂ h₃ g₆ h₆ := ExtX.drop (X := [C, D]) (Y := wr') (e₅.toX.trans e₆) fun b hb => (it'.new b hb).1
      refine wpAny_pure ⟨rfl, n - 1, by omega, i + 1, g₆, h₆, tk₆, by omega, hlt, rfl, p₆, ?_, ?_, ?_, trivial⟩
      · rw [tk1]
        exact a₆.less fun y e q => by rw [ovl_none (dj y e q)]; exact q
      · exact ((e₁.trans (x₂.mono fun b hb => .tail _ (.tail _ hb))).trans (x₃.mono fun b hb => by rw [List.mem_singleton.mp hb]; exact .head _)).trans (x₆.mono fun b hb => by
          rcases List.mem_cons.mp hb with rfl | hb
          · exact .head _
          · rw [List.mem_singleton.mp hb]; exact .tail _ (.head _))
      · refine I.frame _ _ _ st₂ fun b hb o e => ?_
        obtain ⟨f1, f2, f3⟩ := fo b hb
        exact x₆.keep b o f3 (fun q => by
          rcases List.mem_cons.mp q with q | q
          · exact f1 q
          · exact f2 (List.mem_singleton.mp q)) (x₃.keep b o f3 (fun q => f1 (List.mem_singleton.mp q)) e)
  · have hin : i = ds.length := by omega
    subst hin
    refine next_some (I.done g₁ _ _ _ a₁.se.toOk gr₁ gw st₁ fun g₂ h₂ tk₂ p₂ x₂ => ?_)
    have a₂ := a₁.extX x₂ p₂ fun b hb => ⟨(hw b hb).1, (hw b hb).2.1, (hw b hb).2.2.1⟩
    rw [← hl, List.take_length] at a₂
    exact wpAny_pure (k g₂ h₂ tk₂ p₂ a₂ (e₁.trans (x₂.mono fun b hb => .tail _ (.tail _ hb))))
end
end Mine
end
section
open PySem PySem.W PySem.Spec PySem.Calls PyProof.Rows PySem.Builtin PySem.Builtin.Str
set_option Elab.async false
set_option tactic.hygienic false
set_option linter.unusedVariables false
set_option maxRecDepth 100000
namespace Mine

/-- a thing that is under way, off the stable part -/
structure Own where
  fp : List Addr
  xs : List Addr := []
  O : Heap → Heap → Prop
  ok : ∀ {g h g' h' : Heap}, O g h → Kp g h → Kp g' h' → Kp g g' → (∀ a ∈ fp, ∀ o, h.get? a = some o → h'.get? a = some o) → O g' h'
noncomputable def lk (l : List (Str × Dt)) : Str → Option Dt := fun x => l.lookup x

section
variable {prog : Program} {w : World} {W : Wo} {A : Around} {env : Env} {g g₀ h g' h' g'' h'' : Heap} {s s₀ : Shared} {l l' : List (Str × Dt)} {ν ν' : List (Str × Value)} {os : List Own}

/-- the state of a def's frame -/
structure Fs (prog : Program) (w : World) (W : Wo) (env : Env) (g₀ : Heap) (s₀ : Shared) (l : List (Str × Dt)) (ν : List (Str × Value)) (os : List Own) (g : Heap) (s : Shared) : Prop where
  se : SE prog w W env g s (lk l)
  sh : s = { s₀ with heap := s.heap, toks := s.toks }
  bs : ExtX W.X g₀ s₀.heap g s.heap
  ns : ∃ m, s.heap.Ns env.locals m
  nwL : s₀.heap.objs.size ≤ env.locals
  ofL : g.get? env.locals = none
  nwC : ∀ p ∈ env.cells, s₀.heap.objs.size ≤ p.2 ∧ p.2 ≠ env.locals ∧ g.get? p.2 = none ∧ ∃ ov, s.heap.IsCell p.2 ov
  cn : ∀ x y c, (x, c) ∈ env.cells → (y, c) ∈ env.cells → x = y
  raw : ∀ x v, ν.lookup x = some v → Holds env s.heap x v
  ow : ∀ o ∈ os, o.O g s.heap ∧ ∀ a ∈ o.fp, (s₀.heap.objs.size ≤ a ∨ a ∈ o.xs ∧ a ∈ W.X) ∧ a < s.heap.objs.size ∧ isTab a = false ∧ g.get? a = none ∧ a ≠ env.locals ∧ ∀ p ∈ env.cells, p.2 ≠ a
  dj : os.Pairwise (fun x y => ∀ a ∈ x.fp, a ∉ y.fp)

theorem Fs.extX {X : List Addr} {tk : Nat} (F : Fs prog w W env g₀ s₀ l ν os g s) (e : ExtX X g s.heap g' h') (p : 0 < tk) (hX : ∀ a ∈ X, (s₀.heap.objs.size ≤ a ∨ a ∈ W.X) ∧ a ≠ env.locals ∧ (∀ p ∈ env.cells, p.2 ≠ a) ∧ ∀ o ∈ os, a ∉ o.fp) :
    Fs prog w W env g₀ s₀ l ν os g' { s with heap := h', toks := tk } := by
  have nL : env.locals ∉ X := fun q => (hX _ q).2.1 rfl
  have nC : ∀ p ∈ env.cells, p.2 ∉ X := fun p hp q => (hX _ q).2.2.1 p hp rfl
  have gr := ExtX.grow F.se.sub e
  refine ⟨F.se.extX e p nL nC, by rw [F.sh], F.bs.transX e fun a ha => (hX a ha).1, ?_, F.nwL, (e.same _ F.se.lv.1).trans F.ofL, fun q hq => ?_, F.cn, fun x v hx => (F.raw x v hx).extX e nL nC, fun o ho => ?_, F.dj⟩
  · obtain ⟨m, o, es, ep, ho, r⟩ := F.ns
    exact ⟨m, o, es, ep, e.keep _ _ F.se.lv.2 nL ho, r⟩
  · obtain ⟨a1, a2, a3, ov, o, ho, hd⟩ := F.nwC q hq
    exact ⟨a1, a2, (e.same _ (F.se.cv q hq).1).trans a3, ov, o, e.keep _ _ (F.se.cv q hq).2 (nC q hq) ho, hd⟩
  · obtain ⟨a1, a2⟩ := F.ow o ho
    refine ⟨o.ok a1 F.se.sub e.sub gr fun a ha o' ho' => e.keep _ _ (a2 a ha).2.2.1 (fun q => (hX a q).2.2.2 o ho ha) ho', fun a ha => ?_⟩
    obtain ⟨b1, b2, b3, b4, b5⟩ := a2 a ha
    exact ⟨b1, Nat.lt_of_lt_of_le b2 e.size, b3, (e.same _ b2).trans b4, b5⟩
theorem Fs.ext {tk : Nat} (F : Fs prog w W env g₀ s₀ l ν os g s) (e : Ext g s.heap g' h') (p : 0 < tk) : Fs prog w W env g₀ s₀ l ν os g' { s with heap := h', toks := tk } :=
  F.extX (X := []) e.toX p fun _ q => nomatch q

/-- a store into the frame, into one of its cells -/
theorem Fs.put {b : Addr} {tk : Nat} (F : Fs prog w W env g₀ s₀ l ν os g s) (e : ExtX [b] g s.heap g h') (hb : b = env.locals ∨ ∃ p ∈ env.cells, p.2 = b) (p : 0 < tk) (ns' : ∃ m, h'.Ns env.locals m)
    (cells' : ∀ p ∈ env.cells, ∃ ov, h'.IsCell p.2 ov) (hl : ∀ x d, l'.lookup x = some d → ∃ v, Holds env h' x v ∧ Rd prog w g v d) (hr : ∀ x v, ν'.lookup x = some v → Holds env h' x v) :
    Fs prog w W env g₀ s₀ l' ν' os g { s with heap := h', toks := tk } := by
  have bn : s₀.heap.objs.size ≤ b := by
    rcases hb with rfl | ⟨q, hq, rfl⟩
    · exact F.nwL
    · exact (F.nwC q hq).1
  refine ⟨⟨F.se.toOk.extX e p, F.se.fn, F.se.gl, F.se.bt, ⟨Nat.lt_of_lt_of_le F.se.lv.1 e.size, F.se.lv.2⟩, fun q hq => ⟨Nat.lt_of_lt_of_le (F.se.cv q hq).1 e.size, (F.se.cv q hq).2⟩, hl⟩, by rw [F.sh], F.bs.transX e fun a ha => by rw [List.mem_singleton.mp ha]; exact .inl bn, ns', F.nwL, F.ofL,
    fun q hq => ⟨(F.nwC q hq).1, (F.nwC q hq).2.1, (F.nwC q hq).2.2.1, cells' q hq⟩, F.cn, hr, fun o ho => ?_, F.dj⟩
  obtain ⟨a1, a2⟩ := F.ow o ho
  refine ⟨o.ok a1 F.se.sub e.sub (Kp.refl g) fun a ha o' ho' => e.keep _ _ (a2 a ha).2.2.1 (fun q => ?_) ho', fun a ha => ?_⟩
  · rw [List.mem_singleton] at q
    subst q
    rcases hb with q | ⟨q, hq, q'⟩
    · exact (a2 a ha).2.2.2.2.1 q
    · exact (a2 a ha).2.2.2.2.2 q hq q'
  · obtain ⟨b1, b2, b3, b4, b5⟩ := a2 a ha
    exact ⟨b1, Nat.lt_of_lt_of_le b2 e.size, b3, b4, b5⟩

theorem mem_of_lk {x : Str} {c : Addr} {l : List (Str × Addr)} (h : l.lookup x = some c) : (x, c) ∈ l := lookup_mem' h
/-- where a name of the frame lies -/
noncomputable def Slotted (env : Env) (x : Str) : Prop := env.kindOf x = some .local ∨ (env.kindOf x = some .cell ∧ ∃ c, env.cells.lookup x = some c)
noncomputable def slotB (env : Env) (x : Str) : Bool := match env.kindOf x with
  | some .local => true
  | some .cell => (env.cells.lookup x).isSome
  | _ => false
theorem slotted_of {x : Str} (h : slotB env x = true) : Slotted env x := by
  unfold slotB at h
  cases e : env.kindOf x with
  | none => rw [e] at h; cases h
  | some k =>
    rw [e] at h
    cases k with
    | «local» => exact .inl e
    | cell => exact .inr ⟨e, Option.isSome_iff_exists.mp h⟩
    | _ => cases h
theorem Fs.storeAny {x : Str} {v : Value} {Q : Unit → Shared → Prop} {E : Value → Shared → Prop} (F : Fs prog w W env g₀ s₀ l ν os g s) (hk : Slotted env x)
    (k : ∀ b h' tk, 0 < tk → ExtX [b] g s.heap g h' → (b = env.locals ∨ ∃ p ∈ env.cells, p.2 = b) → (∃ m, h'.Ns env.locals m) → (∀ p ∈ env.cells, ∃ ov, h'.IsCell p.2 ov) → Holds env h' x v → (∀ y u, (y == x) = false → Holds env s.heap y u → Holds env h' y u) → Q () { s with heap := h', toks := tk }) :
    wpAny (model prog w) A (storeName env x v) Q E s := by
  obtain ⟨m, hm⟩ := F.ns
  rcases hk with hk | ⟨hk, c, hc⟩
  · refine wpAny_storeName_local hk hm (fun h' hn hs => ?_) (by rw [F.se.fn]; rfl)
    have e : ExtX [env.locals] g s.heap g h' := extX_of_but F.se.sub F.ofL (fun b o hb e => hs.extBut b o hb e) (Nat.le_of_eq hs.1.symm)
    refine k env.locals h' _ (Nat.succ_pos _) e (.inl rfl) ⟨_, hn⟩ (fun p hp => ?_) (.inl ⟨hk, F.se.lv.2, _, hn, by simp⟩) fun y u hy hu => ?_
    · obtain ⟨ov, o, ho, hd⟩ := (F.nwC p hp).2.2.2
      exact ⟨ov, o, hs.extBut _ _ (F.nwC p hp).2.1 ho, hd⟩
    · rcases hu with ⟨q1, q2, m', n', hm'⟩ | ⟨q1, cc, q2, q3, o, q4, q5⟩
      · have : y ≠ x := fun q => by subst q; simp at hy
        exact .inl ⟨q1, q2, _, hn, by simp only [if_neg this]; exact (ns_unique hm n' y).trans hm'⟩
      · exact .inr ⟨q1, cc, q2, q3, o, hs.extBut _ _ (F.nwC _ (mem_of_lk q2)).2.1 q4, q5⟩
  · have hp := mem_of_lk hc
    obtain ⟨c1, c2, c3, ov, hov⟩ := F.nwC _ hp
    refine wpAny_storeName_cell F.se.fn hk hc hov fun h' hv hs => ?_
    have e : ExtX [c] g s.heap g h' := extX_of_but F.se.sub c3 (fun b o hb e => hs.extBut b o hb e) (Nat.le_of_eq hs.1.symm)
    refine k c h' _ F.se.pos e (.inr ⟨_, hp, rfl⟩) ⟨m, hm.sameBut hs (Ne.symm c2)⟩ (fun q hq => ?_) (.inr ⟨.inl hk, c, hc, (F.se.cv _ hp).2, hv⟩) fun y u hy hu => ?_
    · by_cases hqc : q.2 = c
      · rw [hqc]; exact ⟨_, hv⟩
      · obtain ⟨ov', o, ho, hd⟩ := (F.nwC q hq).2.2.2
        exact ⟨ov', o, hs.extBut _ _ hqc ho, hd⟩
    · rcases hu with ⟨q1, q2, m', n', hm'⟩ | ⟨q1, cc, q2, q3, o, q4, q5⟩
      · exact .inl ⟨q1, q2, m', n'.sameBut hs (Ne.symm c2), hm'⟩
      · refine .inr ⟨q1, cc, q2, q3, o, hs.extBut _ _ (fun q => ?_) q4, q5⟩
        subst q
        have := F.cn _ _ _ (mem_of_lk q2) hp
        subst this
        simp at hy
set_option tactic.hygienic true in
theorem Fs.store {x : Str} {v : Value} {d : Dt} {Q : Unit → Shared → Prop} {E : Value → Shared → Prop} (F : Fs prog w W env g₀ s₀ l ν os g s) (hk : Slotted env x) (r : Rd prog w g v d) (hν : ν.lookup x = none)
    (k : ∀ h' tk, Fs prog w W env g₀ s₀ ((x, d) :: l) ν os g { s with heap := h', toks := tk } → Q () { s with heap := h', toks := tk }) : wpAny (model prog w) A (storeName env x v) Q E s :=
  F.storeAny hk fun b h' tk p e hb n' c' hx hy => k h' tk (F.put e hb p n' c' (fun y d' q => by
    simp only [List.lookup_cons] at q
    split at q
    · rename_i q'; cases q; rw [eq_of_beq q']; exact ⟨v, hx, r⟩
    · rename_i q'
      obtain ⟨u, hu, ru⟩ := F.se.vars y d' q
      exact ⟨u, hy y u q' hu, ru⟩) fun y u q => hy y u (by
        cases q' : y == x with
        | false => rfl
        | true => rw [eq_of_beq q', hν] at q; cases q) (F.raw y u q))
set_option tactic.hygienic true in
theorem Fs.storeRaw {x : Str} {v : Value} {Q : Unit → Shared → Prop} {E : Value → Shared → Prop} (F : Fs prog w W env g₀ s₀ l ν os g s) (hk : Slotted env x) (hl : l.lookup x = none)
    (k : ∀ h' tk, Fs prog w W env g₀ s₀ l ((x, v) :: ν) os g { s with heap := h', toks := tk } → Q () { s with heap := h', toks := tk }) : wpAny (model prog w) A (storeName env x v) Q E s :=
  F.storeAny hk fun b h' tk p e hb n' c' hx hy => k h' tk (F.put e hb p n' c' (fun y d' q => by
    obtain ⟨u, hu, ru⟩ := F.se.vars y d' q
    exact ⟨u, hy y u (by
        cases q' : y == x with
        | false => rfl
        | true => have q2 : l.lookup y = some d' := q; rw [eq_of_beq q', hl] at q2; cases q2) hu, ru⟩) fun y u q => by
    simp only [List.lookup_cons] at q
    split at q
    · rename_i q'; cases q; rw [eq_of_beq q']; exact hx
    · rename_i q'; exact hy y u q' (F.raw y u q))
/-- fewer names -/
noncomputable def Sub : List (Str × Dt) → List (Str × Dt) → Prop
  | [], _ => True
  | (x, d) :: r, l => l.lookup x = some d ∧ Sub r l
set_option tactic.hygienic true in
theorem Sub.use {x : Str} {d : Dt} : ∀ {l' : List (Str × Dt)}, Sub l' l → l'.lookup x = some d → l.lookup x = some d
  | [], _, h => by simp at h
  | (y, e) :: r, h, q => by
    simp only [List.lookup_cons] at q
    split at q
    · rename_i q'; cases q; rw [eq_of_beq q']; exact h.1
    · exact Sub.use h.2 q
theorem Fs.weaken (F : Fs prog w W env g₀ s₀ l ν os g s) (h : Sub l' l) (hν : ∀ x v, ν'.lookup x = some v → ν.lookup x = some v) : Fs prog w W env g₀ s₀ l' ν' os g s :=
  { F with se := { F.se with vars := fun x d q => F.se.vars x d (h.use q) }, raw := fun x v q => F.raw x v (hν x v q) }
theorem Fs.perm {os' : List Own} (F : Fs prog w W env g₀ s₀ l ν os g s) (h : os'.Perm os) : Fs prog w W env g₀ s₀ l ν os' g s :=
  { F with ow := fun o ho => F.ow o (h.mem_iff.mp ho), dj := (h.pairwise_iff (fun {x y} q => fun a ha hb => q a hb ha)).mpr F.dj }
theorem Fs.drop {o : Own} (F : Fs prog w W env g₀ s₀ l ν (o :: os) g s) : Fs prog w W env g₀ s₀ l ν os g s :=
  { F with ow := fun o ho => F.ow o (.tail _ ho), dj := (List.pairwise_cons.mp F.dj).2 }

/-- the statements, from every such state -/
structure Go (prog : Program) (w : World) (W : Wo) (A : Around) (env : Env) (g₀ : Heap) (s₀ : Shared) (l : List (Str × Dt)) (ν : List (Str × Value)) (os : List Own) (body : List Stmt) (Q : Flow → Shared → Prop) (E : Value → Shared → Prop) : Prop where
  run : ∀ g s, Fs prog w W env g₀ s₀ l ν os g s → wpAny (model prog w) A (execs body env) Q E s
/-- a value that is the datum may be handed back -/
noncomputable def RetQ (prog : Program) (w : World) (g₀ : Heap) (s₀ : Shared) (d : Dt) (Q : Flow → Shared → Prop) : Prop :=
  ∀ v g' h' tk, Ext g₀ s₀.heap g' h' → Rd prog w g' v d → Q (.ret v) { s₀ with heap := h', toks := tk }

variable {Q : Flow → Shared → Prop} {E : Value → Shared → Prop} {rest : List Stmt}
theorem go_nil (h : ∀ g s, Fs prog w W env g₀ s₀ l ν os g s → Q .next s) : Go prog w W A env g₀ s₀ l ν os [] Q E := .mk fun g s F => wpAny_execs_nil (h g s F)
theorem go_weaken (h : Sub l' l) (hν : ∀ x v, ν'.lookup x = some v → ν.lookup x = some v) (k : Go prog w W A env g₀ s₀ l' ν' os rest Q E) : Go prog w W A env g₀ s₀ l ν os rest Q E := .mk fun g s F => k.run g s (F.weaken h hν)
theorem go_return {e : Expr} {pos : Pos} {d : Dt} (x : Ev prog w W A env (lk l) e d) (q : RetQ prog w g₀ s₀ d Q) (hX : W.X = [] := by rfl) : Go prog w W A env g₀ s₀ l ν os (.Return (some e) pos :: rest) Q E := .mk fun g s F =>
  wpAny_execs_cons (wpAny_Return_some ((x.run g s F.se).use F.se.pos fun v h' g' tk p e r => by
    have y := F.bs.transX (X := []) e.toX fun _ z => nomatch z
    rw [hX] at y
    have := q v g' h' tk y.nil r
    rw [F.sh]
    exact this))
theorem go_assign {x : Str} {px pos : Pos} {e : Expr} {d : Dt} (v : Ev prog w W A env (lk l) e d) (k : Go prog w W A env g₀ s₀ ((x, d) :: l) ν os rest Q E) (hk : Slotted env x := by exact slotted_of rfl) (hν : ν.lookup x = none := by rfl)
    (hs : swapsWith e (some (.Name x px)) pos.line env = pure false := by rfl) : Go prog w W A env g₀ s₀ l ν os (.Assign [.Name x px] e pos :: rest) Q E := .mk fun g s F =>
  wpAny_execs_cons (wpAny_Assign_Name ((v.run g s F.se).use F.se.pos fun v h' g' tk p e r => (F.ext e p).store hk r hν fun h₂ tk₂ F₂ => k.run g' _ F₂) hs)
theorem go_assign2 {x y : Str} {px py pos : Pos} {e : Expr} {d : Dt} (v : Ev prog w W A env (lk l) e d) (k : Go prog w W A env g₀ s₀ ((y, d) :: (x, d) :: l) ν os rest Q E) (hx : Slotted env x := by exact slotted_of rfl) (hy : Slotted env y := by exact slotted_of rfl) (h1 : ν.lookup x = none := by rfl) (h2 : ν.lookup y = none := by rfl)
    (hs : swapsWithSole [.Name x px, .Name y py] e pos.line env = pure false := by rfl) (hw : swappedStores [.Name x px, .Name y py] e env = pure none := by rfl) : Go prog w W A env g₀ s₀ l ν os (.Assign [.Name x px, .Name y py] e pos :: rest) Q E := .mk fun g s F =>
  wpAny_execs_cons (wpAny_Assign_two (t₁ := .Name x px) (t₂ := .Name y py) ((v.run g s F.se).use F.se.pos fun v h' g' tk p e r => wpAny_assign_Name ((F.ext e p).store hx r h1 fun h₂ tk₂ F₂ => wpAny_assign_Name (F₂.store hy r h2 fun h₃ tk₃ F₃ => k.run g' _ F₃))))
theorem go_if {test : Expr} {body orelse : List Stmt} {pos : Pos} {b : Bool} (t : Tst prog w W A env (lk l) test b)
    (hT : b = true → Go prog w W A env g₀ s₀ l ν os body (fun f s' => match f with | .next => wpAny (model prog w) A (execs rest env) Q E s' | f => Q f s') E)
    (hF : b = false → Go prog w W A env g₀ s₀ l ν os orelse (fun f s' => match f with | .next => wpAny (model prog w) A (execs rest env) Q E s' | f => Q f s') E) : Go prog w W A env g₀ s₀ l ν os (.If test body orelse pos :: rest) Q E := .mk fun g s F => by
  refine wpAny_execs_cons (wpAny_If (t.run g s F.se _ E fun h' g' tk p e => ?_))
  cases b with
  | true => exact (hT rfl).run g' _ (F.ext e p)
  | false => exact (hF rfl).run g' _ (F.ext e p)
theorem go_continue {pos : Pos} (h : ∀ g s, Fs prog w W env g₀ s₀ l ν os g s → Q .cont s) : Go prog w W A env g₀ s₀ l ν os (.Continue pos :: rest) Q E := .mk fun g s F => wpAny_execs_cons (wpAny_Continue (h g s F))
end
end Mine
end
section
open PySem PySem.W PySem.Spec PySem.Calls PyProof.Rows PySem.Builtin PySem.Builtin.Str
set_option Elab.async false
set_option tactic.hygienic false
set_option linter.unusedVariables false
set_option maxRecDepth 100000
namespace Mine
section
variable {prog : Program} {w : World} {W : Wo} {A : Around} {env : Env} {g g₀ h g' h' g'' h'' : Heap} {s s₀ : Shared} {l l' : List (Str × Dt)} {ν ν' : List (Str × Value)} {os : List Own}

theorem Fs.add {o : Own} (F : Fs prog w W env g₀ s₀ l ν os g s) (ho : o.O g s.heap) (hf : ∀ a ∈ o.fp, (s₀.heap.objs.size ≤ a ∨ a ∈ o.xs ∧ a ∈ W.X) ∧ a < s.heap.objs.size ∧ isTab a = false ∧ g.get? a = none ∧ a ≠ env.locals ∧ ∀ p ∈ env.cells, p.2 ≠ a)
    (hd : ∀ o' ∈ os, ∀ a ∈ o.fp, a ∉ o'.fp) : Fs prog w W env g₀ s₀ l ν (o :: os) g s :=
  { F with
    ow := fun o' ho' => by
      rcases List.mem_cons.mp ho' with rfl | ho'
      · exact ⟨ho, hf⟩
      · exact F.ow o' ho'
    dj := List.pairwise_cons.mpr ⟨hd, F.dj⟩ }
/-- the first thing under way goes on -/
theorem Fs.mut {o o' : Own} {tk : Nat} (F : Fs prog w W env g₀ s₀ l ν (o :: os) g s) (e : ExtX o.fp g s.heap g' h') (p : 0 < tk) (ho : o'.O g' h')
    (hf : ∀ a ∈ o'.fp, (a ∈ o.fp ∧ g'.get? a = none) ∨ (s.heap.objs.size ≤ a ∧ a < h'.objs.size ∧ isTab a = false ∧ g'.get? a = none)) (hxs : ∀ a ∈ o.xs, a ∈ o'.xs := by exact fun _ h => h) : Fs prog w W env g₀ s₀ l ν (o' :: os) g' { s with heap := h', toks := tk } := by
  obtain ⟨-, fo⟩ := F.ow o (.head _)
  have dj := (List.pairwise_cons.mp F.dj).1
  refine (F.drop.extX e p fun a ha => ⟨(fo a ha).1.imp id And.right, (fo a ha).2.2.2.2.1, (fo a ha).2.2.2.2.2, fun o'' ho'' => dj o'' ho'' a ha⟩).add ho (fun a ha => ?_) fun o'' ho'' a ha => ?_
  · rcases hf a ha with ⟨q, q'⟩ | ⟨q1, q2, q3, q4⟩
    · obtain ⟨b1, b2, b3, b4, b5, b6⟩ := fo a q
      exact ⟨b1.imp id fun z => ⟨hxs _ z.1, z.2⟩, Nat.lt_of_lt_of_le b2 e.size, b3, q', b5, b6⟩
    · refine ⟨.inl (Nat.le_trans F.bs.size q1), q2, q3, q4, fun q => ?_, fun p hp q => ?_⟩
      · rw [q] at q1; exact absurd F.se.lv.1 (Nat.not_lt.mpr q1)
      · rw [← q] at q1; exact absurd (F.se.cv p hp).1 (Nat.not_lt.mpr q1)
  · rcases hf a ha with ⟨q, -⟩ | ⟨q1, q2, q3, q4⟩
    · exact dj o'' ho'' a q
    · intro q
      exact absurd ((F.ow o'' (.tail _ ho'')).2 a q).2.1 (Nat.not_lt.mpr q1)

theorem plain_at {h h' : Heap} {D : Addr} {ys : Array Value} (a : h.PlainList D ys) (k : ∀ o, h.get? D = some o → h'.get? D = some o) : h'.PlainList D ys := let ⟨n, e⟩ := a; ⟨n, k _ e⟩
/-- a list that grows -/
noncomputable def ownL (prog : Program) (w : World) (D : Addr) (rs : List Dt) : Own where
  fp := [D]
  O := fun g h => ∃ ys, h.PlainList D ys ∧ Rds prog w g ys.toList rs
  ok := fun ⟨ys, a, b⟩ _ _ k f => ⟨ys, plain_at a (f D (.head _)), b.mono k⟩
theorem dictOf_at {h h' : Heap} {D : Addr} {kvs : List (Str × Value)} (a : h.DictOf (strKind prog w) D kvs) (k : ∀ o, h.get? D = some o → h'.get? D = some o) : h'.DictOf (strKind prog w) D kvs :=
  let ⟨o, es, ep, ho, r⟩ := a; ⟨o, es, ep, k _ ho, r⟩
/-- a dict that grows -/
noncomputable def ownD (prog : Program) (w : World) (D : Addr) (ds : List (Str × Str)) : Own where
  fp := [D]
  O := fun g h => ∃ kvs, h.DictOf (strKind prog w) D kvs ∧ StrVals kvs ds
  ok := fun ⟨kvs, a, b⟩ _ _ k f => ⟨kvs, dictOf_at a (f D (.head _)), b⟩

set_option tactic.hygienic true in
/-- what was under way is done: it is a datum now -/
theorem Fs.seal1 {o : Own} {ob : Obj} {x : Str} {D : Addr} {d : Dt} (F : Fs prog w W env g₀ s₀ l ((x, .ref D) :: ν) (o :: os) g s) (hν : ν.lookup x = none) (hfp : o.fp = [D]) (hob : s.heap.get? D = some ob) (rd : Kp g (gput g D ob) → Rd prog w (gput g D ob) (.ref D) d) (hnx : o.xs = [] := by rfl) :
    ∃ g', Fs prog w W env g₀ s₀ ((x, d) :: l) ν os g' s ∧ Rd prog w g' (.ref D) d := by
  obtain ⟨-, fo⟩ := F.ow _ (.head _)
  have hD : D ∈ o.fp := by rw [hfp]; exact .head _
  obtain ⟨b1, b2, b3, b4, b5, b6⟩ := fo D hD
  have kp : Kp g (gput g D ob) := kp_gput b4
  have b1 := b1.resolve_right fun z => by rw [hnx] at z; exact nomatch z.1
  have sub : Kp (gput g D ob) s.heap := (extX_claim F.se.sub hob b1 F.bs).sub
  have rd := rd kp
  refine ⟨gput g D ob, ⟨⟨⟨sub, F.se.wd.mono kp fun a t => ?_, F.se.tb, F.se.pos⟩, F.se.fn, F.se.gl, F.se.bt, F.se.lv, F.se.cv, fun y d q => ?_⟩, F.sh, extX_claim F.se.sub hob b1 F.bs, F.ns, F.nwL, ?_, fun p hp => ?_, F.cn, fun y v q => ?_, fun o' ho => ?_, (List.pairwise_cons.mp F.dj).2⟩, rd⟩
  · rw [gput_other _ _ (fun q => by subst q; rw [b3] at t; cases t)]
    exact F.se.wd.tabs a t
  · simp only [lk, List.lookup_cons] at q
    split at q
    · rename_i q'
      cases q
      rw [eq_of_beq q']
      exact ⟨_, F.raw x _ (by simp), rd⟩
    · obtain ⟨v, hv, rv⟩ := F.se.vars y d q
      exact ⟨v, hv, rv.mono kp⟩
  · rw [gput_other _ _ (Ne.symm b5)]; exact F.ofL
  · obtain ⟨c1, c2, c3, c4⟩ := F.nwC p hp
    exact ⟨c1, c2, by rw [gput_other _ _ (b6 p hp)]; exact c3, c4⟩
  · refine F.raw y v ?_
    simp only [List.lookup_cons]
    split
    · rename_i q'; rw [eq_of_beq q', hν] at q; cases q
    · exact q
  · obtain ⟨c1, c2⟩ := F.ow o' (.tail _ ho)
    refine ⟨o'.ok c1 F.se.sub sub kp fun a _ o' e => e, fun a ha => ?_⟩
    obtain ⟨d1, d2, d3, d4, d5⟩ := c2 a ha
    refine ⟨d1, d2, d3, ?_, d5⟩
    rw [gput_other _ _ (fun q => (List.pairwise_cons.mp F.dj).1 o' ho D hD (by rw [← q]; exact ha))]
    exact d4
theorem Fs.sealL {x : Str} {D : Addr} {rs : List Dt} (F : Fs prog w W env g₀ s₀ l ((x, .ref D) :: ν) (ownL prog w D rs :: os) g s) (hν : ν.lookup x = none) : ∃ g', Fs prog w W env g₀ s₀ ((x, .lst rs) :: l) ν os g' s ∧ Rd prog w g' (.ref D) (.lst rs) := by
  obtain ⟨⟨ys, ⟨n, hy⟩, hr⟩, fo⟩ := F.ow _ (.head _)
  exact F.seal1 hν rfl hy fun kp => .lst (gput_self _ _ _ rfl) (hr.mono kp)
theorem Fs.sealD {x : Str} {D : Addr} {ds : List (Str × Str)} (F : Fs prog w W env g₀ s₀ l ((x, .ref D) :: ν) (ownD prog w D ds :: os) g s) (hν : ν.lookup x = none) : ∃ g', Fs prog w W env g₀ s₀ ((x, .dct ds) :: l) ν os g' s ∧ Rd prog w g' (.ref D) (.dct ds) := by
  obtain ⟨⟨kvs, ⟨o, es, ep, ho, r⟩, hr⟩, fo⟩ := F.ow _ (.head _)
  exact F.seal1 hν rfl ho fun kp => .dct ⟨o, es, ep, gput_self _ _ _ (Heap.get?_some_iff.mp ho).2, r⟩ hr

theorem load_holds {x : Str} {v : Value} {Q : Value → Shared → Prop} {E : Value → Shared → Prop} (fn : env.scope.kind = .function) (H : Holds env s.heap x v) (hc : (x == ("__classdict__" : Str)) = false) (q : Q v s) : wpAny (model prog w) A (loadName env x) Q E s := by
  rcases H with ⟨a, _, m, n, b⟩ | ⟨a, c, b, _, o⟩
  · exact wpAny_loadName_local fn a n b q
  · rcases a with a | a
    · exact wpAny_loadName_cell fn a b o q
    · exact wpAny_loadName_free fn a b o q hc
theorem eval_holds {x : Str} {p : Pos} {v : Value} {Q : Value → Shared → Prop} {E : Value → Shared → Prop} (fn : env.scope.kind = .function) (H : Holds env s.heap x v) (q : Q v s) (hd : (x == ("__debug__" : Str)) = false := by decide +kernel) (hc : (x == ("__classdict__" : Str)) = false := by decide +kernel) :
    wpAny (model prog w) A (eval (.Name x p) env) Q E s := wpAny_Name (load_holds fn H hc q) hd

theorem unpack_rd {v : Value} {d : Dt} {ds : List Dt} {Q : List Value → Shared → Prop} {E : Value → Shared → Prop} (hh : A.handled = none) (k : Kp g s.heap) (p : 0 < s.toks) (r : Rd prog w g v d) (hd : d = .tup ds ∨ d = .lst ds)
    (hQ : ∀ vs h' tk, 0 < tk → Ext g s.heap g h' → Rds prog w g vs ds → Q vs { s with heap := h', toks := tk }) : wpAny (model prog w) A (unpackItems v ds.length none) Q E s := by
  have fin : ∀ vs h', s.heap.objs.size ≤ h'.objs.size → Heap.ExtBut s.heap.objs.size s.heap h' → Rds prog w g vs ds → Q vs { s with heap := h' } := fun vs h' z he r => by
    have kk : ∀ b o, s.heap.get? b = some o → h'.get? b = some o := fun b o e => he b o (fun q => by rw [q, get?_size] at e; cases e) e
    exact hQ vs h' s.toks p ⟨fun b o _ e => kk b o e, z, fun b o e => kk b o (k b o e), fun _ _ => rfl⟩ r
  rcases hd with rfl | rfl
  · obtain ⟨a, vs, rfl, L, R⟩ := r.isTup k
    have e : ds.length = vs.size := by rw [← R.length, Array.length_toList]
    rw [e]
    exact grows p (unpackItems_tuple hh L fun h' he => fun _ z => fin _ _ z he R)
  · obtain ⟨a, vs, rfl, L, R⟩ := r.isList k
    have e : ds.length = vs.size := by rw [← R.length, Array.length_toList]
    rw [e]
    exact grows p (kun_itemsOf hh L fun h' he => fun _ z => fin _ _ z he R)

variable {Q : Flow → Shared → Prop} {E : Value → Shared → Prop} {rest : List Stmt}
theorem go_unpack2 {x y : Str} {px py tp pos : Pos} {k : Nat} {e : Expr} {d d1 d2 : Dt} (hh : A.handled = none) (v : Ev prog w W A env (lk l) e d) (hd : d = .tup [d1, d2] ∨ d = .lst [d1, d2])
    (kk : Go prog w W A env g₀ s₀ ((y, d2) :: (x, d1) :: l) ν os rest Q E) (hx : Slotted env x := by exact slotted_of rfl) (hy : Slotted env y := by exact slotted_of rfl) (h1 : ν.lookup x = none := by rfl) (h2 : ν.lookup y = none := by rfl)
    (hs : swapsWithSole [.Tuple [.Name x px, .Name y py] k tp] e pos.line env = pure false := by rfl) (hw : swappedStores [.Tuple [.Name x px, .Name y py] k tp] e env = pure none := by rfl) :
    Go prog w W A env g₀ s₀ l ν os (.Assign [.Tuple [.Name x px, .Name y py] k tp] e pos :: rest) Q E := .mk fun g s F => by
  refine wpAny_execs_cons (Assign_Tuple ((v.run g s F.se).use F.se.pos fun v h' g' tk p e r => ?_) hs hw)
  rw [arm_assign_Tuple]
  refine wpAny_bind (wpAny_standAt ?_)
  unfold unpack
  show wpAny _ _ (do let items ← holding [v] (unpackItems v 2 none); assignInOrder [assign (.Name x px) env, assign (.Name y py) env] items) _ _ _
  have F1 := F.ext e p
  refine wpAny_bind (wpAny_holding (unpack_rd (ds := [d1, d2]) hh F1.se.sub p r hd fun vs h₂ tk₂ p₂ e₂ rs => ?_))
  obtain ⟨u, z, rfl, a, b⟩ := rs.two
  · · exact wpAny_assignInOrder_more (wpAny_assign_Name ((F1.ext e₂ p₂).store hx a h1 fun h₃ tk₃ F₃ => wpAny_assignInOrder_more (wpAny_assign_Name (F₃.store hy b h2 fun h₄ tk₄ F₄ => wpAny_assignInOrder_none (kk.run g' _ F₄)))))
theorem go_assignL {x : Str} {px lp pos : Pos} (kk : ∀ D, Go prog w W A env g₀ s₀ l ((x, .ref D) :: ν) (ownL prog w D [] :: os) rest Q E) (hk : Slotted env x := by exact slotted_of rfl) (hl : l.lookup x = none := by rfl)
    (hs : swapsWith (.List [] lp) (some (.Name x px)) pos.line env = pure false := by rfl) : Go prog w W A env g₀ s₀ l ν os (.Assign [.Name x px] (.List [] lp) pos :: rest) Q E := .mk fun g s F => by
  refine wpAny_execs_cons (wpAny_Assign_Name (wpAny_List_spliced (wpAny_pure ⟨Nat.zero_le _, ?_⟩)) hs)
  have e := ext_push F.se.sub { cls := .type "list", data := .seq ([] : List Value).toArray }
  have F1 := F.ext e F.se.pos
  have nt := not_tab_size F.se.toOk
  have F2 := F1.add (o := ownL prog w s.heap.objs.size []) ⟨#[], ⟨0, Heap.get?_push_size _ rfl⟩, .nil⟩ (fun a ha => by
    rw [List.mem_singleton.mp ha]
    exact ⟨.inl F.bs.size, by show _ < (Heap.push _ _).objs.size; rw [Heap.size_push]; exact Nat.lt_succ_self _, nt, none_of_size F.se.toOk, fun q => absurd F.se.lv.1 (Nat.not_lt.mpr (Nat.le_of_eq q)), fun p hp q => absurd (F.se.cv p hp).1 (Nat.not_lt.mpr (Nat.le_of_eq q.symm))⟩) fun o ho a ha q => by
    rw [List.mem_singleton.mp ha] at q
    exact absurd ((F.ow o ho).2 _ q).2.1 (Nat.lt_irrefl _)
  exact F2.storeRaw hk hl fun h' tk F3 => (kk _).run _ _ F3
theorem go_append {x : Str} {px apos cpos pos : Pos} {e : Expr} {D : Addr} {rs : List Dt} {r : Dt} (v : Ev prog w W A env (lk l) e r) (hD : ν.lookup x = some (.ref D)) (hz : rs.length ≤ sizeLine)
    (kk : Go prog w W A env g₀ s₀ l ν (ownL prog w D (rs ++ [r]) :: os) rest Q E) (hd : (x == ("__debug__" : Str)) = false := by decide +kernel) (hc : (x == ("__classdict__" : Str)) = false := by decide +kernel)
    (hbase : attributeBase (.Name x px) "append" env (eval (.Name x px) env) = eval (.Name x px) env := by rfl)
    (hse : starEach [e] env = [(false, eval e env)] := by rfl) (hline : (apos.endLine == cpos.line) = true := by rfl)
    (hi : interactive env = false := by rfl) (hs : swapsWith (.Call (.Attribute (.Name x px) "append" apos) [e] [] cpos) none pos.line env = pure false := by rfl) :
    Go prog w W A env g₀ s₀ l ν (ownL prog w D rs :: os) (.Expr (.Call (.Attribute (.Name x px) "append" apos) [e] [] cpos) pos :: rest) Q E := .mk fun g s F => by
  obtain ⟨⟨ys, hy, hr⟩, fo⟩ := F.ow _ (.head _)
  refine wpAny_execs_cons (wpAny_Expr (wpAny_Call_method hbase (by rw [hse]; rfl) hline PySem.F.plainAttrs_list PySem.F.slot_list_append PySem.F.type_list_append (eval_holds F.se.fn (F.raw x _ hD) ?_ hd hc)) hi hs)
  refine ⟨?_, ?_, ?_⟩
  · obtain ⟨n, e⟩ := hy
    exact ⟨_, e, rfl⟩
  · intro a q
    cases q
    obtain ⟨n, e⟩ := hy
    exact ⟨_, e, rfl⟩
  rw [hse]
  refine callWith_builtin rfl (evalArgs_plain (spliced_cons ((v.run g s F.se).use F.se.pos fun u h' g' tk p e ru => spliced_nil ?_)))
  have F1 := F.ext e p
  obtain ⟨⟨ys₁, hy₁, hr₁⟩, fo₁⟩ := F1.ow _ (.head _)
  refine wpAny_list_append_plain (hsz := by have := hr₁.length; rw [Array.length_toList] at this; omega) hy₁ fun h₂ hl₂ hs₂ => ?_
  have off := (fo₁ D (.head _)).2.2.2.1
  exact kk.run g' _ (F1.mut (o' := ownL prog w D (rs ++ [r])) (extX_of_but F1.se.sub off (fun b o hb e => hs₂.extBut b o hb e) (Nat.le_of_eq hs₂.1.symm)) p ⟨_, hl₂, by rw [Array.toList_push]; exact hr₁.append (.cons ru .nil)⟩ fun a ha => .inl ⟨ha, by rw [List.mem_singleton.mp ha]; exact off⟩)
theorem go_augS {x : Str} {px pos : Pos} {e : Expr} {a b : Str} (hx : lk l x = some (.str a)) (v : Ev prog w W A env (lk l) e (.str b)) (hz : a.length + b.length ≤ sizeLine) (kk : Go prog w W A env g₀ s₀ ((x, .str (a ++ b)) :: l) ν os rest Q E)
    (hk : Slotted env x := by exact slotted_of rfl) (hν : ν.lookup x = none := by rfl) (hc : (x == ("__classdict__" : Str)) = false := by decide +kernel) : Go prog w W A env g₀ s₀ l ν os (.AugAssign (.Name x px) .Add e pos :: rest) Q E := .mk fun g s F => by
  obtain ⟨u, hu, ru⟩ := F.se.vars x _ hx
  refine wpAny_execs_cons (wpAny_AugAssign_Name (load_holds F.se.fn hu hc ((v.run g s F.se).use F.se.pos fun v h' g' tk p e r => ?_)))
  first | obtain rfl := ru.inv | obtain ⟨_, rfl⟩ := ru.inv
  first | obtain rfl := r.inv | obtain ⟨_, rfl⟩ := r.inv
  refine wpAny_with_toks (n := 1) p (iadd_str (fun t' tk' => fun (q : 1 ≤ tk') => ?_) hz)
  exact ((F.ext e p).ext (Ext.refl (F.ext e p).se.sub) q).store hk (.str ..) hν fun h₂ tk₂ F₂ => kk.run g' _ F₂
theorem go_augI {x : Str} {px pos : Pos} {e : Expr} {a b : Int} (hx : lk l x = some (.int a)) (v : Ev prog w W A env (lk l) e (.int b)) (kk : Go prog w W A env g₀ s₀ ((x, .int (a + b)) :: l) ν os rest Q E)
    (hk : Slotted env x := by exact slotted_of rfl) (hν : ν.lookup x = none := by rfl) (hc : (x == ("__classdict__" : Str)) = false := by decide +kernel) : Go prog w W A env g₀ s₀ l ν os (.AugAssign (.Name x px) .Add e pos :: rest) Q E := .mk fun g s F => by
  obtain ⟨u, hu, ru⟩ := F.se.vars x _ hx
  refine wpAny_execs_cons (wpAny_AugAssign_Name (load_holds F.se.fn hu hc ((v.run g s F.se).use F.se.pos fun v h' g' tk p e r => ?_)))
  first | obtain rfl := ru.inv | obtain ⟨_, rfl⟩ := ru.inv
  first | obtain rfl := r.inv | obtain ⟨_, rfl⟩ := r.inv
  refine iadd_int ?_
  exact ((F.ext e p).ext (Ext.refl (F.ext e p).se.sub) (Nat.succ_pos _)).store hk (.int ..) hν fun h₂ tk₂ F₂ => kk.run g' _ F₂
theorem go_assignD {x : Str} {px lp pos : Pos} (kk : ∀ D, Go prog w W A env g₀ s₀ l ((x, .ref D) :: ν) (ownD prog w D [] :: os) rest Q E) (hk : Slotted env x := by exact slotted_of rfl) (hl : l.lookup x = none := by rfl)
    (hs : swapsWith (.Dict [] [] lp) (some (.Name x px)) pos.line env = pure false := by rfl) : Go prog w W A env g₀ s₀ l ν os (.Assign [.Name x px] (.Dict [] [] lp) pos :: rest) Q E := .mk fun g s F => by
  refine wpAny_execs_cons (wpAny_Assign_Name (wpAny_Dict_empty ?_) hs)
  have e := ext_push F.se.sub { cls := .type "dict", data := .dict #[] }
  have F1 := F.ext e F.se.pos
  have nt := not_tab_size F.se.toOk
  have F2 := F1.add (o := ownD prog w s.heap.objs.size []) ⟨[], Heap.DictOf.new s.heap, .nil⟩ (fun a ha => by
    rw [List.mem_singleton.mp ha]
    exact ⟨.inl F.bs.size, by show _ < (Heap.push _ _).objs.size; rw [Heap.size_push]; exact Nat.lt_succ_self _, nt, none_of_size F.se.toOk, fun q => absurd F.se.lv.1 (Nat.not_lt.mpr (Nat.le_of_eq q)), fun p hp q => absurd (F.se.cv p hp).1 (Nat.not_lt.mpr (Nat.le_of_eq q.symm))⟩) fun o ho a ha q => by
    rw [List.mem_singleton.mp ha] at q
    exact absurd ((F.ow o ho).2 _ q).2.1 (Nat.lt_irrefl _)
  exact F2.storeRaw hk hl fun h' tk F3 => (kk _).run _ _ F3
theorem strVals_app {kvs : List (Str × Value)} {ds : List (Str × Str)} {k y : Str} {t : Tok} (q : StrVals kvs ds) : StrVals (kvs ++ [(k, .str y t)]) (ds ++ [(k, y)]) := by
  induction q with
  | nil => exact .cons _ _ _ .nil
  | cons k x t h ih => exact .cons _ _ _ ih
theorem strVals_key {kvs : List (Str × Value)} {ds : List (Str × Str)} {k : Str} (q : StrVals kvs ds) (n : ∀ p ∈ ds, p.1 ≠ k) : kvs.any (fun kv => kv.1 = k) = false := by
  induction q with
  | nil => rfl
  | cons k x t h ih =>
    rw [List.any_cons, decide_eq_false (n _ (.head _)), ih fun p hp => n p (.tail _ hp)]
    rfl
theorem strVals_put {kvs : List (Str × Value)} {ds : List (Str × Str)} {k y : Str} {t : Tok} (q : StrVals kvs ds) (n : ∀ p ∈ ds, p.1 ≠ k) : StrVals (stored kvs k (.str y t)) (ds ++ [(k, y)]) := by
  unfold stored
  rw [strVals_key q n]
  exact strVals_app q
theorem go_setD {x : Str} {px tp pos : Pos} {ik e : Expr} {D : Addr} {ds : List (Str × Str)} {k y : Str} (hv : Ev prog w W A env (lk l) e (.str y)) (hi : Ev prog w W A env (lk l) ik (.str k)) (hD : ν.lookup x = some (.ref D)) (hz : ds.length ≤ sizeLine) (hn : ∀ p ∈ ds, p.1 ≠ k)
    (kk : Go prog w W A env g₀ s₀ l ν (ownD prog w D (ds ++ [(k, y)]) :: os) rest Q E) (hd : (x == ("__debug__" : Str)) = false := by decide +kernel) (hc : (x == ("__classdict__" : Str)) = false := by decide +kernel)
    (hs : swapsWith e (some (.Subscript (.Name x px) ik tp)) pos.line env = pure false := by rfl) : Go prog w W A env g₀ s₀ l ν (ownD prog w D ds :: os) (.Assign [.Subscript (.Name x px) ik tp] e pos :: rest) Q E := .mk fun g s F => by
  refine wpAny_execs_cons (wpAny_Assign_Subscript ((hv.run g s F.se).use F.se.pos fun v h₁ g₁ tk₁ p₁ e₁ r₁ => ?_) hs)
  have F1 := F.ext e₁ p₁
  refine eval_holds F1.se.fn (F1.raw x _ hD) ((hi.run g₁ _ F1.se).use p₁ fun u h₂ g₂ tk₂ p₂ e₂ r₂ => ?_) hd hc
  have F2 := F1.ext e₂ p₂
  obtain ⟨⟨kvs, hk, hs⟩, fo⟩ := F2.ow _ (.head _)
  have off := (fo D (.head _)).2.2.2.1
  obtain ⟨t, rfl⟩ := r₁.inv
  obtain ⟨t', rfl⟩ := r₂.inv
  have hl := hs.length
  refine wpAny_setItem_pairs (knd := strKind prog w) (k := k) (strKind_is prog w k _) hk (fun h₃ hk₃ hs₃ => ?_) (by omega)
  exact kk.run g₂ _ (F2.mut (o' := ownD prog w D (ds ++ [(k, y)])) (extX_of_but F2.se.sub off (fun b o hb e => hs₃.extBut b o hb e) (Nat.le_of_eq hs₃.1.symm)) (Nat.succ_pos _) ⟨_, hk₃, strVals_put hs hn⟩ fun a ha => .inl ⟨ha, by rw [List.mem_singleton.mp ha]; exact off⟩)
end
end Mine
end
section
open PySem PySem.W PySem.Spec PySem.Calls PyProof.Rows PySem.Builtin PySem.Builtin.Str
set_option Elab.async false
set_option tactic.hygienic false
set_option linter.unusedVariables false
set_option maxRecDepth 100000
namespace Mine
section
variable {prog : Program} {w : World} {W : Wo} {A : Around} {env : Env} {g g₀ h g' h' g'' h'' : Heap} {s s₀ : Shared} {l l' : List (Str × Dt)} {ν ν' : List (Str × Value)} {os : List Own} {Q : Flow → Shared → Prop} {E : Value → Shared → Prop} {rest : List Stmt}

/-- an iterator is under way -/
noncomputable def ownI {t : Expr} {gI h₀ : Heap} {it : Addr} {fp wr : List Addr} {St : Nat → Heap → Prop} {ds : List Dt} (I : IsIt prog w W A t gI h₀ it fp wr St ds) (i : Nat) : Own where
  fp := wr
  O := fun g h => St i h ∧ Kp gI g
  ok := fun {g h g' h'} ⟨a, b⟩ k k' kk f => ⟨I.frame i h h' a fun c hc o e => by
    rcases I.fpo c hc with q | ⟨_, q⟩
    · exact f c q o e
    · obtain ⟨o', ho'⟩ := Option.isSome_iff_exists.mp q
      have e1 := k _ _ (b _ _ ho')
      rw [e1] at e
      cases e
      exact k' _ _ (kk _ _ (b _ _ ho')), b.trans kk⟩
theorem lookup_app {x : Str} {bs ls : List (Str × Dt)} : (bs ++ ls).lookup x = match bs.lookup x with | some d => some d | none => ls.lookup x := by
  induction bs with
  | nil => rfl
  | cons p bs ih =>
    obtain ⟨y, d⟩ := p
    simp only [List.cons_append, List.lookup_cons]
    split
    · rfl
    · exact ih
theorem mem_of_lookup_d {x : Str} {d : Dt} {bs : List (Str × Dt)} (h : bs.lookup x = some d) : x ∈ bs.map (·.1) := lookup_mem h

/-- a target takes its datum -/
theorem Fs.bind {t : Expr} {d : Dt} {bs : List (Str × Dt)} {v : Value} {Q : Unit → Shared → Prop} {E : Value → Shared → Prop} (F : Fs prog w W env g₀ s₀ l ν os g s) (hh : A.handled = none) (p : Pat t d bs) (hk : ∀ x ∈ bs.map (·.1), env.kindOf x = some .local) (nd : (bs.map (·.1)).Nodup)
    (hν : ∀ x ∈ bs.map (·.1), ν.lookup x = none) (r : Rd prog w g v d) (k : ∀ h' tk, Fs prog w W env g₀ s₀ (bs ++ l) ν os g { s with heap := h', toks := tk } → Q () { s with heap := h', toks := tk }) : wpAny (model prog w) A (assign t env v) Q E s := by
  obtain ⟨m, hm⟩ := F.ns
  refine grows F.se.pos (pat_assign hh p hk nd F.se.fn F.se.pos F.se.sub hm r fun h₃ tk₃ m₃ p₃ k₃ n₃ b₃ c₃ => fun _ z₃ => ?_)
  have x₃ : ExtX [env.locals] g s.heap g h₃ := extX_of_but F.se.sub F.ofL k₃ z₃
  have stay : ∀ y u, bs.lookup y = none → Holds env s.heap y u → Holds env h₃ y u := fun y u hb hu => by
    rcases hu with ⟨q1, q2, m', n', hm'⟩ | ⟨q1, cc, q2, q3, o, q4, q5⟩
    · exact .inl ⟨q1, q2, m₃, n₃, (c₃ y hb).trans ((ns_unique hm n' y).trans hm')⟩
    · exact .inr ⟨q1, cc, q2, q3, o, k₃ _ _ (F.nwC _ (mem_of_lk q2)).2.1 q4, q5⟩
  refine k h₃ tk₃ (F.put x₃ (.inl rfl) p₃ ⟨m₃, n₃⟩ (fun p hp => ?_) (fun x d q => ?_) fun x v q => ?_)
  · obtain ⟨ov, o, ho, hd⟩ := (F.nwC p hp).2.2.2
    exact ⟨ov, o, k₃ _ _ (F.nwC p hp).2.1 ho, hd⟩
  · rw [lookup_app] at q
    cases hb : bs.lookup x with
    | some e =>
      rw [hb] at q; cases q
      obtain ⟨u, hu, ru⟩ := b₃ x _ hb
      exact ⟨u, .inl ⟨hk x (mem_of_lookup_d hb), F.se.lv.2, m₃, n₃, hu⟩, ru⟩
    | none =>
      rw [hb] at q
      obtain ⟨u, hu, ru⟩ := F.se.vars x d q
      exact ⟨u, stay x u hb hu, ru⟩
  · refine stay x v ?_ (F.raw x v q)
    cases hb : bs.lookup x with
    | none => rfl
    | some e =>
      have := hν x (mem_of_lookup_d hb)
      rw [q] at this; cases this

theorem nextGo_use {t : Expr} {it : Value} {Qn : Shared → Prop} {Qs : Value → Shared → Prop} {E : Value → Shared → Prop} (h : NextGo prog w A t it (fun r s => match r with | none => Qn s | some v => Qs v s) E s) :
    wpAny (model prog w) A (pyNext it) (fun r s₁ => match r with
      | none => Qn s₁
      | some v => wpAny (model prog w) A (letOwnedTupleGo t it v) (fun _ s₂ => Qs v s₂) E s₁) E s := h
/-- what the body of a loop must bring about -/
noncomputable def TurnTo (prog : Program) (w : World) (W : Wo) (env : Env) (g₀ : Heap) (s₀ : Shared) (l : List (Str × Dt)) (ν : List (Str × Value)) (os : List Own) : Flow → Shared → Prop := fun f s' =>
  (f = .next ∨ f = .cont) ∧ ∃ g', Fs prog w W env g₀ s₀ l ν os g' s'
theorem turn_next : ∀ g s, Fs prog w W env g₀ s₀ l ν os g s → TurnTo prog w W env g₀ s₀ l ν os .next s := fun g _ F => ⟨.inl rfl, g, F⟩
theorem turn_cont : ∀ g s, Fs prog w W env g₀ s₀ l ν os g s → TurnTo prog w W env g₀ s₀ l ν os .cont s := fun g _ F => ⟨.inr rfl, g, F⟩
noncomputable def noOwn : Own := ⟨[], [], fun _ _ => True, fun _ _ _ _ _ => trivial⟩

/-- where a loop stands -/
inductive FInv (prog : Program) (w : World) (W : Wo) (env : Env) (g₀ : Heap) (s₀ : Shared) (ν : List (Str × Value)) (ls : Nat → List (Str × Dt)) (oss : Nat → List Own → Prop) (it : Nat → Own) (N : Nat) (n : Nat) (s' : Shared) : Prop
  | mk (i : Nat) (g' : Heap) (os' : List Own) : oss i os' → n + i = N + 1 → i ≤ N → Fs prog w W env g₀ s₀ (ls i) ν (it i :: os') g' s' → FInv prog w W env g₀ s₀ ν ls oss it N n s'
/-- a loop whose things under way are not known ahead -/
theorem go_forO {t iter : Expr} {body : List Stmt} {pos : Pos} {ds : List Dt} (ls : Nat → List (Str × Dt)) (oss : Nat → List Own → Prop) (hh : A.handled = none) (src : Src prog w W A env (lk l) iter t ds) (h0 : Sub (ls 0) l) (o0 : oss 0 os)
    (turn : ∀ (i : Nat) d (it : Own), ds[i]? = some d → ∃ bs, Pat t d bs ∧ (∀ x ∈ bs.map (·.1), env.kindOf x = some .local) ∧ (bs.map (·.1)).Nodup ∧ (∀ x ∈ bs.map (·.1), ν.lookup x = none) ∧
      ∀ E' os', oss i os' → Go prog w W A env g₀ s₀ (bs ++ ls i) ν (os' ++ [it]) body (fun f s' => (f = .next ∨ f = .cont) ∧ ∃ os'', oss (i + 1) os'' ∧ ∃ g', Fs prog w W env g₀ s₀ (ls (i + 1)) ν (os'' ++ [it]) g' s') E')
    (k : ∀ os', oss ds.length os' → Go prog w W A env g₀ s₀ (ls ds.length) ν os' rest Q E) (hs : ∀ x, foldedSetIterable iter env x = pure x := by intro _; rfl) :
    Go prog w W A env g₀ s₀ l ν os (.For t iter body [] pos :: rest) Q E := .mk fun g s F => by
  refine wpAny_execs_cons (wpAny_For (src g s _ _ F.se fun I fp wr St h₁ g₁ tk₁ p₁ e₁ it st hw => ?_) hs)
  have F2 := ((F.ext e₁ p₁).weaken h0 fun _ _ q => q).add (o := ownI it 0) ⟨st, Kp.refl _⟩ (fun a ha =>
    have n := it.new a ha
    ⟨.inl (Nat.le_trans F.bs.size n.1), hw a ha, n.2.1, n.2.2, fun q => absurd F.se.lv.1 (Nat.not_lt.mpr (q ▸ n.1)), fun p hp q => absurd (F.se.cv p hp).1 (Nat.not_lt.mpr (q ▸ n.1))⟩) fun o ho a ha q => absurd ((F.ow o ho).2 _ q).2.1 (Nat.not_lt.mpr (it.new a ha).1)
  refine codeAny_forLoop_any (FInv prog w W env g₀ s₀ ν ls oss (ownI it) ds.length) ?_ (ds.length + 1) ⟨0, g₁, os, o0, rfl, Nat.zero_le _, F2⟩
  rintro n s' ⟨i, g', os', ho, hn, hi, F'⟩
  obtain ⟨⟨st', kp'⟩, fo'⟩ := F'.ow _ (.head _)
  have off : ∀ b ∈ wr, g'.get? b = none := fun b hb => (fo' b hb).2.2.2.1
  rcases Nat.lt_or_eq_of_le hi with hlt | rfl
  · cases n with
    | zero =>
      rw [Nat.zero_add] at hn
      rw [hn] at hlt
      exact absurd hlt (Nat.not_lt.mpr (Nat.le_succ _))
    | succ n =>
      have hd := List.getElem?_eq_getElem hlt
      refine nextGo_use (it.item i _ g' s' _ _ hd F'.se.toOk kp' off st' fun v g₂ h₂ tk₂ p₂ x₂ rd st₂ => ?_)
      have F3 := F'.mut (o' := ownI it (i + 1)) x₂ p₂ ⟨st₂, kp'.trans (ExtX.grow F'.se.sub x₂)⟩ fun a ha => .inl ⟨ha, (x₂.same a (fo' a ha).2.1).trans (off a ha)⟩
      obtain ⟨bs, pt, hk, nd, hν, go⟩ := turn i _ (ownI it (i + 1)) hd
      refine F3.bind hh pt hk nd hν rd fun h₄ tk₄ F4 => ?_
      refine wpAny_mono ((go _ os' ho).run _ _ (F4.perm (List.perm_append_singleton _ _))) (fun f s₅ h₅ => ?_) fun _ _ x => x
      obtain ⟨hf, os₅, ho₅, g₅, F5⟩ := h₅
      have : ∃ m, m < n + 1 ∧ FInv prog w W env g₀ s₀ ν ls oss (ownI it) ds.length m s₅ := ⟨n, Nat.lt_succ_self n, i + 1, g₅, os₅, ho₅, (Nat.add_right_comm n i 1).trans hn, hlt, F5.perm (List.perm_append_singleton _ _).symm⟩
      rcases hf with rfl | rfl <;> exact this
  · refine nextGo_use (it.done g' s' _ _ F'.se.toOk kp' off st' fun g₂ h₂ tk₂ p₂ x₂ => ?_)
    refine wpAny_execs_nil ?_
    exact (k os' ho).run _ _ (F'.mut (o' := noOwn) x₂ p₂ trivial fun a ha => nomatch ha).drop
theorem go_for {t iter : Expr} {body : List Stmt} {pos : Pos} {ds : List Dt} (ls : Nat → List (Str × Dt)) (oss : Nat → List Own) (hh : A.handled = none) (src : Src prog w W A env (lk l) iter t ds) (h0 : Sub (ls 0) l) (o0 : oss 0 = os)
    (turn : ∀ (i : Nat) d (it : Own), ds[i]? = some d → ∃ bs, Pat t d bs ∧ (∀ x ∈ bs.map (·.1), env.kindOf x = some .local) ∧ (bs.map (·.1)).Nodup ∧ (∀ x ∈ bs.map (·.1), ν.lookup x = none) ∧
      ∀ E', Go prog w W A env g₀ s₀ (bs ++ ls i) ν (oss i ++ [it]) body (TurnTo prog w W env g₀ s₀ (ls (i + 1)) ν (oss (i + 1) ++ [it])) E')
    (k : Go prog w W A env g₀ s₀ (ls ds.length) ν (oss ds.length) rest Q E) (hs : ∀ x, foldedSetIterable iter env x = pure x := by intro _; rfl) :
    Go prog w W A env g₀ s₀ l ν os (.For t iter body [] pos :: rest) Q E :=
  go_forO ls (fun i os' => os' = oss i) hh src h0 o0.symm (fun i d it hd => (turn i d it hd).imp fun bs b => ⟨b.1, b.2.1, b.2.2.1, b.2.2.2.1, fun E' os' ho => .mk fun g s F => wpAny_mono ((b.2.2.2.2 E').run g s (ho ▸ F)) (fun f s h => ⟨h.1, _, rfl, h.2⟩) fun _ _ x => x⟩)
    (fun os' ho => ho ▸ k) hs
theorem go_doc {x : Str} {n : Nat} {p pos : Pos} (k : Go prog w W A env g₀ s₀ l ν os rest Q E) (hi : interactive env = false := by rfl) : Go prog w W A env g₀ s₀ l ν os (.Expr (.Constant (.str x) n p) pos :: rest) Q E := .mk fun g s F =>
  wpAny_execs_cons (wpAny_Expr (Constant_str (k.run g _ (F.ext (Ext.refl F.se.sub) (Nat.succ_pos _)))) hi rfl)
/-- the end of a branch: on behind it -/
theorem go_done {Q : Flow → Shared → Prop} (k : Go prog w W A env g₀ s₀ l ν os rest Q E) : Go prog w W A env g₀ s₀ l ν os [] (fun f s' => match f with | .next => wpAny (model prog w) A (execs rest env) Q E s' | f => Q f s') E := go_nil fun g s F => k.run g s F
theorem go_done2 {Q : Flow → Shared → Prop} {rest' : List Stmt} (k : Go prog w W A env g₀ s₀ l ν os rest' Q E) (hr : rest = [] := by rfl) : Go prog w W A env g₀ s₀ l ν os [] (fun f s' => match f with
    | .next => wpAny (model prog w) A (execs rest env) (fun f s' => match f with | .next => wpAny (model prog w) A (execs rest' env) Q E s' | f => Q f s') E s'
    | f => (match f with | .next => wpAny (model prog w) A (execs rest' env) Q E s' | f => Q f s')) E := by
  subst hr
  exact go_nil fun g s F => wpAny_execs_nil (k.run g s F)
theorem go_seal {x : Str} {D : Addr} {rs : List Dt} (k : Go prog w W A env g₀ s₀ ((x, .lst rs) :: l) ν os rest Q E) (hν : ν.lookup x = none := by rfl) : Go prog w W A env g₀ s₀ l ((x, .ref D) :: ν) (ownL prog w D rs :: os) rest Q E := .mk fun g s F => by
  obtain ⟨g', F', _⟩ := F.sealL hν
  exact k.run g' s F'
theorem go_sealD {x : Str} {D : Addr} {ds : List (Str × Str)} (k : Go prog w W A env g₀ s₀ ((x, .dct ds) :: l) ν os rest Q E) (hν : ν.lookup x = none := by rfl) : Go prog w W A env g₀ s₀ l ((x, .ref D) :: ν) (ownD prog w D ds :: os) rest Q E := .mk fun g s F => by
  obtain ⟨g', F', _⟩ := F.sealD hν
  exact k.run g' s F'
theorem ev_neg {ρ : Str → Option Dt} {e : Expr} {pos : Pos} {i : Int} (x : Ev prog w W A env ρ e (.int i)) : Ev prog w W A env ρ (.UnaryOp .USub e pos) (.int (-i)) := .mk fun g s S Q E k => by
  refine UnaryOp_ ((x.run g s S).use S.pos fun v h' g' tk p e r => ?_)
  first | obtain rfl := r.inv | obtain ⟨_, rfl⟩ := r.inv
  exact PySem.P.neg_int (k _ h' g' _ e (.int ..))
end
end Mine
end
section
open PySem PySem.W PySem.Spec PySem.Calls PyProof.Rows PySem.Builtin PySem.Builtin.Str
set_option Elab.async false
set_option tactic.hygienic false
set_option linter.unusedVariables false
set_option maxRecDepth 100000
namespace Mine
theorem bindL_skip {kf : Str → Option NameKind} {x : Str} : ∀ {bs : List (Str × Value)} {m : Str → Option Value}, x ∉ bs.map (·.1) → bindL kf bs m x = m x
  | [], _, _ => rfl
  | (n, v) :: r, m, h => by
    simp only [List.map_cons, List.mem_cons, not_or] at h
    unfold bindL
    rw [bindL_skip h.2]
    split
    · simp [h.1]
    · rfl
set_option tactic.hygienic true in
theorem bindL_get {kf : Str → Option NameKind} {x : Str} {v : Value} (hk : kf x = some .local) : ∀ {bs : List (Str × Value)} {m : Str → Option Value}, (bs.map (·.1)).Nodup → bs.lookup x = some v → bindL kf bs m x = some v
  | [], _, _, h => by simp at h
  | (n, v₀) :: r, m, nd, h => by
    simp only [List.map_cons, List.nodup_cons] at nd
    unfold bindL
    simp only [List.lookup_cons] at h
    split at h
    · rename_i q
      have q := eq_of_beq q
      subst q
      cases h
      rw [bindL_skip nd.1, if_pos hk]
      simp
    · exact bindL_get hk nd.2 h
theorem bindC_skip {kf : Str → Option NameKind} {x : Str} : ∀ {bs : List (Str × Value)} {m : Str → Option Value}, x ∉ bs.map (·.1) → bindC kf bs m x = m x
  | [], _, _ => rfl
  | (n, v) :: r, m, h => by
    simp only [List.map_cons, List.mem_cons, not_or] at h
    unfold bindC
    rw [bindC_skip h.2]
    split
    · rfl
    · simp [h.1]
set_option tactic.hygienic true in
theorem bindC_get {kf : Str → Option NameKind} {x : Str} {v : Value} (hk : kf x = some .cell) : ∀ {bs : List (Str × Value)} {m : Str → Option Value}, (bs.map (·.1)).Nodup → bs.lookup x = some v → bindC kf bs m x = some v
  | [], _, _, h => by simp at h
  | (n, v₀) :: r, m, nd, h => by
    simp only [List.map_cons, List.nodup_cons] at nd
    unfold bindC
    simp only [List.lookup_cons] at h
    split at h
    · rename_i q
      have q := eq_of_beq q
      subst q
      cases h
      rw [bindC_skip nd.1, if_neg (by rw [hk]; decide)]
      simp
    · exact bindC_get hk nd.2 h
section
variable {prog : Program} {w : World} {W : Wo} {A : Around} {g : Heap}
theorem zip_rd {x : Str} {d : Dt} : ∀ {ps : List Str} {vs : List Value} {ds : List Dt}, Rds prog w g vs ds → (ps.zip ds).lookup x = some d → ∃ v, (ps.zip vs).lookup x = some v ∧ Rd prog w g v d
  | [], _, _, _, h => by simp at h
  | _ :: _, _, _, .nil, h => by simp at h
  | y :: ps, _, _, .cons a b, h => by
    simp only [List.zip_cons_cons, List.lookup_cons] at h ⊢
    split at h
    · cases h
      exact ⟨_, rfl, a⟩
    · exact zip_rd b h
theorem zip_names : ∀ {ps : List Str} {vs : List Value}, ps.length = vs.length → (ps.zip vs).map (·.1) = ps
  | [], [], _ => rfl
  | [], _ :: _, h => by simp at h
  | _ :: _, [], h => by simp at h
  | y :: ps, v :: vs, h => by simp only [List.zip_cons_cons, List.map_cons]; rw [zip_names (by simpa using h)]
theorem Room.deeper {n : Nat} {env : Env} (R : Room A (n + 1)) : Room (A.deeper env) n := ⟨R.hd, by have := R.dp; show A.depth + 1 + n < _; omega, by have := R.un; show A.units + 3 + 64 * n + 128 < _; omega⟩
theorem Room.less {n m : Nat} (R : Room A n) (h : m ≤ n) : Room A m := ⟨R.hd, by have := R.dp; omega, by have := R.un; omega⟩

/-- what is known of a def -/
structure DefOk (w : World) (W : Wo) (a : Addr) (fd : FuncData) (ps : List Str) (body : List Stmt) : Prop where
  at' : ∃ o, W.K.lookup a = some o ∧ o.data = .func fd
  code : ∀ g : Heap, W.K.In g → g.CodeRec fd.code fd.qualname
  body' : fd.body = .stmts body
  gl : fd.globals = mainGlobals
  bt : fd.builtins = builtinsNs
  clo : fd.closure = []
  binds : ∀ (prog : Program) (h : Heap) (vs : List Value), W.K.In h → ps.length = vs.length → Looks (model prog w) h (bindArgs fd ⟨vs, []⟩) (ps.zip vs)
  nd : ps.Nodup
  kinds : ∀ n, ∀ x ∈ ps, fd.scope.names.lookup x = some .local ∨ (fd.scope.names.lookup x = some .cell ∧ ((cellsFrom n fd.scope.names []).lookup x).isSome = true)
  cn : ((cellsFrom 0 fd.scope.names []).map (·.1)).Nodup
  co : fd.scope.isCoroutine = false
  gen : fd.scope.isGenerator = false
  kind : fd.scope.kind = .function

/-- a def's contract, of the call's code -/
noncomputable def FnC (prog : Program) (w : World) (W : Wo) (n : Nat) (a : Addr) (ds : List Dt) (d : Dt) : Prop :=
  ∀ A g s vs (Q : Value → Shared → Prop) (E : Value → Shared → Prop), Room A n → Ok W g s → Rds prog w g vs ds → (∀ v h' g' tk, Ext g s.heap g' h' → Rd prog w g' v d → Q v { s with heap := h', toks := tk }) →
    codeAny (model prog w) A (.call (.ref a) ⟨vs, []⟩) (fun r s' => match r with | .ok (.ret v) => Q v s' | .ok _ => False | .error e => E e s') s
theorem FnC.fn {n : Nat} {a : Addr} {ds : List Dt} {d : Dt} (h : FnC prog w W n a ds d) : Fn prog w W n a ds d := fun A g s vs R O rs Q E k => wpAny_call (h A g s vs Q E R O rs k)
set_option tactic.hygienic true in
/-- a def is entered, the things under way lie at old places -/
theorem enter {fd : FuncData} {a : Addr} {ps : List Str} {body : List Stmt} {ds : List Dt} {s : Shared} {vs : List Value} {Rr : Result → Shared → Prop} (D : DefOk w W a fd ps body) (hl : ps.length = ds.length) (room : A.depth < recursionLimit) (O : Ok W g s) (rs : Rds prog w g vs ds) (os : List Own)
    (how : ∀ o ∈ os, o.O g s.heap ∧ ∀ b ∈ o.fp, b ∈ o.xs ∧ b ∈ W.X ∧ b < s.heap.objs.size ∧ g.get? b = none) (dj : os.Pairwise (fun x y => ∀ b ∈ x.fp, b ∉ y.fp))
    (hb : ∀ L, Go prog w W (A.deeper (callEnvC fd L a)) (callEnvC fd L a) g s (ps.zip ds) [] os body (fun f s' => match f with | .ret v => Rr (.ok (.ret v)) s' | .next => Rr (.ok (.ret .none)) s' | _ => False) (fun _ _ => False)) :
    codeAny (model prog w) A (.call (.ref a) ⟨vs, []⟩) Rr s := by
  obtain ⟨o, ho, hd⟩ := D.at'
  have hlv : ps.length = vs.length := by rw [hl, rs.length]
  refine codeAny_call_function room (O.sub _ _ (O.wd.k _ _ ho)) hd D.co D.gen D.body' ((D.code g O.wd.k).keeps O.sub) ?_
  rw [D.clo]
  have names : ((ps.zip vs).map (·.1)) = ps := zip_names hlv
  refine (D.binds prog s.heap vs (O.wd.k.keeps O.sub) hlv).here (grows O.pos (wpAny_newFunctionEnv_cells D.kind (fun x hx => D.kinds _ x.1 (by
    have := List.mem_map_of_mem (f := (·.1)) hx
    rw [names] at this
    exact this)) fun env he s₁ X => fun p₁ z₁ => ?_))
  subst he
  refine ⟨(O.wd.nl.keeps O.sub).keeps X.toInCall.keep, codeAny_func ?_⟩
  obtain ⟨h₁, tk₁, rfl, kp⟩ := X.done
  have nd : ((ps.zip vs).map (·.1)).Nodup := by rw [names]; exact D.nd
  have cn : ((cellsFrom (s.heap.objs.size + 1) fd.scope.names []).map (·.1)).Nodup := by
    rw [cellsFrom_names fd.scope.names (s.heap.objs.size + 1) 0 [] [] rfl]; exact D.cn
  have e₁ : Ext g s.heap g h₁ := ⟨fun b o _ e => kp b o e, z₁, fun b o e => kp b o (O.sub b o e), fun _ _ => rfl⟩
  have off : ∀ b, s.heap.objs.size ≤ b → g.get? b = none ∧ isTab b = false := fun b hb => ⟨by
    cases e : g.get? b with
    | none => rfl
    | some o => exact absurd (Heap.lt_size (O.sub _ _ e)) (Nat.not_lt.mpr hb), by
    cases e : isTab b with
    | false => rfl
    | true => exact absurd (O.tb _ e) (Nat.not_lt.mpr hb)⟩
  have cell : ∀ p ∈ cellsFrom (s.heap.objs.size + 1) fd.scope.names [], s.heap.objs.size < p.2 ∧ ∃ ov, h₁.IsCell p.2 ov := fun p hp => ⟨X.above p.1 p.2 hp, _, X.cell p.1 p.2 (lookup_of_mem_nodup cn hp)⟩
  have F : Fs prog w W (callEnvC fd s.heap.objs.size a) g s (ps.zip ds) [] os g { s with heap := h₁, toks := tk₁ } := by
    refine ⟨⟨O.ext e₁ p₁, D.kind, D.gl, D.bt, ⟨X.toInCall.ns.lt, (off _ (Nat.le_refl _)).2⟩, fun p hp => ?_, fun x dx hx => ?_⟩, rfl, e₁.toX, ⟨_, X.toInCall.ns⟩, Nat.le_refl _, (off _ (Nat.le_refl _)).1, fun p hp => ?_, fun x y c hx hy => ?_, fun x v hx => by simp at hx, fun o ho => ?_, dj⟩
    · obtain ⟨c1, ov, o, c2, _⟩ := cell p hp
      exact ⟨Heap.lt_size c2, (off _ (Nat.le_of_lt c1)).2⟩
    · obtain ⟨v, hv, rv⟩ := zip_rd rs hx
      have hm : x ∈ ps := by
        have := mem_of_lookup_v hv
        rw [names] at this
        exact this
      refine ⟨v, ?_, rv⟩
      rcases D.kinds (s.heap.objs.size + 1) x hm with q | ⟨q, q'⟩
      · exact .inl ⟨q, (off _ (Nat.le_refl _)).2, _, X.toInCall.ns, bindL_get q nd hv⟩
      · obtain ⟨c, hc⟩ := Option.isSome_iff_exists.mp q'
        refine .inr ⟨.inl q, c, hc, (off _ (Nat.le_of_lt (X.above _ _ (mem_of_lk hc)))).2, ?_⟩
        have := X.cell x c hc
        rw [bindC_get q nd hv] at this
        exact this
    · obtain ⟨c1, c2⟩ := cell p hp
      exact ⟨Nat.le_of_lt c1, Nat.ne_of_gt c1, (off _ (Nat.le_of_lt c1)).1, c2⟩
    · exact name_of_addr X.apart hx hy
    · obtain ⟨q1, q2⟩ := how o ho
      refine ⟨o.ok q1 O.sub e₁.sub (Kp.refl g) fun b _ o' e => kp b o' e, fun b hb => ?_⟩
      obtain ⟨b1, b2, b3, b4⟩ := q2 b hb
      refine ⟨.inr ⟨b1, b2⟩, Nat.lt_of_lt_of_le b3 z₁, rfl, b4, Nat.ne_of_lt b3, fun p hp q => ?_⟩
      obtain ⟨c1, _⟩ := cell p hp
      rw [q] at c1
      exact absurd (Nat.lt_trans b3 c1) (Nat.lt_irrefl _)
  refine wpAny_mono ((hb s.heap.objs.size).run g _ F) (fun f s' h => ?_) fun _ _ h => h.elim
  cases f with
  | ret v => exact h
  | next => exact h
  | _ => exact h.elim
where
  mem_of_lookup_v {x : Str} {v : Value} : ∀ {bs : List (Str × Value)}, bs.lookup x = some v → x ∈ bs.map (·.1)
    | [], h => by simp at h
    | (y, e) :: bs, h => by
      simp only [List.lookup_cons] at h
      split at h
      · rename_i q; rw [eq_of_beq q]; simp
      · exact List.mem_cons_of_mem _ (mem_of_lookup_v h)
theorem fnc_of {fd : FuncData} {a : Addr} {ps : List Str} {body : List Stmt} {n : Nat} {ds : List Dt} {d : Dt} (D : DefOk w W a fd ps body) (hl : ps.length = ds.length)
    (hb : ∀ A L g s₀ Q E, Room A n → Ok W g s₀ → RetQ prog w g s₀ d Q → Go prog w W A (callEnvC fd L a) g s₀ (ps.zip ds) [] [] body Q E) : FnC prog w W (n + 1) a ds d := fun A g s vs Q E R O rs k => by
  refine enter D hl (Nat.lt_of_le_of_lt (Nat.le_add_right _ _) R.dp) O rs [] (fun _ h => nomatch h) .nil fun L => ?_
  exact hb (A.deeper (callEnvC fd L a)) L g s _ (fun _ _ => False) R.deeper O fun v g' h' tk e r => k v h' g' tk e r
theorem fn_of {fd : FuncData} {a : Addr} {ps : List Str} {body : List Stmt} {n : Nat} {ds : List Dt} {d : Dt} (D : DefOk w W a fd ps body) (hl : ps.length = ds.length)
    (hb : ∀ A L g s₀ Q E, Room A n → Ok W g s₀ → RetQ prog w g s₀ d Q → Go prog w W A (callEnvC fd L a) g s₀ (ps.zip ds) [] [] body Q E) : Fn prog w W (n + 1) a ds d := (fnc_of D hl hb).fn
end
end Mine
end
section
open PySem PySem.W PySem.Spec PySem.Calls PyProof.Rows PySem.Builtin PySem.Builtin.Str
set_option Elab.async false
set_option linter.unusedVariables false
set_option maxRecDepth 100000
namespace Mine
noncomputable def esOf : Option Obj → Option (Array DictEntry)
  | some ⟨_, _, .dict es _, _⟩ => some es
  | _ => none
noncomputable def fdOf : Option Obj → Option FuncData
  | some ⟨_, _, .func f, _⟩ => some f
  | _ => none
noncomputable def esT (P : Params) : { es : Array DictEntry // esOf ((Mine.hd.heap_1 P).lookup 3) = some es } := by
  refine ⟨?_, ?h⟩
  rotate_left
  (conv => lhs; whnf)
noncomputable def mgC (P : Params) : Str → Option Value := fun x => nsFind (esT P).1 x
/-- the world of this claim -/
noncomputable abbrev WW (w : World) (mb : Str → Option Value) : Wo := { K := Mine.hd.heap_1 w.params, mg := mgC w.params, mb := mb, X := [], invm := fun _ _ => trivial }
theorem len1 {R : List Value → Prop} (h : ∀ a, R [a]) (vs : List Value) (e : 1 = vs.length) : R vs := by
  obtain ⟨a, rfl⟩ := List.length_eq_one_iff.mp e.symm
  exact h a
theorem len2 {R : List Value → Prop} (h : ∀ a b, R [a, b]) (vs : List Value) (e : 2 = vs.length) : R vs := by
  cases vs with
  | nil => cases e
  | cons a r => exact len1 (R := fun r => R (a :: r)) (h a) r (Nat.succ.inj e)
theorem len3 {R : List Value → Prop} (h : ∀ a b c, R [a, b, c]) (vs : List Value) (e : 3 = vs.length) : R vs := by
  cases vs with
  | nil => cases e
  | cons a r => exact len2 (R := fun r => R (a :: r)) (h a) r (Nat.succ.inj e)

noncomputable def f46 (P : Params) : { fd : FuncData // fdOf ((Mine.hd.heap_1 P).lookup 46) = some fd } := by
  refine ⟨?_, ?h⟩
  rotate_left
  (conv => lhs; whnf)
noncomputable def b46 (P : Params) : { b : List Stmt // (f46 P).1.body = .stmts b } := ⟨_, rfl⟩
theorem d46 {w : World} {mb : Str → Option Value} : DefOk w (WW w mb) 46 (f46 w.params).1 [("l" : Str)] (b46 w.params).1 where
  at' := ⟨_, rfl, rfl⟩
  code := fun g h => codeRec_of h (by rfl)
  body' := rfl
  gl := rfl
  bt := rfl
  clo := rfl
  binds := fun prog g vs X h => by
    refine len1 (R := fun vs => Looks (model prog w) g (bindArgs (f46 w.params).1 ⟨vs, []⟩) (List.zip [("l" : Str)] vs)) (fun _ => ?_) vs h
    exact Looks.of_pure (by rfl)
  nd := by decide +kernel
  kinds := fun n x hx => by
    simp only [List.mem_cons, List.not_mem_nil, or_false] at hx
    subst hx <;> first | exact .inl rfl | exact .inr ⟨rfl, rfl⟩
  cn := by first | (show List.Nodup ([] : List Str); decide +kernel)
  co := rfl
  gen := rfl
  kind := rfl

noncomputable def f51 (P : Params) : { fd : FuncData // fdOf ((Mine.hd.heap_1 P).lookup 51) = some fd } := by
  refine ⟨?_, ?h⟩
  rotate_left
  (conv => lhs; whnf)
noncomputable def b51 (P : Params) : { b : List Stmt // (f51 P).1.body = .stmts b } := ⟨_, rfl⟩
theorem d51 {w : World} {mb : Str → Option Value} : DefOk w (WW w mb) 51 (f51 w.params).1 [("s" : Str)] (b51 w.params).1 where
  at' := ⟨_, rfl, rfl⟩
  code := fun g h => codeRec_of h (by rfl)
  body' := rfl
  gl := rfl
  bt := rfl
  clo := rfl
  binds := fun prog g vs X h => by
    refine len1 (R := fun vs => Looks (model prog w) g (bindArgs (f51 w.params).1 ⟨vs, []⟩) (List.zip [("s" : Str)] vs)) (fun _ => ?_) vs h
    exact Looks.of_pure (by rfl)
  nd := by decide +kernel
  kinds := fun n x hx => by
    simp only [List.mem_cons, List.not_mem_nil, or_false] at hx
    subst hx <;> first | exact .inl rfl | exact .inr ⟨rfl, rfl⟩
  cn := by first | (show List.Nodup ([] : List Str); decide +kernel)
  co := rfl
  gen := rfl
  kind := rfl

noncomputable def f223 (P : Params) : { fd : FuncData // fdOf ((Mine.hd.heap_1 P).lookup 223) = some fd } := by
  refine ⟨?_, ?h⟩
  rotate_left
  (conv => lhs; whnf)
noncomputable def b223 (P : Params) : { b : List Stmt // (f223 P).1.body = .stmts b } := ⟨_, rfl⟩
theorem d223 {w : World} {mb : Str → Option Value} : DefOk w (WW w mb) 223 (f223 w.params).1 [("n" : Str)] (b223 w.params).1 where
  at' := ⟨_, rfl, rfl⟩
  code := fun g h => codeRec_of h (by rfl)
  body' := rfl
  gl := rfl
  bt := rfl
  clo := rfl
  binds := fun prog g vs X h => by
    refine len1 (R := fun vs => Looks (model prog w) g (bindArgs (f223 w.params).1 ⟨vs, []⟩) (List.zip [("n" : Str)] vs)) (fun _ => ?_) vs h
    exact Looks.of_pure (by rfl)
  nd := by decide +kernel
  kinds := fun n x hx => by
    simp only [List.mem_cons, List.not_mem_nil, or_false] at hx
    subst hx <;> first | exact .inl rfl | exact .inr ⟨rfl, rfl⟩
  cn := by first | (show List.Nodup ([("signs" : Str), ("n" : Str)] : List Str); decide +kernel) | (show List.Nodup ([("n" : Str), ("signs" : Str)] : List Str); decide +kernel)
  co := rfl
  gen := rfl
  kind := rfl

noncomputable def f230 (P : Params) : { fd : FuncData // fdOf ((Mine.hd.heap_1 P).lookup 230) = some fd } := by
  refine ⟨?_, ?h⟩
  rotate_left
  (conv => lhs; whnf)
noncomputable def b230 (P : Params) : { b : List Stmt // (f230 P).1.body = .stmts b } := ⟨_, rfl⟩
theorem d230 {w : World} {mb : Str → Option Value} : DefOk w (WW w mb) 230 (f230 w.params).1 [("pairs" : Str), ("how" : Str)] (b230 w.params).1 where
  at' := ⟨_, rfl, rfl⟩
  code := fun g h => codeRec_of h (by rfl)
  body' := rfl
  gl := rfl
  bt := rfl
  clo := rfl
  binds := fun prog g vs X h => by
    refine len2 (R := fun vs => Looks (model prog w) g (bindArgs (f230 w.params).1 ⟨vs, []⟩) (List.zip [("pairs" : Str), ("how" : Str)] vs)) (fun _ _ => ?_) vs h
    exact Looks.of_pure (by rfl)
  nd := by decide +kernel
  kinds := fun n x hx => by
    simp only [List.mem_cons, List.not_mem_nil, or_false] at hx
    rcases hx with rfl | rfl <;> first | exact .inl rfl | exact .inr ⟨rfl, rfl⟩
  cn := by first | (show List.Nodup ([] : List Str); decide +kernel)
  co := rfl
  gen := rfl
  kind := rfl

noncomputable def f235 (P : Params) : { fd : FuncData // fdOf ((Mine.hd.heap_1 P).lookup 235) = some fd } := by
  refine ⟨?_, ?h⟩
  rotate_left
  (conv => lhs; whnf)
noncomputable def b235 (P : Params) : { b : List Stmt // (f235 P).1.body = .stmts b } := ⟨_, rfl⟩
theorem d235 {w : World} {mb : Str → Option Value} : DefOk w (WW w mb) 235 (f235 w.params).1 [("header" : Str)] (b235 w.params).1 where
  at' := ⟨_, rfl, rfl⟩
  code := fun g h => codeRec_of h (by rfl)
  body' := rfl
  gl := rfl
  bt := rfl
  clo := rfl
  binds := fun prog g vs X h => by
    refine len1 (R := fun vs => Looks (model prog w) g (bindArgs (f235 w.params).1 ⟨vs, []⟩) (List.zip [("header" : Str)] vs)) (fun _ => ?_) vs h
    exact Looks.of_pure (by rfl)
  nd := by decide +kernel
  kinds := fun n x hx => by
    simp only [List.mem_cons, List.not_mem_nil, or_false] at hx
    subst hx <;> first | exact .inl rfl | exact .inr ⟨rfl, rfl⟩
  cn := by first | (show List.Nodup ([("told" : Str), ("bare" : Str)] : List Str); decide +kernel) | (show List.Nodup ([("bare" : Str), ("told" : Str)] : List Str); decide +kernel)
  co := rfl
  gen := rfl
  kind := rfl

noncomputable def f240 (P : Params) : { fd : FuncData // fdOf ((Mine.hd.heap_1 P).lookup 240) = some fd } := by
  refine ⟨?_, ?h⟩
  rotate_left
  (conv => lhs; whnf)
noncomputable def b240 (P : Params) : { b : List Stmt // (f240 P).1.body = .stmts b } := ⟨_, rfl⟩
theorem d240 {w : World} {mb : Str → Option Value} : DefOk w (WW w mb) 240 (f240 w.params).1 [("pairs" : Str)] (b240 w.params).1 where
  at' := ⟨_, rfl, rfl⟩
  code := fun g h => codeRec_of h (by rfl)
  body' := rfl
  gl := rfl
  bt := rfl
  clo := rfl
  binds := fun prog g vs X h => by
    refine len1 (R := fun vs => Looks (model prog w) g (bindArgs (f240 w.params).1 ⟨vs, []⟩) (List.zip [("pairs" : Str)] vs)) (fun _ => ?_) vs h
    exact Looks.of_pure (by rfl)
  nd := by decide +kernel
  kinds := fun n x hx => by
    simp only [List.mem_cons, List.not_mem_nil, or_false] at hx
    subst hx <;> first | exact .inl rfl | exact .inr ⟨rfl, rfl⟩
  cn := by first | (show List.Nodup ([] : List Str); decide +kernel)
  co := rfl
  gen := rfl
  kind := rfl

noncomputable def f247 (P : Params) : { fd : FuncData // fdOf ((Mine.hd.heap_1 P).lookup 247) = some fd } := by
  refine ⟨?_, ?h⟩
  rotate_left
  (conv => lhs; whnf)
noncomputable def b247 (P : Params) : { b : List Stmt // (f247 P).1.body = .stmts b } := ⟨_, rfl⟩
theorem d247 {w : World} {mb : Str → Option Value} : DefOk w (WW w mb) 247 (f247 w.params).1 [("rows" : Str)] (b247 w.params).1 where
  at' := ⟨_, rfl, rfl⟩
  code := fun g h => codeRec_of h (by rfl)
  body' := rfl
  gl := rfl
  bt := rfl
  clo := rfl
  binds := fun prog g vs X h => by
    refine len1 (R := fun vs => Looks (model prog w) g (bindArgs (f247 w.params).1 ⟨vs, []⟩) (List.zip [("rows" : Str)] vs)) (fun _ => ?_) vs h
    exact Looks.of_pure (by rfl)
  nd := by decide +kernel
  kinds := fun n x hx => by
    simp only [List.mem_cons, List.not_mem_nil, or_false] at hx
    subst hx <;> first | exact .inl rfl | exact .inr ⟨rfl, rfl⟩
  cn := by first | (show List.Nodup ([] : List Str); decide +kernel)
  co := rfl
  gen := rfl
  kind := rfl

noncomputable def f252 (P : Params) : { fd : FuncData // fdOf ((Mine.hd.heap_1 P).lookup 252) = some fd } := by
  refine ⟨?_, ?h⟩
  rotate_left
  (conv => lhs; whnf)
noncomputable def b252 (P : Params) : { b : List Stmt // (f252 P).1.body = .stmts b } := ⟨_, rfl⟩
theorem d252 {w : World} {mb : Str → Option Value} : DefOk w (WW w mb) 252 (f252 w.params).1 [("book" : Str), ("how" : Str)] (b252 w.params).1 where
  at' := ⟨_, rfl, rfl⟩
  code := fun g h => codeRec_of h (by rfl)
  body' := rfl
  gl := rfl
  bt := rfl
  clo := rfl
  binds := fun prog g vs X h => by
    refine len2 (R := fun vs => Looks (model prog w) g (bindArgs (f252 w.params).1 ⟨vs, []⟩) (List.zip [("book" : Str), ("how" : Str)] vs)) (fun _ _ => ?_) vs h
    exact Looks.of_pure (by rfl)
  nd := by decide +kernel
  kinds := fun n x hx => by
    simp only [List.mem_cons, List.not_mem_nil, or_false] at hx
    rcases hx with rfl | rfl <;> first | exact .inl rfl | exact .inr ⟨rfl, rfl⟩
  cn := by first | (show List.Nodup ([] : List Str); decide +kernel)
  co := rfl
  gen := rfl
  kind := rfl

noncomputable def f259 (P : Params) : { fd : FuncData // fdOf ((Mine.hd.heap_1 P).lookup 259) = some fd } := by
  refine ⟨?_, ?h⟩
  rotate_left
  (conv => lhs; whnf)
noncomputable def b259 (P : Params) : { b : List Stmt // (f259 P).1.body = .stmts b } := ⟨_, rfl⟩
theorem d259 {w : World} {mb : Str → Option Value} : DefOk w (WW w mb) 259 (f259 w.params).1 [("book" : Str)] (b259 w.params).1 where
  at' := ⟨_, rfl, rfl⟩
  code := fun g h => codeRec_of h (by rfl)
  body' := rfl
  gl := rfl
  bt := rfl
  clo := rfl
  binds := fun prog g vs X h => by
    refine len1 (R := fun vs => Looks (model prog w) g (bindArgs (f259 w.params).1 ⟨vs, []⟩) (List.zip [("book" : Str)] vs)) (fun _ => ?_) vs h
    exact Looks.of_pure (by rfl)
  nd := by decide +kernel
  kinds := fun n x hx => by
    simp only [List.mem_cons, List.not_mem_nil, or_false] at hx
    subst hx <;> first | exact .inl rfl | exact .inr ⟨rfl, rfl⟩
  cn := by first | (show List.Nodup ([] : List Str); decide +kernel)
  co := rfl
  gen := rfl
  kind := rfl

noncomputable def f264 (P : Params) : { fd : FuncData // fdOf ((Mine.hd.heap_1 P).lookup 264) = some fd } := by
  refine ⟨?_, ?h⟩
  rotate_left
  (conv => lhs; whnf)
noncomputable def b264 (P : Params) : { b : List Stmt // (f264 P).1.body = .stmts b } := ⟨_, rfl⟩
theorem d264 {w : World} {mb : Str → Option Value} : DefOk w (WW w mb) 264 (f264 w.params).1 [("rows" : Str), ("how" : Str)] (b264 w.params).1 where
  at' := ⟨_, rfl, rfl⟩
  code := fun g h => codeRec_of h (by rfl)
  body' := rfl
  gl := rfl
  bt := rfl
  clo := rfl
  binds := fun prog g vs X h => by
    refine len2 (R := fun vs => Looks (model prog w) g (bindArgs (f264 w.params).1 ⟨vs, []⟩) (List.zip [("rows" : Str), ("how" : Str)] vs)) (fun _ _ => ?_) vs h
    exact Looks.of_pure (by rfl)
  nd := by decide +kernel
  kinds := fun n x hx => by
    simp only [List.mem_cons, List.not_mem_nil, or_false] at hx
    rcases hx with rfl | rfl <;> first | exact .inl rfl | exact .inr ⟨rfl, rfl⟩
  cn := by first | (show List.Nodup ([] : List Str); decide +kernel)
  co := rfl
  gen := rfl
  kind := rfl

noncomputable def f269 (P : Params) : { fd : FuncData // fdOf ((Mine.hd.heap_1 P).lookup 269) = some fd } := by
  refine ⟨?_, ?h⟩
  rotate_left
  (conv => lhs; whnf)
noncomputable def b269 (P : Params) : { b : List Stmt // (f269 P).1.body = .stmts b } := ⟨_, rfl⟩
theorem d269 {w : World} {mb : Str → Option Value} : DefOk w (WW w mb) 269 (f269 w.params).1 [("rows" : Str)] (b269 w.params).1 where
  at' := ⟨_, rfl, rfl⟩
  code := fun g h => codeRec_of h (by rfl)
  body' := rfl
  gl := rfl
  bt := rfl
  clo := rfl
  binds := fun prog g vs X h => by
    refine len1 (R := fun vs => Looks (model prog w) g (bindArgs (f269 w.params).1 ⟨vs, []⟩) (List.zip [("rows" : Str)] vs)) (fun _ => ?_) vs h
    exact Looks.of_pure (by rfl)
  nd := by decide +kernel
  kinds := fun n x hx => by
    simp only [List.mem_cons, List.not_mem_nil, or_false] at hx
    subst hx <;> first | exact .inl rfl | exact .inr ⟨rfl, rfl⟩
  cn := by first | (show List.Nodup ([("firsts" : Str), ("pairs" : Str)] : List Str); decide +kernel) | (show List.Nodup ([("pairs" : Str), ("firsts" : Str)] : List Str); decide +kernel)
  co := rfl
  gen := rfl
  kind := rfl

noncomputable def f209 (P : Params) : { fd : FuncData // fdOf ((Mine.hd.heap_1 P).lookup 209) = some fd } := by
  refine ⟨?_, ?h⟩
  rotate_left
  (conv => lhs; whnf)
noncomputable def b209 (P : Params) : { b : List Stmt // (f209 P).1.body = .stmts b } := ⟨_, rfl⟩
theorem d209 {w : World} {mb : Str → Option Value} : DefOk w (WW w mb) 209 (f209 w.params).1 [("cls" : Str), ("text" : Str)] (b209 w.params).1 where
  at' := ⟨_, rfl, rfl⟩
  code := fun g h => codeRec_of h (by rfl)
  body' := rfl
  gl := rfl
  bt := rfl
  clo := rfl
  binds := fun prog g vs X h => by
    refine len2 (R := fun vs => Looks (model prog w) g (bindArgs (f209 w.params).1 ⟨vs, []⟩) (List.zip [("cls" : Str), ("text" : Str)] vs)) (fun _ _ => ?_) vs h
    exact Looks.of_pure (by rfl)
  nd := by decide +kernel
  kinds := fun n x hx => by
    simp only [List.mem_cons, List.not_mem_nil, or_false] at hx
    rcases hx with rfl | rfl <;> first | exact .inl rfl | exact .inr ⟨rfl, rfl⟩
  cn := by first | (show List.Nodup ([] : List Str); decide +kernel)
  co := rfl
  gen := rfl
  kind := rfl

noncomputable def f142 (P : Params) : { fd : FuncData // fdOf ((Mine.hd.heap_1 P).lookup 142) = some fd } := by
  refine ⟨?_, ?h⟩
  rotate_left
  (conv => lhs; whnf)
noncomputable def b142 (P : Params) : { b : List Stmt // (f142 P).1.body = .stmts b } := ⟨_, rfl⟩
theorem d142 {w : World} {mb : Str → Option Value} : DefOk w (WW w mb) 142 (f142 w.params).1 [("_cls" : Str), ("name" : Str), ("value" : Str)] (b142 w.params).1 where
  at' := ⟨_, rfl, rfl⟩
  code := fun g h => codeRec_of h (by rfl)
  body' := rfl
  gl := rfl
  bt := rfl
  clo := rfl
  binds := fun prog g vs X h => by
    refine len3 (R := fun vs => Looks (model prog w) g (bindArgs (f142 w.params).1 ⟨vs, []⟩) (List.zip [("_cls" : Str), ("name" : Str), ("value" : Str)] vs)) (fun _ _ _ => ?_) vs h
    exact Looks.of_pure (by rfl)
  nd := by decide +kernel
  kinds := fun n x hx => by
    simp only [List.mem_cons, List.not_mem_nil, or_false] at hx
    rcases hx with rfl | rfl | rfl <;> first | exact .inl rfl | exact .inr ⟨rfl, rfl⟩
  cn := by first | (show List.Nodup ([] : List Str); decide +kernel)
  co := rfl
  gen := rfl
  kind := rfl

noncomputable def f73 (P : Params) : { fd : FuncData // fdOf ((Mine.hd.heap_1 P).lookup 73) = some fd } := by
  refine ⟨?_, ?h⟩
  rotate_left
  (conv => lhs; whnf)
noncomputable def b73 (P : Params) : { b : List Stmt // (f73 P).1.body = .stmts b } := ⟨_, rfl⟩
theorem d73 {w : World} {mb : Str → Option Value} : DefOk w (WW w mb) 73 (f73 w.params).1 [("self" : Str), ("obj" : Str), ("objtype" : Str)] (b73 w.params).1 where
  at' := ⟨_, rfl, rfl⟩
  code := fun g h => codeRec_of h (by rfl)
  body' := rfl
  gl := rfl
  bt := rfl
  clo := rfl
  binds := fun prog g vs X h => by
    refine len3 (R := fun vs => Looks (model prog w) g (bindArgs (f73 w.params).1 ⟨vs, []⟩) (List.zip [("self" : Str), ("obj" : Str), ("objtype" : Str)] vs)) (fun _ _ _ => ?_) vs h
    exact Looks.of_peek (M := model prog w) X (by kernel_rfl)
  nd := by decide +kernel
  kinds := fun n x hx => by
    simp only [List.mem_cons, List.not_mem_nil, or_false] at hx
    rcases hx with rfl | rfl | rfl <;> first | exact .inl rfl | exact .inr ⟨rfl, rfl⟩
  cn := by first | (show List.Nodup ([] : List Str); decide +kernel)
  co := rfl
  gen := rfl
  kind := rfl

noncomputable def f117 (P : Params) : { fd : FuncData // fdOf ((Mine.hd.heap_1 P).lookup 117) = some fd } := by
  refine ⟨?_, ?h⟩
  rotate_left
  (conv => lhs; whnf)
noncomputable def b117 (P : Params) : { b : List Stmt // (f117 P).1.body = .stmts b } := ⟨_, rfl⟩
theorem d117 {w : World} {mb : Str → Option Value} : DefOk w (WW w mb) 117 (f117 w.params).1 [("self" : Str)] (b117 w.params).1 where
  at' := ⟨_, rfl, rfl⟩
  code := fun g h => codeRec_of h (by rfl)
  body' := rfl
  gl := rfl
  bt := rfl
  clo := rfl
  binds := fun prog g vs X h => by
    refine len1 (R := fun vs => Looks (model prog w) g (bindArgs (f117 w.params).1 ⟨vs, []⟩) (List.zip [("self" : Str)] vs)) (fun _ => ?_) vs h
    exact Looks.of_pure (by rfl)
  nd := by decide +kernel
  kinds := fun n x hx => by
    simp only [List.mem_cons, List.not_mem_nil, or_false] at hx
    subst hx <;> first | exact .inl rfl | exact .inr ⟨rfl, rfl⟩
  cn := by first | (show List.Nodup ([("self" : Str)] : List Str); decide +kernel)
  co := rfl
  gen := rfl
  kind := rfl

end Mine
end
section
open PySem PySem.W PySem.Spec PySem.Calls PyProof.Rows PySem.Builtin PySem.Builtin.Str
set_option Elab.async false
set_option tactic.hygienic false
set_option linter.unusedVariables false
set_option maxRecDepth 100000
namespace Mine

/-- parse_http_list's state: what is found, the part under way, behind a backslash, in quotes -/
noncomputable abbrev PSt := List Str × Str × Bool × Bool
noncomputable def one (c : Nat) : Str := ⟨#[c]⟩
noncomputable def pstep (q : PSt) (c : Nat) : PSt :=
  if q.2.2.1 then (q.1, q.2.1 ++ one c, false, q.2.2.2)
  else if q.2.2.2 then
    if one c == ("\\" : Str) then (q.1, q.2.1, true, true)
    else if one c == ("\"" : Str) then (q.1, q.2.1 ++ one c, false, false)
    else (q.1, q.2.1 ++ one c, false, true)
  else if one c == ("," : Str) then (q.1 ++ [q.2.1], "", false, false)
  else if one c == ("\"" : Str) then (q.1, q.2.1 ++ one c, false, true)
  else (q.1, q.2.1 ++ one c, false, false)
noncomputable def pst (y : Str) (i : Nat) : PSt := (y.cps.toList.take i).foldl pstep ([], "", false, false)
noncomputable def parseH (y : Str) : List Str :=
  let q := pst y y.cps.size
  (if q.2.1.length == 0 then q.1 else q.1 ++ [q.2.1]).map Txt.strip

section
variable {prog : Program} {w : World} {A : Around} {env : Env} {mb : Str → Option Value}
theorem tst_strName {W : Wo} {ρ : Str → Option Dt} {x : Str} {pos : Pos} {y : Str} (hx : Ev prog w W A env ρ (.Name x pos) (.str y)) (hz : y.length < 2 ^ 62) : Tst prog w W A env ρ (.Name x pos) (!(y.length == 0)) := .mk fun g s S Q E k => by
  refine wpAny_isTrue_value ((hx.run g s S).use S.pos fun v h' g' tk p e r => ?_)
  first | obtain rfl := r.inv | obtain ⟨_, rfl⟩ := r.inv
  have e1 : (((y.length : Nat) : Int) != 0) = !(y.length == 0) := by
    cases hq : y.length == 0 with
    | true => have := eq_of_beq hq; simp [this]
    | false => have : y.length ≠ 0 := fun q => by simp [q] at hq
               simp [this]
  refine PySem.P.truthy_str (by omega) ?_
  rw [e1]
  exact k h' g' _ (Nat.succ_pos _) e
noncomputable abbrev lsP (q : PSt) : List (Str × Dt) := [("part", .str q.2.1), ("escape", .bool q.2.2.1), ("quote", .bool q.2.2.2)]
theorem leafP {W : Wo} {g₀ g : Heap} {s₀ s : Shared} {l : List (Str × Dt)} {D : Addr} {it : Own} {f : Flow} {q q' : PSt} (F : Fs prog w W env g₀ s₀ l [("res", .ref D)] [ownL prog w D (q.1.map .str), it] g s) (hf : f = .next ∨ f = .cont) (hq : q' = q)
    (h : Sub (lsP q) l) : TurnTo prog w W env g₀ s₀ (lsP q') [("res", .ref D)] [ownL prog w D (q'.1.map .str), it] f s := by
  subst hq
  exact ⟨hf, g, F.weaken h fun _ _ e => e⟩
theorem pst_succ {y : Str} {i c : Nat} (h : y.cps.toList[i]? = some c) : pst y (i + 1) = pstep (pst y i) c := by
  unfold pst
  rw [List.take_add_one, h, List.foldl_append]
  rfl
theorem len_app (a b : Str) : (a ++ b).length = a.length + b.length := by
  show (a.cps ++ b.cps).size = _
  rw [Array.size_append]; rfl
theorem len_one (c : Nat) : (one c).length = 1 := rfl
theorem pstep_len (q : PSt) (c : Nat) : (pstep q c).2.1.length ≤ q.2.1.length + 1 ∧ (pstep q c).1.length ≤ q.1.length + 1 := by
  have e0 : (("" : Str)).length = 0 := by decide +kernel
  unfold pstep
  repeat' split
  all_goals simp only [len_app, len_one, e0, List.length_append, List.length_cons, List.length_nil]
  all_goals omega
theorem pst_len (y : Str) (i : Nat) : (pst y i).2.1.length ≤ i ∧ (pst y i).1.length ≤ i := by
  induction i with
  | zero => exact ⟨(by decide +kernel : (("" : Str)).length ≤ 0), Nat.le_refl _⟩
  | succ i ih =>
    cases h : y.cps.toList[i]? with
    | none =>
      have : pst y (i + 1) = pst y i := by
        unfold pst
        rw [List.take_add_one, h]; simp
      rw [this]; omega
    | some c =>
      rw [pst_succ h]
      have := pstep_len (pst y i) c
      omega
theorem pst_all (y : Str) (i : Nat) : ∀ x ∈ (pst y i).1, x.length ≤ i := by
  induction i with
  | zero => intro x hx; exact absurd hx (by show x ∉ []; simp)
  | succ i ih =>
    intro x hx
    cases h : y.cps.toList[i]? with
    | none =>
      have : pst y (i + 1) = pst y i := by
        unfold pst
        rw [List.take_add_one, h]; simp
      rw [this] at hx
      have := ih x hx; omega
    | some c =>
      rw [pst_succ h] at hx
      have hl := (pst_len y i).1
      generalize pst y i = q at ih hx hl
      have key : x ∈ q.1 ∨ x = q.2.1 := by
        unfold pstep at hx
        repeat' split at hx
        all_goals first | exact .inl hx | (simp only [List.mem_append, List.mem_singleton] at hx; exact hx)
      rcases key with k | rfl
      · have := ih x k; omega
      · omega
/-- the comprehension of the strips -/
theorem ev_strips {W : Wo} {ρ : Str → Option Dt} {iter : Expr} {px py pa pos cpos : Pos} {scope : Scope} {xs : List Str} (hh : A.handled = none) (x : Ev prog w W A env ρ iter (.lst (xs.map .str))) (hx : ∀ x ∈ xs, x.length ≤ sizeLine) (hz : xs.length ≤ sizeLine)
    (hclos : closureFor scope env = pure []) (hk : ∀ C, (compEnvC scope [] C env).kindOf "part" = some .local) (hkind : scope.kind = .function) (hcell : ∀ y ∈ scope.names, y.2 ≠ .cell)
    (hnames : ∀ x ∈ scope.names, x.2 = .local → scope.names.lookup x.1 = some .local) (hs : ∀ x, foldedSetIterable iter env x = pure x) (hline : (pa.endLine == cpos.line) = true) :
    Ev prog w W A env ρ (.ListComp (.Call (.Attribute (.Name "part" py) "strip" pa) [] [] cpos) [⟨.Name "part" px, iter, [], 0⟩] scope pos) (.lst ((xs.map Txt.strip).map .str)) := by
  refine ev_comp [] (src_list hh x) hclos (fun _ h => nomatch h) clok_nil (spec1 hh (by simp) (by simpa using hz) fun C i d r hd hr => ?_) hkind hcell hnames hs
  rw [List.getElem?_map] at hd hr
  rw [List.getElem?_map] at hr
  obtain ⟨x, hi, rfl⟩ := Option.map_eq_some_iff.mp hd
  rw [hi] at hr
  obtain rfl := Option.some.inj hr
  · refine ⟨[("part", .str x)], .name, fun y hy => ?_, by simp, fun _ _ h => (nomatch h), ?_⟩
    · simp only [List.map_cons, List.map_nil, List.mem_singleton] at hy; subst hy; exact hk C
    · exact ev_meth (ev_name rfl) evl_nil (mt_strip (hx x (List.mem_of_getElem? hi))) ty_str F.plainAttrs_str F.slot_str_strip F.type_str_strip rfl rfl hline
theorem fn_parse {y : Str} (hy : y.length < sizeLine) : Fn prog w (WW w mb) 1 51 [.str y] (.lst ((parseH y).map .str)) := by
  have hsz : sizeLine = 16777216 := rfl
  refine fn_of d51 rfl fun A L g s₀ Q E R O q => ?_
  refine go_doc ?_
  refine go_assignL fun D => ?_
  refine go_assign ev_str ?_
  refine go_assign2 ev_bool ?_
  refine go_for (ds := chars y) (fun i => lsP (pst y i)) (fun i => [ownL prog w D ((pst y i).1.map .str)]) R.hd (src_str R.hd (ev_name rfl)) ⟨rfl, rfl, rfl, trivial⟩ rfl (fun i d it hd => ?_) ?_
  · obtain ⟨c, hc, rfl⟩ : ∃ c, y.cps.toList[i]? = some c ∧ d = .str (one c) := by
      unfold chars at hd
      rw [List.getElem?_map] at hd
      cases hc : y.cps.toList[i]? with
      | none => rw [hc] at hd; cases hd
      | some c => rw [hc] at hd; cases hd; exact ⟨c, rfl, rfl⟩
    have hi : i < y.length := by
      obtain ⟨q, _⟩ := List.getElem?_eq_some_iff.mp hc
      show i < y.cps.size
      simpa using q
    have hl := pst_len y i
    rw [pst_succ hc]
    generalize pst y i = q at hl ⊢
    obtain ⟨res, part, esc, quo⟩ := q
    refine ⟨[("cur", .str (one c))], .name, fun x hx => ?_, by simp, fun x hx => ?_, fun E' => ?_⟩
    · rw [List.mem_singleton.mp hx]; rfl
    · rw [List.mem_singleton.mp hx]; rfl
    simp only at hl
    have hap : part.length + (one c).length ≤ sizeLine := by rw [len_one]; omega
    refine go_if (tst_bool (ev_name rfl)) (fun he => ?_) fun he => ?_
    · subst he
      refine go_augS rfl (ev_name rfl) hap ?_
      refine go_assign ev_bool ?_
      exact go_continue fun g s F => leafP (q := (res, part ++ one c, false, quo)) F (.inr rfl) rfl ⟨rfl, rfl, rfl, trivial⟩
    subst he
    refine go_done ?_
    refine go_if (tst_bool (ev_name rfl)) (fun he => ?_) fun he => ?_
    · subst he
      refine go_if (tst_cmp (ev_name rfl) ev_str bin_eqS) (fun h1 => ?_) fun h1 => ?_
      · refine go_assign ev_bool ?_
        exact go_continue fun g s F => leafP (q := (res, part, true, true)) F (.inr rfl) (by simp [pstep, h1]) ⟨rfl, rfl, rfl, trivial⟩
      refine go_if (tst_cmp (ev_name rfl) ev_str bin_eqS) (fun h2 => ?_) fun h2 => ?_
      · refine go_assign ev_bool ?_
        refine go_done2 ?_
        refine go_augS rfl (ev_name rfl) hap ?_
        exact go_continue fun g s F => leafP (q := (res, part ++ one c, false, false)) F (.inr rfl) (by simp [pstep, h1, h2]) ⟨rfl, rfl, rfl, trivial⟩
      · refine go_done2 ?_
        refine go_augS rfl (ev_name rfl) hap ?_
        exact go_continue fun g s F => leafP (q := (res, part ++ one c, false, true)) F (.inr rfl) (by simp [pstep, h1, h2]) ⟨rfl, rfl, rfl, trivial⟩
    subst he
    refine go_done ?_
    refine go_if (tst_cmp (ev_name rfl) ev_str bin_eqS) (fun h1 => ?_) fun h1 => ?_
    · refine go_append (ev_name rfl) rfl (by rw [List.length_map]; show res.length ≤ _; omega) ?_
      refine go_assign ev_str ?_
      refine go_continue fun g s F => leafP (q := (res ++ [part], "", false, false)) (by simpa using F) (.inr rfl) (by simp [pstep, h1]) ⟨rfl, rfl, rfl, trivial⟩
    refine go_done ?_
    refine go_if (tst_cmp (ev_name rfl) ev_str bin_eqS) (fun h2 => ?_) fun h2 => ?_
    · refine go_assign ev_bool ?_
      refine go_done ?_
      refine go_augS rfl (ev_name rfl) hap ?_
      exact go_nil fun g s F => leafP (q := (res, part ++ one c, false, true)) F (.inl rfl) (by simp [pstep, h1, h2]) ⟨rfl, rfl, rfl, trivial⟩
    · refine go_done ?_
      refine go_augS rfl (ev_name rfl) hap ?_
      exact go_nil fun g s F => leafP (q := (res, part ++ one c, false, false)) F (.inl rfl) (by simp [pstep, h1, h2]) ⟨rfl, rfl, rfl, trivial⟩
  · have hn : (chars y).length = y.cps.size := by simp [chars]
    rw [hn]
    have hl := pst_len y y.cps.size
    have hpy : y.cps.size = y.length := rfl
    have hP : parseH y = (if (pst y y.cps.size).2.1.length == 0 then (pst y y.cps.size).1 else (pst y y.cps.size).1 ++ [(pst y y.cps.size).2.1]).map Txt.strip := rfl
    rw [hP] at q
    have hall : ∀ x ∈ (pst y y.cps.size).1 ++ [(pst y y.cps.size).2.1], x.length ≤ sizeLine := fun x hx => by
      rcases List.mem_append.mp hx with h | h
      · have := pst_all y _ x h; omega
      · rw [List.mem_singleton.mp h]; omega
    generalize pst y y.cps.size = p at hl q hall ⊢
    obtain ⟨res, part, esc, quo⟩ := p
    simp only at hl q hall ⊢
    refine go_if (tst_strName (ev_name rfl) (by show part.length < _; omega)) (fun he => ?_) fun he => ?_
    · refine go_append (ev_name rfl) rfl (by rw [List.length_map]; show res.length ≤ _; omega) ?_
      refine go_done (go_seal ?_)
      have e : (part.length == 0) = false := by simpa using he
      rw [e, if_neg (by simp)] at q
      refine go_return (ev_strips (xs := res ++ [part]) R.hd (by rw [List.map_append]; exact ev_name rfl) hall (by rw [List.length_append]; show res.length + 1 ≤ _; omega) rfl (fun _ => rfl) rfl (by decide +kernel) (by decide +kernel) (fun _ => rfl) rfl) q
    · refine go_done (go_seal ?_)
      have e : (part.length == 0) = true := by simpa using he
      rw [e, if_pos rfl] at q
      refine go_return (ev_strips (xs := res) R.hd (ev_name rfl) (fun x hx => hall x (List.mem_append_left _ hx)) (by omega) rfl (fun _ => rfl) rfl (by decide +kernel) (by decide +kernel) (fun _ => rfl) rfl) q
end
end Mine
end
section
open PySem PySem.W PySem.Spec PySem.Calls PyProof.Rows PySem.Builtin PySem.Builtin.Str
set_option Elab.async false
set_option tactic.hygienic false
set_option linter.unusedVariables false
set_option maxRecDepth 100000
namespace Mine
noncomputable def quoted (v : Str) : Prop := (seqIndex? 0 v.length).bind (v.cps[·]?) = some 34 ∧ (seqIndex? (-1) v.length).bind (v.cps[·]?) = some 34
noncomputable def unq (v : Str) : Str := Txt.slice v (some 1) (some (-1))
section
variable {prog : Program} {w : World} {A : Around} {env : Env} {mb : Str → Option Value}
set_option tactic.hygienic true in
/-- rows: the item, its name, its value in quotes -/
theorem fn_keqv {rows : List (Str × Str × Str)} (h : ∀ r ∈ rows, Txt.splitMax r.1 "=" 1 = [r.2.1, r.2.2] ∧ quoted r.2.2 ∧ r.1.length + 2 ≤ sizeLine ∧ r.2.2.length ≤ sizeLine) (hk : (rows.map (·.2.1)).Nodup) (hz : rows.length ≤ sizeLine) :
    Fn prog w (WW w mb) 1 46 [.lst (rows.map fun r => .str r.1)] (.dct (rows.map fun r => (r.2.1, unq r.2.2))) := by
  refine fn_of d46 rfl fun A L g s₀ Q E R O q => ?_
  refine go_doc ?_
  refine go_assignD fun D => ?_
  refine go_for (ds := rows.map fun r => .str r.1) (fun i => []) (fun i => [ownD prog w D ((rows.take i).map fun r => (r.2.1, unq r.2.2))]) R.hd (src_list R.hd (ev_name rfl)) trivial rfl (fun i d it hd => ?_) ?_
  · rw [List.getElem?_map] at hd
    obtain ⟨r, hi, rfl⟩ := Option.map_eq_some_iff.mp hd
    · obtain ⟨hs, hq, hz1, hz2⟩ := h r (List.mem_of_getElem? hi)
      obtain ⟨elt, k, v⟩ := r
      simp only at hs hq hz1 hz2
      refine ⟨[("elt", .str elt)], .name, fun x hx => ?_, by simp, fun x hx => ?_, fun E' => ?_⟩
      · rw [List.mem_singleton.mp hx]; rfl
      · rw [List.mem_singleton.mp hx]; rfl
      refine go_unpack2 (d1 := .str k) (d2 := .str v) R.hd (ev_meth (ev_name rfl) (evl_cons ev_str (evl_cons ev_int evl_nil)) (mt_split (x := elt) (y := "=") (n := 1) (by decide +kernel) (by decide +kernel) hz1) ty_str F.plainAttrs_str F.slot_str_split F.type_str_split) (.inr (by rw [hs]; rfl)) ?_
      have e34 : ((⟨#[34]⟩ : Str) == ("\"" : Str)) = true := by decide +kernel
      refine go_if (tst_and2 (tst_cmp (ev_sub (ev_name rfl) ev_int (bin_itemS (by decide) hq.1)) ev_str bin_eqS) fun _ => tst_cmp (ev_sub (ev_name rfl) (ev_neg ev_int) (bin_itemS (by decide) hq.2)) ev_str bin_eqS) (fun _ => ?_) (fun h => ?_)
      · refine go_assign (ev_sliceS (i := some 1) (j := some (-1)) (ev_name rfl) ev_int (ev_neg ev_int) hz2) ?_
        refine go_done ?_
        have hlen : ((rows.take i).map fun r : Str × Str × Str => (r.2.1, unq r.2.2)).length ≤ sizeLine := by
          rw [List.length_map, List.length_take]; omega
        refine go_setD (ev_name rfl) (ev_name rfl) rfl hlen (fun p hp => ?_) ?_
        · intro e
          obtain ⟨r, hr, rfl⟩ := List.mem_map.mp hp
          obtain ⟨j, hj⟩ := List.mem_iff_getElem?.mp hr
          rw [List.getElem?_take] at hj
          split at hj
          · rename_i hji
            have h1 : (rows.map (·.2.1))[j]? = some k := by rw [List.getElem?_map, hj]; exact congrArg some e
            have h2 : (rows.map (·.2.1))[i]? = some k := by rw [List.getElem?_map, hi]; rfl
            obtain ⟨q1, e1⟩ := List.getElem?_eq_some_iff.mp h1
            obtain ⟨q2, e2⟩ := List.getElem?_eq_some_iff.mp h2
            have := List.pairwise_iff_getElem.mp hk j i q1 q2 hji
            exact this (e1.trans e2.symm)
          · cases hj
        · refine go_nil fun g s F => ⟨.inl rfl, g, ?_⟩
          have e : ((rows.take (i + 1)).map fun r : Str × Str × Str => (r.2.1, unq r.2.2)) = ((rows.take i).map fun r : Str × Str × Str => (r.2.1, unq r.2.2)) ++ [(k, unq v)] := by
            rw [List.take_add_one, hi, List.map_append]; rfl
          rw [e]
          exact F.weaken trivial fun _ _ q => q
      · rw [e34] at h; cases h
  · rw [List.length_map, List.take_length]
    refine go_sealD ?_
    exact go_return (ev_name rfl) q
end
end Mine
end
section
open PySem PySem.W PySem.Spec PySem.Calls PyProof.Rows PySem.Builtin PySem.Builtin.Str
set_option Elab.async false
set_option tactic.hygienic false
set_option linter.unusedVariables false
set_option maxRecDepth 100000
set_option maxHeartbeats 2000000
namespace Mine
noncomputable def signs : List Str := ["x", ",", "\"", "\\", " ", "=", "\t", "X"]
noncomputable def outs : List Str := ["a", "", "m n"]
noncomputable def inns : List Str := ["a", "b\"u, \"", "c"]
noncomputable def modN (x : Int) (m : Int) : Nat := (x.fmod m).toNat
theorem modN_lt {x m : Int} (h : 0 < m) : modN x m < m.toNat := by
  exact (Int.toNat_lt_toNat h).mpr (Int.fmod_lt_of_pos x h)
theorem modN_eq {x m : Int} (h : 0 < m) : x.fmod m = (modN x m : Int) := by
  exact (Int.toNat_of_nonneg (Int.fmod_nonneg_of_pos x h)).symm
noncomputable def signAt (n : Int) (k : Nat) : Str := signs[modN (n.fdiv (36 * 8 ^ k)) 8]?.getD ""
noncomputable def valOf (n : Int) : List Str := (List.range (modN (n.fdiv 9) 4)).map (signAt n)
structure Trip where
  o : Str
  i : Str
  v : Str
noncomputable def tripOf (n : Int) : Trip := ⟨outs[modN n 3]?.getD "", inns[modN (n.fdiv 3) 3]?.getD "", Txt.join "" (valOf n)⟩
noncomputable def Trip.dt (t : Trip) : Dt := .tup [.str t.o, .str t.i, .str t.v]
theorem at_map {l : List Str} {n : Nat} (h : n < l.length) : (l.map Dt.str)[n]? = some (.str (l[n]?.getD "")) := by
  rw [List.getElem?_map, List.getElem?_eq_getElem h]; rfl
theorem outs_at {n : Nat} (h : n < 3) : (outs.map Dt.str)[n]? = some (.str (outs[n]?.getD "")) := at_map (l := outs) h
theorem inns_at {n : Nat} (h : n < 3) : (inns.map Dt.str)[n]? = some (.str (inns[n]?.getD "")) := at_map (l := inns) h
theorem signs_at {n : Nat} (h : n < 8) : (signs.map Dt.str)[n]? = some (.str (signs[n]?.getD "")) := at_map (l := signs) h
theorem signAt_len (n : Int) (k : Nat) : (signAt n k).length = 1 :=
  have key : ∀ j : Nat, j < 8 → (signs[j]?.getD ("" : Str)).length = 1 := by decide +kernel
  key _ (modN_lt (x := n.fdiv (36 * 8 ^ k)) (m := 8) (by decide))
theorem valOf_sum (n : Int) : ((valOf n).map (·.length)).sum ≤ 3 ∧ (valOf n).length ≤ 3 := by
  unfold valOf
  have := modN_lt (x := n.fdiv 9) (m := 4) (by decide)
  rw [List.map_map, List.length_map, List.length_range]
  have e : ((·.length) ∘ signAt n) = fun _ => 1 := by funext k; exact signAt_len n k
  rw [e]
  simp only [List.map_const', List.length_range, List.sum_replicate_nat]
  omega
section
variable {prog : Program} {w : World} {A : Around} {env : Env} {mb : Str → Option Value}
set_option tactic.hygienic true in
theorem fn_triple {n : Int} : Fn prog w (WW w mb) 1 223 [.int n] (tripOf n).dt := by
  refine fn_of d223 rfl fun A L g s₀ Q E R O q => ?_
  have h3 := modN_lt (x := n) (m := 3) (by decide)
  have h33 := modN_lt (x := n.fdiv 3) (m := 3) (by decide)
  have h4 := modN_lt (x := n.fdiv 9) (m := 4) (by decide)
  refine go_assign (d := .lst (signs.map .str)) (ev_list (evl_cons ev_str (evl_cons ev_str (evl_cons ev_str (evl_cons ev_str (evl_cons ev_str (evl_cons ev_str (evl_cons ev_str (evl_cons ev_str evl_nil))))))))) ?_
  refine go_assign (d := .str (Txt.join "" (valOf n))) (ev_meth ev_str (evl_cons ?_ evl_nil) (mt_join (ys := valOf n) ?_) ty_str F.plainAttrs_str F.slot_str_join F.type_str_join) ?_
  · refine ev_comp ["n", "signs"] (ds := (List.range (modN (n.fdiv 9) 4)).map fun (i : Nat) => .int i) (src_range R.hd (n := modN (n.fdiv 9) 4) ?_ rfl rfl (by omega)) (cl := _) rfl ?_ (clok_cell (clok_cell clok_nil rfl rfl rfl) rfl rfl rfl) (spec1 R.hd (by simp [valOf]) (by rw [List.length_map, List.length_range]; show _ ≤ 16777216; omega) fun C i d r hd hr => ?_)
    · rw [← modN_eq (by decide)]
      exact ev_bin (ev_bin (ev_name rfl) ev_int (bin_div (by decide) (PyProof.noPylong_small (by decide)))) ev_int (bin_mod (by decide))
    · intro p hp
      rcases List.mem_cons.mp hp with rfl | hp
      · first | exact .head _ | exact .tail _ (.head _)
      · rw [List.mem_singleton.mp hp]; first | exact .head _ | exact .tail _ (.head _)
    · rw [List.getElem?_map] at hd hr
      unfold valOf at hr
      rw [List.getElem?_map] at hr
      obtain ⟨k, hi, rfl⟩ := Option.map_eq_some_iff.mp hd
      rw [hi] at hr
      obtain rfl := Option.some.inj hr
      · have hk : k < modN (n.fdiv 9) 4 := by
          obtain ⟨q1, q2⟩ := List.getElem?_eq_some_iff.mp hi
          rw [List.getElem_range] at q2
          rw [List.length_range] at q1
          omega
        have hk3 : k ≤ 2 := by omega
        have h8 := modN_lt (x := n.fdiv (36 * 8 ^ k)) (m := 8) (by decide)
        have e8 := modN_eq (x := n.fdiv (36 * 8 ^ k)) (m := 8) (by decide)
        have hpos : (36 * 8 ^ k : Int) ≠ 0 ∧ (36 * 8 ^ k : Int).natAbs < 1073741824 ∧ IntMulOk 36 (8 ^ k) := by
          match k, hk3 with
          | 0, _ => exact ⟨by decide, by decide, IntMulOk.of_right (intBits_le_64 (by decide) (by decide))⟩
          | 1, _ => exact ⟨by decide, by decide, IntMulOk.of_right (intBits_le_64 (by decide) (by decide))⟩
          | 2, _ => exact ⟨by decide, by decide, IntMulOk.of_right (intBits_le_64 (by decide) (by decide))⟩
        refine ⟨[("k", .int k)], .name, fun y hy => ?_, by simp, fun y e hy => ?_, ?_⟩
        · rw [List.mem_singleton.mp hy]; rfl
        · unfold clρ at hy
          split at hy
          · rename_i hc
            simp only [List.contains_cons, List.contains_nil, Bool.or_false, Bool.or_eq_true, beq_iff_eq] at hc
            rcases hc with rfl | rfl <;> rfl
          · cases hy
        · refine ev_sub (ev_name rfl) (ev_bin (ev_bin (ev_name rfl) (ev_bin ev_int (ev_bin ev_int (ev_name rfl) (bin_pow (Int.natCast_nonneg k) ?_)) (bin_mul hpos.2.2)) (bin_div hpos.1 (PyProof.noPylong_small hpos.2.1))) ev_int (bin_mod (by decide))) (bin_itemL ?_ ?_ ?_)
          · have : (Builtin.Int.intBits 8 : Int) ≤ 10 := by decide +kernel
            have : (Builtin.Int.intBits 8 : Int) * (k : Int) ≤ 10 * 2 := by
              refine Int.mul_le_mul this (by omega) (by omega) (by decide)
            omega
          · show 0 ≤ (n.fdiv (36 * 8 ^ k)).fmod 8
            rw [e8]; omega
          · show (n.fdiv (36 * 8 ^ k)).fmod 8 < _
            rw [e8]; omega
          · exact signs_at h8
  · have := valOf_sum n
    have e0 : (("" : Str)).length = 0 := by decide +kernel
    rw [e0]; omega
  · have e1 := modN_eq (x := n) (m := 3) (by decide)
    have e2 := modN_eq (x := n.fdiv 3) (m := 3) (by decide)
    refine go_return (ev_tuple (evl_cons (ev_sub (ev_list (evl_cons ev_str (evl_cons ev_str (evl_cons ev_str evl_nil)))) (ev_bin (ev_name rfl) ev_int (bin_mod (by decide))) (bin_itemL (by omega) (by omega) ?_)) (evl_cons (ev_sub (ev_list (evl_cons ev_str (evl_cons ev_str (evl_cons ev_str evl_nil)))) (ev_bin (ev_bin (ev_name rfl) ev_int (bin_div (by decide) (PyProof.noPylong_small (by decide)))) ev_int (bin_mod (by decide))) (bin_itemL (by omega) (by omega) ?_)) (evl_cons (ev_name rfl) evl_nil)))) q
    · exact outs_at h3
    · exact inns_at h33
end
end Mine
end
section
open PySem PySem.W PySem.Spec PySem.Calls PyProof.Rows PySem.Builtin PySem.Builtin.Str
set_option Elab.async false
set_option tactic.hygienic false
set_option linter.unusedVariables false
set_option maxRecDepth 100000
set_option maxHeartbeats 2000000
namespace Mine
/-- sign for sign: c turns into z -/
noncomputable def rep (c : Nat) (z : List Nat) (l : List Nat) : List Nat := l.flatMap fun k => if k = c then z else [k]
theorem rep_append (c : Nat) (z a b : List Nat) : rep c z (a ++ b) = rep c z a ++ rep c z b := List.flatMap_append
theorem rep_free (c : Nat) (z : List Nat) : ∀ l : List Nat, c ∉ l → rep c z l = l
  | [], _ => rfl
  | k :: r, h => by
    have h1 : ¬ k = c := fun e => h (e ▸ List.mem_cons_self ..)
    have h2 : c ∉ r := fun m => h (List.mem_cons_of_mem _ m)
    have := rep_free c z r h2
    unfold rep at this ⊢
    rw [List.flatMap_cons, this, if_neg h1]; rfl
theorem rep_join (c : Nat) (z : Str) : ∀ parts : List Str, (∀ p ∈ parts, c ∉ p.cps.toList) → rep c z.cps.toList (Str.join ⟨#[c]⟩ parts).cps.toList = (Str.join z parts).cps.toList
  | [], _ => rfl
  | [p], h => rep_free c _ _ (h p (List.mem_singleton.mpr rfl))
  | p :: q :: r, h => by
    have ih := rep_join c z (q :: r) fun a ha => h a (List.mem_cons_of_mem _ ha)
    show rep c z.cps.toList (p ++ ⟨#[c]⟩ ++ Str.join ⟨#[c]⟩ (q :: r)).cps.toList = (p ++ z ++ Str.join z (q :: r)).cps.toList
    simp only [Str.cps_append, Array.toList_append]
    rw [rep_append, rep_append, ih, rep_free c _ _ (h p (List.mem_cons_self ..))]
    show p.cps.toList ++ rep c z.cps.toList [c] ++ _ = _
    have : rep c z.cps.toList [c] = z.cps.toList := by simp [rep]
    rw [this]
theorem replace_rep (x z : Str) (c : Nat) : (Txt.replace x ⟨#[c]⟩ z).cps.toList = rep c z.cps.toList x.cps.toList := by
  rw [StrLaws.replace_one, ← rep_join c z _ (StrLaws.split_free x c), StrLaws.join_split]
theorem rep_len (c : Nat) (a b : Nat) : ∀ l : List Nat, (rep c [a, b] l).length ≤ 2 * l.length
  | [] => Nat.le_refl _
  | k :: r => by
    have := rep_len c a b r
    unfold rep at this ⊢
    rw [List.flatMap_cons, List.length_append, List.length_cons]
    split
    · simp only [List.length_cons, List.length_nil]; omega
    · simp only [List.length_cons, List.length_nil]; omega
/-- a value as it stands in quotes -/
noncomputable def esc (v : Str) : Str := Txt.replace (Txt.replace v "\\" "\\\\") "\"" "\\\""
theorem bs_eq : ("\\" : Str) = ⟨#[92]⟩ := by decide +kernel
theorem bsbs_eq : ("\\\\" : Str) = ⟨#[92, 92]⟩ := by decide +kernel
theorem dq_eq : ("\"" : Str) = ⟨#[34]⟩ := by decide +kernel
theorem bsdq_eq : ("\\\"" : Str) = ⟨#[92, 34]⟩ := by decide +kernel
theorem esc_list (v : Str) : (esc v).cps.toList = rep 34 [92, 34] (rep 92 [92, 92] v.cps.toList) := by
  unfold esc
  rw [dq_eq, bsdq_eq, replace_rep, bs_eq, bsbs_eq, replace_rep]
theorem rep1_len (v : Str) : (Txt.replace v "\\" "\\\\").length ≤ 2 * v.length := by
  rw [bs_eq, bsbs_eq]
  show (Txt.replace v ⟨#[92]⟩ ⟨#[92, 92]⟩).cps.size ≤ 2 * v.cps.size
  rw [← Array.length_toList, replace_rep, ← Array.length_toList]
  exact rep_len ..
theorem esc_len (v : Str) : (esc v).length ≤ 4 * v.length := by
  have h1 := rep1_len v
  have h2 : (esc v).length ≤ 2 * (Txt.replace v "\\" "\\\\").length := by
    unfold esc
    rw [dq_eq, bsdq_eq]
    generalize Txt.replace v "\\" "\\\\" = u
    show (Txt.replace u ⟨#[34]⟩ ⟨#[92, 34]⟩).cps.size ≤ 2 * u.cps.size
    rw [← Array.length_toList, replace_rep, ← Array.length_toList]
    exact rep_len ..
  omega
noncomputable def blanks : List Str := ["", " ", "\t ", "\u00a0"]
noncomputable def gapOf (how : Nat) (i : Nat) : Str := blanks[(how + i) % 4]?.getD ""
noncomputable def hItem (how i : Nat) (p : Str × Str) : Str := gapOf how i ++ p.1 ++ gapOf how i ++ "=" ++ gapOf how i ++ ("\"" ++ esc p.2 ++ "\"") ++ gapOf how i
noncomputable def hItems (how : Nat) (ps : List (Str × Str)) : List Str := ps.mapIdx (hItem how)
noncomputable def header (ps : List (Str × Str)) (how : Nat) : Str := Txt.join "," (hItems how ps)
noncomputable def prsDt (ps : List (Str × Str)) : Dt := .lst (ps.map fun p => .tup [.str p.1, .str p.2])
theorem blanks_at {n : Nat} (h : n < 4) : (blanks.map Dt.str)[n]? = some (.str (blanks[n]?.getD "")) := by
  exact at_map (l := blanks) h
theorem gap_len (how i : Nat) : (gapOf how i).length ≤ 2 :=
  have key : ∀ j : Nat, j < 4 → (blanks[j]?.getD ("" : Str)).length ≤ 2 := by decide +kernel
  key _ (Nat.mod_lt _ (by decide))
section
variable {prog : Program} {w : World} {W : Wo} {A : Around} {env : Env} {mb : Str → Option Value} {g g₀ : Heap} {s s₀ : Shared} {l : List (Str × Dt)} {ν : List (Str × Value)} {os : List Own} {Q : Flow → Shared → Prop} {E : Value → Shared → Prop} {rest : List Stmt}
theorem Fs.pushL (F : Fs prog w W env g₀ s₀ l ν os g s) : Fs prog w W env g₀ s₀ l ν (ownL prog w s.heap.objs.size [] :: os) g { s with heap := s.heap.push { cls := .type "list", data := .seq ([] : List Value).toArray } } := by
  have nt := not_tab_size F.se.toOk
  refine (F.ext (ext_push F.se.sub { cls := .type "list", data := .seq ([] : List Value).toArray }) F.se.pos).add (o := ownL prog w s.heap.objs.size []) ⟨#[], ⟨0, Heap.get?_push_size _ rfl⟩, .nil⟩ (fun a ha => ?_) fun o ho a ha q => ?_
  · rw [List.mem_singleton.mp ha]
    exact ⟨.inl F.bs.size, by show _ < (Heap.push _ _).objs.size; rw [Heap.size_push]; exact Nat.lt_succ_self _, nt, none_of_size F.se.toOk, fun q => absurd F.se.lv.1 (Nat.not_lt.mpr (Nat.le_of_eq q)), fun p hp q => absurd (F.se.cv p hp).1 (Nat.not_lt.mpr (Nat.le_of_eq q.symm))⟩
  · rw [List.mem_singleton.mp ha] at q
    exact absurd ((F.ow o ho).2 _ q).2.1 (Nat.lt_irrefl _)
theorem Fs.pushT (F : Fs prog w W env g₀ s₀ l ν os g s) (o : Obj) : Fs prog w W env g₀ s₀ l ν os g { s with heap := s.heap.push o } := F.ext (ext_push F.se.sub o) F.se.pos
theorem Fs.extBut {h' : Heap} {tk : Nat} (F : Fs prog w W env g₀ s₀ l ν os g s) (he : Heap.ExtBut s.heap.objs.size s.heap h') (p : 0 < tk) (z : s.heap.objs.size ≤ h'.objs.size) : Fs prog w W env g₀ s₀ l ν os g { s with heap := h', toks := tk } := by
  have kk : ∀ b o, s.heap.get? b = some o → h'.get? b = some o := fun b o e => he b o (fun q => by rw [q, get?_size] at e; cases e) e
  exact F.ext ⟨fun b o _ e => kk b o e, z, fun b o e => kk b o (F.se.sub b o e), fun _ _ => rfl⟩ p
theorem swap_tail {x y : Str} {u : Value} {D T : Addr} {d : Dt} {E : Value → Shared → Prop} (hh : A.handled = none) (F : Fs prog w W env g₀ s₀ l ν os g s) (ht : IsTup s.heap T #[u, .ref D]) (r : Rd prog w g u d)
    (hx : Slotted env x) (hy : Slotted env y) (hl : l.lookup y = none) (hν : ν.lookup x = none) (hxy : (x == y) = false) {Q : Shared → Prop}
    (k : ∀ s', Fs prog w W env g₀ s₀ ((x, d) :: l) ((y, .ref D) :: ν) os g s' → Q s') :
    wpAny (model prog w) A (unpackItems (.ref T) 2 none) (fun items s₂ => wpAny (model prog w) A (assignInOrder [fun v => bindName env y v, fun v => bindName env x v] items.reverse) (fun _ => Q) E s₂) E s := by
  refine grows F.se.pos (unpackItems_tuple (items := #[u, .ref D]) hh ht fun h₄ he => fun p₄ z₄ => ?_)
  have F4 := F.extBut he p₄ z₄
  show wpAny _ _ (assignInOrder [fun v => bindName env y v, fun v => bindName env x v] [.ref D, u]) _ _ _
  refine wpAny_assignInOrder_more (wpAny_bindName (F4.storeRaw hy hl fun h₅ tk₅ F5 => wpAny_assignInOrder_more (wpAny_bindName (F5.store hx r ?_ fun h₆ tk₆ F6 => wpAny_assignInOrder_none (k _ F6)))))
  simp only [List.lookup_cons, hxy, hν]
/-- x, y = e, [] -/
theorem go_swapRaw {x y : Str} {px py tp pos vp lp : Pos} {k k' : Nat} {e : Expr} {d : Dt} (hh : A.handled = none) (v : Ev prog w W A env (lk l) e d) (kk : ∀ D, Go prog w W A env g₀ s₀ ((x, d) :: l) ((y, .ref D) :: ν) (ownL prog w D [] :: os) rest Q E)
    (hx : Slotted env x := by exact slotted_of rfl) (hy : Slotted env y := by exact slotted_of rfl) (hl : l.lookup y = none := by rfl) (hν : ν.lookup x = none := by rfl) (hxy : (x == y) = false := by decide +kernel)
    (hse : starEach [e, .List [] lp] env = [(false, eval e env), (false, eval (.List [] lp) env)] := by rfl)
    (hs : swapsWithSole [.Tuple [.Name x px, .Name y py] k tp] (.Tuple [e, .List [] lp] k' vp) pos.line env = pure false := by rfl) (hw : swappedStores [.Tuple [.Name x px, .Name y py] k tp] (.Tuple [e, .List [] lp] k' vp) env = pure (some [x, y]) := by rfl) :
    Go prog w W A env g₀ s₀ l ν os (.Assign [.Tuple [.Name x px, .Name y py] k tp] (.Tuple [e, .List [] lp] k' vp) pos :: rest) Q E := .mk fun g s F => by
  refine wpAny_execs_cons (Assign_Tuple_swapped (wpAny_Tuple_spliced ?_) hs hw)
  rw [hse]
  refine spliced_cons ((v.run g s F.se).use F.se.pos fun u h₁ g₁ tk₁ p₁ e₁ r₁ => ?_)
  refine spliced_cons (wpAny_List_spliced (wpAny_pure ⟨Nat.zero_le _, spliced_nil ⟨(by decide : 2 ≤ sizeLine), ?_⟩⟩))
  have F2 := (F.ext e₁ p₁).pushL
  have F3 := F2.pushT { cls := .type "tuple", data := .seq [u, .ref h₁.objs.size].toArray }
  exact swap_tail hh F3 ⟨_, Heap.get?_push_size _ rfl, rfl, 0, rfl⟩ r₁ hx hy hl hν hxy fun s' F6 => (kk _).run _ _ F6
theorem hItem_len {how i : Nat} {p : Str × Str} (h1 : p.1.length ≤ 10) (h2 : p.2.length ≤ 1000) : (hItem how i p).length ≤ 5000 := by
  have g := gap_len how i
  have e := esc_len p.2
  have e1 : ("=" : Str).length = 1 := by decide +kernel
  have e2 : ("\"" : Str).length = 1 := by decide +kernel
  unfold hItem
  simp only [len_app]
  omega
theorem hItems_len {how : Nat} {ps : List (Str × Str)} : (hItems how ps).length = ps.length := by simp [hItems]
theorem hItems_at {how i : Nat} {ps : List (Str × Str)} {p : Str × Str} (h : ps[i]? = some p) : (hItems how ps)[i]? = some (hItem how i p) := by simp [hItems, h]
theorem fmod_nat (a b : Nat) : ((a : Int) + (b : Int)).fmod 4 = (((a + b) % 4 : Nat) : Int) := by
  rw [Int.fmod_eq_emod_of_nonneg _ (by decide)]; omega
theorem fn_header {ps : List (Str × Str)} {how : Nat} (hp : ∀ p ∈ ps, p.1.length ≤ 10 ∧ p.2.length ≤ 1000) (hl : ps.length ≤ 10) : Fn prog w (WW w mb) 1 230 [prsDt ps, .int how] (.str (header ps how)) := by
  have e1 : ("=" : Str).length = 1 := by decide +kernel
  have e2 : ("\"" : Str).length = 1 := by decide +kernel
  have e3 : ("\\\\" : Str).length = 2 := by decide +kernel
  have e4 : ("\\\"" : Str).length = 2 := by decide +kernel
  have e5 : ("," : Str).length = 1 := by decide +kernel
  have hsz : sizeLine = 16777216 := rfl
  refine fn_of d230 rfl fun A L g s₀ Q E R O q => ?_
  refine go_swapRaw (d := .lst (blanks.map .str)) R.hd (ev_list (evl_cons ev_str (evl_cons ev_str (evl_cons ev_str (evl_cons ev_str evl_nil))))) fun D => ?_
  refine go_for (ds := (List.range ps.length).map fun (i : Nat) => .int i) (fun i => [("blanks", .lst (blanks.map .str)), ("pairs", prsDt ps), ("how", .int how)]) (fun i => [ownL prog w D (((hItems how ps).take i).map .str)]) R.hd (src_range R.hd (n := ps.length) ?_ rfl rfl (by omega)) ⟨rfl, rfl, rfl, trivial⟩ rfl (fun i d it hd => ?_) ?_
  · have e : ((ps.length : Nat) : Int) = ((ps.map fun p => Dt.tup [.str p.1, .str p.2]).length : Int) := by rw [List.length_map]
    rw [e]
    exact ev_len (f := "len") (ev_name rfl) rfl rfl (by rw [List.length_map]; omega)
  · rw [List.getElem?_map] at hd
    obtain ⟨j, hi, rfl⟩ := Option.map_eq_some_iff.mp hd
    · obtain ⟨q1, q2⟩ := List.getElem?_eq_some_iff.mp hi
      rw [List.getElem_range] at q2
      rw [List.length_range] at q1
      subst q2
      obtain ⟨p, hpi⟩ : ∃ p, ps[i]? = some p := ⟨_, List.getElem?_eq_getElem q1⟩
      obtain ⟨b1, b2⟩ := hp p (List.mem_of_getElem? hpi)
      have g2 := gap_len how i
      have eL := esc_len p.2
      have rL := rep1_len p.2
      refine ⟨[("i", .int i)], .name, fun x hx => ?_, by simp, fun x hx => ?_, fun E' => ?_⟩
      · rw [List.mem_singleton.mp hx]; rfl
      · rw [List.mem_singleton.mp hx]; rfl
      have hm : (how + i) % 4 < 4 := Nat.mod_lt _ (by decide)
      have row : ∀ {ρ : Str → Option Dt} {p1 p2 p3 : Pos}, ρ "pairs" = some (prsDt ps) → ρ "i" = some (.int i) → Ev prog w (WW w mb) A (callEnvC (f230 w.params).1 L 230) ρ (.Subscript (.Name "pairs" p1) (.Name "i" p2) p3) (.tup [.str p.1, .str p.2]) := fun h1 h2 =>
        ev_sub (ev_name h1) (ev_name h2) (bin_itemL (Int.natCast_nonneg i) (by omega) (by rw [Int.toNat_natCast, List.getElem?_map, hpi]; rfl))
      refine go_assign (d := .str (gapOf how i)) (ev_sub (ev_name rfl) (ev_bin (ev_bin (ev_name rfl) (ev_name rfl) bin_addI) ev_int (bin_mod (by decide))) (bin_itemL (by rw [fmod_nat]; omega) (by rw [fmod_nat]; omega) (by rw [fmod_nat]; exact blanks_at hm))) ?_
      refine go_assign (d := .str ("\"" ++ esc p.2 ++ "\"")) (ev_bin (ev_bin ev_str (ev_replace (ev_replace (ev_sub (row rfl rfl) ev_int (bin_itemT (by decide) (by decide) rfl)) (by decide +kernel) (by rw [e3]; omega)) (by decide +kernel) (by rw [e4]; omega)) (bin_addS ?_)) ev_str (bin_addS ?_)) ?_
      · show _ + (esc p.2).length ≤ _
        omega
      · show ("\"" ++ esc p.2).length + _ ≤ _
        rw [len_app]; omega
      refine go_append (ev_bin (ev_bin (ev_bin (ev_bin (ev_bin (ev_bin (ev_name rfl) (ev_sub (row rfl rfl) ev_int (bin_itemT (by decide) (by decide) rfl)) (bin_addS ?_)) (ev_name rfl) (bin_addS ?_)) ev_str (bin_addS ?_)) (ev_name rfl) (bin_addS ?_)) (ev_name rfl) (bin_addS ?_)) (ev_name rfl) (bin_addS ?_)) rfl ?_ ?_
      · omega
      · simp only [len_app]; omega
      · simp only [len_app]; omega
      · simp only [len_app]; omega
      · simp only [len_app]; omega
      · simp only [len_app]; omega
      · rw [List.length_map, List.length_take]; omega
      refine go_nil fun g s F => ⟨.inl rfl, g, ?_⟩
      have e : ((hItems how ps).take (i + 1)).map Dt.str = ((hItems how ps).take i).map Dt.str ++ [.str (hItem how i p)] := by
        rw [List.take_add_one, hItems_at hpi, List.map_append]; rfl
      rw [e]
      exact F.weaken ⟨rfl, rfl, rfl, trivial⟩ fun _ _ q => q
  · have e : ((List.range ps.length).map fun (i : Nat) => Dt.int i).length = (hItems how ps).length := by rw [List.length_map, List.length_range, hItems_len]
    rw [e, List.take_length]
    refine go_seal ?_
    refine go_return (ev_meth ev_str (evl_cons (ev_name rfl) evl_nil) (mt_join (ys := hItems how ps) ?_) ty_str F.plainAttrs_str F.slot_str_join F.type_str_join) q
    have h5 : ((hItems how ps).map (·.length)).sum ≤ (hItems how ps).length * 5000 := StrLaws.sumLen_le _ fun y hy => by
      obtain ⟨i, hi⟩ := List.mem_iff_getElem?.mp hy
      unfold hItems at hi
      rw [List.getElem?_mapIdx] at hi
      cases hpi : ps[i]? with
      | none => rw [hpi] at hi; cases hi
      | some p =>
        rw [hpi] at hi
        cases hi
        obtain ⟨b1, b2⟩ := hp p (List.mem_of_getElem? hpi)
        exact hItem_len b1 b2
    rw [hItems_len] at h5 ⊢
    rw [e5]
    omega
end
end Mine
end
section
open PySem PySem.W PySem.Spec PySem.Calls PyProof.Rows PySem.Builtin PySem.Builtin.Str
set_option Elab.async false
set_option tactic.hygienic false
set_option linter.unusedVariables false
set_option maxRecDepth 100000
set_option maxHeartbeats 4000000
namespace Mine
theorem slot_map_init : Slot "map" "__init__" "object.__init__" :=
  .of (owner := "object") (n := "__init__") (by rw [typeLookup_type, builtinLookup_eq_fast]; kernel_rfl) (by decide +kernel) (by decide +kernel) (by decide +kernel)
    (by first | exact .inl (by decide +kernel) | exact .inr (by decide +kernel)) (by rw [isSubtype_type]; kernel_rfl)
theorem slot_map_iter : Slot "map" "__iter__" "map.__iter__" :=
  .of (owner := "map") (n := "__iter__") (by rw [typeLookup_type, builtinLookup_eq_fast]; kernel_rfl) (by decide +kernel) (by decide +kernel) (by decide +kernel)
    (by first | exact .inl (by decide +kernel) | exact .inr (by decide +kernel)) (by rw [isSubtype_type]; kernel_rfl)
theorem slot_map_next : Slot "map" "__next__" "map.__next__" :=
  .of (owner := "map") (n := "__next__") (by rw [typeLookup_type, builtinLookup_eq_fast]; kernel_rfl) (by decide +kernel) (by decide +kernel) (by decide +kernel)
    (by first | exact .inl (by decide +kernel) | exact .inr (by decide +kernel)) (by rw [isSubtype_type]; kernel_rfl)
theorem entry_map_next : entryFor table "map.__next__" = some Builtin.«map.__next__» := entryFor_of_tree (by kernel_rfl)
theorem entry_map_new : entryFor table "map.__new__" = some Builtin.«map.__new__» := entryFor_of_tree (by kernel_rfl)
theorem entry_map_iter : entryFor table "map.__iter__" = some Builtin.«dict_keyiterator.__iter__» :=
  entryFor_alias (id' := "dict_keyiterator.__iter__") (by kernel_rfl) (by first | rfl | decide +kernel | (unfold String.splitOn; simp +decide [String.splitOnAux])) (by decide +kernel) (by kernel_rfl)
theorem args_map_next (a : Value) : argsOk "map.__next__" ⟨[a], []⟩ := by unfold argsOk; kernel_rfl
theorem args_map_iter (a : Value) : argsOk "map.__iter__" ⟨[a], []⟩ := by unfold argsOk; kernel_rfl
theorem mro_map : mroOf (.type "map") = pure [.type "map", .type "object"] := by rw [mroOf_type]; kernel_rfl
theorem lookup_map_new : typeLookup (.type "map") "__new__" = pure (some (.builtin "map.__new__")) := by rw [typeLookup_type, builtinLookup_eq_fast]; kernel_rfl
theorem called_map : TypeCalled "map" "map.__new__" "object.__init__" :=
  ⟨by decide +kernel, by decide +kernel, ⟨_, _, mro_map⟩, madeBy_type mro_map lookup_map_new (by decide +kernel), by decide +kernel, by rw [isSubtype_type]; kernel_rfl, slot_map_init⟩
theorem typeCall_map (a b : Value) : checkTypeCall "map" ⟨[a, b], []⟩ = pure () := by kernel_rfl
theorem newCall_map (a b : Value) : checkBuiltinCall "map.__new__" ⟨[.type "map", a, b], []⟩ = pure () := by kernel_rfl
theorem sub_map : isSubtype (.type "map") (.type "map") = pure true := by rw [isSubtype_type]; kernel_rfl
theorem map_no_len : typeLookup (.type "map") "__len__" = pure none := by rw [typeLookup_type, builtinLookup_eq_fast]; kernel_rfl
theorem map_no_hint : typeLookup (.type "map") "__length_hint__" = pure none := by rw [typeLookup_type, builtinLookup_eq_fast]; kernel_rfl
open AutoSeq1 (wpAny_loadPart')
/-- map(f, l) of a list -/
theorem meets_map_new (f : Value) (l : Addr) (items : Array Value) (n : Nat) (hf : f = .builtin "str.strip") :
    Meets (Builtin.«map.__new__» ⟨[.type "map", f, .ref l], []⟩) (fun _ R s => s.heap.get? l = some { cls := .type "list", dict := none, data := .seq items n, slots := #[] } ∧
      R (.ok (.ret (.ref (s.heap.objs.size + 2))))
        { s with heap := ((s.heap.push { cls := .type "list_iterator", data := .fields #[.ref l, .int 0 0] }).push { cls := .type "tuple", data := .seq #[.ref s.heap.objs.size] }).push { cls := .type "map", data := .fields #[.ref (s.heap.objs.size + 1), f] } }) :=
  .of_wp fun prog w A R s h => by
    subst hf
    obtain ⟨hp, g, d, tk, os⟩ := s; obtain ⟨hl, h⟩ := h
    have hsub := sub_map
    have hL : Heap.IsList (Shared.heap ⟨hp, g, d, tk, os⟩) l items := ⟨_, hl, rfl, n, rfl⟩
    wp_walk using wpAny_loadPart' hl, wpAny_pyIter_list hL
    refine ⟨_, rfl, ?_⟩
    simp only [Heap.size_push, List.headD_cons] at h ⊢
    exact h
end Mine
end
section
open PySem PySem.W PySem.Spec PySem.Calls PyProof.Rows PySem.Builtin PySem.Builtin.Str
set_option Elab.async false
set_option tactic.hygienic false
set_option linter.unusedVariables false
set_option maxRecDepth 100000
set_option maxHeartbeats 4000000
namespace Mine
noncomputable abbrev IsMap (h : Heap) (I T : Addr) : Prop := h.get? I = some { cls := .type "map", data := .fields #[.ref T, .builtin "str.strip"] }
noncomputable abbrev IsOne (h : Heap) (T J : Addr) : Prop := h.get? T = some { cls := .type "tuple", data := .seq #[.ref J] }
section
variable {prog : Program} {w : World} {A : Around} {E : Value → Shared → Prop} {s : Shared}
theorem map_next_item {I T J l : Addr} {i : Nat} {items : Array Value} {x : Str} {t : Tok} {Q : Value → Shared → Prop} (hI : IsMap s.heap I T) (hT : IsOne s.heap T J) (hJ : s.heap.IsListIter J l i) (hl : s.heap.IsList l items) (hx : items[i]? = some (.str x t)) (hz : x.length ≤ sizeLine)
    (hQ : ∀ h' t' tk, h'.IsListIter J l (i + 1) → Heap.SameBut J s.heap h' → Q (.str (Txt.strip x) t') { s with heap := h', toks := tk }) :
    wpAny (model prog w) A (Builtin.«map.__next__» ⟨[.ref I], []⟩) (fun fin s' => ∃ v, fin = .done (.ret v) ∧ Q v s') E s := by
  show wpAny _ _ (field (.ref I) 0 >>= _) _ _ _
  refine wpAny_bind (wpAny_field hI rfl (x := .ref T) rfl ?_)
  refine wpAny_bind (wpAny_seqItems hT rfl ?_)
  refine wpAny_bind ?_
  rw [show (#[Value.ref J] : Array Value) = [Value.ref J].toArray from rfl, List.forIn_toArray, List.forIn_cons]
  refine wpAny_bind (wpAny_bind (wpAny_holding (wpAny_nextOf_list_item hJ hl hx fun h₁ hJ₁ hs₁ => ?_)))
  refine wpAny_pure ?_
  dsimp only
  rw [List.forIn_nil]
  refine wpAny_pure ?_
  have nJ : ∀ {a : Addr} {o : Obj}, s.heap.get? a = some o → (∀ vs, o.data ≠ .fields vs ∨ o.cls ≠ .type "list_iterator") → a ≠ J := fun {a o} e q r => by
    obtain ⟨o', ho', hc, hd⟩ := hJ
    rw [r, ho'] at e
    cases e
    rcases q _ with q | q
    · exact q hd
    · exact q hc
  have hI₁ : IsMap h₁ I T := hs₁.extBut _ _ (nJ hI fun vs => .inr (by show (Value.type "map") ≠ (Value.type "list_iterator"); decide)) hI
  refine wpAny_bind (wpAny_field hI₁ rfl (x := .builtin "str.strip") rfl ?_)
  refine wpAny_bind (wpAny_holding (SC.strip (fun t' tk => ?_) hz))
  refine wpAny_bind (wpAny_letGo ?_)
  exact wpAny_pure ⟨_, rfl, hQ h₁ t' tk hJ₁ hs₁⟩
theorem map_next_end {I T J l : Addr} {i : Nat} {items : Array Value} {Q : Fin → Shared → Prop} (hh : A.handled = none) (hI : IsMap s.heap I T) (hT : IsOne s.heap T J) (hJ : s.heap.IsListIter J l i) (hl : s.heap.IsList l items) (hx : items[i]? = none)
    (hE : ∀ h' e, Heap.ExtBut J s.heap h' → (∃ o, h'.get? e = some o ∧ o.cls = .type "StopIteration") → E (.ref e) { s with heap := h' }) :
    wpAny (model prog w) A (Builtin.«map.__next__» ⟨[.ref I], []⟩) Q E s := by
  show wpAny _ _ (field (.ref I) 0 >>= _) _ _ _
  refine wpAny_bind (wpAny_field hI rfl (x := .ref T) rfl ?_)
  refine wpAny_bind (wpAny_seqItems hT rfl ?_)
  refine wpAny_bind ?_
  rw [show (#[Value.ref J] : Array Value) = [Value.ref J].toArray from rfl, List.forIn_toArray, List.forIn_cons]
  exact wpAny_bind (wpAny_bind (wpAny_holding (wpAny_nextOf_list_end hh hJ hl hx hE)))
theorem pyNext_map_item {I T J l : Addr} {i : Nat} {items : Array Value} {x : Str} {t : Tok} {Q : Option Value → Shared → Prop} (hI : IsMap s.heap I T) (hT : IsOne s.heap T J) (hJ : s.heap.IsListIter J l i) (hl : s.heap.IsList l items) (hx : items[i]? = some (.str x t)) (hz : x.length ≤ sizeLine)
    (hQ : ∀ h' t' tk, h'.IsListIter J l (i + 1) → Heap.SameBut J s.heap h' → Q (some (.str (Txt.strip x) t')) { s with heap := h', toks := tk }) : wpAny (model prog w) A (pyNext (.ref I)) Q E s := by
  have hTy : s.TypeIs (.ref I) "map" := ⟨_, hI, rfl⟩
  unfold pyNext
  exact wpAny_bind (wpAny_attempt (wpAny_callSpecial?_slot (name := Str.ofString "__next__") hTy slot_map_next
    (wpAny_call_entry slot_map_next hTy entry_map_next (map_next_item hI hT hJ hl hx hz fun h' t' tk a b => wpAny_pure (hQ h' t' tk a b)) (args_map_next _))))
theorem pyNext_map_end {I T J l : Addr} {i : Nat} {items : Array Value} {Q : Option Value → Shared → Prop} (hh : A.handled = none) (hI : IsMap s.heap I T) (hT : IsOne s.heap T J) (hJ : s.heap.IsListIter J l i) (hl : s.heap.IsList l items) (hx : items[i]? = none)
    (hQ : ∀ h', Heap.ExtBut J s.heap h' → Q none { s with heap := h' }) : wpAny (model prog w) A (pyNext (.ref I)) Q E s := by
  have hTy : s.TypeIs (.ref I) "map" := ⟨_, hI, rfl⟩
  unfold pyNext
  refine wpAny_bind (wpAny_attempt (wpAny_callSpecial?_slot (name := Str.ofString "__next__") hTy slot_map_next
    (wpAny_call_entry slot_map_next hTy entry_map_next (map_next_end hh hI hT hJ hl hx fun h' e hk he => ?_) (args_map_next _))))
  obtain ⟨o, ho, hc⟩ := he
  refine wpAny_bind (wpAny_isInstance (T := "StopIteration") (b := true) ⟨o, ho, hc⟩ isSubtype_stop ?_)
  exact wpAny_pure (hQ _ hk)
theorem pyIter_map {I T : Addr} {Q : Value → Shared → Prop} (hI : IsMap s.heap I T) (h : Q (.ref I) s) : wpAny (model prog w) A (pyIter (.ref I)) Q E s := by
  have hTy : s.TypeIs (.ref I) "map" := ⟨_, hI, rfl⟩
  refine wpAny_pyIter_slot hTy slot_map_iter (wpAny_call_entry slot_map_iter hTy entry_map_iter ?_ (args_map_iter _))
  show wpAny _ _ (ret (.ref I)) _ _ s
  exact wpAny_pure ⟨_, rfl, "map", _, hTy, slot_map_next.lookup, h⟩
end
end Mine
end
section
open PySem PySem.W PySem.Spec PySem.Calls PyProof.Rows PySem.Builtin PySem.Builtin.Str
set_option Elab.async false
set_option tactic.hygienic false
set_option linter.unusedVariables false
set_option maxRecDepth 100000
set_option maxHeartbeats 4000000
namespace Mine
noncomputable def AllStr (items : Array Value) : Prop := ∀ (i : Nat) (v : Value), items[i]? = some v → ∃ x t, v = Value.str x t ∧ x.length ≤ sizeLine
noncomputable def Stripped (items : Array Value) (i : Nat) (v : Value) : Prop := ∃ x t t', items[i]? = some (.str x t) ∧ v = .str (Txt.strip x) t'
structure MapSt (I T J l : Addr) (items : Array Value) (i : Nat) (h : Heap) : Prop where
  mp : IsMap h I T
  on : IsOne h T J
  it : h.IsListIter J l i
  ls : h.IsList l items
theorem walks_map {prog : Program} {w : World} {A : Around} (hh : A.handled = none) {I T J l : Addr} (nI : I ≠ J) (nT : T ≠ J) (nl : l ≠ J) {items : Array Value} (ha : AllStr items) :
    Walks prog w A I [I, T, J, l] [J] items.size (Stripped items) (MapSt I T J l items) where
  sub := fun b hb => by simp at hb; simp [hb]
  frame := fun i h h' st hk => ⟨hk I (by simp) _ st.mp, hk T (by simp) _ st.on, st.it.at fun o e => hk J (by simp) o e, st.ls.at fun o e => hk l (by simp) o e⟩
  item := fun i s Q E hi st hQ => by
    obtain ⟨x, t, hv, hz⟩ := ha i items[i] (by simp [hi])
    have hx : items[i]? = some (.str x t) := by simp [hi, hv]
    exact pyNext_map_item st.mp st.on st.it st.ls hx hz fun h' t' tk a b => hQ _ h' tk ⟨x, t, t', hx, rfl⟩ ⟨b.extBut _ _ nI st.mp, b.extBut _ _ nT st.on, a, st.ls.at fun o e => b.extBut _ _ nl e⟩ fun c o hc e => b.extBut c o (fun h => hc (by simp [h])) e
  done := fun s Q E st hQ => pyNext_map_end hh st.mp st.on st.it st.ls (by simp) fun h' he => hQ h' s.toks fun b o hb e => he b o (fun h => hb (by simp [h])) e
  self := fun _ _ _ _ st hQ => pyIter_map st.mp hQ
section
variable {prog : Program} {w : World} {A : Around} {E : Value → Shared → Prop} {s : Shared}
theorem collect_map {I T J l : Addr} {items : Array Value} {Q : List Value → Shared → Prop} (hh : A.handled = none) (nI : I ≠ J) (nT : T ≠ J) (nl : l ≠ J) (ha : AllStr items) (st : MapSt I T J l items 0 s.heap) (hz : items.size ≤ sizeLine)
    (hQ : ∀ h' tk acc, (∀ b o, b ≠ J → s.heap.get? b = some o → h'.get? b = some o) → ItemsOf (Stripped items) acc items.size → Q acc.toList { s with heap := h', toks := tk }) : wpAny (model prog w) A (collect (.ref I)) Q E s := by
  have W := (walks_map (prog := prog) (w := w) (A := A.in1) hh nI nT nl ha).toS
  have hTy : ∀ s : Shared, MapSt I T J l items 0 s.heap → s.TypeIs (.ref I) "map" := fun s st => ⟨_, st.mp, rfl⟩
  have lt : ∀ b ∈ [I, T, J, l], b < s.heap.objs.size := fun b hb => by
    simp only [List.mem_cons, List.not_mem_nil, or_false] at hb
    rcases hb with rfl | rfl | rfl | rfl
    · exact Heap.lt_size st.mp
    · exact Heap.lt_size st.on
    · obtain ⟨o, ho, _⟩ := st.it; exact Heap.lt_size ho
    · obtain ⟨o, ho, _⟩ := st.ls; exact Heap.lt_size ho
  have hSf : s.heap.objs.size ∉ [I, T, J, l] := fun hm => Nat.lt_irrefl _ (lt _ hm)
  have hSI : s.heap.objs.size ≠ I := fun e => hSf (by rw [e]; simp)
  unfold collect
  refine wpAny_bind (wpAny_runValue (codeAny_builtin F.entry_proto_collect ?_))
  rw [Around.under_plainId F.plain_proto_collect _]
  show wpAny _ A.in1 (newList [] >>= fun l => again (.builtin "list.__iadd__" ⟨[l, .ref I], []⟩)) _ _ s
  refine wpAny_bind (wpAny_newObj_type ?_)
  refine wpAny_pure ⟨plainId_quiet F.plain_list_iadd _, codeAny_builtin F.entry_list_iadd ?_⟩
  rw [Around.under_plainId F.plain_list_iadd _]
  generalize hH : s.heap.push { cls := .type "list", data := .seq ([] : List Value).toArray } = H
  have hS : H.get? s.heap.objs.size = some { cls := .type "list", data := .seq ([] : List Value).toArray } := hH ▸ Heap.get?_push_size _ rfl
  have old : ∀ b o, s.heap.get? b = some o → H.get? b = some o := fun b o e => hH ▸ Heap.get?_push_of_some _ e
  have st₁ : MapSt I T J l items 0 H := ⟨old _ _ st.mp, old _ _ st.on, st.it.at fun o e => old _ _ e, st.ls.at fun o e => old _ _ e⟩
  show wpAny _ A.in1 (Builtin.List.listExtendWith (.ref s.heap.objs.size) (.ref I) (.ref s.heap.objs.size)) _ _ _
  unfold Builtin.List.listExtendWith
  refine wpAny_bind (wpAny_typeOf (hTy _ st₁) ?_)
  have h1 : Builtin.List.listSameRef (.ref s.heap.objs.size) (.ref I) = false := by simp [Builtin.List.listSameRef, hSI]
  have h2 : (Value.type "map" == Value.type "list") = false := by decide
  have h3 : (Value.type "map" == Value.type "tuple") = false := by decide
  simp only [h1, h2, h3, Bool.or_false, Bool.false_eq_true, if_false]
  refine wpAny_bind (W.self 0 _ _ _ st₁ ?_)
  refine wpAny_bind (wpAny_holding ?_)
  unfold Builtin.List.listLengthHint
  refine wpAny_bind (wpAny_specialOf (hTy _ st₁) map_no_len ?_)
  show wpAny _ A.in1 (specialOf (Value.ref I) (Str.ofString "__length_hint__") >>= _) _ _ _
  refine wpAny_bind (wpAny_specialOf (hTy _ st₁) map_no_hint ?_)
  refine wpAny_pure ?_
  show wpAny _ A.in1 (rule "list.extend.makes-room" >>= fun _ => Builtin.List.listTouch (.ref s.heap.objs.size) >>= fun _ =>
    again (.builtin "list.extend.loop" ⟨[.ref s.heap.objs.size, .ref I, .ref s.heap.objs.size], []⟩)) _ _ _
  refine wpAny_bind (wpAny_rule (wpAny_bind ?_))
  show wpAny _ A.in1 (updateSeq s.heap.objs.size (·.push .none) >>= fun _ => updateSeq s.heap.objs.size (·.pop)) _ _ _
  refine wpAny_bind (wpAny_updateSeq hS rfl ?_)
  have hS₂ := Heap.get?_update_self (Obj.mapSeq (·.push Value.none)) hS rfl
  refine wpAny_updateSeq hS₂ rfl ?_
  have hS₃ := Heap.get?_update_self (Obj.mapSeq (·.pop)) hS₂ rfl
  have oth : ∀ b o, b ≠ s.heap.objs.size → H.get? b = some o → ((H.update s.heap.objs.size (Obj.mapSeq (·.push Value.none))).update s.heap.objs.size (Obj.mapSeq (·.pop))).get? b = some o :=
    fun b o hb e => (Heap.get?_update_other _ _ (Ne.symm hb)).trans ((Heap.get?_update_other _ _ (Ne.symm hb)).trans e)
  have st₃ := W.frame 0 { s with heap := H } _ s.toks st₁ (Nat.le_refl _) fun b hb o e => oth b o (fun h => hSf (h ▸ hb)) e
  refine wpAny_pure ⟨plainId_quiet F.plain_extend_loop _, codeAny_extend_loopS W hz _ hSf _ items.size 0 _ _ _ rfl (Nat.zero_le _) st₃ hS₃ (ItemsOf.nil _) fun s' acc' c' hm hS' hacc => ?_⟩
  show wpAny _ A (load s.heap.objs.size >>= _) _ _ s'
  refine wpAny_bind (wpAny_load hS' ?_)
  obtain ⟨h', gg, dr, tk, os'⟩ := s'
  have e1 : gg = s.gens := hm.gens
  have e2 : dr = s.drawn := hm.drawn
  have e3 : os' = s.os := hm.os
  subst e1 e2 e3
  refine wpAny_pure (hQ h' tk acc' (fun b o hb e => ?_) hacc)
  have nb : b ≠ s.heap.objs.size := fun q => by rw [q, get?_size] at e; cases e
  refine hm.heap b o (fun hmem => ?_) (oth b o nb (old b o e))
  simp only [List.mem_cons, List.not_mem_nil, or_false] at hmem
  rcases hmem with q | q
  · exact nb q
  · exact hb q
end
end Mine
end
section
open PySem PySem.W PySem.Spec PySem.Calls PyProof.Rows PySem.Builtin PySem.Builtin.Str
set_option Elab.async false
set_option tactic.hygienic false
set_option linter.unusedVariables false
set_option maxRecDepth 100000
set_option maxHeartbeats 4000000
namespace Mine
section
variable {prog : Program} {w : World} {A : Around} {E : Value → Shared → Prop} {s : Shared} {K : Frag} {T : String} {name : Str}
/-- an attribute of a built-in class that is handed out as it lies there -/
theorem typ_value {v : Value} {expr : Bool} {Q : Value → Shared → Prop} (X : K.In s.heap) (ht : kitMeta T = true) (hs : Manifest.isStub T = false) (e : findCls K (.type T) (.type "type") name = some (.val v)) (hh : handedIn v = true)
    (h : Q v { s with toks := s.toks + 1 }) : wpAny (model prog w) A (getAttr (.type T) name expr) Q E s := by
  have hstub : opaqueClassAbove (.type T) = pure none := by unfold opaqueClassAbove; dsimp only; rw [hs]; rfl
  have L0 : Looks (model prog w) s.heap (typeOf (.type T)) (.type "type") := Looks.of_pure (kitMeta_of ht)
  have LO : Looks (model prog w) s.heap (opaqueClassAbove (.type T)) none := Looks.of_pure hstub
  have hg : findIn K (.type "type") "__getattribute__" = some (some (.builtin "type.__getattribute__")) := by kernel_rfl
  refine cls_open X LO L0 hg (looks_hook X (r := none) (by rfl)) (by show subIn K _ _ = _; rfl) e ?_
  exact wpAny_pure (handed_on hh h)
theorem typ_method {pl : Sem Bool} {Q : Value × List Value → Shared → Prop} (X : K.In s.heap) (ht : kitMeta T = true)
    (h : wpAny (model prog w) A (getAttr (.type T) name) (fun v => Q (v, [])) E s) : wpAny (model prog w) A (getMethod (.type T) name pl) Q E s := by
  have L0 : Looks (model prog w) s.heap (typeOf (.type T)) (.type "type") := Looks.of_pure (kitMeta_of ht)
  have hg : findIn K (.type "type") "__getattribute__" = some (some (.builtin "type.__getattribute__")) := by kernel_rfl
  have L1 : Looks (model prog w) s.heap (specialOf (.type T) "__getattribute__") (some (.builtin "type.__getattribute__")) := L0.andThen (looks_findIn X hg)
  unfold getMethod
  refine wpAny_bind (L1.here ?_)
  dsimp only
  rw [if_pos canon_tga]
  exact wpAny_bind (wpAny_mono h (fun _ _ z => wpAny_pure z) fun _ _ z => z)
theorem find_strip : findCls K (.type "str") (.type "type") ("strip" : Str) = some (.val (.builtin "str.strip")) := by kernel_rfl
theorem find_tnew : findCls K (.type "tuple") (.type "type") ("__new__" : Str) = some (.val (.builtin "tuple.__new__")) := by kernel_rfl
theorem find_tget : findCls K (.type "tuple") (.type "type") ("__getitem__" : Str) = some (.val (.builtin "tuple.__getitem__")) := by kernel_rfl
theorem meta_str : kitMeta "str" = true := by decide +kernel
theorem meta_tuple : kitMeta "tuple" = true := by decide +kernel
theorem stub_str : Manifest.isStub "str" = false := by decide +kernel
theorem stub_tuple : Manifest.isStub "tuple" = false := by decide +kernel
end
section
variable {prog : Program} {w : World} {W : Wo} {A : Around} {env : Env} {g : Heap} {s : Shared} {ρ : Str → Option Dt}
/-- a call of an attribute, in general -/
theorem call_attr {o : Expr} {name : Str} {apos pos : Pos} {args : List Expr} {Q : Value → Shared → Prop} {E : Value → Shared → Prop} (hbase : attributeBase o name env (eval o env) = eval o env)
    (hfew : ((backTo pos (starEach args env)).all (fun x => !x.1) && (backToKw pos (keywordEach [] env)).all (fun x => x.1.isSome)
      && decide (args.length + ([] : List Keyword).length + (if ([] : List Keyword).isEmpty then 0 else 1) < 30)) = true)
    (hline : (apos.endLine == pos.line) = true)
    (h : wpAny (model prog w) A (eval o env) (fun ov s₁ => ∀ pl, wpAny (model prog w) A (getMethod ov name pl) (fun r s₂ => wpAny (model prog w) A (callWith pos r.1 r.2 (backTo pos (starEach args env)) []) Q E s₂) E s₁) E s) :
    wpAny (model prog w) A (eval (.Call (.Attribute o name apos) args [] pos) env) Q E s := by
  rw [arm_eval_Call, hbase]
  refine wpAny_bind (wpAny_mono h (fun ov s₁ h₁ => ?_) fun _ _ e => e)
  refine wpAny_bind (wpAny_standAt ?_)
  have hform : methodCallForm (args.length + ([] : List Keyword).length) (backTo pos (starEach args env)) (backToKw pos (keywordEach [] env)) = true := hfew
  have hpos : methodCallPos true o env apos pos = pure pos := by unfold methodCallPos; simp [hline]
  unfold methodCall
  rw [hform]
  refine wpAny_bind (wpAny_holding (wpAny_mono (h₁ _) (fun r s₂ h₂ => ?_) fun _ _ e => e))
  exact wpAny_bind (wpAny_of_eq hpos h₂)
/-- a call of an attribute of a built-in class -/
theorem call_typ {K : Frag} {T : String} {id : String} {o : Expr} {name : Str} {apos pos : Pos} {args : List Expr} {Q : Value → Shared → Prop} {E : Value → Shared → Prop} (X : K.In s.heap) (h0 : ∀ (Q' : Value → Shared → Prop), Q' (.type T) s → wpAny (model prog w) A (eval o env) Q' E s)
    (ht : kitMeta T = true) (hs : Manifest.isStub T = false) (e : findCls K (.type T) (.type "type") name = some (.val (.builtin id))) (hh : handedIn (.builtin id) = true) (hbase : attributeBase o name env (eval o env) = eval o env)
    (hfew : ((backTo pos (starEach args env)).all (fun x => !x.1) && (backToKw pos (keywordEach [] env)).all (fun x => x.1.isSome)
      && decide (args.length + ([] : List Keyword).length + (if ([] : List Keyword).isEmpty then 0 else 1) < 30)) = true)
    (hline : (apos.endLine == pos.line) = true)
    (h : wpAny (model prog w) A (callWith pos (.builtin id) [] (backTo pos (starEach args env)) []) Q E { s with toks := s.toks + 1 }) :
    wpAny (model prog w) A (eval (.Call (.Attribute o name apos) args [] pos) env) Q E s :=
  call_attr hbase hfew hline (h0 _ fun pl => typ_method X ht (typ_value X ht hs e hh h))
end
end Mine
end
section
open PySem PySem.W PySem.Spec PySem.Calls PyProof.Rows PySem.Builtin PySem.Builtin.Str
set_option Elab.async false
set_option tactic.hygienic false
set_option linter.unusedVariables false
set_option maxRecDepth 100000
set_option maxHeartbeats 4000000
namespace Mine
theorem pk_tnew (P : Params) (pr : Program) (T : Addr) : peek (Mine.hd.heap_1 P) ⟨pr, P⟩ (checkBuiltinCall "tuple.__new__" ⟨[.ref 215, .ref T], []⟩) = some () := by kernel_rfl
theorem pk_type (P : Params) (pr : Program) : peek (Mine.hd.heap_1 P) ⟨pr, P⟩ (isType (.ref 215)) = some true := by kernel_rfl
theorem pk_sub (P : Params) (pr : Program) : peek (Mine.hd.heap_1 P) ⟨pr, P⟩ (isSubtype (.ref 215) (.type "tuple")) = some true := by kernel_rfl
theorem pk_made (P : Params) (pr : Program) : peek (Mine.hd.heap_1 P) ⟨pr, P⟩ (Bind.madeHere "tuple.__new__" (.ref 215)) = some () := by kernel_rfl
theorem fi_init (P : Params) : findIn (Mine.hd.heap_1 P) (.ref 215) "__init__" = some (some (.builtin "object.__init__")) := by kernel_rfl
theorem fi_hasdel (P : Params) : ∃ oc od cd sl, (Mine.hd.heap_1 P).lookup 215 = some ⟨oc, od, .cls cd, sl⟩ ∧ cd.hasDel = false := ⟨_, _, _, _, rfl, rfl⟩
theorem plain_tnew : plainId "tuple.__new__" = true := by decide +kernel
theorem entry_tnew : entryFor table "tuple.__new__" = some Builtin.«tuple.__new__» := entryFor_of_tree (by kernel_rfl)
section
variable {prog : Program} {w : World} {A : Around} {E : Value → Shared → Prop} {s : Shared}
/-- tuple.__new__(Pair, t) -/
theorem call_tnew {T : Addr} {vs : Array Value} {n : Nat} {Q : Value → Shared → Prop} (X : (Mine.hd.heap_1 w.params).In s.heap) (hT : s.heap.get? T = some { cls := .type "tuple", data := .seq vs n }) (hz : vs.size ≤ sizeLine) (pos : 0 < s.toks)
    (h : ∀ p dx h', (∀ b o, s.heap.get? b = some o → h'.get? b = some o) → s.heap.objs.size ≤ p → s.heap.objs.size ≤ dx → p ≠ dx → h'.get? p = some { cls := .ref 215, dict := some dx, data := .seq vs.toList.toArray } → h'.get? dx = some { cls := .type "dict", data := .dict #[] } → Q (.ref p) { s with heap := h' }) :
    wpAny (model prog w) A (call (.builtin "tuple.__new__") [.ref 215, .ref T]) Q E s := by
  obtain ⟨hp, g, d, tk, os⟩ := s
  dsimp only at X hT
  have L1 := Looks.of_peek (M := model prog w) X (pk_type w.params prog)
  have L2 := Looks.of_peek (M := model prog w) X (pk_sub w.params prog)
  have L3 := Looks.of_peek (M := model prog w) X (pk_made w.params prog)
  have L4 : Looks (model prog w) hp (typeLookup (.ref 215) "__init__") (some (.builtin "object.__init__")) := looks_findIn X (fi_init w.params)
  refine wpAny_call (codeAny_call_builtin plain_tnew entry_tnew ((Looks.of_peek (M := model prog w) X (pk_tnew w.params prog T)).here ?_))
  unfold Builtin.«tuple.__new__»
  repeat (first | with_reducible refine grows pos (wpAny_collect_seq T (.inr rfl) hT rfl rfl (fun h₁ k₁ => fun _ z₁ => ?_) hz) | lk)
  obtain ⟨oc, od, cd, sl, hC, hdel⟩ := fi_hasdel w.params
  have hC₁ := k₁ _ _ (X _ _ hC)
  rw [if_neg (by rw [List.size_toArray, Array.length_toList]; omega)]
  show wpAny _ _ (newObjAsIs _ _ _) _ _ _
  unfold newObjAsIs classHasDel
  refine wpAny_bind (wpAny_alloc (wpAny_bind (wpAny_bind (wpAny_load (Heap.get?_push_of_some _ (Heap.get?_push_of_some _ hC₁)) (wpAny_pure ?_)))))
  dsimp only
  rw [hdel]
  refine wpAny_pure (wpAny_pure ?_)
  show Q _ _
  refine h _ h₁.objs.size _ (fun b o e => Heap.get?_push_of_some _ (Heap.get?_push_of_some _ (k₁ b o e))) ?_ z₁ ?_ (Heap.get?_push_size _ rfl) (Heap.get?_push_of_some _ (Heap.get?_push_size _ rfl))
  · rw [Heap.size_push]
    exact Nat.le_succ_of_le z₁
  · rw [Heap.size_push]
    exact Nat.succ_ne_self _
variable {env : Env} {ρ : Str → Option Dt} {mb : Str → Option Value}
theorem mg_tuple : mgC w.params "tuple" = none := by kernel_rfl
theorem bt_tuple : bootBuiltins "tuple" = some (.type "tuple") := by decide +kernel
theorem hand_tnew : handedIn (.builtin "tuple.__new__") = true := by decide +kernel
set_option tactic.hygienic true in
theorem ev_tnew {p apos pos : Pos} {c t : Expr} {a b : Str} (hc : Ev prog w (WW w mb) A env ρ c (.raw (.ref 215))) (ht : Ev prog w (WW w mb) A env ρ t (.tup [.str a, .str b])) (hk : env.kindOf "tuple" = some .globalImplicit)
    (hse : starEach [c, t] env = [(false, eval c env), (false, eval t env)]) (hl : (apos.endLine == pos.line) = true) : Ev prog w (WW w mb) A env ρ (.Call (.Attribute (.Name "tuple" p) "__new__" apos) [c, t] [] pos) (.pr a b) := .mk fun g s S Q E k => by
  have X : (Mine.hd.heap_1 w.params).In s.heap := S.wd.k.keeps S.sub
  have h0 : ∀ (Q' : Value → Shared → Prop), Q' (.type "tuple") s → wpAny (model prog w) A (eval (.Name "tuple" p) env) Q' E s := fun Q' q => ev_builtin S hk (mg_tuple (w := w)) bt_tuple q
  refine call_typ X h0 meta_tuple stub_tuple find_tnew hand_tnew rfl (by rw [hse]; rfl) hl ?_
  have S1 : SE prog w (WW w mb) env g { s with toks := s.toks + 1 } ρ := S.ext (Ext.refl S.sub) (Nat.succ_pos _)
  rw [hse]
  refine callWith_builtin rfl (evalArgs_plain (spliced_cons ((hc.run g _ S1).use S1.pos fun v₁ h₁ g₁ tk₁ p₁ e₁ r₁ => ?_)))
  have S2 := S1.ext e₁ p₁
  refine spliced_cons ((ht.run g₁ _ S2).use p₁ fun v₂ h₂ g₂ tk₂ p₂ e₂ r₂ => spliced_nil ?_)
  have S3 := S2.ext e₂ p₂
  first | obtain rfl := r₁.inv | obtain ⟨_, rfl⟩ := r₁.inv
  obtain ⟨T, vs, n, rfl, e, r⟩ := r₂.inv
  obtain ⟨t, u, rfl⟩ := r.strs2
  · refine call_tnew (S3.wd.k.keeps S3.sub) (e₂.sub _ _ e) (show 2 ≤ sizeLine by decide) p₂ fun q dx h₃ k₃ z₃ zd nq ho hdx => ?_
    have e₃ : Ext g₂ h₂ g₂ h₃ := ⟨fun b o _ x => k₃ b o x, Nat.le_trans z₃ (Nat.le_of_lt (Heap.lt_size ho)), fun b o x => k₃ b o (e₂.sub b o x), fun _ _ => rfl⟩
    have e₄ := ext_claim e₃.sub hdx zd e₃
    have x : Ext g s.heap (gput (gput g₂ dx _) q _) h₃ := (e₁.trans e₂).trans (ext_claim e₄.sub ho z₃ e₄)
    refine k _ _ _ _ x ?_
    exact .pr (gput_self _ _ _ rfl) (by rw [gput_other _ _ (Ne.symm nq)]; exact gput_self _ _ _ rfl)
theorem fn_new {a b : Str} : Fn prog w (WW w mb) 1 142 [.raw (.ref 215), .str a, .str b] (.pr a b) := by
  refine fn_of d142 rfl fun A L g s₀ Q E R O q => ?_
  refine go_doc ?_
  exact go_return (ev_tnew (ev_name rfl) (ev_tuple (evl_cons (ev_name rfl) (evl_cons (ev_name rfl) evl_nil))) rfl rfl rfl) q
end
end Mine
end
section
open PySem PySem.W PySem.Spec PySem.Calls PyProof.Rows PySem.Builtin PySem.Builtin.Str
set_option Elab.async false
set_option tactic.hygienic false
set_option linter.unusedVariables false
set_option maxRecDepth 100000
set_option maxHeartbeats 4000000
namespace Mine
theorem pk_mro (P : Params) (pr : Program) : peek (Mine.hd.heap_1 P) ⟨pr, P⟩ (mroOf (.ref 215)) = some [.ref 215, .ref 192, .type "tuple", .type "object"] := by kernel_rfl
theorem pk_madeBy (P : Params) (pr : Program) : peek (Mine.hd.heap_1 P) ⟨pr, P⟩ (Bind.madeBy (.ref 215)) = some none := by kernel_rfl
theorem sp_call (P : Params) : specialIn (Mine.hd.heap_1 P) (.ref 215) "__call__" = some (some (.builtin "type.__call__")) := by kernel_rfl
theorem in_type (P : Params) : instIn (Mine.hd.heap_1 P) (.ref 215) (.type "type") = some true := by kernel_rfl
theorem mro_self (P : Params) : mroIn (Mine.hd.heap_1 P) 215 (.ref 215) = some true := by kernel_rfl
theorem mro_obj (P : Params) : mroIn (Mine.hd.heap_1 P) 215 (.type "object") = some true := by kernel_rfl
theorem rd_cls (P : Params) : readsIn (Mine.hd.heap_1 P) 215 (.type "type") = true := by kernel_rfl
theorem fc_new (P : Params) : findCls (Mine.hd.heap_1 P) (.ref 215) (.type "type") ("__new__":Str) = some (.get (.builtin "staticmethod.__get__") (.ref 193) .none (.ref 215)) := by kernel_rfl
theorem fc_parse (P : Params) : findCls (Mine.hd.heap_1 P) (.ref 215) (.type "type") ("parse":Str) = some (.get (.builtin "classmethod.__get__") (.ref 211) .none (.ref 215)) := by kernel_rfl
theorem rec_sm (P : Params) : ∃ rest, recIn (Mine.hd.heap_1 P) 193 "staticmethod" = some (.ref 142 :: rest) := ⟨_, by rfl⟩
theorem rec_cm (P : Params) : ∃ rest, recIn (Mine.hd.heap_1 P) 211 "classmethod" = some (.ref 209 :: rest) := ⟨_, by rfl⟩
section
variable {prog : Program} {w : World} {A : Around} {E : Value → Shared → Prop} {mb : Str → Option Value}
theorem init_quiet (x : Value) (a b : Value) {s : Shared} {R : Result → Shared → Prop} (X : (Mine.hd.heap_1 w.params).In s.heap) (ht : Looks (model prog w) s.heap (typeOf x) (.ref 215)) (h : R (.ok (.ret .none)) s) :
    codeAny (model prog w) A (.call (.builtin "object.__init__") ⟨[x, a, b], []⟩) R s := by
  obtain ⟨hp, g, d, tk, os⟩ := s
  dsimp only at X ht
  have L1 : Looks (model prog w) hp (isInstance x (.type "object")) true := ht.andThen (looks_mroIn X (mro_obj w.params))
  have L2 : Looks (model prog w) hp (typeLookup (.ref 215) "__init__") (some (.builtin "object.__init__")) := looks_findIn X (fi_init w.params)
  have L3 := Looks.of_peek (M := model prog w) X (pk_madeBy w.params prog)
  refine codeAny_call_builtin oi_plain entry_oi (@check_slot (model prog w) _ _ _ "object.__init__" "object" "__init__" x [a, b] [] _ oi_kind oi_split L1 (PySem.F.args_object_init_3 _ _ _) ?_)
  unfold Builtin.«object.__init__»
  repeat lk
  exact h
theorem Room.tcall {n : Nat} {C : Addr} {args : List Value} (R : Room A (n + 1)) : Room (A.under (.builtin "type.__call__" ⟨.ref C :: args, []⟩)) n := by
  refine ⟨R.hd, ?_, ?_⟩
  · have := R.dp
    show A.depth + 1 + n < _
    omega
  · have := R.un
    have e : (Code.builtin "type.__call__" ⟨.ref C :: args, []⟩).cUnits = 1 := rfl
    show A.units + (Code.builtin "type.__call__" ⟨.ref C :: args, []⟩).cUnits + 64 * n + 128 < _
    omega
set_option tactic.hygienic true in
/-- Pair(a, b) -/
theorem call_pair {a b : Str} {g : Heap} {s : Shared} {vs : List Value} (R : Room A 2) (O : Ok (WW w mb) g s) (rs : Rds prog w g vs [.str a, .str b]) : Res prog w A g s (call (.ref 215) vs) (.pr a b) := fun Q E k => by
  have X : (Mine.hd.heap_1 w.params).In s.heap := O.wd.k.keeps O.sub
  obtain ⟨oc, od, cd, sl, hC, hdel⟩ := fi_hasdel w.params
  have call := looks_specialIn (M := model prog w) X (sp_call w.params)
  have typ := looks_instIn (M := model prog w) X (in_type w.params)
  have hm := Looks.of_peek (M := model prog w) X (pk_mro w.params prog)
  have L3 := Looks.of_peek (M := model prog w) X (pk_madeBy w.params prog)
  obtain ⟨rest, hsm⟩ := rec_sm w.params
  refine wpAny_call (codeAny_of_tree ?_)
  show wpAny _ _ (callAny (.ref 215) _) _ _ _
  refine wpAny_bind (wpAny_load (X _ _ hC) ?_)
  show wpAny _ _ (callAny.viaDunder (.ref 215) _) _ _ _
  unfold callAny.viaDunder
  refine wpAny_bind (call.here ?_)
  dsimp only
  rw [tc_bind]
  refine wpAny_bind (wpAny_pure (wpAny_bind (wpAny_pure ?_)))
  refine wpAny_pure (a := PySem.Fin.again (.call (.builtin "type.__call__") ⟨.ref 215 :: vs, []⟩)) (And.intro rfl ?_)
  refine codeAny_call_builtin_at (Code.quiet_builtin _ (by decide +kernel)) entry_typeCall (check_slot tc_kind tc_split typ (tc_args _ _ _) ?_)
  unfold Builtin.«type.__call__»
  obtain ⟨hp, gg, d, tk, os⟩ := s
  dsimp only at X hm L3
  have O' : Ok (WW w mb) g ⟨hp, gg, d, tk + 1, os⟩ := O.ext (tk := tk + 1) (Ext.refl O.sub) (Nat.succ_pos _)
  have rs' : Rds prog w g (.ref 215 :: vs) [.raw (.ref 215), .str a, .str b] := .cons (.raw _) rs
  repeat ((fail_if_success (with_reducible refine wpAny_call ?_)); (first
    | with_reducible refine cls_bind X (rd_cls w.params) (fc_new w.params) (wpAny_call (sm_get (s := ⟨hp, gg, d, tk + 1, os⟩) X hsm (handed_on rfl ?_))) | lk))
  refine Res.use (fn_new (prog := prog) (w := w) (mb := mb) _ _ _ _ R.tcall O' rs') (Nat.succ_pos _) (fun v h₁ g₁ tk₁ p₁ e₁ r₁ => ?_)
  have O₁ : Ok (WW w mb) g₁ ⟨h₁, gg, d, tk₁, os⟩ := O'.ext e₁ p₁
  have X₁ : (Mine.hd.heap_1 w.params).In h₁ := O₁.wd.k.keeps O₁.sub
  have e₀ : Ext g hp g₁ h₁ := e₁
  have fin := k v h₁ g₁ tk₁ e₀ r₁
  obtain ⟨p, dx, t, u, n, rfl, ho, hdx⟩ := r₁.inv
  · have hx := e₁.sub _ _ ho
    have T1 : Looks (model prog w) h₁ (typeOf (.ref p)) (.ref 215) := (Looks.ld (part := none) hx).andThen .now
    have I1 : Looks (model prog w) h₁ (isInstance (.ref p) (.ref 215)) true := T1.andThen (looks_mroIn X₁ (mro_self w.params))
    have L2 : Looks (model prog w) h₁ (typeLookup (.ref 215) "__init__") (some (.builtin "object.__init__")) := looks_findIn X₁ (fi_init w.params)
    dsimp only
    refine wpAny_bind (I1.here ?_)
    rw [if_neg (by decide)]
    have B1 : Looks (model prog w) h₁ (bindSpecial (.builtin "object.__init__") (.ref p)) (.builtin "object.__init__", [.ref p]) := Looks.of_pure (oi_bind _)
    obtain ⟨v₁, v₂, rfl, -, -⟩ := rs.two
    unfold callSpecial? specialOf
    repeat (first | with_reducible refine wpAny_call ?_ | lk)
    refine init_quiet (.ref p) v₁ v₂ X₁ T1 ?_
    refine wpAny_pure ?_
    dsimp only
    rw [if_neg (by decide)]
    exact wpAny_pure fin
end
end Mine
end
section
open PySem PySem.W PySem.Spec PySem.Calls PyProof.Rows PySem.Builtin PySem.Builtin.Str
set_option Elab.async false
set_option tactic.hygienic false
set_option linter.unusedVariables false
set_option maxRecDepth 100000
set_option maxHeartbeats 4000000
namespace Mine
section
variable {prog : Program} {w : World} {A : Around} {env : Env} {mb : Str → Option Value} {ρ : Str → Option Dt}
theorem mg_map : mgC w.params "map" = none := by kernel_rfl
theorem bt_map : bootBuiltins "map" = some (.type "map") := by decide +kernel
theorem mg_str : mgC w.params "str" = none := by kernel_rfl
theorem bt_str : bootBuiltins "str" = some (.type "str") := by decide +kernel
theorem hand_strip : handedIn (.builtin "str.strip") = true := by decide +kernel
/-- str.strip, as a value -/
theorem ev_strip {p pos : Pos} (hk : env.kindOf "str" = some .globalImplicit) : Ev prog w (WW w mb) A env ρ (.Attribute (.Name "str" p) "strip" pos) (.raw (.builtin "str.strip")) := .mk fun g s S Q E k => by
  have X : (Mine.hd.heap_1 w.params).In s.heap := S.wd.k.keeps S.sub
  have h0 : ∀ (Q' : Value → Shared → Prop), Q' (.type "str") s → wpAny (model prog w) A (eval (.Name "str" p) env) Q' E s := fun Q' q => ev_builtin S hk (mg_str (w := w)) bt_str q
  rw [arm_eval_Attribute]
  refine wpAny_bind (h0 _ (wpAny_bind (wpAny_standAt (wpAny_bind (wpAny_holding ?_)))))
  obtain ⟨T, hT⟩ : ∃ T, T = "str" := ⟨_, rfl⟩
  rw [← hT]
  refine typ_value X (hT ▸ meta_str) (hT ▸ stub_str) (hT ▸ find_strip) hand_strip ?_
  refine wpAny_bind (wpAny_pure (wpAny_pure ?_))
  exact k _ s.heap g _ (Ext.refl S.sub) (.raw _)
theorem keep_pair (P : Params) : keepIn (Mine.hd.heap_1 P) (.ref 215) = true := by kernel_rfl
/-- map(str.strip, l) -/
theorem call_map {l : Addr} {vs : Array Value} {n : Nat} {s : Shared} {Q : Value → Shared → Prop} {E : Value → Shared → Prop} (hl : s.heap.get? l = some { cls := .type "list", data := .seq vs n })
    (h : ∀ h', (∀ b o, s.heap.get? b = some o → h'.get? b = some o) → h'.objs.size = s.heap.objs.size + 3 → MapSt (s.heap.objs.size + 2) (s.heap.objs.size + 1) s.heap.objs.size l vs 0 h' → Q (.ref (s.heap.objs.size + 2)) { s with heap := h' }) :
    wpAny (model prog w) A (call (.type "map") [.builtin "str.strip", .ref l]) Q E s := by
  refine callType_new called_map (by decide) (typeCall_map _ _) (newCall_map _ _) (fun obj => PySem.F.args_object_init_3 obj _ _) entry_map_new (meets_map_new _ l vs n rfl) ⟨hl, ?_⟩
  generalize h1 : s.heap.push { cls := .type "list_iterator", data := .fields #[.ref l, .int 0 0] } = H1
  have z1 : H1.objs.size = s.heap.objs.size + 1 := by rw [← h1, Heap.size_push]
  generalize h2 : H1.push { cls := .type "tuple", data := .seq #[.ref s.heap.objs.size] } = H2
  have z2 : H2.objs.size = s.heap.objs.size + 2 := by rw [← h2, Heap.size_push, z1]
  generalize h3 : H2.push { cls := .type "map", data := .fields #[.ref (s.heap.objs.size + 1), .builtin "str.strip"] } = H3
  have z3 : H3.objs.size = s.heap.objs.size + 3 := by rw [← h3, Heap.size_push, z2]
  have g1 : H1.get? s.heap.objs.size = some { cls := .type "list_iterator", data := .fields #[.ref l, .int 0 0] } := h1 ▸ Heap.get?_push_size _ rfl
  have g2 : H2.get? (s.heap.objs.size + 1) = some { cls := .type "tuple", data := .seq #[.ref s.heap.objs.size] } := by rw [← z1, ← h2]; exact Heap.get?_push_size _ rfl
  have g3 : H3.get? (s.heap.objs.size + 2) = some { cls := .type "map", data := .fields #[.ref (s.heap.objs.size + 1), .builtin "str.strip"] } := by rw [← z2, ← h3]; exact Heap.get?_push_size _ rfl
  have k1 : ∀ b o, s.heap.get? b = some o → H1.get? b = some o := fun b o e => h1 ▸ Heap.get?_push_of_some _ e
  have k2 : ∀ b o, H1.get? b = some o → H2.get? b = some o := fun b o e => h2 ▸ Heap.get?_push_of_some _ e
  have k3 : ∀ b o, H2.get? b = some o → H3.get? b = some o := fun b o e => h3 ▸ Heap.get?_push_of_some _ e
  exact ⟨⟨_, g3, rfl⟩, h H3 (fun b o e => k3 _ _ (k2 _ _ (k1 _ _ e))) z3 ⟨g3, k3 _ _ g2, ⟨_, k3 _ _ (k2 _ _ g1), rfl, rfl⟩, ⟨_, k3 _ _ (k2 _ _ (k1 _ _ hl)), rfl, n, rfl⟩⟩⟩
theorem all_str2 {x y : Str} {t u : Tok} (hx : x.length ≤ sizeLine) (hy : y.length ≤ sizeLine) : AllStr #[.str x t, .str y u] := fun i v hv => by
  cases i with
  | zero => cases hv; exact ⟨x, t, rfl, hx⟩
  | succ i => cases i with
    | zero => cases hv; exact ⟨y, u, rfl, hy⟩
    | succ i => simp at hv
theorem stripped2 {acc : Array Value} {x y : Str} {t u : Tok} (h : ItemsOf (Stripped #[.str x t, .str y u]) acc 2) : Rds prog w g acc.toList [.str (Txt.strip x), .str (Txt.strip y)] := by
  obtain ⟨l⟩ := acc
  obtain ⟨a, b, rfl⟩ : ∃ a b, l = [a, b] := by
    have e : l.length = 2 := h.1
    cases l with
    | nil => cases e
    | cons a l => obtain ⟨b, rfl⟩ := List.length_eq_one_iff.mp (Nat.succ.inj e); exact ⟨a, b, rfl⟩
  obtain ⟨x', t1, t1', c1, rfl⟩ := h.2 0 a rfl
  obtain ⟨y', t2, t2', c2, rfl⟩ := h.2 1 b rfl
  cases c1
  cases c2
  exact .cons (.str ..) (.cons (.str ..) .nil)
/-- cls(*map(str.strip, l)) -/
theorem ev_clsMap {pc pm p p1 p2 pos pos2 : Pos} {e : Expr} {x y : Str} (R : Room A 2) (hc : ρ "cls" = some (.raw (.ref 215))) (he : Ev prog w (WW w mb) A env ρ e (.lst [.str x, .str y])) (hx : x.length ≤ sizeLine) (hy : y.length ≤ sizeLine)
    (hk : env.kindOf "str" = some .globalImplicit) (hm : env.kindOf "map" = some .globalImplicit)
    (hse : starEach [.Attribute (.Name "str" p1) "strip" p2, e] env = [(false, eval (.Attribute (.Name "str" p1) "strip" p2) env), (false, eval e env)]) :
    Ev prog w (WW w mb) A env ρ (.Call (.Name "cls" pc) [.Starred (.Call (.Name "map" pm) [.Attribute (.Name "str" p1) "strip" p2, e] [] pos2) p] [] pos) (.pr (Txt.strip x) (Txt.strip y)) := .mk fun g s S Q E k => by
  refine wpAny_Call_NameR (((ev_name hc).run g s S).use S.pos fun v h₀ g₀ tk₀ p₀ e₀ r₀ => ?_)
  first | obtain rfl := r₀.inv | obtain ⟨_, rfl⟩ := r₀.inv
  have S0 := S.ext e₀ p₀
  have X0 : (Mine.hd.heap_1 w.params).In h₀ := S0.wd.k.keeps S0.sub
  refine callWith_S X0 (keep_pair w.params) ?_
  refine wpAny_Call_NameR (ev_builtin S0 hm (mg_map (w := w)) bt_map ?_)
  rw [hse]
  refine PySem.callWith_type rfl (evalArgs_plain (spliced_cons (((ev_strip hk).run g₀ _ S0).use p₀ fun f h₁ g₁ tk₁ p₁ e₁ r₁ => ?_)))
  have S1 := S0.ext e₁ p₁
  refine spliced_cons ((he.run g₁ _ S1).use p₁ fun lv h₂ g₂ tk₂ p₂ e₂ r₂ => spliced_nil ?_)
  have S2 := S1.ext e₂ p₂
  first | obtain rfl := r₁.inv | obtain ⟨_, rfl⟩ := r₁.inv
  obtain ⟨l, vs, n, rfl, ho, hr⟩ := r₂.inv
  obtain ⟨t, u, rfl⟩ := hr.strs2
  · refine call_map (e₂.sub _ _ ho) fun h₃ k₃ z₃ st => ?_
    have hT : Shared.TypeIs { s with heap := h₃, toks := tk₂ } (.ref (h₂.objs.size + 2)) "map" := ⟨_, st.mp, rfl⟩
    have lt : l < h₂.objs.size := Heap.lt_size (e₂.sub _ _ ho)
    have hall : AllStr #[.str x t, .str y u] := all_str2 hx hy
    unfold StarOf notIterableAtAll
    refine wpAny_bind (wpAny_specialOf hT slot_map_iter.lookup (wpAny_pure ⟨rfl, ?_⟩))
    refine grows p₂ (collect_map R.hd (Nat.ne_of_gt (Nat.lt_add_of_pos_right (by decide))) (Nat.ne_of_gt (Nat.lt_add_of_pos_right (by decide))) (Nat.ne_of_lt lt) hall st (by show 2 ≤ sizeLine; decide) fun h₄ tk₄ acc k₄ hacc => fun p₄ z₄ => ?_)
    have z₄ : h₃.objs.size ≤ h₄.objs.size := z₄
    have z₃ : h₃.objs.size = h₂.objs.size + 3 := z₃
    have kk : ∀ b o, h₂.get? b = some o → h₄.get? b = some o := fun b o e => k₄ b o (fun q => by rw [q, get?_size] at e; cases e) (k₃ b o e)
    have e₄ : Ext g₂ h₂ g₂ h₄ := ⟨fun b o _ e => kk b o e, by show h₂.objs.size ≤ h₄.objs.size; omega, fun b o e => kk b o (e₂.sub b o e), fun _ _ => rfl⟩
    have S4 := S2.ext e₄ p₄
    refine ⟨S4.wd.k.keeps S4.sub, ?_⟩
    have rs : Rds prog w g₂ acc.toList [.str (Txt.strip x), .str (Txt.strip y)] := stripped2 hacc
    refine call_pair R S4.toOk rs Q E fun v h₅ g₅ tk₅ e₅ r₅ => ?_
    exact k v h₅ g₅ tk₅ ((((e₀.trans e₁).trans e₂).trans e₄).trans e₅) r₅
/-- Pair.parse -/
theorem fn_parsePair {i x y : Str} (hi : Txt.splitMax i "=" 1 = [x, y]) (hz : i.length + 2 ≤ sizeLine) (hx : x.length ≤ sizeLine) (hy : y.length ≤ sizeLine) : FnC prog w (WW w mb) 3 209 [.raw (.ref 215), .str i] (.pr (Txt.strip x) (Txt.strip y)) := by
  refine fnc_of d209 rfl fun A L g s₀ Q E R O q => ?_
  refine go_return (ev_clsMap R rfl ?_ hx hy rfl rfl rfl) q
  rw [show Dt.lst [.str x, .str y] = .lst ((Txt.splitMax i "=" 1).map .str) from by rw [hi]; rfl]
  exact ev_meth (ev_name rfl) (evl_cons ev_str (evl_cons ev_int evl_nil)) (mt_split (x := i) (y := "=") (n := 1) (by decide +kernel) (by decide +kernel) hz) ty_str F.plainAttrs_str F.slot_str_split F.type_str_split
end
end Mine
end
section
open PySem PySem.W PySem.Spec PySem.Calls PyProof.Rows PySem.Builtin PySem.Builtin.Str
set_option Elab.async false
set_option tactic.hygienic false
set_option linter.unusedVariables false
set_option maxRecDepth 100000
set_option maxHeartbeats 4000000
namespace Mine
theorem mg_pair (P : Params) : mgC P "Pair" = some (.ref 215) := by kernel_rfl
theorem sp_ga (P : Params) : specialIn (Mine.hd.heap_1 P) (.ref 215) "__getattribute__" = some (some (.builtin "type.__getattribute__")) := by kernel_rfl
theorem fn_209 (P : Params) : fnIn (Mine.hd.heap_1 P) 209 = true := by kernel_rfl
section
variable {prog : Program} {w : World} {A : Around} {env : Env} {mb : Str → Option Value} {ρ : Str → Option Dt}
theorem ev_parsePair {p apos pos : Pos} {e : Expr} {i x y : Str} (R : Room A 3) (he : Ev prog w (WW w mb) A env ρ e (.str i)) (hi : Txt.splitMax i "=" 1 = [x, y]) (hz : i.length + 2 ≤ sizeLine) (hx : x.length ≤ sizeLine) (hy : y.length ≤ sizeLine)
    (hk : env.kindOf "Pair" = some .globalImplicit) (hse : starEach [e] env = [(false, eval e env)]) (hl : (apos.endLine == pos.line) = true) :
    Ev prog w (WW w mb) A env ρ (.Call (.Attribute (.Name "Pair" p) "parse" apos) [e] [] pos) (.pr (Txt.strip x) (Txt.strip y)) := .mk fun g s S Q E k => by
  have X : (Mine.hd.heap_1 w.params).In s.heap := S.wd.k.keeps S.sub
  obtain ⟨rest, hcm⟩ := rec_cm w.params
  have h0 : ∀ (Q' : Value → Shared → Prop), Q' (.ref 215) s → wpAny (model prog w) A (eval (.Name "Pair" p) env) Q' E s := fun Q' q => ev_global S hk (mg_pair w.params) q
  refine call_attr rfl (by rw [hse]; rfl) hl ?_
  refine h0 _ fun pl => ?_
  refine method_cls X (sp_ga w.params) (cls_bind X (rd_cls w.params) (fc_parse w.params) (wpAny_call (cm_get (s := { s with toks := s.toks + 1 }) X hcm (handed_on rfl ?_))))
  have ex := ext_push S.sub (methodObj (.ref 209) (.ref 215))
  have S1 : SE prog w (WW w mb) env g { s with heap := s.heap.push (methodObj (.ref 209) (.ref 215)), toks := s.toks + 1 } ρ := S.ext ex (Nat.succ_pos _)
  have ntq := not_tab_size S.toOk
  rw [hse]
  refine callWith_of (P := MethP (Mine.hd.heap_1 w.params) s.heap.objs.size 209 (.ref 215)) rfl (keeps_M (fn_209 w.params)) (evalArgs_plain (spliced_cons ((he.run g _ S1).use S1.pos fun v h₁ g₁ tk₁ p₁ e₁ r₁ => spliced_nil ?_)))
  have S2 := S1.ext e₁ p₁
  have hq : h₁.get? s.heap.objs.size = some (methodObj (.ref 209) (.ref 215)) := e₁.keep _ _ ntq (Heap.get?_push_size _ rfl)
  refine ⟨⟨hq, S2.wd.k.keeps S2.sub⟩, wpAny_call (method_call hq ?_)⟩
  refine fn_parsePair hi hz hx hy A g₁ _ _ Q E R S2.toOk (.cons (.raw _) (.cons r₁ .nil)) fun u h₂ g₂ tk₂ e₂ r₂ => ?_
  exact k u h₂ g₂ tk₂ ((ex.trans e₁).trans e₂) r₂
end
end Mine
end
section
open PySem PySem.W PySem.Spec PySem.Calls PyProof.Rows PySem.Builtin PySem.Builtin.Str
set_option Elab.async false
set_option tactic.hygienic false
set_option linter.unusedVariables false
set_option maxRecDepth 100000
set_option maxHeartbeats 4000000
namespace Mine
theorem pk_sub1 (P : Params) (pr : Program) : peek (Mine.hd.heap_1 P) ⟨pr, P⟩ (Builtin.«issubclass» ⟨[.ref 215, .type "tuple"], []⟩) = some (.again (.builtin "issubclass.nested" ⟨[.ref 215, .type "tuple", rawInt 0], []⟩)) := by kernel_rfl
theorem pk_sub2 (P : Params) (pr : Program) : peek (Mine.hd.heap_1 P) ⟨pr, P⟩ (Builtin.«issubclass.nested» ⟨[.ref 215, .type "tuple", rawInt 0], []⟩) = some (.done (.ret (.bool true))) := by kernel_rfl
theorem pk_sub0 (P : Params) (pr : Program) : peek (Mine.hd.heap_1 P) ⟨pr, P⟩ (checkBuiltinCall "issubclass" ⟨[.ref 215, .type "tuple"], []⟩) = some () := by kernel_rfl
theorem mro_tuple (P : Params) : mroIn (Mine.hd.heap_1 P) 215 (.type "tuple") = some true := by kernel_rfl
section
variable {prog : Program} {w : World} {A : Around} {E : Value → Shared → Prop} {s : Shared}
theorem call_typePair {p : Addr} {Q : Value → Shared → Prop} {dx : Option Addr} {dt : Data} (ho : s.heap.get? p = some { cls := .ref 215, dict := dx, data := dt }) (hq : Q (.ref 215) s) : wpAny (model prog w) A (call (.type "type") [.ref p]) Q E s := by
  refine wpAny_call (codeAny_of_tree ?_)
  show wpAny _ _ (callAny (.type "type") _) _ _ _
  refine wpAny_pure ⟨Code.quiet_builtin _ (by decide +kernel), codeAny_builtin PySem.F.entry_type_call ?_⟩
  rw [Around.under_plain (weight_type_call_type "type" [.ref p] []) (units_type_call_type "type" [.ref p] [])]
  obtain ⟨hp, g, d, tk, os⟩ := s
  dsimp only at ho
  unfold Builtin.«type.__call__» shownTypeOf
  repeat lk
  exact hq
theorem slot_tget : Slot "tuple" "__getitem__" "tuple.__getitem__" := PyProof.Rows.slot_tuple_getitem
/-- tuple.__getitem__(p, i) -/
theorem call_tget {p : Addr} {dx : Option Addr} {vs : Array Value} {n : Nat} {i : Nat} {t : Tok} {v : Value} {Q : Value → Shared → Prop} (X : (Mine.hd.heap_1 w.params).In s.heap) (ho : s.heap.get? p = some { cls := .ref 215, dict := dx, data := .seq vs n }) (hv : vs[i]? = some v) (hi : i < 1000) (hq : Q v s) :
    wpAny (model prog w) A (call (.builtin "tuple.__getitem__") [.ref p, .int i t]) Q E s := by
  have T1 : Looks (model prog w) s.heap (typeOf (.ref p)) (.ref 215) := (Looks.ld (part := none) ho).andThen .now
  have I1 : Looks (model prog w) s.heap (isInstance (.ref p) (.type "tuple")) true := T1.andThen (looks_mroIn X (mro_tuple w.params))
  refine wpAny_call (codeAny_call_builtin (by decide +kernel) (show entryFor table "tuple.__getitem__" = some Builtin.«tuple.__getitem__» from entryFor_of_tree (by kernel_rfl)) (@check_slot (model prog w) _ _ _ "tuple.__getitem__" "tuple" "__getitem__" (.ref p) [.int i t] [] _ (by decide +kernel) (by decide +kernel) I1 (by unfold argsOk; kernel_rfl) ?_))
  obtain ⟨hp, g, d, tk, os⟩ := s
  dsimp only at ho X T1 I1
  unfold Builtin.«tuple.__getitem__»
  repeat lk
  rw [if_neg (by
    simp only [Bool.or_eq_true, decide_eq_true_eq, not_or]
    omega)]
  have hlt : i < vs.size := (Array.getElem?_eq_some_iff.mp hv).1
  have e : (seqIndex? (i : Int) vs.size).bind (fun x => vs[x]?) = some v := by
    have : seqIndex? (i : Int) vs.size = some i := seqIndex_at (Int.natCast_nonneg i) (Int.ofNat_lt.mpr hlt)
    rw [this]; exact hv
  rw [e]
  exact wpAny_pure hq
theorem call_issub {Q : Value → Shared → Prop} (X : (Mine.hd.heap_1 w.params).In s.heap) (hq : Q (.bool true) s) : wpAny (model prog w) A (call (.builtin "issubclass") [.ref 215, .type "tuple"]) Q E s := by
  refine wpAny_call (codeAny_call_builtin PySem.F.plain_issubclass PySem.F.entry_issubclass ((Looks.of_peek (M := model prog w) X (pk_sub0 w.params prog)).here ?_))
  refine (Looks.of_peek (M := model prog w) X (pk_sub1 w.params prog)).here ⟨Code.quiet_builtin _ (by decide +kernel), codeAny_builtin PySem.F.entry_issubclass_nested ?_⟩
  exact (Looks.of_peek (M := model prog w) X (pk_sub2 w.params prog)).here hq
end
theorem inst187 (P : Params) : ∃ ox dx od t, (Mine.hd.heap_1 P).lookup 187 = some ox ∧ ox.cls = .ref 90 ∧ notCls ox = true ∧ ox.dict = some dx ∧ (Mine.hd.heap_1 P).lookup dx = some od ∧ findObj (Mine.hd.heap_1 P) 90 (some od) "index" = some (.value (.int 1 t)) := ⟨_, _, _, 509, rfl, rfl, rfl, rfl, rfl, by kernel_rfl⟩
theorem inst184 (P : Params) : ∃ ox dx od t, (Mine.hd.heap_1 P).lookup 184 = some ox ∧ ox.cls = .ref 90 ∧ notCls ox = true ∧ ox.dict = some dx ∧ (Mine.hd.heap_1 P).lookup dx = some od ∧ findObj (Mine.hd.heap_1 P) 90 (some od) "index" = some (.value (.int 0 t)) := ⟨_, _, _, 499, rfl, rfl, rfl, rfl, rfl, by kernel_rfl⟩
theorem ga_90 (P : Params) : findIn (Mine.hd.heap_1 P) (.ref 90) "__getattribute__" = some (some (.builtin "object.__getattribute__")) := by kernel_rfl
theorem ga_215 (P : Params) : findIn (Mine.hd.heap_1 P) (.ref 215) "__getattribute__" = some (some (.builtin "tuple.__getattribute__")) := by kernel_rfl
theorem gx_215 (P : Params) : findIn (Mine.hd.heap_1 P) (.ref 215) "__getattr__" = some none := by kernel_rfl
theorem fo_value (P : Params) : findObj (Mine.hd.heap_1 P) 215 (some { cls := .type "dict", data := .dict #[] }) "value" = some (.bind (.ref 73) (.ref 187)) := by kernel_rfl
theorem fo_name (P : Params) : findObj (Mine.hd.heap_1 P) 215 (some { cls := .type "dict", data := .dict #[] }) "name" = some (.bind (.ref 73) (.ref 184)) := by kernel_rfl
section
variable {prog : Program} {w : World} {A : Around} {env : Env} {mb : Str → Option Value} {ρ : Str → Option Dt}
theorem mg_type : mgC w.params "type" = none := by kernel_rfl
theorem bt_type : bootBuiltins "type" = some (.type "type") := by decide +kernel
theorem mg_issub : mgC w.params "issubclass" = none := by kernel_rfl
theorem bt_issub : bootBuiltins "issubclass" = some (.builtin "issubclass") := by decide +kernel
theorem hand_tget : handedIn (.builtin "tuple.__getitem__") = true := by decide +kernel
theorem entry_tga : entryFor table "tuple.__getattribute__" = some Builtin.«object.__getattribute__» :=
  entryFor_alias (id' := "object.__getattribute__") (by kernel_rfl) (by first | rfl | decide +kernel | (unfold String.splitOn; simp +decide [String.splitOnAux])) (by decide +kernel) (by kernel_rfl)
theorem ev_index {a : Addr} {p pos : Pos} {i : Int} (h : ∃ ox dx od t, (Mine.hd.heap_1 w.params).lookup a = some ox ∧ ox.cls = .ref 90 ∧ notCls ox = true ∧ ox.dict = some dx ∧ (Mine.hd.heap_1 w.params).lookup dx = some od ∧ findObj (Mine.hd.heap_1 w.params) 90 (some od) "index" = some (.value (.int i t)))
    (hs : ρ "self" = some (.raw (.ref a))) : Ev prog w (WW w mb) A env ρ (.Attribute (.Name "self" p) "index" pos) (.int i) := .mk fun g s S Q E k => by
  obtain ⟨ox, dx, od, t, h1, h2, h3, h4, h5, h6⟩ := h
  rw [arm_eval_Attribute]
  refine wpAny_bind (((ev_name hs).run g s S).use S.pos fun v h₁ g₁ tk₁ p₁ e₁ r₁ => wpAny_bind (wpAny_standAt (wpAny_bind (wpAny_holding ?_))))
  first | obtain rfl := r₁.inv | obtain ⟨_, rfl⟩ := r₁.inv
  have S1 := S.ext e₁ p₁
  have X : (Mine.hd.heap_1 w.params).In h₁ := S1.wd.k.keeps S1.sub
  have I : InstAt h₁ a ox 90 (some od) := ⟨X _ _ h1, h2, h3, by rw [h4]; exact X _ _ h5⟩
  refine get_value X I (ga_90 w.params) h6 rfl ?_
  exact wpAny_bind (wpAny_pure (wpAny_pure (k _ h₁ g₁ _ e₁ (.int ..))))
theorem ev_bt {f : Str} {p : Pos} {v : Value} (hk : env.kindOf f = some .globalImplicit) (hf : mgC w.params f = none) (hb : bootBuiltins f = some v) (hn : f ≠ "__name__" := by decide +kernel) (hd : (f == ("__debug__" : Str)) = false := by decide +kernel) : Ev prog w (WW w mb) A env ρ (.Name f p) (.raw v) := .mk fun g s S Q E k =>
  ev_builtin S hk hf hb (k v s.heap g s.toks (Ext.refl S.sub) (.raw v)) hn hd
theorem tst_not {W : Wo} {x : Expr} {pos : Pos} {b : Bool} (h : Tst prog w W A env ρ x b) : Tst prog w W A env ρ (.UnaryOp .Not x pos) (!b) := .mk fun g s S Q E k => by
  rw [arm_isTrue_UnaryOp]
  exact wpAny_bind (h.run g s S _ E fun h' g' tk p e => wpAny_pure (k h' g' tk p e))
theorem tst_call {W : Wo} {f : Expr} {args : List Expr} {pos : Pos} {b : Bool} (hx : Ev prog w W A env ρ (.Call f args [] pos) (.bool b)) : Tst prog w W A env ρ (.Call f args [] pos) b := .mk fun g s S Q E k => by
  refine wpAny_isTrue_value ((hx.run g s S).use S.pos fun v h' g' tk p e r => ?_)
  first | obtain rfl := r.inv | obtain ⟨_, rfl⟩ := r.inv
  exact wpAny_truthy_bool (k h' g' tk p e)
theorem bin_isNone {W : Wo} {a b : Str} : Bin prog w W A (compareOp .Is) (.pr a b) .none (.bool false) := fun g s v₁ v₂ O r₁ r₂ Q E k => by
  obtain rfl := r₂.inv
  obtain ⟨p, dx, t, u, n, rfl, -⟩ := r₁.inv
  exact PySem.is_none (k _ s.heap g s.toks (Ext.refl O.sub) (.bool false))
theorem ev_typeOf {e : Expr} {p pos : Pos} {a b : Str} (he : Ev prog w (WW w mb) A env ρ e (.pr a b)) (hk : env.kindOf "type" = some .globalImplicit) (hse : starEach [e] env = (false, eval e env) :: starEach [] env) : Ev prog w (WW w mb) A env ρ (.Call (.Name "type" p) [e] [] pos) (.raw (.ref 215)) :=
  ev_callT (evl_cons he evl_nil hse) hk (mg_type (w := w)) bt_type fun g s vs O rs Q E k => by
    obtain ⟨v, rfl, x⟩ := rs.one
    obtain ⟨p, dx, t, u, n, rfl, ho, hd⟩ := x.inv
    exact call_typePair (O.sub _ _ ho) (k _ s.heap g s.toks (Ext.refl O.sub) (.raw _))
theorem ev_issub {e t : Expr} {p pos : Pos} (he : Ev prog w (WW w mb) A env ρ e (.raw (.ref 215))) (ht : Ev prog w (WW w mb) A env ρ t (.raw (.type "tuple"))) (hk : env.kindOf "issubclass" = some .globalImplicit)
    (hse : starEach [e, t] env = (false, eval e env) :: starEach [t] env) (hse2 : starEach [t] env = (false, eval t env) :: starEach [] env) : Ev prog w (WW w mb) A env ρ (.Call (.Name "issubclass" p) [e, t] [] pos) (.bool true) :=
  ev_callB (evl_cons he (evl_cons ht evl_nil hse2) hse) hk (mg_issub (w := w)) bt_issub fun g s vs O rs Q E k => by
    obtain ⟨v, u, rfl, x, y⟩ := rs.two
    obtain rfl := x.inv
    obtain rfl := y.inv
    exact call_issub (O.wd.k.keeps O.sub) (k _ s.heap g s.toks (Ext.refl O.sub) (.bool true))
theorem ev_tget {p apos pos : Pos} {c t : Expr} {a b x : Str} {i : Nat} (hi : i = 0 ∧ x = a ∨ i = 1 ∧ x = b) (hc : Ev prog w (WW w mb) A env ρ c (.pr a b)) (ht : Ev prog w (WW w mb) A env ρ t (.int i)) (hk : env.kindOf "tuple" = some .globalImplicit)
    (hse : starEach [c, t] env = [(false, eval c env), (false, eval t env)]) (hl : (apos.endLine == pos.line) = true) : Ev prog w (WW w mb) A env ρ (.Call (.Attribute (.Name "tuple" p) "__getitem__" apos) [c, t] [] pos) (.str x) := .mk fun g s S Q E k => by
  have X : (Mine.hd.heap_1 w.params).In s.heap := S.wd.k.keeps S.sub
  have h0 : ∀ (Q' : Value → Shared → Prop), Q' (.type "tuple") s → wpAny (model prog w) A (eval (.Name "tuple" p) env) Q' E s := fun Q' q => ev_builtin S hk (mg_tuple (w := w)) bt_tuple q
  refine call_typ X h0 meta_tuple stub_tuple find_tget hand_tget rfl (by rw [hse]; rfl) hl ?_
  have S1 : SE prog w (WW w mb) env g { s with toks := s.toks + 1 } ρ := S.ext (Ext.refl S.sub) (Nat.succ_pos _)
  rw [hse]
  refine callWith_builtin rfl (evalArgs_plain (spliced_cons ((hc.run g _ S1).use S1.pos fun v₁ h₁ g₁ tk₁ p₁ e₁ r₁ => ?_)))
  have S2 := S1.ext e₁ p₁
  refine spliced_cons ((ht.run g₁ _ S2).use p₁ fun v₂ h₂ g₂ tk₂ p₂ e₂ r₂ => spliced_nil ?_)
  have S3 := S2.ext e₂ p₂
  have r₁' := r₁.mono (Ext.grow e₁.sub e₂)
  obtain ⟨p, dx, t, u, n, rfl, ho, hd⟩ := r₁'.inv
  obtain ⟨tk, rfl⟩ := r₂.inv
  · rcases hi with ⟨rfl, rfl⟩ | ⟨rfl, rfl⟩
    · exact call_tget (i := 0) (S3.wd.k.keeps S3.sub) (e₂.sub _ _ ho) rfl (by decide) (k _ h₂ g₂ tk₂ (e₁.trans e₂) (.str ..))
    · exact call_tget (i := 1) (S3.wd.k.keeps S3.sub) (e₂.sub _ _ ho) rfl (by decide) (k _ h₂ g₂ tk₂ (e₁.trans e₂) (.str ..))
theorem fn_get {a b : Str} {self : Addr} {i : Nat} {x : Str} (hi : i = 0 ∧ x = a ∨ i = 1 ∧ x = b)
    (h : ∃ ox dx od t, (Mine.hd.heap_1 w.params).lookup self = some ox ∧ ox.cls = .ref 90 ∧ notCls ox = true ∧ ox.dict = some dx ∧ (Mine.hd.heap_1 w.params).lookup dx = some od ∧ findObj (Mine.hd.heap_1 w.params) 90 (some od) "index" = some (.value (.int (i : Int) t))) :
    Fn prog w (WW w mb) 1 73 [.raw (.ref self), .pr a b, .raw (.ref 215)] (.str x) := by
  refine fn_of d73 rfl fun A L g s₀ Q E R O q => ?_
  refine go_if (tst_cmp (ev_name rfl) ev_none bin_isNone) (fun h => nomatch h) fun _ => ?_
  refine go_done ?_
  refine go_if (tst_not (tst_call (ev_issub (ev_typeOf (ev_name rfl) rfl rfl) (ev_bt rfl (mg_tuple (w := w)) bt_tuple) rfl rfl rfl))) (fun h => nomatch h) fun _ => ?_
  refine go_done ?_
  exact go_return (ev_tget hi (ev_name rfl) (ev_index h rfl) rfl rfl rfl) q
theorem get_bindT {s : Shared} {x : Addr} {ox : Obj} {od : Option Obj} {name : Str} {expr : Bool} {Q : Value → Shared → Prop} {E : Value → Shared → Prop} {g a : Value} (X : (Mine.hd.heap_1 w.params).In s.heap) (I : InstAt s.heap x ox 215 od) (hf : findObj (Mine.hd.heap_1 w.params) 215 od name = some (.bind g a))
    (h : wpAny (model prog w) A.in1 (call g [a, .ref x, .ref 215]) (fun v s' => wpAny (model prog w) A (handedOut v) Q E s') (fun _ _ => False) { s with toks := s.toks + 1 }) : wpAny (model prog w) A (getAttr (.ref x) name expr) Q E s := by
  have L0 := I.type (M := model prog w)
  have LT : Looks (model prog w) s.heap (isInstance (.ref x) (.type "tuple")) true := L0.andThen (looks_mroIn X (mro_tuple w.params))
  have LK : Looks (model prog w) s.heap (hookBefore (.ref 215)) none := looks_hook X (gx_215 w.params)
  have LF := looks_find (M := model prog w) X I hf
  unfold getAttr getAttrBy
  refine wpAny_bind (wpAny_mkText (wpAny_holding (wpAny_bind (L0 _ _ _ _ (fun _ _ e => e) (wpAny_bind (looks_findIn X (ga_215 w.params) _ _ _ _ (fun _ _ e => e) ?_))))))
  dsimp only
  rw [if_neg (by decide +kernel)]
  unfold getAttrByItsOwn
  refine wpAny_bind (LK _ _ _ _ (fun _ _ e => e) (wpAny_bind (wpAny_attempt (wpAny_holding ?_))))
  unfold callGetattribute
  rw [show (expr && onTheHeap (Value.builtin "tuple.__getattribute__")) = false from Bool.and_false _, if_neg (by decide)]
  unfold boundAndCalled
  rw [PySem.F.slot_tuple_getattribute.bind]
  refine wpAny_bind (wpAny_pure ?_)
  show wpAny _ _ (call (.builtin "tuple.__getattribute__") [.ref x, .str name s.toks]) _ _ _
  refine wpAny_call (codeAny_call_builtin PySem.F.slot_tuple_getattribute.plain entry_tga ?_)
  refine @check_slot (model prog w) _ _ { s with toks := s.toks + 1 } "tuple.__getattribute__" "tuple" "__getattribute__" (.ref x) [.str name s.toks] [] _ (by decide +kernel) (by decide +kernel) LT (PySem.F.args_tuple_getattribute_2 _ _) ?_
  obtain ⟨hp, gg, d, tk, os⟩ := s
  dsimp only at L0 LF X
  unfold Builtin.«object.__getattribute__»
  refine wpAny_bind (wpAny_pure (wpAny_bind (wpAny_pure (wpAny_bind (L0.at (wpAny_bind (LF.at ?_)))))))
  show wpAny _ _ (holding [a] (call g [a, .ref x, .ref 215]) >>= ret) _ _ _
  refine wpAny_bind (wpAny_holding (wpAny_mono h (fun v s' z => wpAny_pure z) fun _ _ z => z.elim))
/-- p.name, p.value -/
theorem ev_attr {e : Expr} {pos : Pos} {a b x : Str} {self : Addr} {i : Nat} {name : Str} (R : Room A 2) (hi : i = 0 ∧ x = a ∨ i = 1 ∧ x = b)
    (h : ∃ ox dx od t, (Mine.hd.heap_1 w.params).lookup self = some ox ∧ ox.cls = .ref 90 ∧ notCls ox = true ∧ ox.dict = some dx ∧ (Mine.hd.heap_1 w.params).lookup dx = some od ∧ findObj (Mine.hd.heap_1 w.params) 90 (some od) "index" = some (.value (.int (i : Int) t)))
    (hf : findObj (Mine.hd.heap_1 w.params) 215 (some { cls := .type "dict", data := .dict #[] }) name = some (.bind (.ref 73) (.ref self))) (he : Ev prog w (WW w mb) A env ρ e (.pr a b)) (hbase : attributeBase e name env (eval e env) = eval e env) :
    Ev prog w (WW w mb) A env ρ (.Attribute e name pos) (.str x) := .mk fun g s S Q E k => by
  rw [arm_eval_Attribute, hbase]
  refine wpAny_bind ((he.run g s S).use S.pos fun v h₁ g₁ tk₁ p₁ e₁ r₁ => wpAny_bind (wpAny_standAt (wpAny_bind (wpAny_holding ?_))))
  have S1 := S.ext e₁ p₁
  have X : (Mine.hd.heap_1 w.params).In h₁ := S1.wd.k.keeps S1.sub
  have r₁' := r₁
  obtain ⟨p, dx, t, u, n, rfl, ho, hd⟩ := r₁.inv
  · have I : InstAt h₁ p _ 215 (some { cls := .type "dict", data := .dict #[] }) := ⟨e₁.sub _ _ ho, rfl, rfl, e₁.sub _ _ hd⟩
    have R1 : Room A.in1 1 := ⟨R.hd, by have := R.dp; show A.depth + 1 < _; omega, by have := R.un; show A.units + 1 + 64 * 1 + 128 < _; omega⟩
    have O1 : Ok (WW w mb) g₁ { s with heap := h₁, toks := tk₁ + 1 } := S1.toOk.ext (tk := tk₁ + 1) (Ext.refl e₁.sub) (Nat.succ_pos _)
    refine get_bindT X I hf ?_
    refine (fn_get hi h A.in1 g₁ { s with heap := h₁, toks := tk₁ + 1 } _ R1 O1 (.cons (.raw _) (.cons r₁' (.cons (.raw _) .nil)))).use (Nat.succ_pos _) fun v h₂ g₂ tk₂ p₂ e₂ r₂ => ?_
    obtain ⟨tk, rfl⟩ := r₂.inv
    refine handed_on rfl ?_
    exact wpAny_bind (wpAny_letTemporaryGo (wpAny_pure (k _ h₂ g₂ tk₂ (e₁.trans e₂) (.str ..))))
end
end Mine
end
section
open PySem PySem.W PySem.Spec PySem.Calls PyProof.Rows PySem.Builtin PySem.Builtin.Str
set_option Elab.async false
set_option tactic.hygienic false
set_option linter.unusedVariables false
set_option maxRecDepth 100000
set_option maxHeartbeats 4000000
namespace Mine
@[elab_as_elim] theorem mm2 {α : Type} {P : α → Prop} {a b y : α} (h : y ∈ [a, b]) (x : P a) (z : P b) : P y := by
  rcases List.mem_cons.mp h with rfl | h
  · exact x
  · rw [List.mem_singleton.mp h]; exact z
@[elab_as_elim] theorem mm3 {α : Type} {P : α → Prop} {a b c y : α} (h : y ∈ [a, b, c]) (x : P a) (z : P b) (u : P c) : P y := by
  rcases List.mem_cons.mp h with rfl | h
  · exact x
  · exact mm2 h z u
/-- str(k) -/
noncomputable def num (k : Nat) : Str := Str.ofString (toString (k : Int))
structure Itm where
  i : Str
  n : Str
  v : Str
noncomputable def Itm.val (r : Itm) : Str := Txt.strip r.v
/-- what is asked of the items of a header -/
structure ItmsOk (rows : List Itm) : Prop where
  len : rows.length ≤ 10
  split : ∀ r ∈ rows, Txt.splitMax r.i "=" 1 = [r.n, r.v]
  size : ∀ r ∈ rows, r.i.length ≤ 100000 ∧ r.n.length ≤ 100000 ∧ r.v.length ≤ 100000
  quo : ∀ r ∈ rows, quoted r.val ∧ r.val.length ≤ 100000
  keqv : ∀ j r, rows[j]? = some r → Txt.splitMax (num j ++ "=" ++ r.val) "=" 1 = [num j, r.val]
theorem num_len {k : Nat} (h : k < 10) : (num k).length = 1 := by
  have key : ∀ k < 10, (num k).length = 1 := by decide +kernel
  exact key k h
theorem num_inj {a b : Nat} (ha : a < 10) (hb : b < 10) (h : num a = num b) : a = b := by
  have key : ∀ a < 10, ∀ b < 10, num a = num b → a = b := by decide +kernel
  exact key a ha b hb h
noncomputable def keqvRows (rows : List Itm) : List (Str × Str × Str) := rows.mapIdx fun j r => (num j ++ "=" ++ r.val, num j, r.val)
theorem keqv_at {rows : List Itm} {j : Nat} {r : Itm} (h : rows[j]? = some r) : (keqvRows rows)[j]? = some (num j ++ "=" ++ r.val, num j, r.val) := by simp [keqvRows, h]
theorem keqv_nodup {rows : List Itm} (h : rows.length ≤ 10) : ((keqvRows rows).map (·.2.1)).Nodup := by
  rw [List.nodup_iff_pairwise_ne, List.pairwise_iff_getElem]
  intro i j hi hj hij e
  simp only [List.length_map, keqvRows, List.length_mapIdx] at hi hj
  simp only [List.getElem_map, keqvRows, List.getElem_mapIdx] at e
  have := num_inj (by omega) (by omega) e
  omega
theorem lookup_nodup {α : Type} {k : Str} {x : α} {l : List (Str × α)} {j : Nat} (nd : (l.map (·.1)).Nodup) (h : l[j]? = some (k, x)) : l.lookup k = some x := by
  induction l generalizing j with
  | nil => cases h
  | cons p l ih =>
    rw [List.lookup_cons]
    cases j with
    | zero => cases h; rw [beq_self_eq_true]
    | succ j =>
      have h : l[j]? = some (k, x) := h
      have nd := List.nodup_cons.mp nd
      rw [beq_false_of_ne fun q => nd.1 (by show p.1 ∈ _; rw [← q]; exact List.mem_map_of_mem (f := (·.1)) (List.mem_of_getElem? h))]
      exact ih nd.2 h
section
variable {prog : Program} {w : World} {A : Around} {env : Env} {mb : Str → Option Value} {ρ : Str → Option Dt}
theorem ev_strOf {e : Expr} {p pos : Pos} {k : Nat} (he : Ev prog w (WW w mb) A env ρ e (.int k)) (hk : env.kindOf "str" = some .globalImplicit) (hl : k < 10) (hse : starEach [e] env = (false, eval e env) :: starEach [] env) : Ev prog w (WW w mb) A env ρ (.Call (.Name "str" p) [e] [] pos) (.str (num k)) :=
  ev_callT (evl_cons he evl_nil hse) hk (mg_str (w := w)) bt_str fun g s vs O rs Q E q => by
    obtain ⟨v, rfl, x⟩ := rs.one
    obtain ⟨t, rfl⟩ := x.inv
    · refine PySem.P.str_of_int ?_ (q _ s.heap g _ (Ext.refl O.sub) (.str ..))
      have : ∀ k : Nat, k < 10 → (k : Int).natAbs.log2 < 1920 := by decide +kernel
      exact this k hl
theorem mg_parseHttp (P : Params) : mgC P "parse_http_list" = some (.ref 51) := by kernel_rfl
theorem mg_keqv (P : Params) : mgC P "parse_keqv_list" = some (.ref 46) := by kernel_rfl
theorem mg_len (P : Params) : mgC P "len" = none := by kernel_rfl
theorem mg_range (P : Params) : mgC P "range" = none := by kernel_rfl
theorem at_call {a : Addr} {fd : FuncData} {ps : List Str} {body : List Stmt} (D : DefOk w (WW w mb) a fd ps body) : ∃ o, (WW w mb).K.lookup a = some o ∧ o.data = .func fd := D.at'
set_option tactic.hygienic true in
theorem fn_pairs {y : Str} {rows : List Itm} (hy : y.length < sizeLine) (hp : parseH y = rows.map (·.i)) (h : ItmsOk rows) : Fn prog w (WW w mb) 4 235 [.str y] (prsDt (rows.map fun r => (Txt.strip r.n, unq r.val))) := by
  have hsz : sizeLine = 16777216 := rfl
  refine fn_of d235 rfl fun A L g s₀ Q E R O q => ?_
  obtain ⟨o₁, ho₁, hd₁⟩ := (d51 (w := w) (mb := mb)).at'
  obtain ⟨o₂, ho₂, hd₂⟩ := (d46 (w := w) (mb := mb)).at'
  have hlen := h.len
  refine go_assign (d := .lst (rows.map fun r => .pr (Txt.strip r.n) r.val)) ?_ ?_
  · refine ev_comp [] (ds := (parseH y).map .str) (src_list R.hd (ev_call (evl_cons (ev_name rfl) evl_nil) rfl (mg_parseHttp w.params) ho₁ hd₁ (fn_parse hy) (R.less (by decide)))) (cl := _) rfl (fun _ h => nomatch h) clok_nil (spec1 R.hd (by rw [hp]; simp) (by rw [hp]; simp; omega) fun C i d r hd hr => ?_)
    rw [hp, List.getElem?_map, List.getElem?_map] at hd
    rw [List.getElem?_map] at hr
    obtain ⟨_, hd2, rfl⟩ := Option.map_eq_some_iff.mp hd
    obtain ⟨t, hi, rfl⟩ := Option.map_eq_some_iff.mp hd2
    rw [hi] at hr
    obtain rfl := Option.some.inj hr
    · have hm := List.mem_of_getElem? hi
      obtain ⟨z1, z2, z3⟩ := h.size t hm
      refine ⟨[("item", .str t.i)], .name, fun y hy => ?_, by simp, fun _ _ h => (nomatch h), ?_⟩
      · rw [List.mem_singleton.mp hy]; rfl
      · exact ev_parsePair R (ev_name rfl) (h.split t hm) (by omega) (by omega) (by omega) rfl rfl rfl
  have ctold : ∀ {ρ : Str → Option Dt} {env : Env} {p1 p2 p3 : Pos} {j : Nat} {t : Itm}, rows[j]? = some t → ρ "told" = some (.lst (rows.map fun r => .pr (Txt.strip r.n) r.val)) → ρ "k" = some (.int j) → Ev prog w (WW w mb) A env ρ (.Subscript (.Name "told" p1) (.Name "k" p2) p3) (.pr (Txt.strip t.n) t.val) := fun hj h1 h2 =>
    ev_sub (ev_name h1) (ev_name h2) (bin_itemL (Int.natCast_nonneg _) (by have := (List.getElem?_eq_some_iff.mp hj).1; omega) (by rw [Int.toNat_natCast, List.getElem?_map, hj]; rfl))
  have rng : ∀ {ρ : Str → Option Dt} {t : Expr} {p1 p2 p3 p4 p5 : Pos}, ρ "told" = some (.lst (rows.map fun r => .pr (Txt.strip r.n) r.val)) → Src prog w (WW w mb) A (callEnvC (f235 w.params).1 L 235) ρ (.Call (.Name "range" p1) [.Call (.Name "len" p2) [.Name "told" p3] [] p4] [] p5) t ((List.range rows.length).map fun (i : Nat) => .int i) := fun h1 => by
    refine src_range R.hd (n := rows.length) ?_ rfl (mg_range w.params) (by omega)
    have e : ((rows.length : Nat) : Int) = ((rows.map fun r => Dt.pr (Txt.strip r.n) r.val).length : Int) := by rw [List.length_map]
    rw [e]
    exact ev_len (f := "len") (ev_name h1) rfl (mg_len w.params) (by rw [List.length_map]; omega)
  have eqz : ("=" : Str).length = 1 := by decide +kernel
  refine go_assign (d := .dct ((keqvRows rows).map fun r => (r.2.1, unq r.2.2))) ?_ ?_
  · refine ev_call (ds := [.lst ((keqvRows rows).map fun r => .str r.1)]) (evl_cons ?_ evl_nil) rfl (mg_keqv w.params) ho₂ hd₂ (fn_keqv (rows := keqvRows rows) ?_ (keqv_nodup hlen) ?_) (R.less (by decide))
    · refine ev_comp ["told"] (rng rfl) (cl := _) rfl ?_ (clok_cell clok_nil rfl rfl rfl) (spec1 R.hd (by simp [keqvRows]) (by rw [List.length_map, List.length_range]; omega) fun C i d r hd hr => ?_)
      · intro p hp
        rw [List.mem_singleton.mp hp]; first | exact .head _ | exact .tail _ (.head _)
      · rw [List.getElem?_map] at hd hr
        obtain ⟨k, hi, rfl⟩ := Option.map_eq_some_iff.mp hd
        · obtain ⟨q1, q2⟩ := List.getElem?_eq_some_iff.mp hi
          rw [List.getElem_range] at q2
          rw [List.length_range] at q1
          subst q2
          obtain ⟨t, ht⟩ : ∃ t, rows[i]? = some t := ⟨_, List.getElem?_eq_getElem q1⟩
          rw [keqv_at ht] at hr
          cases hr
          obtain ⟨z1, z2⟩ := h.quo t (List.mem_of_getElem? ht)
          refine ⟨[("k", .int i)], .name, fun y hy => ?_, by simp, fun y e hy => ?_, ?_⟩
          · rw [List.mem_singleton.mp hy]; rfl
          · unfold clρ at hy
            split at hy
            · rename_i hc
              simp only [List.contains_cons, List.contains_nil, Bool.or_false, beq_iff_eq] at hc
              subst hc; rfl
            · cases hy
          · refine ev_bin (ev_bin (ev_strOf (ev_name rfl) rfl (by omega) rfl) ev_str (bin_addS ?_)) (ev_attr (R.less (by decide)) (.inr ⟨rfl, rfl⟩) (inst187 w.params) (fo_value w.params) (ctold ht rfl rfl) rfl) (bin_addS ?_)
            · rw [num_len (by omega), eqz]; omega
            · rw [len_app, num_len (by omega), eqz]; omega
    · intro r hr
      obtain ⟨j, hj⟩ := List.mem_iff_getElem?.mp hr
      unfold keqvRows at hj
      rw [List.getElem?_mapIdx] at hj
      cases hi : rows[j]? with
      | none => rw [hi] at hj; cases hj
      | some t =>
        rw [hi] at hj
        cases hj
        have hm := List.mem_of_getElem? hi
        have hjl := (List.getElem?_eq_some_iff.mp hi).1
        obtain ⟨q1, q2⟩ := h.quo t hm
        refine ⟨h.keqv j t hi, q1, ?_, by show t.val.length ≤ _; omega⟩
        show (num j ++ "=" ++ t.val).length + 2 ≤ _
        rw [len_app, len_app, num_len (by omega), eqz]
        omega
    · simp [keqvRows]; omega
  refine go_return ?_ q
  refine ev_comp ["told", "bare"] (rng rfl) (cl := _) rfl ?_ (clok_cell (clok_cell clok_nil rfl rfl rfl) rfl rfl rfl) (spec1 R.hd (by simp) (by rw [List.length_map, List.length_range]; omega) fun C i d r hd hr => ?_)
  · intro p hp
    rcases List.mem_cons.mp hp with rfl | hp
    · first | exact .head _ | exact .tail _ (.head _)
    · rw [List.mem_singleton.mp hp]; first | exact .head _ | exact .tail _ (.head _)
  · rw [List.getElem?_map] at hd hr
    obtain ⟨k, hi, rfl⟩ := Option.map_eq_some_iff.mp hd
    · obtain ⟨q1, q2⟩ := List.getElem?_eq_some_iff.mp hi
      rw [List.getElem_range] at q2
      rw [List.length_range] at q1
      subst q2
      obtain ⟨t, ht⟩ : ∃ t, rows[i]? = some t := ⟨_, List.getElem?_eq_getElem q1⟩
      rw [List.getElem?_map, ht] at hr
      cases hr
      refine ⟨[("k", .int i)], .name, fun y hy => ?_, by simp, fun y e hy => ?_, ?_⟩
      · rw [List.mem_singleton.mp hy]; rfl
      · unfold clρ at hy
        split at hy
        · rename_i hc
          simp only [List.contains_cons, List.contains_nil, Bool.or_false, Bool.or_eq_true, beq_iff_eq] at hc
          rcases hc with rfl | rfl <;> rfl
        · cases hy
      · refine ev_tuple (evl_cons (ev_attr (R.less (by decide)) (.inl ⟨rfl, rfl⟩) (inst184 w.params) (fo_name w.params) (ctold ht rfl rfl) rfl) (evl_cons (ev_sub (ev_name rfl) (ev_strOf (ev_name rfl) rfl (by omega) rfl) (bin_itemD ?_)) evl_nil))
        refine lookup_nodup (j := i) ?_ (by rw [List.getElem?_map, keqv_at ht]; rfl)
        rw [List.map_map]
        exact keqv_nodup hlen
end
end Mine
end
section
open PySem PySem.W PySem.Spec PySem.Calls PyProof.Rows PySem.Builtin PySem.Builtin.Str
set_option Elab.async false
set_option tactic.hygienic false
set_option linter.unusedVariables false
set_option maxRecDepth 100000
set_option maxHeartbeats 4000000
namespace Mine
/-- a header that reads as these pairs -/
structure Told (y : Str) (rows : List Itm) : Prop where
  len : y.length < sizeLine
  parse : parseH y = rows.map (·.i)
  ok : ItmsOk rows
noncomputable def pairsOf (rows : List Itm) : List (Str × Str) := rows.map fun r => (Txt.strip r.n, unq r.val)
/-- a row of the outer header, and what its text reads as -/
structure Outer where
  o : Str
  text : Str
  rows : List Itm
noncomputable def Outer.trips (r : Outer) : List Trip := r.rows.map fun t => ⟨r.o, Txt.strip t.n, unq t.val⟩
theorem flat_len {α : Type} {n : Nat} : ∀ {l : List (List α)}, (∀ x ∈ l, x.length ≤ n) → l.flatten.length ≤ l.length * n
  | [], _ => by simp
  | x :: l, h => by
    have h1 := h x (.head _)
    have h2 := flat_len (l := l) fun y hy => h y (.tail _ hy)
    rw [List.flatten_cons, List.length_append, List.length_cons, Nat.add_mul]
    omega
section
variable {prog : Program} {w : World} {A : Around} {mb : Str → Option Value}
theorem mg_lawPairs (P : Params) : mgC P "_law_pairs" = some (.ref 235) := by kernel_rfl
theorem fn_triples {os : List Outer} (hl : os.length ≤ 10) (h : ∀ r ∈ os, Told r.text r.rows) : Fn prog w (WW w mb) 5 240 [prsDt (os.map fun r => (r.o, r.text))] (.lst ((os.map Outer.trips).flatten.map Trip.dt)) := by
  have hsz : sizeLine = 16777216 := rfl
  refine fn_of d240 rfl fun A L g s₀ Q E R O q => ?_
  obtain ⟨o₁, ho₁, hd₁⟩ := (d235 (w := w) (mb := mb)).at'
  have e : (os.map Outer.trips).flatten.map Trip.dt = (os.map fun r => r.trips.map Trip.dt).flatten := by
    rw [List.map_flatten, List.map_map]; rfl
  rw [e] at q
  have hlen : ((os.map fun r => r.trips.map Trip.dt).flatten).length ≤ sizeLine := by
    have := flat_len (n := 10) (l := os.map fun r => r.trips.map Trip.dt) fun x hx => by
      obtain ⟨r, hr, rfl⟩ := List.mem_map.mp hx
      have := (h r hr).ok.len
      simpa [Outer.trips] using this
    rw [List.length_map] at this
    omega
  refine go_return (ev_comp [] (ds := (os.map fun r => (r.o, r.text)).map fun p => .tup [.str p.1, .str p.2]) (src_list R.hd (ev_name rfl)) (cl := _) rfl (fun _ h => nomatch h) clok_nil (spec2 R.hd (by simp) hlen (fun _ _ => rfl) fun C i d o hd ho => ?_)) q
  rw [List.getElem?_map, List.getElem?_map] at hd
  rw [List.getElem?_map] at ho
  obtain ⟨_, hd2, rfl⟩ := Option.map_eq_some_iff.mp hd
  obtain ⟨r, hi, rfl⟩ := Option.map_eq_some_iff.mp hd2
  rw [hi] at ho
  obtain rfl := Option.some.inj ho
  · have T := h r (List.mem_of_getElem? hi)
    refine ⟨[("outer", .str r.o), ("text", .str r.text)], (pairsOf r.rows).map (fun p => .tup [.str p.1, .str p.2]), .tup (.cons (.cons .nil)), fun y hy => ?_, (by show List.Nodup [("outer" : Str), "text"]; decide +kernel), fun _ _ h => (nomatch h), ?_, by simp [pairsOf, Outer.trips], fun j d' t hd' ht => ?_⟩
    · exact mm2 hy rfl rfl
    · exact src_list R.hd (ev_call (evl_cons (ev_name rfl) evl_nil) rfl (mg_lawPairs w.params) ho₁ hd₁ (fn_pairs T.len T.parse T.ok) R)
    · unfold pairsOf at hd'
      unfold Outer.trips at ht
      rw [List.getElem?_map, List.getElem?_map] at hd' ht
      obtain ⟨_, hd3, rfl⟩ := Option.map_eq_some_iff.mp hd'
      obtain ⟨t', hj, rfl⟩ := Option.map_eq_some_iff.mp hd3
      rw [hj] at ht
      obtain rfl := Option.some.inj ht
      · refine ⟨[("inner", .str (Txt.strip t'.n)), ("value", .str (unq t'.val))], .tup (.cons (.cons .nil)), fun y hy => ?_, (by show List.Nodup [("inner" : Str), "value"]; decide +kernel), fun y e hy => ?_, ?_⟩
        · exact mm2 hy rfl rfl
        · have hm : y ∈ [("outer" : Str), "text"] := by
            cases hb : List.lookup y [(("outer" : Str), Dt.str r.o), ("text", .str r.text)] with
            | some d => exact mem_of_lookup_d hb
            | none => rw [ovl_none hb] at hy; cases hy
          simp only [List.mem_cons, List.not_mem_nil, or_false] at hm
          rcases hm with rfl | rfl <;> rfl
        · exact ev_tuple (evl_cons (ev_name rfl) (evl_cons (ev_name rfl) (evl_cons (ev_name rfl) evl_nil)))
end
end Mine
end
section
open PySem PySem.W PySem.Spec PySem.Calls PyProof.Rows PySem.Builtin PySem.Builtin.Str
set_option Elab.async false
set_option tactic.hygienic false
set_option linter.unusedVariables false
set_option maxRecDepth 100000
set_option maxHeartbeats 4000000
namespace Mine
section
variable {prog : Program} {w : World} {W : Wo} {A : Around} {E : Value → Shared → Prop} {s : Shared} {env : Env} {ρ : Str → Option Dt}
theorem sliceApplied_2 {sl : Addr} {u : Tok} {Q : Int × Int × Nat → Shared → Prop} (hs : s.heap.IsSliceOf sl .none (.int 2 u) .none) (h : Q (0, 1, 2) s) : wpAny (model prog w) A (Builtin.Slice.sliceApplied (.ref sl) (pure (3 : Int))) Q E s := by
  obtain ⟨os, hos, hcs, hds⟩ := id hs
  unfold Builtin.Slice.sliceApplied Builtin.Slice.sliceFields
  refine wpAny_bind (wpAny_bind (wpAny_field hos hds (x := .none) rfl (wpAny_bind (wpAny_field hos hds (x := .int 2 u) rfl (wpAny_bind (wpAny_field hos hds (x := .none) rfl (wpAny_pure ?_)))))))
  refine wpAny_bind (slicePart_none ?_)
  show wpAny _ _ (if ((1 : Int) == 0) = true then _ else _) _ _ s
  rw [if_neg (by decide)]
  refine wpAny_bind (slicePart_none (wpAny_bind (slicePart_int (wpAny_bind (wpAny_pure ?_)))))
  exact wpAny_pure h
theorem getItem_2 {t sl : Addr} {a b c : Value} {u : Tok} {Q : Value → Shared → Prop} (ht : IsTup s.heap t #[a, b, c]) (hs : s.heap.IsSliceOf sl .none (.int 2 u) .none)
    (h : Q (.ref s.heap.objs.size) { s with heap := s.heap.push { cls := .type "tuple", data := .seq #[a, b] } }) : wpAny (model prog w) A (getItem (.ref t) (.ref sl)) Q E s := by
  obtain ⟨os, hos, hcs, hds⟩ := id hs
  have hTs : s.TypeIs (.ref sl) "slice" := ⟨os, hos, hcs⟩
  unfold getItem
  try with_reducible refine wpAny_holding ?_
  first | refine wpAny_bind (wpAny_pure ?_) | skip
  refine wpAny_bind (wpAny_sequenceKey ht.typeIs (by decide) ?_)
  refine wpAny_bind (wpAny_callSpecial?_slot (name := Str.ofString "__getitem__") ht.typeIs slot_tuple_getitem
    (wpAny_call_entry slot_tuple_getitem ht.typeIs entry_tuple_getitem ?_ (args_tuple_getitem _ _)))
  show wpAny _ _ (Builtin.Tuple.tupleItemsOf (.ref t) >>= _) _ _ s
  refine wpAny_bind (tupleItemsOf_ ht ?_)
  refine wpAny_bind (wpAny_typeOf hTs ?_)
  rw [if_pos (by decide)]
  refine wpAny_bind (sliceApplied_2 hs ?_)
  show wpAny _ _ (if ((0 : Int) == 0 && (1 : Int) == 1 && (2 : Nat) == 3) = true then _ else _) _ _ s
  rw [if_neg (by decide)]
  have e : ((List.range 2).filterMap fun (k : Nat) => (#[a, b, c] : Array Value)[((0 : Int) + (k : Int) * 1).toNat]?).toArray = #[a, b] := by
    simp [List.range_succ]
  rw [e]
  have hd : sizeOk (.seq #[a, b]) := by show 2 ≤ sizeLine; decide
  first
    | exact wpAny_bind (m := Builtin.Tuple.tupleExact _) (wpAny_newObj_type (wpAny_pure ⟨_, rfl, wpAny_pure h⟩) hd)
    | exact wpAny_bind (m := Builtin.Tuple.tupleExact _) (wpAny_newObj_type (wpAny_bind (wpAny_pure (wpAny_pure ⟨_, rfl, wpAny_pure h⟩))) hd)
    | exact wpAny_bind (wpAny_bind (m := Builtin.Tuple.tupleExact _) (wpAny_newObj_type (wpAny_pure (wpAny_pure ⟨_, rfl, wpAny_pure h⟩)) hd))
    | exact wpAny_bind (wpAny_bind (m := Builtin.Tuple.tupleExact _) (wpAny_newObj_type (wpAny_pure ⟨_, rfl, wpAny_pure h⟩) hd))
set_option tactic.hygienic true in
theorem ev_sliceT {value hi : Expr} {p pos : Pos} {d₁ d₂ d₃ : Dt} (hv : Ev prog w W A env ρ value (.tup [d₁, d₂, d₃])) (hh : Ev prog w W A env ρ hi (.int 2)) : Ev prog w W A env ρ (.Subscript value (.Slice none (some hi) none p) pos) (.tup [d₁, d₂]) := .mk fun g s S Q E k => by
  refine Subscript_ ((hv.run g s S).use S.pos fun v h₁ g₁ tk₁ p₁ e₁ r₁ => ?_)
  have S1 := S.ext e₁ p₁
  refine wpAny_Slice ?_
  rw [evalPart_none]
  refine wpAny_pure (EvP.use (lo := some hi) (i := some 2) hh S1 fun b h₃ g₃ tk₃ p₃ e₃ hb qb => ?_)
  obtain ⟨la, rfl, hla⟩ := hb
  refine wpAny_pure ?_
  cases la with
  | none => cases hla
  | some pr =>
    obtain ⟨i, u⟩ := pr
    cases hla
    have px := ext_push e₃.sub { cls := .type "slice", data := .fields #[.none, partValue (some (2, u)), .none] }
    have r₃ := (r₁.mono (Ext.grow e₁.sub e₃))
    obtain ⟨t, ⟨lst⟩, n, rfl, e, r⟩ := r₃.inv
    obtain ⟨v₁, vs, q, a₁, r⟩ := r.inv
    obtain ⟨v₂, v₃, rfl, a₂, a₃⟩ := r.two
    obtain rfl : lst = [v₁, v₂, v₃] := q
    · · · · have ht : IsTup (h₃.push { cls := .type "slice", data := .fields #[.none, partValue (some (2, u)), .none] }) t _ := ⟨_, px.sub _ _ e, rfl, n, rfl⟩
            refine tail_any ht.typeIs slot_tuple_getitem.lookup (getItem_2 (u := u) ht ⟨_, Heap.get?_push_size _ rfl, rfl, rfl⟩ ?_) rfl
            have pp := ext_put px.sub { cls := .type "tuple", data := .seq #[v₁, v₂] } rfl
            exact k _ _ _ tk₃ (((e₁.trans e₃).trans px).trans pp) (.tup (n := 0) (gput_self _ _ _ rfl) (.cons (a₁.mono (Ext.grow px.sub pp)) (.cons (a₂.mono (Ext.grow px.sub pp)) .nil)))
end
end Mine
end
section
open PySem PySem.W PySem.Spec PySem.Calls PyProof.Rows PySem.Builtin PySem.Builtin.Str
set_option Elab.async false
set_option tactic.hygienic false
set_option linter.unusedVariables false
set_option maxRecDepth 100000
set_option maxHeartbeats 4000000
namespace Mine
section
variable {prog : Program} {w : World} {W : Wo} {A : Around} {g : Heap}
theorem Rd.uniq {v : Value} {d d' : Dt} (r : Rd prog w g v d) (r' : Rd prog w g v d') (h : d.ok = true) (h' : d'.ok = true) : d = d' :=
  Rd.rec (motive_1 := fun v d _ => ∀ d', Rd prog w g v d' → d.ok = true → d'.ok = true → d = d') (motive_2 := fun vs ds _ => ∀ ds', Rds prog w g vs ds' → Dt.oks ds = true → Dt.oks ds' = true → ds = ds')
    (fun d' r _ h => by cases d' <;> first | rfl | exact (Bool.false_ne_true h).elim | (cases r.inv; done) | (obtain ⟨_, q⟩ := r.inv; cases q; done) | (obtain ⟨_, _, _, q, _⟩ := r.inv; cases q; done))
    (fun b d' r _ h => by cases d' <;> first | exact (Bool.false_ne_true h).elim | (cases r.inv; done) | (obtain ⟨_, q⟩ := r.inv; cases q; done) | (obtain ⟨_, _, _, q, _⟩ := r.inv; cases q; done) | (cases r.inv; rfl))
    (fun i t d' r _ h => by cases d' <;> first | exact (Bool.false_ne_true h).elim | (cases r.inv; done) | (obtain ⟨_, q⟩ := r.inv; cases q; done) | (obtain ⟨_, _, _, q, _⟩ := r.inv; cases q; done) | (obtain ⟨_, q⟩ := r.inv; cases q; rfl))
    (fun x t d' r _ h => by cases d' <;> first | exact (Bool.false_ne_true h).elim | (cases r.inv; done) | (obtain ⟨_, q⟩ := r.inv; cases q; done) | (obtain ⟨_, _, _, q, _⟩ := r.inv; cases q; done) | (obtain ⟨_, q⟩ := r.inv; cases q; rfl))
    (fun e _ ih d' r o h => by cases d' <;> first | exact (Bool.false_ne_true h).elim | (cases r.inv; done) | (obtain ⟨_, q⟩ := r.inv; cases q; done) | (obtain ⟨_, _, _, q, _⟩ := r.inv; cases q; done) | (obtain ⟨_, _, _, q, q', q''⟩ := r.inv; cases q; rw [e] at q'; first | (cases q'; exact congrArg Dt.tup (ih _ q'' o h)) | exact absurd q' (by simp)))
    (fun e _ ih d' r o h => by cases d' <;> first | exact (Bool.false_ne_true h).elim | (cases r.inv; done) | (obtain ⟨_, q⟩ := r.inv; cases q; done) | (obtain ⟨_, _, _, q, _⟩ := r.inv; cases q; done) | (obtain ⟨_, _, _, q, q', q''⟩ := r.inv; cases q; rw [e] at q'; first | (cases q'; exact congrArg Dt.lst (ih _ q'' o h)) | exact absurd q' (by simp)))
    (fun _ _ _ _ o => (Bool.false_ne_true o).elim) (fun _ _ _ _ o => (Bool.false_ne_true o).elim) (fun _ _ _ o => (Bool.false_ne_true o).elim)
    (fun ds' r _ _ => by cases ds' with | nil => rfl | cons => obtain ⟨_, _, q, _⟩ := r.inv; cases q)
    (fun _ _ ia ib ds' r o h => by
      cases ds' with
      | nil => cases r.inv
      | cons d ds =>
        obtain ⟨v, vs, q, a, b⟩ := r.inv
        cases q
        have o := (Bool.and_eq_true _ _).mp o
        have h := (Bool.and_eq_true _ _).mp h
        rw [ia _ a o.1 h.1, ib _ b o.2 h.2]) r d' r' h h'
theorem oks_mem {ds : List Dt} {d : Dt} : Dt.oks ds = true → d ∈ ds → d.ok = true := by
  induction ds with
  | nil => intro _ h; cases h
  | cons x ds ih =>
    intro h hm
    have h : (x.ok && Dt.oks ds) = true := h
    rw [Bool.and_eq_true] at h
    rcases List.mem_cons.mp hm with rfl | hm
    · exact h.1
    · exact ih h.2 hm
/-- what a value, read over g, is beside d -/
noncomputable def hit (prog : Program) (w : World) (g : Heap) (x : Dt) (y : Value) : Bool := by
  classical exact if h : ∃ d : Dt, d.ok = true ∧ Rd prog w g y d then PyData.eqv h.choose.py x.py else false
theorem hit_of {x d : Dt} {y : Value} (h : Rd prog w g y d) (o : d.ok = true) : hit prog w g x y = PyData.eqv d.py x.py := by
  have e : ∃ d : Dt, d.ok = true ∧ Rd prog w g y d := ⟨d, o, h⟩
  unfold hit
  rw [dif_pos e]
  have := e.choose_spec
  rw [Rd.uniq h this.2 o this.1]
theorem eqAt_rd {s : Shared} {v₁ v₂ : Value} {d₁ d₂ : Dt} (k : Kp g s.heap) (r₁ : Rd prog w g v₁ d₁) (r₂ : Rd prog w g v₂ d₂) (o₁ : d₁.ok = true) (o₂ : d₂.ok = true) (s₁ : SeqAt.shaped d₁.py = true) (s₂ : SeqAt.shaped d₂.py = true) (R : A.units + 64 < cLine) : SeqAt.EqAt A s v₁ v₂ (PyData.eqv d₁.py d₂.py) := by
  obtain ⟨as, q₁⟩ := r₁.reads o₁
  obtain ⟨bs, q₂⟩ := r₂.reads o₂
  exact SeqAt.eqAt_reads _ _ _ _ _ _ _ _ (reads_kp k q₁) (reads_kp k q₂) (SeqAt.canLay_of_shaped s₁) (SeqAt.canLay_of_shaped s₂) (SeqAt.room_of_shaped s₁ R)
/-- list.index -/
theorem mt_index {ds : List Dt} {x : Dt} {j : Nat} (R : A.units + 128 < cLine) (ho : Dt.oks ds = true) (hx : x.ok = true) (hs : ∀ d ∈ ds, SeqAt.shaped d.py = true) (hxs : SeqAt.shaped x.py = true) (hl : ds.length ≤ 1000)
    (hj : ∃ d, ds[j]? = some d ∧ PyData.eqv d.py x.py = true) (hno : ∀ m d, m < j → ds[m]? = some d → PyData.eqv d.py x.py = false) : Mt prog w W A "list.index" (.lst ds) [x] (.int j) := fun g s v vs O r rs Q E k => by
  obtain ⟨v', rfl, a⟩ := rs.one
  obtain ⟨l, items, n, rfl, e, r⟩ := r.inv
  · · obtain ⟨dj, hdj, hej⟩ := hj
      have hsz : items.size = ds.length := by rw [← Array.length_toList, r.length]
      have hjl := (List.getElem?_eq_some_iff.mp hdj).1
      have val : ∀ (m : Nat) (hm : m < items.size) d, ds[m]? = some d → hit prog w g x items[m] = PyData.eqv d.py x.py := fun m hm d hd => by
        obtain ⟨v, hv, rv⟩ := r.get hd
        rw [Array.getElem?_toList, Array.getElem?_eq_getElem hm] at hv
        cases hv
        exact hit_of rv (oks_mem ho (List.mem_of_getElem? hd))
      refine call_meets PySem.F.slot_list_index ⟨_, O.sub _ _ e, rfl⟩ PySem.F.entry_list_index (PySem.F.args_list_index_2 _ _) (SeqAt.list_indexAt l items n none #[] _ (hit prog w g x) j (by rw [hsz]; exact hjl) (by omega) (by rw [val j _ dj hdj]; exact hej) (fun m hm hmj => ?_)) ⟨O.sub _ _ e, fun y hy => ?_, ?_⟩
      · obtain ⟨d, hd⟩ : ∃ d, ds[m]? = some d := ⟨_, List.getElem?_eq_getElem (by omega)⟩
        rw [val m hm d hd]
        exact hno m d hmj hd
      · obtain ⟨m, hm, rfl⟩ := Array.mem_iff_getElem.mp hy
        obtain ⟨d, hd⟩ : ∃ d, ds[m]? = some d := ⟨_, List.getElem?_eq_getElem (by omega)⟩
        obtain ⟨v, hv, rv⟩ := r.get hd
        rw [Array.getElem?_toList, Array.getElem?_eq_getElem hm] at hv
        cases hv
        rw [val m hm d hd]
        have hmem := List.mem_of_getElem? hd
        exact eqAt_rd O.sub rv a (oks_mem ho hmem) hx (hs d hmem) hxs (by show A.units + 1 + 64 < _; omega)
      · exact k _ s.heap g _ (Ext.refl O.sub) (.int ..)
end
end Mine
end
section
open PySem PySem.W PySem.Spec PySem.Calls PyProof.Rows PySem.Builtin PySem.Builtin.Str
set_option Elab.async false
set_option tactic.hygienic false
set_option linter.unusedVariables false
set_option maxRecDepth 100000
set_option maxHeartbeats 1000000
namespace Mine
noncomputable def textOf : Value → Str → Bool
  | .str z _, a => z == a
  | _, _ => false
section
variable {prog : Program} {w : World} {W : Wo} {A : Around} {env : Env} {g g₀ : Heap} {s s₀ : Shared} {l : List (Str × Dt)} {ν : List (Str × Value)} {os : List Own} {Q : Flow → Shared → Prop} {E : Value → Shared → Prop} {rest : List Stmt}
theorem any_text {vs : List Value} {rs : List Str} {a : Str} (r : Rds prog w g vs (rs.map .str)) : vs.any (fun v => textOf v a) = rs.contains a ∧ ∀ y ∈ vs, ∃ z t, y = .str z t := by
  induction rs generalizing vs with
  | nil => obtain rfl := r.inv; exact ⟨rfl, fun _ h => nomatch h⟩
  | cons x rs ih =>
      obtain ⟨_, vs, rfl, u, v⟩ := r.inv
      obtain ⟨t, rfl⟩ := u.inv
      obtain ⟨i1, i2⟩ := ih v
      refine ⟨?_, fun y hy => ?_⟩
      · rw [List.any_cons, i1, List.contains_cons]
        show ((x == a) || _) = ((a == x) || _)
        rw [show (x == a) = (a == x) from by rw [Bool.eq_iff_iff, beq_iff_eq, beq_iff_eq]; exact eq_comm]
      · rcases List.mem_cons.mp hy with rfl | hy
        · exact ⟨x, t, rfl⟩
        · exact i2 y hy
/-- if x not in y: y a list of texts under way -/
theorem go_ifNotIn {x y : Str} {px py cpos pos : Pos} {a : Str} {D : Addr} {rs : List Str} {body orelse : List Stmt} (hx : lk l x = some (.str a)) (hD : ν.lookup y = some (.ref D))
    (hT : rs.contains a = false → Go prog w W A env g₀ s₀ l ν (ownL prog w D (rs.map .str) :: os) body (fun f s' => match f with | .next => wpAny (model prog w) A (execs rest env) Q E s' | f => Q f s') E)
    (hF : rs.contains a = true → Go prog w W A env g₀ s₀ l ν (ownL prog w D (rs.map .str) :: os) orelse (fun f s' => match f with | .next => wpAny (model prog w) A (execs rest env) Q E s' | f => Q f s') E)
    (h1 : (x == ("__debug__" : Str)) = false := by decide +kernel) (h2 : (x == ("__classdict__" : Str)) = false := by decide +kernel) (h3 : (y == ("__debug__" : Str)) = false := by decide +kernel) (h4 : (y == ("__classdict__" : Str)) = false := by decide +kernel) :
    Go prog w W A env g₀ s₀ l ν (ownL prog w D (rs.map .str) :: os) (.If (.Compare (.Name x px) [.NotIn] [.Name y py] cpos) body orelse pos :: rest) Q E := .mk fun g s F => by
  obtain ⟨u, hu, ru⟩ := F.se.vars x _ hx
  obtain ⟨⟨ys, ⟨n, hy⟩, hr⟩, fo⟩ := F.ow _ (.head _)
  obtain ⟨t, rfl⟩ := ru.inv
  obtain ⟨e1, e2⟩ := any_text (a := a) hr
  have e3 : ys.any (fun v => textOf v a) = rs.contains a := by rw [← e1, Array.any_toList]
  refine wpAny_execs_cons (wpAny_If (wpAny_isTrue_Compare1 (eval_holds F.se.fn hu (eval_holds F.se.fn (F.raw y _ hD) (SeqRoads2.notIn_list (fun v => textOf v a) (fun v hv => ?_) hy ?_) h3 h4) h1 h2) rfl))
  · obtain ⟨z, t', rfl⟩ := e2 v (Array.mem_toList_iff.mpr hv)
    intro prog w A E s Q hq
    exact wpAny_eqBool_str hq
  · rw [e3]
    refine wpAny_truthy_bool ?_
    cases hc : rs.contains a with
    | true => exact (hF hc).run g s F
    | false => exact (hT hc).run g s F
end
end Mine
end
section
open PySem PySem.W PySem.Spec PySem.Calls PyProof.Rows PySem.Builtin PySem.Builtin.Str
set_option Elab.async false
set_option tactic.hygienic false
set_option linter.unusedVariables false
set_option maxRecDepth 100000
namespace Mine
/-- the sort's questions, answered by c -/
noncomputable def evalT {α : Type} (c : Nat → Nat → Bool) : KasT α → α
  | .ret a => a
  | .ask i j k => evalT c (k (c i j))
noncomputable def reach (fs : List (Nat × Nat × Bool)) : Nat → Nat → Nat → Bool → Bool
  | 0, a, b, st => Nat.beq a b && !st
  | f + 1, a, b, st => (Nat.beq a b && !st) || fs.any fun q => bif q.2.2 then Nat.beq q.1 a && reach fs f q.2.1 b false else Nat.beq q.2.1 a && reach fs f q.1 b st
noncomputable def needed (fs : List (Nat × Nat × Bool)) (a b : Nat) : Bool := reach fs 1 a b (!Nat.blt a b) || reach fs 2 a b (!Nat.blt a b) || reach fs 3 a b (!Nat.blt a b) || reach fs 5 a b (!Nat.blt a b)
noncomputable def chainB (fs : List (Nat × Nat × Bool)) : List Nat → Bool
  | a :: b :: r => needed fs a b && chainB fs (b :: r)
  | _ => true
noncomputable def hasB (i : Nat) : List Nat → Bool
  | [] => false
  | a :: r => Nat.beq a i || hasB i r
noncomputable def allB (p : List Nat) : Nat → Bool
  | 0 => true
  | n + 1 => hasB n p && allB p n
noncomputable def leafB (n : Nat) (fs : List (Nat × Nat × Bool)) (p : List Nat) : Bool := Nat.beq p.length n && allB p n && chainB fs p
/-- the same, its numbers written out -/
noncomputable def forceN {β : Type} (i : Nat) (k : Nat → β) : β := bif Nat.beq i 0 then k 0 else bif Nat.beq i 1 then k 1 else bif Nat.beq i 2 then k 2 else bif Nat.beq i 3 then k 3 else bif Nat.beq i 4 then k 4 else bif Nat.beq i 5 then k 5 else k i
theorem forceN_eq {β : Type} (i : Nat) (k : Nat → β) : forceN i k = k i := by
  unfold forceN
  rcases i with _ | _ | _ | _ | _ | _ | i <;> rfl
noncomputable def forceL {β : Type} : List Nat → (List Nat → β) → β
  | [], k => k []
  | a :: r, k => forceN a fun a => forceL r fun r => k (a :: r)
theorem forceL_eq {β : Type} : ∀ (l : List Nat) (k : List Nat → β), forceL l k = k l
  | [], _ => rfl
  | a :: r, k => (forceN_eq a fun a => forceL r fun r => k (a :: r)).trans (forceL_eq r _)
noncomputable def checkT (n : Nat) (t : KasT (Array Nat)) : List (Nat × Nat × Bool) → Bool :=
  KasT.rec (motive := fun _ => List (Nat × Nat × Bool) → Bool) (fun p fs => forceL p.toList fun l => leafB n fs l)
    (fun i j _ ih fs => Nat.blt i n && Nat.blt j n && ih true ((i, j, true) :: fs) && ih false ((i, j, false) :: fs)) t
noncomputable def bindR {α β : Type} (t : KasT α) (f : α → KasT β) : KasT β := KasT.rec (motive := fun _ => KasT β) (fun a => f a) (fun i j _ ih => .ask i j ih) t
theorem bindR_eq {α β : Type} (f : α → KasT β) : ∀ t : KasT α, bindR t f = t.bind f
  | .ret _ => rfl
  | .ask i j k => by
    show KasT.ask i j (fun b => bindR (k b) f) = KasT.ask i j fun b => (k b).bind f
    congr 1; funext b; exact bindR_eq f (k b)
noncomputable def forceA {β : Type} (p : Array Nat) (k : Array Nat → β) : β := forceL p.toList fun l => k (List.toArray l)
theorem forceA_eq {β : Type} (p : Array Nat) (k : Array Nat → β) : forceA p k = k p := by unfold forceA; rw [forceL_eq]
noncomputable def askF {α : Type} (i j : Nat) (k : Bool → KasT α) : KasT α := forceN i fun i => forceN j fun j => .ask i j k
theorem askF_eq {α : Type} (i j : Nat) (k : Bool → KasT α) : askF i j k = .ask i j k := by unfold askF; rw [forceN_eq, forceN_eq]
noncomputable def ascF (p : Array Nat) : Nat → Nat → KasT Nat
  | 0, n => .ret n
  | f + 1, n => askF (p.getD n 0) (p.getD (n - 1) 0) fun c => if c = true then .ret n else ascF p f (n + 1)
theorem ascF_eq (p : Array Nat) : ∀ f n, ascF p f n = kas_asc p f n
  | 0, _ => rfl
  | f + 1, n => by
    show askF _ _ _ = KasT.ask _ _ _
    rw [askF_eq]; congr 1; funext c; rw [ascF_eq p f]
noncomputable def descF : Nat → Array Nat → Nat → Nat → KasT (Array Nat × Nat × Nat)
  | 0, p, n, q => .ret (p, n, q)
  | f + 1, p, n, q => askF (p.getD n 0) (p.getD (n - 1) 0) fun c =>
    if c = true then (if q > 0 then forceA (kas_rev p (n - (q + 1)) n) fun p => descF f p (n + 1) 0 else descF f p (n + 1) 0)
    else askF (p.getD (n - 1) 0) (p.getD n 0) fun d => if d = true then .ret (p, n, q) else descF f p (n + 1) (q + 1)
theorem descF_eq : ∀ f p n q, descF f p n q = kas_desc f p n q
  | 0, _, _, _ => rfl
  | f + 1, p, n, q => by
    show askF _ _ _ = KasT.ask _ _ _
    rw [askF_eq]; congr 1; funext c; rw [forceA_eq, askF_eq, descF_eq f, descF_eq f]; congr 2; funext d; rw [descF_eq f]
noncomputable def tail3F (n nrem : Nat) (p : Array Nat) : KasT (Nat × Array Nat) := forceA (kas_rev p 0 n) fun p => bindR (ascF p (nrem - n) n) fun m => .ret (m, p)
theorem tail3F_eq (n nrem : Nat) (p : Array Nat) : tail3F n nrem p = kas_tail3 n nrem p := by unfold tail3F kas_tail3; rw [forceA_eq, bindR_eq, ascF_eq]
noncomputable def descPartF (n nrem : Nat) (p : Array Nat) : KasT (Nat × Array Nat) :=
  bindR (descF (nrem - (n + 1)) p (n + 1) 0) fun r => if r.2.2 > 0 then forceA (kas_rev r.1 (r.2.1 - (r.2.2 + 1)) r.2.1) fun p => tail3F r.2.1 nrem p else tail3F r.2.1 nrem r.1
theorem descPartF_eq (n nrem : Nat) (p : Array Nat) : descPartF n nrem p = kas_descPart n nrem p := by
  unfold descPartF kas_descPart; rw [bindR_eq, descF_eq]; congr 1; funext r; rw [forceA_eq, tail3F_eq, tail3F_eq]
noncomputable def countF (nrem : Nat) (p : Array Nat) : KasT (Nat × Array Nat) :=
  bindR (ascF p (nrem - 1) 1) fun n => if (n == nrem) = true then .ret (n, p) else if n > 1 then askF (p.getD 0 0) (p.getD (n - 1) 0) fun c => if c = true then .ret (n, p) else forceA (kas_rev p 0 n) fun p => descPartF n nrem p
    else descPartF n nrem p
theorem countF_eq (nrem : Nat) (p : Array Nat) : countF nrem p = kas_count nrem p := by
  unfold countF kas_count; rw [bindR_eq, ascF_eq]; congr 1; funext n; rw [askF_eq, descPartF_eq]; congr 2; congr 1; funext c; rw [forceA_eq, descPartF_eq]
noncomputable def placeF (p : Array Nat) (k : Nat) : Nat → Nat → Nat → KasT Nat
  | 0, l, _ => .ret l
  | f + 1, l, r => if l ≥ r then .ret l else askF (p.getD k 0) (p.getD ((l + r) / 2) 0) fun c => if c = true then placeF p k f l ((l + r) / 2) else placeF p k f ((l + r) / 2 + 1) r
theorem placeF_eq (p : Array Nat) (k : Nat) : ∀ f l r, placeF p k f l r = kas_place p k f l r
  | 0, _, _ => rfl
  | f + 1, l, r => by
    show (if _ then _ else askF _ _ _) = (if _ then _ else KasT.ask _ _ _)
    rw [askF_eq]; congr 2; funext c; rw [placeF_eq p k f, placeF_eq p k f]
noncomputable def binF : Nat → Array Nat → Nat → KasT (Array Nat)
  | 0, p, _ => .ret p
  | f + 1, p, k => bindR (placeF p k k 0 k) fun l => forceA (bubble p k (k - l)) fun p => binF f p (k + 1)
theorem binF_eq : ∀ f p k, binF f p k = kas_bin f p k
  | 0, _, _ => rfl
  | f + 1, p, k => by
    show bindR _ _ = KasT.bind _ _
    rw [bindR_eq, placeF_eq]; congr 1; funext l; rw [forceA_eq, binF_eq f]
noncomputable def sortF (n : Nat) : KasT (Array Nat) := bindR (countF n (List.toArray (List.range n))) fun r => if r.1 < n then binF (n - max r.1 1) r.2 (max r.1 1) else .ret r.2
theorem sortF_eq (n : Nat) : sortF n = kas_sort n := by
  unfold sortF kas_sort; rw [bindR_eq, countF_eq]; congr 1; funext r; rw [binF_eq]
theorem check2 : checkT 2 (sortF 2) [] = true := by decide +kernel
theorem check3 : checkT 3 (sortF 3) [] = true := by decide +kernel
theorem check4 : checkT 4 (sortF 4) [] = true := by decide +kernel
theorem check5 : checkT 5 (sortF 5) [] = true := by decide +kernel
/-- the first question, what stands behind its answers -/
noncomputable def kA {α : Type} (t : KasT α) : Bool := KasT.rec (motive := fun _ => Bool) (fun _ => false) (fun _ _ _ _ => true) t
noncomputable def kI {α : Type} (t : KasT α) : Nat := KasT.rec (motive := fun _ => Nat) (fun _ => 0) (fun i _ _ _ => i) t
noncomputable def kJ {α : Type} (t : KasT α) : Nat := KasT.rec (motive := fun _ => Nat) (fun _ => 0) (fun _ j _ _ => j) t
noncomputable def kT {α : Type} (b : Bool) (t : KasT α) : KasT α := KasT.rec (motive := fun _ => KasT α) (fun a => .ret a) (fun _ _ k _ => k b) t
theorem check_split {n i j : Nat} {t : KasT (Array Nat)} {fs : List (Nat × Nat × Bool)} (hA : kA t = true) (hi : kI t = i) (hj : kJ t = j) (b : (Nat.blt i n && Nat.blt j n) = true) (x : checkT n (kT true t) ((i, j, true) :: fs) = true)
    (y : checkT n (kT false t) ((i, j, false) :: fs) = true) : checkT n t fs = true := by
  cases t with
  | ret a => cases hA
  | ask i' j' k =>
    obtain rfl : i' = i := hi
    obtain rfl : j' = j := hj
    show (Nat.blt i' n && Nat.blt j' n && checkT n (k true) _ && checkT n (k false) _) = true
    rw [b, show checkT n (k true) ((i', j', true) :: fs) = true from x, show checkT n (k false) ((i', j', false) :: fs) = true from y]
    rfl
theorem check6tt : checkT 6 (kT true (kT true (sortF 6))) [(2, 1, true), (1, 0, true)] = true := by decide +kernel
theorem check6tf : checkT 6 (kT false (kT true (sortF 6))) [(2, 1, false), (1, 0, true)] = true := by decide +kernel
theorem check6ft : checkT 6 (kT true (kT false (sortF 6))) [(2, 1, true), (1, 0, false)] = true := by decide +kernel
theorem check6ff : checkT 6 (kT false (kT false (sortF 6))) [(2, 1, false), (1, 0, false)] = true := by decide +kernel
theorem check6 : checkT 6 (sortF 6) [] = true :=
  check_split (i := 1) (j := 0) (by decide +kernel) (by decide +kernel) (by decide +kernel) rfl
    (check_split (i := 2) (j := 1) (by decide +kernel) (by decide +kernel) (by decide +kernel) rfl check6tt check6tf)
    (check_split (i := 2) (j := 1) (by decide +kernel) (by decide +kernel) (by decide +kernel) rfl check6ft check6ff)
theorem check_all {n : Nat} (h2 : 2 ≤ n) (h6 : n ≤ 6) : checkT n (kas_sort n) [] = true := by
  rw [← sortF_eq]
  have e : n = 2 ∨ n = 3 ∨ n = 4 ∨ n = 5 ∨ n = 6 := by omega
  rcases e with rfl | rfl | rfl | rfl | rfl
  · exact check2
  · exact check3
  · exact check4
  · exact check5
  · exact check6

/-- pairs of ints, the first ahead -/
noncomputable def kl (k : Nat → Int × Int) (i j : Nat) : Bool := decide ((k i).1 < (k j).1 ∨ (k i).1 = (k j).1 ∧ (k i).2 < (k j).2)
/-- the order of the sorted: by the key, then by the place -/
noncomputable def Ro (k : Nat → Int × Int) (a b : Nat) : Prop := kl k a b = true ∨ kl k b a = false ∧ a < b
theorem kl_iff {k : Nat → Int × Int} {i j : Nat} : kl k i j = true ↔ ((k i).1 < (k j).1 ∨ (k i).1 = (k j).1 ∧ (k i).2 < (k j).2) := by unfold kl; exact decide_eq_true_iff
theorem kl_not {k : Nat → Int × Int} {i j : Nat} : kl k i j = false ↔ ¬ ((k i).1 < (k j).1 ∨ (k i).1 = (k j).1 ∧ (k i).2 < (k j).2) := by unfold kl; exact decide_eq_false_iff_not
theorem kl_tr {k : Nat → Int × Int} {a b c : Nat} (h : kl k a b = true) (g : kl k c b = false) : kl k a c = true := by
  rw [kl_iff] at h ⊢
  rw [kl_not] at g
  have q := Int.not_lt.mp fun q => g (.inl q)
  rcases h with h | ⟨h, h'⟩
  · exact .inl (Int.lt_of_lt_of_le h q)
  · rcases Int.lt_or_eq_of_le q with q | q
    · exact .inl (h ▸ q)
    · exact .inr ⟨h.trans q, Int.lt_of_lt_of_le h' (Int.not_lt.mp fun z => g (.inr ⟨q.symm, z⟩))⟩
theorem kl_irr {k : Nat → Int × Int} {a : Nat} : kl k a a = false := kl_not.mpr fun h => h.elim (Int.lt_irrefl _) fun h => Int.lt_irrefl _ h.2
theorem kl_asym {k : Nat → Int × Int} {a b : Nat} (h : kl k a b = true) : kl k b a = false := by
  rw [kl_iff] at h
  refine kl_not.mpr fun g => ?_
  rcases h with h | h
  · exact g.elim (fun g => Int.lt_irrefl _ (Int.lt_trans h g)) fun g => Int.lt_irrefl _ (g.1 ▸ h)
  · exact g.elim (fun g => Int.lt_irrefl _ (h.1 ▸ g)) fun g => Int.lt_irrefl _ (Int.lt_trans h.2 g.2)
theorem kl_le {k : Nat → Int × Int} {a b c : Nat} (h : kl k b a = false) (g : kl k c b = false) : kl k c a = false := by
  cases e : kl k c a with
  | false => rfl
  | true => rw [kl_tr e h] at g; cases g
theorem kl_lt {k : Nat → Int × Int} {a b c : Nat} (h : kl k b a = false) (g : kl k b c = true) : kl k a c = true := by
  cases e : kl k a c with
  | true => rfl
  | false => rw [kl_tr g e] at h; cases h
theorem Ro.trans {k : Nat → Int × Int} {a b c : Nat} (x : Ro k a b) (y : Ro k b c) : Ro k a c := by
  rcases x with x | x
  · exact .inl (kl_tr x (y.elim kl_asym And.left))
  · rcases y with y | y
    · exact .inl (kl_lt x.1 y)
    · exact .inr ⟨kl_le x.1 y.1, Nat.lt_trans x.2 y.2⟩
theorem Ro.irrefl {k : Nat → Int × Int} {a : Nat} (x : Ro k a a) : False := by
  rcases x with x | x
  · rw [kl_irr] at x; cases x
  · exact Nat.lt_irrefl _ x.2
theorem reach_ok {k : Nat → Int × Int} {fs : List (Nat × Nat × Bool)} (hf : ∀ q ∈ fs, kl k q.1 q.2.1 = q.2.2) : ∀ (f a b : Nat) (st : Bool), reach fs f a b st = true → kl k b a = false ∧ (st = true → kl k a b = true)
  | 0, a, b, st, h => by
    have h : (Nat.beq a b && !st) = true := h
    rw [Bool.and_eq_true, Bool.not_eq_true'] at h
    rw [h.2, Nat.eq_of_beq_eq_true h.1]
    exact ⟨kl_irr, fun h => nomatch h⟩
  | f + 1, a, b, st, h => by
    have h : ((Nat.beq a b && !st) || fs.any fun q => bif q.2.2 then Nat.beq q.1 a && reach fs f q.2.1 b false else Nat.beq q.2.1 a && reach fs f q.1 b st) = true := h
    rw [Bool.or_eq_true, Bool.and_eq_true, Bool.not_eq_true', List.any_eq_true] at h
    rcases h with h | ⟨q, hq, h⟩
    · rw [h.2, Nat.eq_of_beq_eq_true h.1]
      exact ⟨kl_irr, fun h => nomatch h⟩
    · have hv := hf q hq
      cases hb : q.2.2 with
      | true =>
        rw [hb] at h hv
        have h := (Bool.and_eq_true _ _).mp h
        rw [Nat.eq_of_beq_eq_true h.1] at hv
        have z := kl_tr hv (reach_ok hf f _ b false h.2).1
        exact ⟨kl_asym z, fun _ => z⟩
      | false =>
        rw [hb] at h hv
        have h := (Bool.and_eq_true _ _).mp h
        have i := reach_ok hf f _ b st h.2
        rw [Nat.eq_of_beq_eq_true h.1] at hv
        exact ⟨kl_le hv i.1, fun hs => kl_lt hv (i.2 hs)⟩
theorem needed_ok {k : Nat → Int × Int} {fs : List (Nat × Nat × Bool)} (hf : ∀ q ∈ fs, kl k q.1 q.2.1 = q.2.2) {a b : Nat} (h : needed fs a b = true) : Ro k a b := by
  have key : ∀ f, reach fs f a b (!Nat.blt a b) = true → Ro k a b := fun f hr => by
    obtain ⟨h1, h2⟩ := reach_ok hf f a b _ hr
    cases hb : Nat.blt a b with
    | true => exact .inr ⟨h1, Nat.lt_of_not_le fun q => by simp [Nat.blt, Nat.ble_eq] at hb; omega⟩
    | false => exact .inl (h2 (by rw [hb]; rfl))
  simp only [needed, Bool.or_eq_true] at h
  rcases h with ((h | h) | h) | h <;> exact key _ h
theorem chain_ok {k : Nat → Int × Int} {fs : List (Nat × Nat × Bool)} (hf : ∀ q ∈ fs, kl k q.1 q.2.1 = q.2.2) : ∀ {p : List Nat}, chainB fs p = true → p.Pairwise (Ro k)
  | [], _ => .nil
  | [a], _ => List.pairwise_singleton _ _
  | a :: b :: r, h => by
    have h := (Bool.and_eq_true _ _).mp (show (needed fs a b && chainB fs (b :: r)) = true from h)
    have ih := chain_ok hf h.2
    refine List.pairwise_cons.mpr ⟨fun x hx => ?_, ih⟩
    have ab := needed_ok hf h.1
    rcases List.mem_cons.mp hx with rfl | hx
    · exact ab
    · exact ab.trans ((List.pairwise_cons.mp ih).1 x hx)
theorem hasB_ok {i : Nat} : ∀ {p : List Nat}, hasB i p = true → i ∈ p
  | [], h => (Bool.false_ne_true h).elim
  | a :: r, h => by
    rcases (Bool.or_eq_true _ _).mp (show (Nat.beq a i || hasB i r) = true from h) with h | h
    · rw [Nat.eq_of_beq_eq_true h]; exact .head _
    · exact .tail _ (hasB_ok h)
theorem allB_ok {p : List Nat} : ∀ {n i : Nat}, allB p n = true → i < n → i ∈ p
  | 0, i, _, h => absurd h (Nat.not_lt_zero _)
  | n + 1, i, h, hi => by
    have h := (Bool.and_eq_true _ _).mp (show (hasB n p && allB p n) = true from h)
    rcases Nat.lt_or_ge i n with q | q
    · exact allB_ok h.2 q
    · rw [Nat.le_antisymm (Nat.le_of_lt_succ hi) q]; exact hasB_ok h.1
/-- the outcome of the sort -/
structure SortedBy (k : Nat → Int × Int) (n : Nat) (p : List Nat) : Prop where
  len : p.length = n
  all : ∀ i, i < n → i ∈ p
  ord : p.Pairwise (Ro k)
theorem checkT_ok {k : Nat → Int × Int} {n : Nat} : ∀ (t : KasT (Array Nat)) (fs : List (Nat × Nat × Bool)), (∀ q ∈ fs, kl k q.1 q.2.1 = q.2.2) → checkT n t fs = true → SortedBy k n (evalT (kl k) t).toList
  | .ret p, fs, hf, h => by
    have h : forceL p.toList (fun l => leafB n fs l) = true := h
    rw [forceL_eq] at h
    simp only [leafB, Bool.and_eq_true] at h
    exact ⟨Nat.eq_of_beq_eq_true h.1.1, fun i hi => allB_ok h.1.2 hi, chain_ok hf h.2⟩
  | .ask i j g, fs, hf, h => by
    have h : (Nat.blt i n && Nat.blt j n && checkT n (g true) ((i, j, true) :: fs) && checkT n (g false) ((i, j, false) :: fs)) = true := h
    simp only [Bool.and_eq_true] at h
    show SortedBy k n (evalT (kl k) (g (kl k i j))).toList
    cases hc : kl k i j with
    | true => exact checkT_ok (g true) _ (fun q hq => by rcases List.mem_cons.mp hq with rfl | hq; exact hc; exact hf q hq) h.1.2
    | false => exact checkT_ok (g false) _ (fun q hq => by rcases List.mem_cons.mp hq with rfl | hq; exact hc; exact hf q hq) h.2
theorem kasWp_eval {c : Nat → Nat → Bool} {n : Nat} {cmp : Nat → Nat → (Bool → Shared → Prop) → Shared → Prop} {s : Shared} (hc : ∀ i j C, i < n → j < n → C (c i j) s → cmp i j C s) {Q : Array Nat → Shared → Prop} :
    ∀ (t : KasT (Array Nat)) (fs : List (Nat × Nat × Bool)), checkT n t fs = true → Q (evalT c t) s → t.kasWp cmp Q s
  | .ret p, fs, _, h => h
  | .ask i j g, fs, hk, h => by
    have hk : (Nat.blt i n && Nat.blt j n && checkT n (g true) ((i, j, true) :: fs) && checkT n (g false) ((i, j, false) :: fs)) = true := hk
    simp only [Bool.and_eq_true] at hk
    refine hc i j _ (by have := hk.1.1.1; simp [Nat.blt, Nat.ble_eq] at this; omega) (by have := hk.1.1.2; simp [Nat.blt, Nat.ble_eq] at this; omega) ?_
    cases hb : c i j with
    | true => exact kasWp_eval hc (g true) _ hk.1.2 (by rw [← hb]; exact h)
    | false => exact kasWp_eval hc (g false) _ hk.2 (by rw [← hb]; exact h)
end Mine
end
section
open PySem PySem.W PySem.Spec PySem.Calls PyProof.Rows PySem.Builtin PySem.Builtin.Str
set_option Elab.async false
set_option tactic.hygienic false
set_option linter.unusedVariables false
set_option maxRecDepth 100000
set_option maxHeartbeats 4000000
namespace Mine
section
variable {prog : Program} {w : World} {W : Wo} {A : Around} {E : Value → Shared → Prop} {g g' h h' : Heap} {s : Shared}
noncomputable def keyDt (kf : Nat → Int × Int) (i : Nat) : Dt := .tup [.int (kf i).1, .int (kf i).2]
/-- a reading as a pair of ints -/
theorem Rd.ints2 {v : Value} {x y : Int} (r : Rd prog w g v (.tup [.int x, .int y])) : ∃ a t u e, v = .ref a ∧ g.get? a = some { cls := .type "tuple", data := .seq #[.int x t, .int y u] e } := by
  obtain ⟨a, ⟨lst⟩, e, rfl, h, r⟩ := r.inv
  obtain ⟨p, q, z, a₁, a₂⟩ := r.two
  obtain ⟨t, rfl⟩ := a₁.inv
  obtain ⟨u, rfl⟩ := a₂.inv
  obtain rfl : lst = [_, _] := z
  exact ⟨a, t, u, e, rfl, h⟩
theorem keys_at {kf : Nat → Int × Int} {n : Nat} {ks : List Value} (sub : Kp g h) (r : Rds prog w g ks ((List.range n).map (keyDt kf))) {i : Nat} (hi : i < n) :
    ∃ a t u e, ks.getD i Value.none = .ref a ∧ h.get? a = some { cls := .type "tuple", data := .seq #[.int (kf i).1 t, .int (kf i).2 u] e } := by
  obtain ⟨v, hv, rv⟩ := r.get (i := i) (d := keyDt kf i) (by rw [List.getElem?_map, List.getElem?_range hi]; rfl)
  obtain ⟨a, t, u, e, rfl, o⟩ := Rd.ints2 rv
  exact ⟨a, t, u, e, by rw [List.getD_eq_getElem?_getD, hv]; rfl, sub _ _ o⟩
theorem kat_tups {ks : List Value} {ds : List Dt} (sub : Kp g h) (r : Rds prog w g ks ds) : (∀ d ∈ ds, ∃ x y, d = .tup [.int x, .int y]) → ∃ fs, KatTups h ks fs ∧ fs.length = ks.length ∧ ∀ v ∈ fs, ∃ x t, v = Value.int x t :=
  r.ind (m := fun ks ds => (∀ d ∈ ds, ∃ x y, d = .tup [.int x, .int y]) → ∃ fs, KatTups h ks fs ∧ fs.length = ks.length ∧ ∀ v ∈ fs, ∃ x t, v = Value.int x t) (fun _ => ⟨[], .nil, rfl, fun _ h => nomatch h⟩) fun v ks d ds a _ ih hd => by
    obtain ⟨fs, f1, f2, f3⟩ := ih fun d h => hd d (.tail _ h)
    obtain ⟨x, y, rfl⟩ := hd d (.head _)
    obtain ⟨a, t, u, e, rfl, o⟩ := Rd.ints2 a
    exact ⟨.int x t :: fs, .cons (sub _ _ o) rfl rfl rfl f1, congrArg Nat.succ f2, fun v hv => (List.mem_cons.mp hv).elim (fun q => ⟨x, t, q⟩) (f3 v)⟩
theorem cmp_key {kf : Nat → Int × Int} {n : Nat} {ks : List Value} (sub : Kp g s.heap) (r : Rds prog w g ks ((List.range n).map (keyDt kf))) {i j : Nat} {C : Bool → Shared → Prop} (hi : i < n) (hj : j < n) (h : C (kl kf i j) s) :
    kas_ask prog w A (tuples' (Value.type "int" != Value.type "tuple")) ks i j C s := by
  obtain ⟨a, t, u, e, q1, o1⟩ := keys_at sub r hi
  obtain ⟨a', t', u', e', q1', o1'⟩ := keys_at sub r hj
  unfold kas_ask
  rw [q1, q1']
  refine kat_lt o1 rfl o1' rfl ?_
  refine kat_cons (wpAny_eqBool_int ?_)
  refine kat_go (fun h1 => kat_yes (kat_cons (wpAny_eqBool_int ?_))) fun h1 => kat_no ?_
  · refine kat_go (fun h2 => kat_yes (kat_nil ?_)) fun h2 => kat_no ?_
    · rw [beq_iff_eq] at h1 h2
      have : kl kf i j = false := by rw [kl_not]; omega
      rw [this] at h; exact h
    · have hb : ((Value.type "int" != Value.type "tuple") && (0 + 1 : Nat) == 0) = false := by simp
      rw [hb]
      refine kat_one _ _ (PyProof.Rows.lt_int ?_)
      have : kl kf i j = decide ((kf i).2 < (kf j).2) := by
        rw [beq_iff_eq] at h1
        have h2 : ¬ (kf i).2 = (kf j).2 := by simpa using h2
        unfold kl
        rw [decide_eq_decide]
        omega
      rw [this] at h
      exact h
  · have hb : ((Value.type "int" != Value.type "tuple") && (0 : Nat) == 0) = true := by decide
    rw [hb]
    refine oneLt_int ?_
    have : kl kf i j = decide ((kf i).1 < (kf j).1) := by
      have h1 : ¬ (kf i).1 = (kf j).1 := by simpa using h1
      unfold kl
      rw [decide_eq_decide]
      omega
    rw [this] at h
    exact h
/-- the places of the sorted -/
noncomputable def places (kf : Nat → Int × Int) (n : Nat) : List Nat := if n < 2 then List.range n else (evalT (kl kf) (kas_sort n)).toList
set_option tactic.hygienic true in
theorem places_ok (kf : Nat → Int × Int) {n : Nat} (h6 : n ≤ 6) : SortedBy kf n (places kf n) := by
  unfold places
  split
  · rename_i h2
    refine ⟨List.length_range, fun i hi => List.mem_range.mpr hi, ?_⟩
    match n, h2 with
    | 0, _ => exact .nil
    | 1, _ => exact List.pairwise_singleton _ _
  · rename_i h2
    exact checkT_ok _ [] (fun q hq => nomatch hq) (check_all (by omega) h6)
theorem rds_pick {vs : List Value} {ds : List Dt} (r : Rds prog w g vs ds) (p : List Nat) : Rds prog w g (p.map fun i => vs.getD i Value.none) (p.map fun i => ds.getD i Dt.none) := by
  induction p with
  | nil => exact .nil
  | cons i p ih =>
    refine .cons ?_ ih
    have hl := r.length
    by_cases hi : i < ds.length
    · obtain ⟨v, hv, rv⟩ := r.get (List.getElem?_eq_getElem hi)
      have e1 : vs.getD i Value.none = v := by simp [hv]
      have e2 : ds.getD i Dt.none = ds[i] := by simp [hi]
      show Rd prog w g (vs.getD i Value.none) (ds.getD i Dt.none)
      rw [e1, e2]
      exact rv
    · have e1 : vs.getD i Value.none = Value.none := by simp [Nat.le_of_not_lt (hl ▸ hi)]
      have e2 : ds.getD i Dt.none = Dt.none := by simp [Nat.le_of_not_lt hi]
      show Rd prog w g (vs.getD i Value.none) (ds.getD i Dt.none)
      rw [e1, e2]; exact .none
/-- the lists of a sort under way -/
structure Srt (prog : Program) (w : World) (g₀ : Heap) (s₀ : Shared) (D kS : Addr) (e1 : Nat) (kf : Nat → Int × Int) (i : Nat) (ks : List Value) (e : Nat) (g : Heap) (s : Shared) : Prop where
  sh : s = { s₀ with heap := s.heap, toks := s.toks }
  pos : 0 < s.toks
  ex : Ext g₀ s₀.heap g s.heap
  d : s.heap.get? D = some (seqObj "list" #[] e1)
  k : s.heap.get? kS = some (seqObj "list" ks.toArray e)
  gd : g.get? D = none
  gk : g.get? kS = none
  nd : s₀.heap.objs.size ≤ D
  nk : s₀.heap.objs.size ≤ kS
  ne : D ≠ kS
  rd : Rds prog w g ks ((List.range i).map (keyDt kf))
theorem ext_off {D : Addr} (hs : Heap.SameBut D h h') (sub : Kp g h) (off : g.get? D = none) : ExtX [D] g h g h' := extX_of_but sub off (fun b o hb e => hs.extBut b o hb e) (Nat.le_of_eq hs.1.symm)
theorem sort_tail {g₀ : Heap} {s₀ : Shared} {D kS : Addr} {e1 e : Nat} {kf : Nat → Int × Int} {ks : List Value} {n : Nat} {st : SortSt} {out : List Value} {P : PySem.Fin → Shared → Prop} (S : Srt prog w g₀ s₀ D kS e1 kf n ks e g s) (hn : n ≤ 6)
    (ho : (arrOf st).map (·.2) = List.toArray out) (hz : out.length ≤ 6) (hf : failedOf st = none)
    (h : ∀ h' c, Ext g₀ s₀.heap g h' → h'.get? D = some (seqObj "list" (List.toArray out) c) → P (.done (.ret .none)) { s with heap := h' }) : wpAny (model prog w) A (ksk_tail D false e1 (.ref kS) st) P E s := by
  have hl : ks.length = n := by rw [S.rd.length]; simp
  have s1 := Heap.SameBut.update s.heap kS (Obj.mapSeq fun _ => (#[] : Array Value))
  have d1 : (s.heap.update kS (Obj.mapSeq fun _ => (#[] : Array Value))).get? D = some (seqObj "list" #[] e1) := (s1.2 D S.ne).trans S.d
  have x1 := ext_off s1 S.ex.sub S.gk
  have s2 := Heap.SameBut.update (s.heap.update kS (Obj.mapSeq fun _ => (#[] : Array Value))) D (Obj.mapSeq fun _ => List.toArray out)
  obtain ⟨c2, hc2⟩ : ∃ c2, ((s.heap.update kS (Obj.mapSeq fun _ => (#[] : Array Value))).update D (Obj.mapSeq fun _ => List.toArray out)).get? D = some (seqObj "list" (List.toArray out) c2) := ⟨_, get?_update_seq d1 fun _ => List.toArray out⟩
  have x2 := ext_off s2 x1.sub S.gd
  unfold ksk_tail
  dsimp only
  rw [ho]
  refine wpAny_bind (listUpdate_at S.k rfl ?_ (by rw [List.size_toArray, sizeLine_eq]; omega) (Nat.zero_le _))
  refine wpAny_bind (wpAny_letGo ?_)
  refine wpAny_bind (seqEpoch_at d1 rfl ?_)
  refine wpAny_bind (listUpdate_at d1 rfl ?_ (Nat.zero_le _) (by simp only [Bool.false_eq_true, if_false]; rw [List.size_toArray, sizeLine_eq]; omega))
  rw [hf]
  simp only [bne_self_eq_false, Bool.false_eq_true, if_false]
  refine wpAny_pure (h _ c2 ((S.ex.transX x1 fun a ha => ?_).transX x2 fun a ha => ?_) hc2)
  · rw [List.mem_singleton.mp ha]; exact S.nk
  · rw [List.mem_singleton.mp ha]; exact S.nd
theorem zip_small {ks vs : List Value} {n : Nat} (h : n < 2) (hl : ks.length = n) (hv : vs.length = n) : (ks.toArray.zip vs.toArray).map (·.2) = List.toArray ((List.range n).map fun i => vs.getD i Value.none) := by
  rcases Nat.lt_or_ge n 1 with q | q
  · obtain rfl : n = 0 := Nat.lt_one_iff.mp q
    rw [List.length_eq_zero_iff.mp hl, List.length_eq_zero_iff.mp hv]; simp
  · obtain rfl : n = 1 := Nat.le_antisymm (Nat.le_of_lt_succ h) q
    obtain ⟨k, rfl⟩ := List.length_eq_one_iff.mp hl
    obtain ⟨v, rfl⟩ := List.length_eq_one_iff.mp hv
    simp [List.range_succ]
theorem sort_end {g₀ : Heap} {s₀ : Shared} {D kS : Addr} {e1 e : Nat} {kf : Nat → Int × Int} {ks vs : List Value} {n : Nat} {P : PySem.Fin → Shared → Prop} (S : Srt prog w g₀ s₀ D kS e1 kf n ks e g s) (hn : n ≤ 6) (hv : vs.length = n)
    (h : ∀ h' c, Ext g₀ s₀.heap g h' → h'.get? D = some (seqObj "list" (List.toArray ((places kf n).map fun i => vs.getD i Value.none)) c) → P (.done (.ret .none)) { s with heap := h' }) : wpAny (model prog w) A (ksk_end D false vs.toArray e1 (.ref kS) ks.toArray) P E s := by
  have hl : ks.length = n := by rw [S.rd.length]; simp
  have hpl := (places_ok kf hn).len
  unfold ksk_end
  dsimp only
  rw [if_neg (by decide)]
  by_cases h2 : vs.toArray.size < 2
  · rw [if_pos h2, if_pos h2]
    rw [List.size_toArray, hv] at h2
    refine wpAny_bind (wpAny_pure ?_)
    rw [StateT.run_pure]
    refine wpAny_bind (wpAny_pure ?_)
    dsimp only
    rw [if_neg (by decide)]
    refine sort_tail (st := SortSt.mk' general' (ks.toArray.zip vs.toArray) #[] 7 none) S hn (out := (places kf n).map fun i => vs.getD i Value.none) ?_ (by rw [List.length_map, hpl]; exact hn) rfl h
    show (ks.toArray.zip vs.toArray).map (·.2) = _
    unfold places
    rw [if_pos h2]
    exact zip_small h2 hl hv
  · rw [if_neg h2, if_neg h2]
    rw [List.size_toArray, hv] at h2
    obtain ⟨fs, f1, f2, f3⟩ := kat_tups S.ex.sub S.rd fun d hd => by
      obtain ⟨i, _, rfl⟩ := List.mem_map.mp hd
      exact ⟨_, _, rfl⟩
    refine wpAny_bind (kat_kind (T := .type "int") f1 (by omega) (fun v hv => by obtain ⟨x, t, rfl⟩ := f3 v hv; exact Looks.of_pure rfl) (by decide) ?_)
    rw [if_neg (by decide)]
    refine wpAny_bind (wpAny_mono (kat_run (vs := vs) (Q := fun st' s' => s' = s ∧ (arrOf st').map (·.2) = List.toArray ((places kf n).map fun i => vs.getD i Value.none) ∧ failedOf st' = none) (G := fun p s' => s' = s ∧ p.toList = places kf n)
      (by omega) (by omega) (by omega) (fun p st' s' z1 z2 z3 z4 => ⟨z4.1, by rw [kat_snds (by omega) z2, z4.2], z3⟩) ?_) ?_ fun _ _ x => x)
    · rw [hv]
      refine kasWp_eval (c := kl kf) (n := n) (fun i j C hi hj hC => cmp_key S.ex.sub S.rd hi hj hC) _ [] (check_all (by omega) hn) ⟨rfl, ?_⟩
      unfold places
      rw [if_neg h2]
    · rintro ⟨⟨⟩, st'⟩ s' ⟨rfl, z1, z2⟩
      exact sort_tail S hn z1 (by rw [List.length_map, hpl]; exact hn) z2 h
theorem Srt.ext {g₀ : Heap} {s₀ : Shared} {D kS : Addr} {e1 e : Nat} {kf : Nat → Int × Int} {ks : List Value} {i : Nat} {tk : Nat} (S : Srt prog w g₀ s₀ D kS e1 kf i ks e g s) (x : Ext g s.heap g' h') (p : 0 < tk) : Srt prog w g₀ s₀ D kS e1 kf i ks e g' { s with heap := h', toks := tk } :=
  ⟨by rw [S.sh], p, S.ex.trans x, x.keep _ _ rfl S.d, x.keep _ _ rfl S.k, (x.same _ (Heap.lt_size S.d)).trans S.gd, (x.same _ (Heap.lt_size S.k)).trans S.gk, S.nd, S.nk, S.ne, S.rd.mono (Ext.grow S.ex.sub x)⟩
/-- what the sort asks of its key -/
noncomputable def KeyAt (prog : Program) (w : World) (W : Wo) (A : Around) (g : Heap) (s : Shared) (f : Value) (ds : List Dt) (kf : Nat → Int × Int) : Prop :=
  ∀ g' (s' : Shared) i d x, Ext g s.heap g' s'.heap → s' = { s with heap := s'.heap, toks := s'.toks } → Ok W g' s' → ds[i]? = some d → Rd prog w g' x d → Res prog w A g' s' (call f [x]) (keyDt kf i)
theorem sort_rest {g₀ : Heap} {s₀ : Shared} {D kS f : Addr} {e1 : Nat} {kf : Nat → Int × Int} {vs : List Value} {ds : List Dt} {P : PySem.Fin → Shared → Prop} (O : Ok W g₀ s₀) (S : Srt prog w g₀ s₀ D kS e1 kf 0 [] 0 g s) (r : Rds prog w g₀ vs ds) (hn : ds.length ≤ 6)
    (K : KeyAt prog w W A g₀ s₀ (.ref f) ds kf)
    (h : ∀ g' h' tk c, 0 < tk → Ext g₀ s₀.heap g' h' → g'.get? D = none → h'.get? D = some (seqObj "list" (List.toArray ((places kf ds.length).map fun i => vs.getD i Value.none)) c) → P (.done (.ret .none)) { s₀ with heap := h', toks := tk }) :
    wpAny (model prog w) A (ksk_rest D (.ref f) false vs.toArray e1 (.ref kS)) P E s := by
  have hl : vs.length = ds.length := r.length
  unfold ksk_rest
  refine wpAny_bind (wpAny_rule ?_)
  rw [List.forIn_toArray]
  refine wpAny_bind (ksk_fold (fun i s' => ∃ g' ks e, Srt prog w g₀ s₀ D kS e1 kf i ks e g' s') vs 0 s ⟨g, [], 0, S⟩ (fun i x s' hx hI => ?_) fun s' hI => ?_)
  · obtain ⟨g', ks, e, S'⟩ := hI
    rw [Nat.zero_add] at S' ⊢
    obtain ⟨d, hd, rd⟩ := r.get' hx
    have hi : i < ds.length := (List.getElem?_eq_some_iff.mp hd).1
    have hkl : ks.length = i := by rw [S'.rd.length]; simp
    have Ok' : Ok W g' s' := by rw [S'.sh]; exact O.ext S'.ex S'.pos
    refine wpAny_bind (wpAny_attempt ((K g' s' i d x S'.ex S'.sh Ok' hd (rd.mono (Ext.grow O.sub S'.ex))).use S'.pos fun k h₁ g₁ tk₁ p₁ x₁ r₁ => ?_))
    have S1 := S'.ext x₁ p₁
    have s1 := Heap.SameBut.update h₁ kS (Obj.mapSeq (·.push k))
    have ea : (List.toArray ks).push k = List.toArray (ks ++ [k]) := by simp
    obtain ⟨c2, hc2⟩ : ∃ c2, (h₁.update kS (Obj.mapSeq (·.push k))).get? kS = some (seqObj "list" (List.toArray (ks ++ [k])) c2) := ⟨_, by rw [← ea]; exact get?_update_seq S1.k (·.push k)⟩
    have x2 := ext_off s1 x₁.sub S1.gk
    dsimp only
    refine wpAny_bind (listUpdate_at S1.k rfl ?_ (by rw [List.size_toArray, sizeLine_eq]; omega) (Nat.le_trans (Nat.le_of_eq (Array.size_push ..)) (by rw [List.size_toArray, sizeLine_eq]; omega)))
    refine wpAny_pure ⟨rfl, g₁, ks ++ [k], c2, ⟨?_, p₁, S1.ex.transX x2 fun a ha => by rw [List.mem_singleton.mp ha]; exact S'.nk, (s1.2 D S'.ne).trans S1.d, hc2, S1.gd, S1.gk, S'.nd, S'.nk, S'.ne, ?_⟩⟩
    · show _ = _
      rw [S'.sh]
    · rw [List.range_succ, List.map_append]
      exact S1.rd.append (.cons r₁ .nil)
  · obtain ⟨g', ks, e, S'⟩ := hI
    rw [Nat.zero_add, hl] at S'
    refine wpAny_bind (listItems_at S'.k rfl ?_)
    refine sort_end S' hn hl fun h' c x hD => ?_
    have := h g' h' s'.toks c S'.pos x S'.gd hD
    rw [S'.sh]
    exact this
theorem kS_size {h : Heap} {a : Addr} {f : Obj → Obj} {o o' : Obj} : (((h.update a f).push o).push o').objs.size = h.objs.size + 2 := by rw [size_push', size_push', Heap.size_update]
theorem sort_tree {g₀ : Heap} {D f : Addr} {n : Nat} {kf : Nat → Int × Int} {vs : List Value} {ds : List Dt} {P : PySem.Fin → Shared → Prop} {s₀ : Shared} (O : Ok W g₀ s₀) (sh : s = { s₀ with heap := s.heap, toks := s.toks }) (p : 0 < s.toks) (x : Ext g₀ s₀.heap g s.heap) (hD : s.heap.get? D = some (seqObj "list" vs.toArray n)) (nD : s₀.heap.objs.size ≤ D) (gD : g.get? D = none)
    (r : Rds prog w g₀ vs ds) (hn : ds.length ≤ 6) (K : KeyAt prog w W A g₀ s₀ (.ref f) ds kf)
    (h : ∀ g' h' tk c, 0 < tk → Ext g₀ s₀.heap g' h' → g'.get? D = none → h'.get? D = some (seqObj "list" (List.toArray ((places kf ds.length).map fun i => vs.getD i Value.none)) c) → P (.done (.ret .none)) { s₀ with heap := h', toks := tk }) :
    wpAny (model prog w) A (ksk_tree D (.ref f) false) P E s := by
  have hl : vs.length = ds.length := r.length
  have lD : D < s.heap.objs.size := Heap.lt_size hD
  have s1 := Heap.SameBut.update s.heap D (Obj.mapSeq fun _ => (#[] : Array Value))
  obtain ⟨e1, ho1⟩ : ∃ e1, (s.heap.update D (Obj.mapSeq fun _ => (#[] : Array Value))).get? D = some (seqObj "list" #[] e1) := ⟨_, get?_update_seq hD fun _ => #[]⟩
  have x1 := ext_off s1 x.sub gD
  have x01 : Ext g₀ s₀.heap g (s.heap.update D (Obj.mapSeq fun _ => (#[] : Array Value))) := x.transX x1 fun a ha => by rw [List.mem_singleton.mp ha]; exact nD
  have x2 := ext_push x01.sub (seqObj "tuple" vs.toArray 0)
  have x3 := ext_push x2.sub (seqObj "list" #[] 0)
  have zS : ((s.heap.update D (Obj.mapSeq fun _ => (#[] : Array Value))).push (seqObj "tuple" vs.toArray 0)).objs.size = s.heap.objs.size + 1 := by rw [size_push', Heap.size_update]
  unfold ksk_tree
  refine wpAny_bind (listItems_at hD rfl ?_)
  refine wpAny_bind (listUpdate_at hD rfl ?_ (by rw [List.size_toArray, sizeLine_eq]; omega) (Nat.zero_le _))
  refine wpAny_bind (seqEpoch_at ho1 rfl ?_)
  refine wpAny_bind (wpAny_newTuple ?_ (by show vs.length ≤ _; rw [sizeLine_eq]; omega))
  refine wpAny_bind (wpAny_newList ?_ (Nat.zero_le _))
  refine wpAny_holding ?_
  have off : g.get? ((s.heap.update D (Obj.mapSeq fun _ => (#[] : Array Value))).push (seqObj "tuple" vs.toArray 0)).objs.size = none := by
    cases e : g.get? ((s.heap.update D (Obj.mapSeq fun _ => (#[] : Array Value))).push (seqObj "tuple" vs.toArray 0)).objs.size with
    | none => rfl
    | some o => have := Heap.lt_size (x.sub _ _ e); rw [zS] at this; exact absurd this (Nat.not_lt.mpr (Nat.le_succ _))
  refine sort_rest (g := g) O ⟨?_, p, (x01.trans x2).trans x3, ?_, Heap.get?_push_size _ rfl, gD, off, nD, ?_, ?_, .nil⟩ r hn K h
  · rw [sh]
  · exact Heap.get?_push_of_some _ (Heap.get?_push_of_some _ ho1)
  · rw [zS]; exact Nat.le_succ_of_le x.size
  · rw [zS]; exact Nat.ne_of_lt (Nat.lt_succ_of_lt lD)
set_option tactic.hygienic true in
/-- sorted(l, key=f) -/
theorem res_sortedKey {l : Value} {f : Addr} {ds : List Dt} {kf : Nat → Int × Int} (O : Ok W g s) (rl : Rd prog w g l (.lst ds)) (hn : ds.length ≤ 6) (K : KeyAt prog w W A.in1.in1 g s (.ref f) ds kf) :
    Res prog w A g s (call (.builtin "sorted") [l] [(Str.ofString "key", .ref f)]) (.lst ((places kf ds.length).map fun i => ds.getD i Dt.none)) := fun Q E q => by
  cases rl with
  | lst e r =>
    rename_i a vs n
    obtain ⟨vl⟩ := vs
    have r : Rds prog w g vl ds := r
    have hl : vl.length = ds.length := r.length
    have L : s.heap.IsList a vl.toArray := ⟨_, O.sub _ _ e, rfl, _, rfl⟩
    refine call_function_entry_kw kind_sorted plain_sorted entry_sorted (ksk_s1 _ _) ?_
    unfold Builtin.«sorted»
    refine wpAny_bind (m := checkCount "sorted" 1 1 _) (wpAny_pure ?_)
    refine wpAny_bind (collect_list L ?_ (by rw [sizeLine_eq]; omega))
    refine wpAny_bind (wpAny_newList ?_ (by rw [sizeLine_eq]; omega))
    have s0 := Heap.SameBut.update (s.heap.push (seqObj "list" #[] 0)) s.heap.objs.size (Obj.mapSeq (· ++ vl.toArray))
    have x0 := ext_push O.sub (seqObj "list" #[] 0)
    have x1 := ext_off s0 x0.sub (none_of_size O)
    have x01 : Ext g s.heap g ((s.heap.push (seqObj "list" #[] 0)).update s.heap.objs.size (Obj.mapSeq (· ++ vl.toArray))) := x0.transX x1 fun b hb => by rw [List.mem_singleton.mp hb]; exact Nat.le_refl _
    have x2 := ext_push x01.sub (seqObj "list" vl.toArray 0)
    have hsz : ((s.heap.push (seqObj "list" #[] 0)).update s.heap.objs.size (Obj.mapSeq (· ++ vl.toArray))).objs.size = s.heap.objs.size + 1 := by rw [Heap.size_update, size_push']
    show wpAny _ _ _ _ _ { s with heap := ((s.heap.push (seqObj "list" #[] 0)).update s.heap.objs.size (Obj.mapSeq (· ++ vl.toArray))).push (seqObj "list" vl.toArray 0) }
    rw [hsz]
    have hoL : (((s.heap.push (seqObj "list" #[] 0)).update s.heap.objs.size (Obj.mapSeq (· ++ vl.toArray))).push (seqObj "list" vl.toArray 0)).get? (s.heap.objs.size + 1) = some (seqObj "list" vl.toArray 0) := by
      rw [← hsz]; exact Heap.get?_push_size _ rfl
    have offD : g.get? (s.heap.objs.size + 1) = none := by
      cases e : g.get? (s.heap.objs.size + 1) with
      | none => rfl
      | some o => exact absurd (Heap.lt_size (O.sub _ _ e)) (Nat.not_lt.mpr (Nat.le_succ _))
    refine wpAny_bind (wpAny_holding (wpAny_call_entry_kw slot_list_sort ⟨_, hoL, rfl⟩ entry_list_sort ?body (ksk_l1 _ _)))
    case body =>
      show wpAny (model prog w) A.in1.in1 (Builtin.«list.sort» ⟨[.ref (s.heap.objs.size + 1)], [(Str.ofString "key", .ref f)]⟩) _ _ _
      rw [ksk_t1]
      refine sort_tree (s₀ := s) O rfl O.pos (x01.trans x2) hoL (Nat.le_succ _) offD r hn K fun g' h' tk c p' x' hg hD => ?_
      refine ⟨_, rfl, wpAny_pure ⟨_, rfl, ?_⟩⟩
      have y := ext_claim x'.sub hD (Nat.le_succ _) x'
      exact q _ h' _ tk y (.lst (gput_self _ _ _ rfl) ((rds_pick (r.mono (Ext.grow O.sub x')) _).mono (kp_gput hg)))
end
end Mine
end
section
open PySem PySem.W PySem.Spec PySem.Calls PyProof.Rows PySem.Builtin PySem.Builtin.Str
set_option Elab.async false
set_option tactic.hygienic false
set_option linter.unusedVariables false
set_option maxRecDepth 100000
set_option maxHeartbeats 4000000
namespace Mine
section
variable {prog : Program} {w : World} {W : Wo} {A : Around} {E : Value → Shared → Prop} {g g' h h' : Heap} {s : Shared} {env : Env}
/-- the table of the codes that a def has made: empty, or with the one lambda's -/
noncomputable def TabOk (g h : Heap) (P : Addr) (pos : Pos) (qual : Str) : Prop := h.get? P = some (tabObj #[]) ∨ ∃ c', h.get? P = some (tabObj #[rawInt pos.line, rawInt pos.col, .ref c']) ∧ g.CodeRec (.ref c') qual
theorem among_hit {pos : Pos} {v : Value} : codeAmong pos [rawInt pos.line, rawInt pos.col, v] = some v := by simp [codeAmong, rawInt]
theorem codeRec_at {c' : Addr} {qual : Str} {o : Obj} (k : ∀ o, h.get? c' = some o → h'.get? c' = some o) (x : h.CodeRec (.ref c') qual) : h'.CodeRec (.ref c') qual := by
  obtain ⟨c₂, oc, vs, t, e2, hoc, hd, hv⟩ := x
  cases e2
  exact ⟨c', oc, vs, t, rfl, k _ hoc, hd, hv⟩
theorem TabOk.mono {P : Addr} {pos : Pos} {qual : Str} (x : TabOk g h P pos qual) (k : Kp g g') (e : ∀ o, h.get? P = some o → h'.get? P = some o) : TabOk g' h' P pos qual := by
  rcases x with x | ⟨c', x, y⟩
  · exact .inl (e _ x)
  · exact .inr ⟨c', e _ x, y.keeps k⟩
/-- a table, as a thing under way -/
noncomputable def ownT (P : Addr) (pos : Pos) (qual : Str) : Own where
  fp := [P]
  xs := [P]
  O := fun g h => TabOk g h P pos qual
  ok := fun a _ _ k f => a.mono k (f P (.head _))
noncomputable abbrev lamFn (env : Env) (params : Arguments) (body : Expr) (scope : Scope) (clos : List (Str × Addr)) (pm cv ctv : Value) : FuncData := kla_fn "<lambda>" (env.qual ++ "<lambda>") params body scope clos pm cv ctv
theorem ext_two {g₀ h₀ : Heap} {X : List Addr} {a b : Addr} {oa ob : Obj} (x : ExtX X g₀ h₀ g h) (ea : h.get? a = some oa) (na : h₀.objs.size ≤ a) (eb : h.get? b = some ob) (nb : h₀.objs.size ≤ b) (ne : a ≠ b) :
    ExtX X g₀ h₀ (gput (gput g a oa) b ob) h ∧ (gput (gput g a oa) b ob).get? a = some oa ∧ (gput (gput g a oa) b ob).get? b = some ob := by
  have x1 := extX_claim x.sub ea na x
  have x2 := extX_claim x1.sub eb nb x1
  have fa := (Heap.get?_some_iff.mp ea).2
  have fb := (Heap.get?_some_iff.mp eb).2
  exact ⟨x2, by rw [gput_other _ _ ne]; exact gput_self _ _ _ fa, gput_self _ _ _ fb⟩
/-- a lambda is made -/
theorem mk_lam {c P : Addr} {params : Arguments} {body : Expr} {scope : Scope} {pos : Pos} {clos : List (Str × Addr)} {Q : Value → Shared → Prop} (O : Ok W g s) (hgl : env.globals = mainGlobals) (hcode : env.code = .ref c) (C : CodeHd g c P) (hcl : closureFor scope env = pure clos)
    (hdef : defaultsOf params env = ([], [])) (T : TabOk g s.heap P pos (env.qual ++ "<lambda>")) (gP : g.get? P = none) (zP : P < s.heap.objs.size)
    (k : ∀ f g' h' tk pm c' ctv, 0 < tk → ExtX [P] g s.heap g' h' → g'.get? f = some { cls := .type "function", data := .func (lamFn env params body scope clos pm (.ref c') ctv) } → g'.CodeRec (.ref c') (env.qual ++ "<lambda>") → TabOk g' h' P pos (env.qual ++ "<lambda>") → g'.get? P = none → s.heap.objs.size ≤ f → Q (.ref f) { s with heap := h', toks := tk }) :
    wpAny (model prog w) A (eval (.Lambda params body scope pos) env) Q E s := by
  obtain ⟨bm, ob, b1, b2, b3, b4, b5, b6⟩ := O.wd.bm
  have hgs := O.wd.gn.keeps O.sub
  have hgP : mainGlobals ≠ P := fun q => by
    obtain ⟨o, es, ep, e, hd, _⟩ := O.wd.gn
    rw [q, gP] at e; cases e
  have hbP : bm ≠ P := fun q => by rw [q, gP] at b3; cases b3
  have hbG : bm ≠ mainGlobals := fun q => by
    obtain ⟨o, es, ep, e, hd, _⟩ := O.wd.gn
    rw [q, e] at b3; cases b3; rw [hd] at b6; cases b6
  have bat : s.heap.BuiltinsAt W.mg P := ⟨bm, ob, b1, b2, hbG, hbP, O.sub _ _ b3, b4, b5, b6⟩
  refine kla_eval hdef (grows O.pos ?_)
  rcases T with T | ⟨c', T, rec⟩
  · refine kla_makeFunction (mg := W.mg) hcl hgl hgs hcode (C.keeps O.sub) T trivial rfl hgP bat fun c' ctv h' tk hx hge hlt hrec htb => fun p z => ?_
    obtain ⟨c₂, oc, vs, t, e2, hoc, hd, hv⟩ := id hrec
    cases e2
    have nf : h'.objs.size ≠ c' := Nat.ne_of_gt hlt
    have zz : s.heap.objs.size ≤ h'.objs.size := Nat.le_of_lt (Nat.lt_of_le_of_lt hge hlt)
    have x1 : ExtX [P] g s.heap g h' := extX_of_but O.sub gP hx zz
    have x2 := x1.trans (ext_push x1.sub (kla_obj "<lambda>" (env.qual ++ "<lambda>") params body scope clos ((W.mg "__name__").getD .none) c' ctv)).toX
    obtain ⟨x3, y1, y2⟩ := ext_two x2 (Heap.get?_push_of_some _ hoc) hge (Heap.get?_push_size _ rfl) zz (Ne.symm nf)
    have off : (gput (gput g c' oc) h'.objs.size (kla_obj "<lambda>" (env.qual ++ "<lambda>") params body scope clos ((W.mg "__name__").getD .none) c' ctv)).get? P = none := by
      rw [gput_other _ _ (Nat.ne_of_lt (Nat.lt_of_lt_of_le zP zz)), gput_other _ _ (Nat.ne_of_lt (Nat.lt_of_lt_of_le zP hge))]; exact gP
    have rec' : (gput (gput g c' oc) h'.objs.size (kla_obj "<lambda>" (env.qual ++ "<lambda>") params body scope clos ((W.mg "__name__").getD .none) c' ctv)).CodeRec (.ref c') (env.qual ++ "<lambda>") := ⟨c', oc, vs, t, rfl, y1, hd, hv⟩
    exact k h'.objs.size _ _ tk _ c' ctv p x3 y2 rec' (.inr ⟨c', Heap.get?_push_of_some _ (by simpa using htb), rec'⟩) off zz
  · refine kla_makeFunctionHit (mg := W.mg) (cv := .ref c') hcl hgl hgs hcode (C.keeps O.sub) T (by simp [TriplesOk, rawInt]) (by simpa using among_hit) bat fun ctv h' tk kp z0 => fun p z => ?_
    have x1 : Ext g s.heap g h' := ⟨fun b o _ e => kp b o e, z0, fun b o e => kp b o (O.sub b o e), fun _ _ => rfl⟩
    have x2 := ext_put x1.sub { cls := .type "function", data := .func (lamFn env params body scope clos ((W.mg "__name__").getD .none) (.ref c') ctv) } rfl
    have x3 := x1.trans x2
    have gr := Ext.grow O.sub x3
    have off : (gput g h'.objs.size { cls := .type "function", data := .func (lamFn env params body scope clos ((W.mg "__name__").getD .none) (.ref c') ctv) }).get? P = none := by
      rw [gput_other _ _ (Nat.ne_of_lt (Nat.lt_of_lt_of_le zP z0))]; exact gP
    exact k h'.objs.size _ _ tk _ c' ctv p x3.toX (gput_self _ _ _ rfl) (rec.keeps gr) (.inr ⟨c', Heap.get?_push_of_some _ (kp _ _ T), rec.keeps gr⟩) off z0

set_option tactic.hygienic true in
theorem lookup_rev_nodup {α : Type} {x : Str} {v : α} : ∀ {l : List (Str × α)}, (l.map (·.1)).Nodup → l.lookup x = some v → l.reverse.lookup x = some v
  | [], _, h => by simp at h
  | (y, u) :: l, nd, h => by
    simp only [List.map_cons, List.nodup_cons] at nd
    rw [List.reverse_cons, List.lookup_append]
    simp only [List.lookup_cons] at h
    split at h
    · rename_i q
      cases h
      have e := eq_of_beq q
      subst e
      have : l.reverse.lookup x = none := by
        rw [List.lookup_eq_none_iff]
        intro p hp
        have hp' := List.mem_reverse.mp hp
        have : p.1 ≠ x := fun q => nd.1 (q ▸ List.mem_map_of_mem (f := (·.1)) hp')
        simpa using fun q => this q.symm
      rw [this]
      simp
    · rename_i q
      rw [lookup_rev_nodup nd.2 h]
      rfl
set_option tactic.hygienic true in
/-- a function of one expression is called -/
theorem call_fnE {f : Addr} {fd : FuncData} {body : Expr} {ps : List Str} {vs : List Value} {ds : List Dt} {Q : Value → Shared → Prop} (O : Ok W g s) (hf : ∃ o, g.get? f = some o ∧ o.data = .func fd) (hb : fd.body = .expr body) (hco : fd.scope.isCoroutine = false) (hgen : fd.scope.isGenerator = false) (hk : fd.scope.kind = .function)
    (hgl : fd.globals = mainGlobals) (hbt : fd.builtins = builtinsNs) (hcell : ∀ x ∈ fd.scope.names, x.2 ≠ .cell) (hcode : g.CodeRec fd.code fd.qualname) (hbind : bindArgs fd ⟨vs, []⟩ = pure (ps.zip vs)) (hps : ∀ x ∈ ps, fd.scope.names.lookup x = some .local) (nd : ps.Nodup)
    (rs : Rds prog w g vs ds) (hl : ps.length = ds.length) (room : A.depth < recursionLimit) {ρ : Str → Option Dt}
    (hρ : ∀ x d, ρ x = some d → (ps.zip ds).lookup x = some d ∨ (fd.scope.names.lookup x = some .free ∧ ∃ c v, fd.closure.lookup x = some c ∧ s.heap.IsCell c (some v) ∧ Rd prog w g v d))
    (hcl : ∀ p ∈ fd.closure, p.2 < s.heap.objs.size)
    (h : ∀ L h₁ tk, 0 < tk → L = s.heap.objs.size → Ext g s.heap g h₁ → SE prog w W (newEnv fd.scope L fd.globals fd.closure (fd.qualname ++ ".<locals>.") (some f) fd.code none fd.builtins) g { s with heap := h₁, toks := tk } ρ →
      wpAny (model prog w) (A.deeper (newEnv fd.scope L fd.globals fd.closure (fd.qualname ++ ".<locals>.") (some f) fd.code none fd.builtins)) (eval body (newEnv fd.scope L fd.globals fd.closure (fd.qualname ++ ".<locals>.") (some f) fd.code none fd.builtins)) Q (fun _ _ => False) { s with heap := h₁, toks := tk }) :
    wpAny (model prog w) A (call (.ref f) vs) Q E s := by
  obtain ⟨o, ho, hd⟩ := hf
  have hlv : ps.length = vs.length := by rw [hl, rs.length]
  have names : ((ps.zip vs).map (·.1)) = ps := zip_names hlv
  refine wpAny_call (kla_callFunE room (O.sub _ _ ho) hd hco hgen hb (hcode.keeps O.sub) ?_)
  rw [hbind]
  refine wpAny_pure (wpAny_newFunctionEnv hcell (fun x hx => hps _ (by
    have := List.mem_map_of_mem (f := (·.1)) hx
    rw [names] at this
    exact this)) (fun h₁ hns hsb => ?_) hk)
  dsimp only at hns hsb ⊢
  have kp : ∀ b o, s.heap.get? b = some o → h₁.get? b = some o := fun b o e => hsb.extBut b o (Nat.ne_of_lt (Heap.lt_size e)) (Heap.get?_push_of_some _ e)
  have z : s.heap.objs.size < h₁.objs.size := by rw [hsb.1, Heap.size_push]; exact Nat.lt_succ_self _
  have x : Ext g s.heap g h₁ := ⟨fun b o _ e => kp b o e, Nat.le_of_lt z, fun b o e => kp b o (O.sub b o e), fun _ _ => rfl⟩
  have p : 0 < s.toks + (ps.zip vs).length := Nat.lt_of_lt_of_le O.pos (Nat.le_add_right _ _)
  refine ⟨(O.wd.nl.keeps O.sub).keeps kp, kla_codeExpr ?_⟩
  refine wpAny_mono (h s.heap.objs.size h₁ (s.toks + (ps.zip vs).length) p rfl x ⟨O.ext x p, hk, hgl, hbt, ⟨z, rfl⟩, fun q hq => ⟨Nat.lt_trans (hcl q hq) z, rfl⟩, fun y d hy => ?_⟩) (fun _ _ z => z) fun _ _ z => z.elim
  rcases hρ y d hy with q | ⟨q1, c, v, q2, q3, q4⟩
  · obtain ⟨v, hv, rv⟩ := zip_rd rs q
    have hm : y ∈ ps := by
      have := mem_of_lookup_z hv
      rw [names] at this
      exact this
    exact ⟨v, .inl ⟨hps y hm, rfl, _, hns, lookup_rev_nodup (by rw [names]; exact nd) hv⟩, rv⟩
  · obtain ⟨oc, e1, e2⟩ := q3
    exact ⟨v, .inr ⟨.inr q1, c, q2, rfl, oc, kp _ _ e1, e2⟩, q4⟩
where
  mem_of_lookup_z {x : Str} {v : Value} : ∀ {bs : List (Str × Value)}, bs.lookup x = some v → x ∈ bs.map (·.1)
    | [], h => by simp at h
    | (y, e) :: bs, h => by
      simp only [List.lookup_cons] at h
      split at h
      · rename_i q; rw [eq_of_beq q]; simp
      · exact List.mem_cons_of_mem _ (mem_of_lookup_z h)
end
end Mine
end
section
open PySem PySem.W PySem.Spec PySem.Calls PyProof.Rows PySem.Builtin PySem.Builtin.Str
set_option Elab.async false
set_option tactic.hygienic false
set_option linter.unusedVariables false
set_option maxRecDepth 100000
set_option maxHeartbeats 4000000
namespace Mine
/-- the claim's world, some old addresses open -/
noncomputable abbrev WX (w : World) (mb : Str → Option Value) (X : List Addr) : Wo := { K := Mine.hd.heap_1 w.params, mg := mgC w.params, mb := mb, X := X, invm := fun _ _ => trivial }
section
variable {prog : Program} {w : World} {A : Around} {mb : Str → Option Value} {X Y : List Addr} {g : Heap} {s : Shared}
/-- the same world, other old addresses, another thing known -/
structure SameW (W V : Wo) : Prop where
  k : W.K = V.K
  g : W.mg = V.mg
  b : W.mb = V.mb
theorem Ok.to {W V : Wo} (q : SameW W V) (O : Ok W g s) (i : V.inv g) : Ok V g s := by
  obtain ⟨q1, q2, q3⟩ := q
  exact ⟨O.sub, ⟨q1 ▸ O.wd.k, q2 ▸ O.wd.gn, q3 ▸ O.wd.bn, O.wd.nl, q3 ▸ O.wd.mb, O.wd.tabs, q2 ▸ O.wd.bm, i⟩, O.tb, O.pos⟩
theorem Ok.toX {W : Wo} (O : Ok W g s) (q : SameW W (WX w mb Y) := by exact ⟨rfl, rfl, rfl⟩) : Ok (WX w mb Y) g s := O.to q trivial
theorem Fn.toX {W : Wo} {n : Nat} {a : Addr} {ds : List Dt} {d : Dt} (h : Fn prog w (WX w mb X) n a ds d) (q : SameW W (WX w mb X) := by exact ⟨rfl, rfl, rfl⟩) : Fn prog w W n a ds d := fun A g s vs R O rs => h A g s vs R (O.toX q) rs
theorem DefOk.toX {W : Wo} {a : Addr} {fd : FuncData} {ps : List Str} {body : List Stmt} (D : DefOk w (WX w mb X) a fd ps body) (q : SameW W (WX w mb X) := by exact ⟨rfl, rfl, rfl⟩) : DefOk w W a fd ps body := ⟨q.k ▸ D.at', q.k ▸ D.code, D.body', D.gl, D.bt, D.clo, q.k ▸ D.binds, D.nd, D.kinds, D.cn, D.co, D.gen, D.kind⟩
end
/-- texts that may be compared -/
structure TripOk (t : Trip) : Prop where
  o : PyData.strOk t.o = true
  i : PyData.strOk t.i = true
  v : PyData.strOk t.v = true
noncomputable def pairDt (t : Trip) : Dt := .tup [.str t.o, .str t.i]
noncomputable def firstO (ts : List Trip) (t : Trip) : Nat := ts.findIdx fun u => u.o == t.o
noncomputable def firstP (ts : List Trip) (t : Trip) : Nat := ts.findIdx fun u => u.o == t.o && u.i == t.i
noncomputable def noTrip : Trip := ⟨"", "", ""⟩
noncomputable def tripAt (ts : List Trip) (i : Nat) : Trip := ts.getD i noTrip
/-- the key of the row at place i -/
noncomputable def gkey (ts : List Trip) (i : Nat) : Int × Int := (firstO ts (tripAt ts i), firstP ts (tripAt ts i))
noncomputable def grouped (ts : List Trip) : List Trip := (places (gkey ts) ts.length).map (tripAt ts)
theorem perm_range : ∀ {n : Nat} {p : List Nat}, p.length = n → (∀ i, i < n → i ∈ p) → p.Perm (List.range n)
  | 0, p, h, _ => by rw [List.eq_nil_of_length_eq_zero h]; exact .nil
  | n + 1, p, h, a => by
    have hn := a n (Nat.lt_succ_self _)
    have e := List.perm_cons_erase hn
    have hl : (p.erase n).length = n := by rw [List.length_erase_of_mem hn, h]; rfl
    have ih := perm_range hl fun i hi => (List.mem_erase_of_ne (Nat.ne_of_lt hi)).mpr (a i (Nat.lt_succ_of_lt hi))
    rw [List.range_succ]
    exact e.trans ((ih.cons n).trans (List.perm_append_singleton n (List.range n)).symm)
theorem SortedBy.perm {k : Nat → Int × Int} {n : Nat} {p : List Nat} (h : SortedBy k n p) : p.Perm (List.range n) := perm_range h.len h.all
theorem SortedBy.lt {k : Nat → Int × Int} {n : Nat} {p : List Nat} (h : SortedBy k n p) {i : Nat} (hi : i ∈ p) : i < n := List.mem_range.mp (h.perm.mem_iff.mp hi)
theorem grouped_dt {ts : List Trip} (h6 : ts.length ≤ 6) : ((places (gkey ts) ts.length).map fun i => (ts.map Trip.dt).getD i Dt.none) = (grouped ts).map Trip.dt := by
  unfold grouped
  rw [List.map_map]
  refine List.map_congr_left fun i hi => ?_
  have hlt := (places_ok (gkey ts) h6).lt hi
  simp [tripAt, hlt]
theorem find_at {α : Type} {p : α → Bool} {l : List α} {i : Nat} {x : α} (h : l[i]? = some x) (hp : p x = true) : ∃ y, l[l.findIdx p]? = some y ∧ p y = true ∧ l.findIdx p < l.length := by
  have hlt : l.findIdx p < l.length := List.findIdx_lt_length_of_exists ⟨x, List.mem_of_getElem? h, hp⟩
  exact ⟨_, List.getElem?_eq_getElem hlt, List.findIdx_getElem (w := hlt), hlt⟩
theorem find_before {α : Type} {p : α → Bool} {l : List α} {m : Nat} {x : α} (hm : m < l.findIdx p) (h : l[m]? = some x) : p x = false := by
  have := List.not_of_lt_findIdx hm
  obtain ⟨h1, h2⟩ := List.getElem?_eq_some_iff.mp h
  rw [← h2]
  simpa using this
theorem eqv_str (x y : Str) : PyData.eqv (Dt.str x).py (Dt.str y).py = (x == y) := rfl
theorem eqv_pair (t u : Trip) : PyData.eqv (pairDt t).py (pairDt u).py = (t.o == u.o && t.i == u.i) := by
  show (t.o == u.o && (t.i == u.i && true)) = _
  rw [Bool.and_true]
theorem ok_pair {t : Trip} (h : TripOk t) : (pairDt t).ok = true := by
  show (PyData.strOk t.o && (PyData.strOk t.i && true)) = true
  rw [h.o, h.i]; rfl
theorem shaped_str {x : Str} (h : PyData.strOk x = true) : SeqAt.shaped (Dt.str x).py = true := by
  show SeqAt.shaped (PyData.str x) = true
  simp [SeqAt.shaped, PyData.canLay0, h, PyData.depth]
theorem shaped_pair {t : Trip} (h : TripOk t) : SeqAt.shaped (pairDt t).py = true := by
  show SeqAt.shaped (PyData.tuple [.str t.o, .str t.i]) = true
  simp [SeqAt.shaped, PyData.canLay0, PyData.canLayAll0, h.o, h.i, PyData.depth, PyData.depthAll]
theorem oks_of {ds : List Dt} (h : ∀ d ∈ ds, d.ok = true) : Dt.oks ds = true := by
  induction ds with
  | nil => rfl
  | cons d ds ih =>
    show (d.ok && Dt.oks ds) = true
    rw [h d (.head _), ih fun x hx => h x (.tail _ hx)]; rfl
section
variable {prog : Program} {w : World} {W : Wo} {A : Around} {env : Env} {mb : Str → Option Value} {ρ : Str → Option Dt} {g : Heap} {s : Shared}
theorem mt_firstO {ts : List Trip} {i : Nat} {t : Trip} (R : A.units + 128 < cLine) (h : ∀ u ∈ ts, TripOk u) (hl : ts.length ≤ 6) (hi : ts[i]? = some t) : Mt prog w W A "list.index" (.lst (ts.map fun u => .str u.o)) [.str t.o] (.int (firstO ts t)) := by
  have ht := List.mem_of_getElem? hi
  obtain ⟨y, y1, y2, y3⟩ := find_at (p := fun u : Trip => u.o == t.o) hi (by simp)
  refine mt_index R (oks_of fun d hd => ?_) (h t ht).o (fun d hd => ?_) (shaped_str (h t ht).o) (by rw [List.length_map]; omega) ⟨.str y.o, by rw [List.getElem?_map]; show Option.map _ (ts[List.findIdx _ ts]?) = _; rw [y1]; rfl, ?_⟩ fun m d hm hd => ?_
  · obtain ⟨u, hu, rfl⟩ := List.mem_map.mp hd
    exact (h u hu).o
  · obtain ⟨u, hu, rfl⟩ := List.mem_map.mp hd
    exact shaped_str (h u hu).o
  · rw [eqv_str]; exact y2
  · rw [List.getElem?_map] at hd
    cases hq : ts[m]? with
    | none => rw [hq] at hd; cases hd
    | some u =>
      rw [hq] at hd
      cases hd
      rw [eqv_str]
      exact find_before (p := fun u : Trip => u.o == t.o) hm hq
theorem mt_firstP {ts : List Trip} {i : Nat} {t : Trip} (R : A.units + 128 < cLine) (h : ∀ u ∈ ts, TripOk u) (hl : ts.length ≤ 6) (hi : ts[i]? = some t) : Mt prog w W A "list.index" (.lst (ts.map pairDt)) [pairDt t] (.int (firstP ts t)) := by
  have ht := List.mem_of_getElem? hi
  obtain ⟨y, y1, y2, y3⟩ := find_at (p := fun u : Trip => u.o == t.o && u.i == t.i) hi (by simp)
  refine mt_index R (oks_of fun d hd => ?_) (ok_pair (h t ht)) (fun d hd => ?_) (shaped_pair (h t ht)) (by rw [List.length_map]; omega) ⟨pairDt y, by rw [List.getElem?_map]; show Option.map _ (ts[List.findIdx _ ts]?) = _; rw [y1]; rfl, ?_⟩ fun m d hm hd => ?_
  · obtain ⟨u, hu, rfl⟩ := List.mem_map.mp hd
    exact ok_pair (h u hu)
  · obtain ⟨u, hu, rfl⟩ := List.mem_map.mp hd
    exact shaped_pair (h u hu)
  · rw [eqv_pair]; exact y2
  · rw [List.getElem?_map] at hd
    cases hq : ts[m]? with
    | none => rw [hq] at hd; cases hd
    | some u =>
      rw [hq] at hd
      cases hd
      rw [eqv_pair]
      exact find_before (p := fun u : Trip => u.o == t.o && u.i == t.i) hm hq
theorem mg_sorted : mgC w.params "sorted" = none := by kernel_rfl
theorem bt_sorted : bootBuiltins "sorted" = some (.builtin "sorted") := by decide +kernel
theorem code_268 (P : Params) : ∃ d sl vs file tf flags tg inF text tt, (Mine.hd.heap_1 P).lookup 268 = some ⟨.type "code", d, .fields vs, sl⟩ ∧ vs[11]? = some (.ref 266) ∧ vs.getD 11 .none = .ref 266 ∧ vs.getD 18 .none = .str file tf ∧
    vs.getD 7 .none = .int flags tg ∧ vs.getD 9 .none = .bool inF ∧ vs.getD 10 .none = .int text tt := ⟨_, _, _, _, _, _, _, _, _, _, rfl, rfl, rfl, rfl, rfl, rfl, rfl⟩
theorem codeHd_of {K : Frag} {h : Heap} {c P : Addr} (X : K.In h) (ne : c ≠ P) (e : ∃ d sl vs file tf flags tg inF text tt, K.lookup c = some ⟨.type "code", d, .fields vs, sl⟩ ∧ vs[11]? = some (.ref P) ∧ vs.getD 11 .none = .ref P ∧ vs.getD 18 .none = .str file tf ∧
    vs.getD 7 .none = .int flags tg ∧ vs.getD 9 .none = .bool inF ∧ vs.getD 10 .none = .int text tt) : CodeHd h c P := by
  obtain ⟨d, sl, vs, file, tf, flags, tg, inF, text, tt, e1, e2, e3, e4, e5, e6, e7⟩ := e
  exact ⟨_, vs, file, tf, flags, tg, inF, text, tt, X _ _ e1, rfl, rfl, e2, e3, e4, e5, e6, e7, ne⟩
end
section
variable {prog : Program} {w : World} {A : Around} {mb : Str → Option Value} {X : List Addr} {g : Heap} {s : Shared}
noncomputable def posG : Pos := ⟨191, 28, 191, 84⟩
noncomputable def qualG : Str := (("_law_grouped" : Str) ++ ".<locals>.") ++ "<lambda>"
set_option tactic.hygienic true in
theorem call_grouped {ts : List Trip} {vs : List Value} {Q : Value → Shared → Prop} {E : Value → Shared → Prop} (R : Room A 3) (O : Ok (WX w mb X) g s) (rs : Rds prog w g vs [.lst (ts.map Trip.dt)]) (h6 : ts.length ≤ 6) (hok : ∀ t ∈ ts, TripOk t)
    (T : TabOk g s.heap 266 posG qualG) (gP : g.get? 266 = none) (z : 266 < s.heap.objs.size)
    (k : ∀ v g' h' tk, 0 < tk → ExtX [266] g s.heap g' h' → Rd prog w g' v (.lst ((grouped ts).map Trip.dt)) → TabOk g' h' 266 posG qualG → g'.get? 266 = none → Q v { s with heap := h', toks := tk }) :
    wpAny (model prog w) A (call (.ref 269) vs) Q E s := by
  have hs6 : sizeLine = 16777216 := rfl
  refine wpAny_call (enter (W := WX w mb [266]) (d269 (w := w) (mb := mb)).toX rfl (Nat.lt_of_le_of_lt (Nat.le_add_right _ _) R.dp) O.toX rs [ownT 266 posG qualG] (fun o ho => ?_) (List.pairwise_singleton _ _) fun L => ?_)
  · rw [List.mem_singleton.mp ho]
    exact ⟨T, fun b hb => by rw [List.mem_singleton.mp hb]; exact ⟨.head _, .head _, z, gP⟩⟩
  have hh : (A.deeper (callEnvC (f269 w.params).1 L 269)).handled = none := R.hd
  refine go_unpack2 (d1 := .lst (ts.map fun u => .str u.o)) (d2 := .lst (ts.map pairDt)) hh (ev_tuple (evl_cons ?f (evl_cons ?p evl_nil))) (.inl rfl) ?_
  case f =>
    refine ev_comp [] (src_list hh (ev_name rfl)) (cl := _) rfl (fun _ h => nomatch h) clok_nil (spec1 hh (by simp) (by simp; omega) fun C i d r hd hr => ?_)
    rw [List.getElem?_map] at hd hr
    obtain ⟨t, hi, rfl⟩ := Option.map_eq_some_iff.mp hd
    rw [hi] at hr
    obtain rfl := Option.some.inj hr
    · refine ⟨[("row", t.dt)], .name, fun y hy => ?_, by simp, fun _ _ h => (nomatch h), ?_⟩
      · rw [List.mem_singleton.mp hy]; rfl
      · exact ev_sub (ev_name (d := .tup [.str t.o, .str t.i, .str t.v]) rfl) ev_int (bin_itemT (by decide) (by decide) rfl)
  case p =>
    refine ev_comp [] (src_list hh (ev_name rfl)) (cl := _) rfl (fun _ h => nomatch h) clok_nil (spec1 hh (by simp) (by simp; omega) fun C i d r hd hr => ?_)
    rw [List.getElem?_map] at hd hr
    obtain ⟨t, hi, rfl⟩ := Option.map_eq_some_iff.mp hd
    rw [hi] at hr
    obtain rfl := Option.some.inj hr
    · refine ⟨[("row", t.dt)], .name, fun y hy => ?_, by simp, fun _ _ h => (nomatch h), ?_⟩
      · rw [List.mem_singleton.mp hy]; rfl
      · exact ev_sliceT (ev_name (d := .tup [.str t.o, .str t.i, .str t.v]) rfl) ev_int
  refine .mk fun g₁ s₁ F => wpAny_execs_cons (wpAny_Return_some (wpAny_Call_Name_kw (ev_builtin F.se rfl (mg_sorted (w := w)) bt_sorted (callWith_kw ?_))))
  have hse : backTo ⟨191, 11, 191, 85⟩ (starEach [Expr.Name "rows" ⟨191, 18, 191, 22⟩] (callEnvC (f269 w.params).1 L 269)) = [(false, eval (Expr.Name "rows" ⟨191, 18, 191, 22⟩) (callEnvC (f269 w.params).1 L 269))] := rfl
  refine wpAny_mono (Q := fun ws s' => _) (show wpAny _ _ (PySem.spliced [(false, eval (Expr.Name "rows" ⟨191, 18, 191, 22⟩) (callEnvC (f269 w.params).1 L 269))]) _ _ s₁ from spliced_cons (((ev_name (d := .lst (ts.map Trip.dt)) rfl).run g₁ s₁ F.se).use F.se.pos fun v h₂ g₂ tk₂ p₂ e₂ r₂ => spliced_nil ?_)) (fun _ _ h => h) fun _ _ h => h
  have F2 := F.ext e₂ p₂
  refine wpAny_evalAll_cons (wpAny_bind (mk_lam (c := 268) (P := 266) F2.se.toOk rfl rfl (codeHd_of F2.se.wd.k (by decide) (code_268 w.params)) (clos := _) rfl rfl (F2.ow _ (.head _)).1 ((F2.ow _ (.head _)).2 266 (.head _)).2.2.2.1 ((F2.ow _ (.head _)).2 266 (.head _)).2.1 fun f g₃ h₃ tk₃ pm c' ctv p₃ x₃ hf hrec T₃ gP₃ zf => wpAny_bind (wpAny_standAt (wpAny_pure (wpAny_evalAll_nil ?_)))))
  have F3 := F2.mut (o' := ownT 266 posG qualG) x₃ p₃ T₃ fun a ha => .inl ⟨ha, by rw [List.mem_singleton.mp ha]; exact gP₃⟩
  have r₃ := r₂.mono (ExtX.grow e₂.sub x₃)
  show wpAny _ _ (call (.builtin "sorted") [v] [(Str.ofString "key", .ref f)]) _ _ _
  have hls : (ts.map Trip.dt).length = ts.length := List.length_map _
  refine Res.use (res_sortedKey (W := WX w mb [266]) (kf := gkey ts) F3.se.toOk r₃ (by rw [hls]; exact h6) fun g' s' i d x ex sh O' hd rx => ?K) p₃ fun u h₄ g₄ tk₄ p₄ e₄ r₄ => ?fin
  case fin =>
    rw [hls, grouped_dt h6] at r₄
    have F4 := F3.ext e₄ p₄
    have := k u g₄ h₄ tk₄ p₄ F4.bs r₄ (F4.ow _ (.head _)).1 ((F4.ow _ (.head _)).2 266 (.head _)).2.2.2.1
    rw [F4.sh]
    exact this
  case K =>
    rw [List.getElem?_map] at hd
    obtain ⟨t, hi, rfl⟩ := Option.map_eq_some_iff.mp hd
    · have hti : tripAt ts i = t := by unfold tripAt; rw [List.getD_eq_getElem?_getD, hi]; rfl
      intro Q' E' q
      obtain ⟨vf, Hf, rf⟩ := F3.se.vars "firsts" (.lst (ts.map fun u => .str u.o)) rfl
      obtain ⟨vp, Hp, rp⟩ := F3.se.vars "pairs" (.lst (ts.map pairDt)) rfl
      have cellOf : ∀ {x : Str} {v : Value}, (callEnvC (f269 w.params).1 L 269).kindOf x = some .cell → Holds (callEnvC (f269 w.params).1 L 269) h₃ x v → ∃ c, (callEnvC (f269 w.params).1 L 269).cells.lookup x = some c ∧ h₃.IsCell c (some v) := fun hk H => by
        rcases H with ⟨z, _⟩ | ⟨_, c, b, _, o⟩
        · rw [hk] at z; cases z
        · exact ⟨c, b, o⟩
      obtain ⟨c1, b1, o1⟩ := cellOf rfl Hf
      obtain ⟨c2, b2, o2⟩ := cellOf rfl Hp
      have gr := Ext.grow x₃.sub ex
      have oldc : ∀ {c : Addr} {v : Value}, h₃.IsCell c (some v) → s'.heap.IsCell c (some v) := fun ⟨o, a, b⟩ => ⟨o, ex.keep _ _ rfl a, b⟩
      have hcell : ∀ x ∈ [(("row" : Str), NameKind.local), ("firsts", .free), ("pairs", .free)], x.2 ≠ NameKind.cell := by decide
      refine call_fnE (W := WX w mb [266]) (ps := ["row"]) (ds := [t.dt]) (ρ := lk [("row", t.dt), ("firsts", .lst (ts.map fun u => .str u.o)), ("pairs", .lst (ts.map pairDt))]) O' ⟨_, gr _ _ hf, rfl⟩ rfl rfl rfl rfl rfl rfl hcell (hrec.keeps gr) rfl (fun y hy => ?_) (by decide +kernel) (.cons rx .nil) rfl ?_ (fun y e hy => ?_) (fun p hp => ?_) fun L' h₁ tk₁ p₁ hL x₁ S => ?_
      · rw [List.mem_singleton.mp hy]; rfl
      · have := R.dp
        show A.depth + 1 < _
        omega
      · simp only [lk, List.lookup_cons] at hy
        split at hy
        · rename_i q'
          cases hy
          rw [eq_of_beq q']
          exact .inl rfl
        · split at hy
          · rename_i q'
            cases hy
            rw [eq_of_beq q']
            exact .inr ⟨rfl, c1, vf, b1, oldc o1, rf.mono gr⟩
          · split at hy
            · rename_i q'
              cases hy
              rw [eq_of_beq q']
              exact .inr ⟨rfl, c2, vp, b2, oldc o2, rp.mono gr⟩
            · cases hy
      · have : p ∈ (callEnvC (f269 w.params).1 L 269).cells := by
          rcases List.mem_cons.mp hp with rfl | hp
          · first | exact .head _ | exact .tail _ (.head _)
          · rw [List.mem_singleton.mp hp]; first | exact .head _ | exact .tail _ (.head _)
        exact Nat.lt_of_lt_of_le (F3.se.cv p this).1 ex.size
      · refine Ev.run (ρ := lk [("row", t.dt), ("firsts", .lst (ts.map fun u => .str u.o)), ("pairs", .lst (ts.map pairDt))]) (d := keyDt (gkey ts) i) ?_ g' _ S Q' (fun _ _ => False) fun v h' g'' tk e r => q v h' g'' tk (x₁.trans e) r
        have hk : keyDt (gkey ts) i = .tup [.int (firstO ts t), .int (firstP ts t)] := by unfold keyDt gkey; rw [hti]
        have hu : ∀ env', ((A.deeper (callEnvC (f269 w.params).1 L 269)).in1.in1.deeper env').units + 128 < cLine := fun env' => by
          have := R.un
          show A.units + 3 + 1 + 1 + 3 + 128 < _
          omega
        rw [hk]
        refine ev_tuple (evl_cons (ev_meth (ev_name rfl) (evl_cons (ev_sub (ev_name (d := .tup [.str t.o, .str t.i, .str t.v]) rfl) ev_int (bin_itemT (by decide) (by decide) rfl)) evl_nil) (mt_firstO (hu _) hok h6 hi) ty_lst PySem.F.plainAttrs_list PySem.F.slot_list_index PySem.F.type_list_index)
          (evl_cons (ev_meth (ev_name rfl) (evl_cons (ev_sliceT (ev_name (d := .tup [.str t.o, .str t.i, .str t.v]) rfl) ev_int) evl_nil) (mt_firstP (hu _) hok h6 hi) ty_lst PySem.F.plainAttrs_list PySem.F.slot_list_index PySem.F.type_list_index) evl_nil))
end
end Mine
end
section
open PySem PySem.W PySem.Spec PySem.Calls PyProof.Rows PySem.Builtin PySem.Builtin.Str
set_option Elab.async false
set_option tactic.hygienic false
set_option linter.unusedVariables false
set_option maxRecDepth 100000
set_option maxHeartbeats 4000000
namespace Mine
section
variable (P : Params)
theorem fb_getitem : findIn (Mine.hd.heap_1 P) (.ref 120) "__getitem__" = some (some (.builtin "dict.__getitem__")) := by kernel_rfl
theorem fb_missing : findIn (Mine.hd.heap_1 P) (.ref 120) "__missing__" = some (some (.ref 110)) := by kernel_rfl
theorem fb_ga : findIn (Mine.hd.heap_1 P) (.ref 120) "__getattribute__" = some (some (.builtin "collections.defaultdict.__getattribute__")) := by kernel_rfl
theorem fb_gx : findIn (Mine.hd.heap_1 P) (.ref 120) "__getattr__" = some none := by kernel_rfl
theorem fb_factory : findIn (Mine.hd.heap_1 P) (.ref 120) "default_factory" = some (some (.builtin "collections.defaultdict.default_factory")) := by kernel_rfl
theorem fb_values : findIn (Mine.hd.heap_1 P) (.ref 120) "values" = some (some (.builtin "dict.values")) := by kernel_rfl
theorem fb_items : findIn (Mine.hd.heap_1 P) (.ref 120) "items" = some (some (.builtin "dict.items")) := by kernel_rfl
theorem fb_len : findIn (Mine.hd.heap_1 P) (.ref 120) "__len__" = some (some (.builtin "dict.__len__")) := by kernel_rfl
theorem fb_freeze : findIn (Mine.hd.heap_1 P) (.ref 120) "freeze" = some (some (.ref 117)) := by kernel_rfl
theorem fb_setattr : findIn (Mine.hd.heap_1 P) (.ref 120) "__setattr__" = some (some (.builtin "object.__setattr__")) := by kernel_rfl
theorem fb_init : findIn (Mine.hd.heap_1 P) (.ref 120) "__init__" = some (some (.builtin "collections.defaultdict.__init__")) := by kernel_rfl
theorem fb_new : findIn (Mine.hd.heap_1 P) (.ref 120) "__new__" = some (some (.builtin "dict.__new__")) := by kernel_rfl
theorem fb_frozen : findIn (Mine.hd.heap_1 P) (.ref 120) "_frozen" = some none := by kernel_rfl
theorem mb_deque : mroIn (Mine.hd.heap_1 P) 120 (.type "collections.deque") = some false := by kernel_rfl
theorem mb_dict : mroIn (Mine.hd.heap_1 P) 120 (.type "dict") = some true := by kernel_rfl
theorem mb_dd : mroIn (Mine.hd.heap_1 P) 120 (.type "collections.defaultdict") = some true := by kernel_rfl
theorem mb_od : mroIn (Mine.hd.heap_1 P) 120 (.type "collections.OrderedDict") = some false := by kernel_rfl
theorem mb_self : mroIn (Mine.hd.heap_1 P) 120 (.ref 120) = some true := by kernel_rfl
theorem mb_mod : mroIn (Mine.hd.heap_1 P) 120 (.type "module") = some false := by kernel_rfl
theorem mb_type : mroIn (Mine.hd.heap_1 P) 120 (.type "type") = some false := by kernel_rfl
theorem mb_obj : mroIn (Mine.hd.heap_1 P) 120 (.type "object") = some true := by kernel_rfl
end
theorem fn_110 (P : Params) : typeIn (Mine.hd.heap_1 P) (.ref 110) = some (.type "function") := by kernel_rfl
/-- a book, a floor: the object's dict, the factory, what it holds -/
noncomputable abbrev fddObj (dx f : Addr) (es : Array DictEntry) (ep : Nat) : Obj := { cls := .ref 120, dict := some dx, data := .dict es ep, slots := #[some (.ref f)] }
/-- what such an object shows at its keys -/
structure Keyed (prog : Program) (w : World) (es : Array DictEntry) (kvs : List (Str × Value)) : Prop where
  keys : KeysOf (strKind prog w) es
  prs : Pairs (strKind prog w) es.toList kvs
  nd : (kvs.map (·.1)).Nodup
section
variable {prog : Program} {w : World} {A : Around} {E : Value → Shared → Prop} {g h h' : Heap} {s : Shared} {es : Array DictEntry} {kvs : List (Str × Value)} {k : Str} {t : Tok} {b dx f : Addr} {ep : Nat}
theorem keyed_get {d : Addr} {o : Obj} {Q : Option Value → Shared → Prop} (ho : s.heap.get? d = some o) (hd : o.data = .dict es ep) (K : Keyed prog w es kvs) (h : Q (valueAt kvs k) { s with toks := s.toks + 1 }) : wpAny (model prog w) A (dictGet d (.str k t)) Q E s := by
  unfold dictGet
  refine wpAny_holding (wpAny_bind ((strKind prog w).pyHash (strKind_is prog w k t) (wpAny_bind (wpAny_dictFind_of (s := { s with toks := s.toks + 1 }) (strKind_is prog w k t) ho hd K.keys ?_))))
  rw [← K.prs.find k, Array.find?_toList, ← findBy, findBy_of_findIdx?] at h
  cases hi : es.findIdx? fun e => (strKind prog w).is k e.key with
  | none => rw [hi] at h; exact wpAny_pure h
  | some i => rw [hi] at h; exact wpAny_bind (wpAny_dictEntries (s := { s with toks := s.toks + 1 }) ho hd (wpAny_pure h))
theorem typeOf_fdd {M : Model} {es : Array DictEntry} {ep : Nat} (ho : h.get? b = some (fddObj dx f es ep)) : Looks M h (typeOf (.ref b)) (.ref 120) := (Looks.ld (part := none) ho).andThen .now
theorem inst_fdd {M : Model} {es : Array DictEntry} {ep : Nat} {c : Value} {r : Bool} (X : (Mine.hd.heap_1 w.params).In h) (ho : h.get? b = some (fddObj dx f es ep)) (e : mroIn (Mine.hd.heap_1 w.params) 120 c = some r) : Looks M h (isInstance (.ref b) c) r := (typeOf_fdd ho).andThen (looks_mroIn X e)
theorem check_meth {M : Model} {i owner n : String} {self : Value} {rest : List Value} {kw : List (Str × Value)} {Q : Unit → Shared → Prop}
    (hk : builtinKind i = some .method) (hs : splitId i = some (owner, n)) (hi : Looks M s.heap (isInstance self (.type owner)) true) (ha : argsOk i ⟨self :: rest, kw⟩) (q : Q () s) :
    wpAny M A (checkBuiltinCall i ⟨self :: rest, kw⟩) Q E s := by
  unfold checkBuiltinCall
  simp only [hk, hs]
  refine wpAny_bind (hi.here ?_)
  rw [if_neg (by decide)]
  unfold argsOk at ha
  cases e : Manifest.signature? i with
  | none => exact wpAny_pure q
  | some sig =>
    rw [e] at ha
    show wpAny M A (Bind.checkArgs i sig ⟨self :: rest, kw⟩) Q E s
    rw [show Bind.checkArgs i sig ⟨self :: rest, kw⟩ = pure () from ha]
    exact wpAny_pure q
theorem plain_dgi : plainId "dict.__getitem__" = true := by decide +kernel
/-- dict.__getitem__ of such an object -/
theorem call_getitem {es : Array DictEntry} {ep : Nat} {Q : Value → Shared → Prop} (X : (Mine.hd.heap_1 w.params).In s.heap) (ho : s.heap.get? b = some (fddObj dx f es ep)) (K : Keyed prog w es kvs) (hb : b ≠ sysModules)
    (hit : ∀ v, valueAt kvs k = some v → Q v { s with toks := s.toks + 1 }) (miss : valueAt kvs k = none → wpAny (model prog w) A.in1 (call (.ref 110) [.ref b, .str k t]) Q E { s with toks := s.toks + 1 }) :
    wpAny (model prog w) A (call (.builtin "dict.__getitem__") [.ref b, .str k t]) Q E s := by
  have I1 := inst_fdd (M := model prog w) X ho (mb_dict w.params)
  refine wpAny_call (codeAny_call_builtin plain_dgi entry_dict_getitem (@check_meth _ _ _ (model prog w) "dict.__getitem__" "dict" "__getitem__" (.ref b) [.str k t] [] _ (by decide +kernel) (by decide +kernel) I1 (args_dict_getitem _ _) ?_))
  unfold Builtin.«dict.__getitem__»
  refine wpAny_bind (wpAny_bind (wpAny_pure (wpAny_bind (wpAny_pure (wpAny_bind (wpAny_pure (wpAny_pure ?_)))))))
  refine wpAny_bind (keyed_get ho rfl K ?_)
  cases hv : valueAt kvs k with
  | some v => exact wpAny_pure (hit v hv)
  | none =>
    obtain ⟨hp, gg, d, tk, os⟩ := s
    dsimp only at X ho
    have hb' : (b == sysModules) = false := beq_false_of_ne hb
    have L0 := typeOf_fdd (M := model prog w) ho
    have L1 : Looks (model prog w) hp (typeLookup (.ref 120) "__missing__") (some (.ref 110)) := looks_findIn X (fb_missing w.params)
    have L2 : Looks (model prog w) hp (bindSpecial (.ref 110) (.ref b)) (.ref 110, [.ref b]) := bind_fn X _ (fn_110 w.params)
    unfold Builtin.Dict.missed callSpecial? specialOf
    rw [hb']
    repeat ((fail_if_success (with_reducible show wpAny _ _ (call _ _ _) _ _ _)); lk)
    refine wpAny_mono (miss hv) (fun v s' q => ?_) fun _ _ z => z
    repeat lk
    exact q
/-- b[k] -/
theorem get_fdd {es : Array DictEntry} {ep : Nat} {Q : Value → Shared → Prop} (X : (Mine.hd.heap_1 w.params).In s.heap) (ho : s.heap.get? b = some (fddObj dx f es ep)) (K : Keyed prog w es kvs) (hb : b ≠ sysModules)
    (hit : ∀ v, valueAt kvs k = some v → Q v { s with toks := s.toks + 1 }) (miss : valueAt kvs k = none → wpAny (model prog w) A.in1 (call (.ref 110) [.ref b, .str k t]) Q E { s with toks := s.toks + 1 }) :
    wpAny (model prog w) A (getItem (.ref b) (.str k t)) Q E s := by
  have h0 := call_getitem (A := A) (t := t) (E := E) X ho K hb hit miss
  obtain ⟨hp, gg, d, tk, os⟩ := s
  dsimp only at X ho
  have L0 := typeOf_fdd (M := model prog w) ho
  have L1 : Looks (model prog w) hp (typeLookup (.ref 120) "__getitem__") (some (.builtin "dict.__getitem__")) := looks_findIn X (fb_getitem w.params)
  have L2 : Looks (model prog w) hp (isSubtype (.ref 120) (.type "collections.deque")) false := looks_mroIn X (mb_deque w.params)
  have L3 : Looks (model prog w) hp (bindSpecial (.builtin "dict.__getitem__") (.ref b)) (.builtin "dict.__getitem__", [.ref b]) := Looks.of_pure (slot_dict_getitem.bind _)
  unfold getItem sequenceKey callSpecial? specialOf seqItemTypes
  repeat ((fail_if_success (with_reducible show wpAny _ _ (call _ _ _) _ _ _)); lk)
  refine wpAny_mono h0 (fun v s' q => ?_) fun _ _ z => z
  repeat lk
  exact q
theorem sub_fdd {value slice : Expr} {es : Array DictEntry} {ep : Nat} {Q : Value → Shared → Prop} (X : (Mine.hd.heap_1 w.params).In s.heap) (ho : s.heap.get? b = some (fddObj dx f es ep)) (K : Keyed prog w es kvs) (hb : b ≠ sysModules)
    (hit : ∀ v, valueAt kvs k = some v → Q v { s with toks := s.toks + 1 }) (miss : valueAt kvs k = none → wpAny (model prog w) A.in1 (call (.ref 110) [.ref b, .str k t]) Q E { s with toks := s.toks + 1 })
    (hs : Plain slice := by intro _ _; rfl) : wpAny (model prog w) A (subscriptTail value slice (.ref b) (.str k t)) Q E s := by
  have h0 := get_fdd (A := A) (t := t) (E := E) X ho K hb hit miss
  obtain ⟨hp, gg, d, tk, os⟩ := s
  dsimp only at X ho
  have L0 := typeOf_fdd (M := model prog w) ho
  have L1 : Looks (model prog w) hp (typeLookup (.ref 120) "__getitem__") (some (.builtin "dict.__getitem__")) := looks_findIn X (fb_getitem w.params)
  unfold subscriptTail getitemInPython specialOf
  repeat ((fail_if_success (with_reducible show wpAny _ _ (subscripted _ _ _ _) _ _ _)); lk)
  rw [hs]
  exact wpAny_operating (wpAny_mono h0 (fun r s₃ h₃ => wpAny_bind (wpAny_letTemporaryGo (wpAny_pure h₃))) fun _ _ x => x)
end
end Mine
end
section
open PySem PySem.W PySem.Spec PySem.Calls PyProof.Rows PySem.Builtin PySem.Builtin.Str
set_option Elab.async false
set_option tactic.hygienic false
set_option linter.unusedVariables false
set_option maxRecDepth 100000
set_option maxHeartbeats 4000000
namespace Mine
theorem slot_dd_ga : Slot "collections.defaultdict" "__getattribute__" "collections.defaultdict.__getattribute__" :=
  .of (owner := "collections.defaultdict") (n := "__getattribute__") (by rw [typeLookup_type, builtinLookup_eq_fast]; kernel_rfl) (by decide +kernel) (by decide +kernel) (by decide +kernel)
    (by first | exact .inl (by decide +kernel) | exact .inr (by decide +kernel)) (by rw [isSubtype_type]; kernel_rfl)
theorem entry_dd_ga : entryFor table "collections.defaultdict.__getattribute__" = some Builtin.«object.__getattribute__» :=
  entryFor_alias (id' := "object.__getattribute__") (by kernel_rfl) (by first | rfl | decide +kernel | (unfold String.splitOn; simp +decide [String.splitOnAux])) (by decide +kernel) (by kernel_rfl)
theorem args_dd_ga (a b : Value) : argsOk "collections.defaultdict.__getattribute__" ⟨[a, b], []⟩ := by unfold argsOk; kernel_rfl
theorem kind_dd_ga : builtinKind "collections.defaultdict.__getattribute__" = some .slot := by decide +kernel
theorem split_dd_ga : splitId "collections.defaultdict.__getattribute__" = some ("collections.defaultdict", "__getattribute__") := by decide +kernel
/-- an object's own dict -/
noncomputable abbrev emptyD : Obj := { cls := .type "dict", data := .dict #[] }
theorem fo_frozen0 (P : Params) : findObj (Mine.hd.heap_1 P) 120 (some emptyD) "_frozen" = some .missing := by kernel_rfl
theorem fo_factory0 (P : Params) : findObj (Mine.hd.heap_1 P) 120 (some emptyD) "default_factory" = some (.bind (.builtin "member_descriptor.__get__") (.builtin "collections.defaultdict.default_factory")) := by kernel_rfl
theorem pk_cut (P : Params) (pr : Program) : ∃ n, peek (Mine.hd.heap_1 P) ⟨pr, P⟩ (typeNameCut 100 (.ref 120)) = some n ∧ n.length ≤ 50 := ⟨_, rfl, by decide +kernel⟩
section
variable {prog : Program} {w : World} {A : Around} {E : Value → Shared → Prop} {g h h' : Heap} {s : Shared} {es : Array DictEntry} {kvs : List (Str × Value)} {k : Str} {t : Tok} {b dx f : Addr} {ep : Nat}
theorem inst_at {od : Obj} (ho : h.get? b = some (fddObj dx f es ep)) (hd : h.get? dx = some od) : InstAt h b (fddObj dx f es ep) 120 (some od) := ⟨ho, rfl, rfl, hd⟩
theorem gab_open {name : Str} {tk : Tok} {fill expr : Bool} {Q : Value → Shared → Prop} (X : (Mine.hd.heap_1 w.params).In s.heap) (ho : s.heap.get? b = some (fddObj dx f es ep))
    (h : wpAny (model prog w) A.in1 (Builtin.«object.__getattribute__» ⟨[.ref b, .str name tk], []⟩) (fun fin s' => ∃ v, fin = .done (.ret v) ∧ wpAny (model prog w) A (handedOut v) Q E s') (fun e s' => wpAny (model prog w) A (getattributeRaised (.ref b) (.str name tk) (.ref 120) e none fill expr) Q E s') s) :
    wpAny (model prog w) A (getAttrBy (.ref b) (.str name tk) fill expr) Q E s := by
  have L0 := typeOf_fdd (M := model prog w) ho
  have LD := inst_fdd (M := model prog w) X ho (mb_dd w.params)
  have LK : Looks (model prog w) s.heap (hookBefore (.ref 120)) none := looks_hook X (fb_gx w.params)
  unfold getAttrBy
  refine wpAny_holding (wpAny_bind (L0 _ _ _ _ (fun _ _ e => e) (wpAny_bind (looks_findIn X (fb_ga w.params) _ _ _ _ (fun _ _ e => e) ?_))))
  dsimp only
  rw [if_neg (by decide +kernel)]
  unfold getAttrByItsOwn
  refine wpAny_bind (LK _ _ _ _ (fun _ _ e => e) (wpAny_bind (wpAny_attempt (wpAny_holding ?_))))
  unfold callGetattribute
  rw [show (expr && onTheHeap (Value.builtin "collections.defaultdict.__getattribute__")) = false from Bool.and_false _, if_neg (by decide)]
  unfold boundAndCalled
  rw [slot_dd_ga.bind]
  refine wpAny_bind (wpAny_pure ?_)
  show wpAny _ _ (call (.builtin "collections.defaultdict.__getattribute__") [.ref b, .str name tk]) _ _ _
  refine wpAny_call (codeAny_call_builtin slot_dd_ga.plain entry_dd_ga ?_)
  refine @check_slot (model prog w) _ _ s "collections.defaultdict.__getattribute__" "collections.defaultdict" "__getattribute__" (.ref b) [.str name tk] [] _ kind_dd_ga split_dd_ga LD (args_dd_ga _ _) ?_
  refine wpAny_mono h (fun fin s' z => ?_) fun _ _ z => z
  obtain ⟨v, rfl, z⟩ := z
  exact z
/-- an own attribute -/
theorem gab_value {od : Obj} {v : Value} {name : Str} {tk : Tok} {fill expr : Bool} {Q : Value → Shared → Prop} (X : (Mine.hd.heap_1 w.params).In s.heap) (ho : s.heap.get? b = some (fddObj dx f es ep)) (hd : s.heap.get? dx = some od) (hf : findObj (Mine.hd.heap_1 w.params) 120 (some od) name = some (.value v)) (hh : handedIn v = true)
    (h : Q v s) : wpAny (model prog w) A (getAttrBy (.ref b) (.str name tk) fill expr) Q E s := by
  refine gab_open X ho ?_
  have L0 := typeOf_fdd (M := model prog w) ho
  have L1 := looks_find (M := model prog w) X (inst_at ho hd) hf
  obtain ⟨hp, gg, d, tk, os⟩ := s
  dsimp only at L0 L1
  unfold Builtin.«object.__getattribute__»
  refine wpAny_bind (wpAny_pure (wpAny_bind (wpAny_pure (wpAny_bind (L0.at (wpAny_bind (L1.at (wpAny_pure ⟨_, rfl, handed_on hh h⟩)))))))) 
/-- none such -/
theorem gab_missing {od : Obj} {name : Str} {tk : Tok} {Q : Option Value → Shared → Prop} (hA : A.handled = none) (X : (Mine.hd.heap_1 w.params).In s.heap) (ho : s.heap.get? b = some (fddObj dx f es ep)) (hd : s.heap.get? dx = some od) (hf : findObj (Mine.hd.heap_1 w.params) 120 (some od) name = some .missing) (hn : name.length ≤ 50)
    (h : ∀ h' tk, (∀ b o, s.heap.get? b = some o → h'.get? b = some o) → Q none { s with heap := h', toks := tk }) : wpAny (model prog w) A (getAttrBy? (.ref b) (.str name tk)) Q E s := by
  obtain ⟨n, pk, nl⟩ := pk_cut w.params prog
  unfold getAttrBy?
  refine wpAny_bind (wpAny_attempt (gab_open X ho ?_))
  have L0 := typeOf_fdd (M := model prog w) ho
  have L1 := looks_find (M := model prog w) X (inst_at ho hd) hf
  have L2 : Looks (model prog w) s.heap (typeNameCut 100 (.ref 120)) n := Looks.of_peek X pk
  obtain ⟨hp, gg, d, tk, os⟩ := s
  dsimp only at L0 L1 L2
  unfold Builtin.«object.__getattribute__»
  refine wpAny_bind (wpAny_pure (wpAny_bind (wpAny_pure (wpAny_bind (L0.at (wpAny_bind (L1.at ?_)))))))
  unfold Builtin.ObjectAttr.noSuchAttribute typeNameOfCut shownTypeOf
  repeat ((fail_if_success (with_reducible show wpAny _ _ (raiseAttrError _ _ _) _ _ _)); lk)
  have hA' : A.in1.handled = none := hA
  refine wpAny_raiseAttrError hA' (fun h' tk' e x => ?_) ?_
  · obtain ⟨t, u, he⟩ := x.there
    have L3 : Looks (model prog w) h' (isInstance (.ref e) (.type "AttributeError")) true := by
      refine ((Looks.ld (part := none) he).andThen .now).andThen ?_
      exact Looks.of_pure sub_AttributeError
    unfold getattributeRaised hookBehind hookOrError
    repeat (first | (with_reducible refine wpAny_throw ?_) | lk)
    exact h _ _ x.keeps
  · have e1 : ("'" : Str).length = 1 := by decide +kernel
    have e2 : (Str.ofString (toString "'" ++ toString n ++ toString "' object has no attribute '")).length ≤ 90 := by
      rw [PySem.ofString_length]
      show ("'" ++ n ++ "' object has no attribute '").length ≤ 90
      rw [String.length_append, String.length_append]
      have : "' object has no attribute '".length = 27 := by decide
      have : "'".length = 1 := by decide
      omega
    rw [len_app, len_app, e1]
    have : sizeLine = 16777216 := rfl
    omega
end
end Mine
end
section
open PySem PySem.W PySem.Spec PySem.Calls PyProof.Rows PySem.Builtin PySem.Builtin.Str
set_option Elab.async false
set_option tactic.hygienic false
set_option linter.unusedVariables false
set_option maxRecDepth 100000
set_option maxHeartbeats 4000000
namespace Mine
/-- a bound method of the model's own -/
noncomputable abbrev bmObj (b : Addr) : Obj := { cls := .type "builtin_function_or_method", data := .fields #[.builtin "collections.defaultdict.__missing__", .ref b] }
theorem entry_dd_missing : entryFor table "collections.defaultdict.__missing__" = some Builtin.«collections.defaultdict.__missing__» := entryFor_of_tree (by kernel_rfl)
theorem quiet_dd_missing (a : Args) : (Code.builtin "collections.defaultdict.__missing__" a).quiet = true := Code.quiet_builtin _ (by decide +kernel)
theorem entry_setdef : entryFor table "dict.setdefault" = some Builtin.«dict.setdefault» := entryFor_of_tree (by kernel_rfl)
theorem quiet_setdef (a : Args) : (Code.builtin "dict.setdefault" a).quiet = true := Code.quiet_builtin _ (by decide +kernel)
theorem pk_bound (P : Params) : ∃ cd, clsIn (Mine.hd.heap_1 P) 120 = some cd ∧ cd.qualname = "FreezableDefaultDict" := ⟨_, rfl, rfl⟩
theorem sig_run (a b : Value) : (match Manifest.signature? "collections.defaultdict.__missing__" with | some sig => Bind.checkArgs "collections.defaultdict.__missing__" { sig with full := s!"{("FreezableDefaultDict" : Str).toString}.{Bind.lastOf "collections.defaultdict.__missing__"}" } ⟨[a, b], []⟩ | none => pure ()) = pure () := by kernel_rfl
theorem kind_dd_missing : builtinKind "collections.defaultdict.__missing__" = some .method := by decide +kernel
theorem vararg_dd_missing : Manifest.varargsMethods.contains "collections.defaultdict.__missing__" = false := by decide +kernel
theorem type_120 (P : Params) : typeIn (Mine.hd.heap_1 P) (.ref 120) = some (.type "type") := by kernel_rfl
section
variable {prog : Program} {w : World} {A : Around} {E : Value → Shared → Prop} {g h h' : Heap} {s : Shared} {es : Array DictEntry} {kvs : List (Str × Value)} {k : Str} {t : Tok} {b dx f : Addr} {ep : Nat}
theorem check_bound {x : Value} {Q : Unit → Shared → Prop} (X : (Mine.hd.heap_1 w.params).In s.heap) (ho : s.heap.get? b = some (fddObj dx f es ep)) (h : Q () s) : wpAny (model prog w) A (checkBoundCall "collections.defaultdict.__missing__" ⟨[.ref b, x], []⟩) Q E s := by
  obtain ⟨hp, gg, d, tk, os⟩ := s
  dsimp only at X ho
  obtain ⟨cd, hcd, hq⟩ := pk_bound w.params
  have L0 := typeOf_fdd (M := model prog w) ho
  have L1 := inst_fdd (M := model prog w) X ho (mb_mod w.params)
  have L2 := looks_clsIn (M := model prog w) X hcd
  have L3 := looks_typeIn (M := model prog w) X (type_120 w.params)
  unfold checkBoundCall
  cases e : Manifest.signature? "collections.defaultdict.__missing__" with
  | none => exact wpAny_pure h
  | some sig =>
    have run : Bind.checkArgs "collections.defaultdict.__missing__" { sig with full := s!"{cd.qualname.toString}.{Bind.lastOf "collections.defaultdict.__missing__"}" } ⟨[.ref b, x], []⟩ = pure () := by
      have := sig_run (.ref b) x
      rw [e] at this
      rw [hq]
      exact this
    dsimp only
    rw [kind_dd_missing]
    dsimp only
    rw [if_neg (by decide)]
    refine wpAny_bind (L1.at ?_)
    rw [vararg_dd_missing, if_neg (by decide)]
    unfold isType loadHead
    repeat ((fail_if_success (with_reducible show wpAny _ _ (Bind.checkArgs _ _ _) _ _ _)); lk)
    rw [run]
    exact wpAny_pure h
theorem borrowed_of {M : Model} {c : Value} {pos : List Value} {Q : Value → Shared → Prop} (h : wpAny M A (call c pos) Q E s) : wpAny M A (callBorrowed c pos) Q E s := fun Γ p hΓ => by
  obtain ⟨r, s', hr, hk⟩ := h Γ p hΓ
  refine ⟨r, s', hr, ?_⟩
  match r, hk with
  | .ok (.ret v), hk => exact hk
  | .error e, hk => exact hk
  | .ok .next, hk => exact hk
  | .ok .brk, hk => exact hk
  | .ok .cont, hk => exact hk
theorem plain_dd_missing : plainId "collections.defaultdict.__missing__" = true := by decide +kernel
theorem plain_setdef : plainId "dict.setdefault" = true := by decide +kernel
/-- the factory's call, then the new entry -/
theorem keyed_push {v : Value} (K : Keyed prog w es kvs) (hn : valueAt kvs k = none) : Keyed prog w (es.push ⟨(strKind prog w).hash k, .str k t, v⟩) (kvs ++ [(k, v)]) := by
  have nm : k ∉ kvs.map (·.1) := by
    intro hm
    obtain ⟨p, hp, rfl⟩ := List.mem_map.mp hm
    obtain ⟨i, hi⟩ := List.mem_iff_getElem?.mp hp
    rw [valueAt_of_get K.nd (i := i) (k := p.1) (v := p.2) (by rw [hi])] at hn
    cases hn
  refine ⟨K.keys.push (strKind_is prog w k t) v, ?_, ?_⟩
  · rw [Array.toList_push]
    exact K.prs.append (strKind_is prog w k t) _ v
  · rw [List.map_append, List.nodup_append]
    refine ⟨K.nd, by simp, fun x hx y hy => ?_⟩
    rw [List.map_cons, List.map_nil, List.mem_singleton] at hy
    subst hy
    exact fun q => nm (q ▸ hx)
theorem call_bm {m : Addr} {Q : Value → Shared → Prop} (X : (Mine.hd.heap_1 w.params).In s.heap) (hm : s.heap.get? m = some (bmObj b)) (ho : s.heap.get? b = some (fddObj dx f es ep)) (K : Keyed prog w es kvs) (hn : valueAt kvs k = none) (hb : b ≠ sysModules) (hz : es.size ≤ 1000) (hf : ∃ o fd, s.heap.get? f = some o ∧ o.data = .func fd)
    (fac : wpAny (model prog w) A.in1 (call (.ref f) []) (fun v s' => (Mine.hd.heap_1 w.params).In s'.heap ∧ s'.heap.get? b = some (fddObj dx f es ep) ∧ ∀ h'' ep', Heap.SameBut b s'.heap h'' → h''.get? b = some (fddObj dx f (es.push ⟨(strKind prog w).hash k, .str k t, v⟩) ep') → Q v { s' with heap := h'', toks := s'.toks + 1 }) E s) :
    wpAny (model prog w) A (call (.ref m) [.str k t]) Q E s := by
  refine wpAny_call (codeAny_of_tree ?_)
  show wpAny _ A.in1 (callAny (.ref m) _) _ _ s
  unfold callAny
  refine wpAny_bind (wpAny_load hm ?_)
  repeat ((fail_if_success (with_reducible show wpAny _ _ (checkBoundCall _ _) _ _ _)); lk)
  refine check_bound X ho (wpAny_pure ⟨quiet_dd_missing _, codeAny_builtin entry_dd_missing ?_⟩)
  rw [Around.under_plainId plain_dd_missing]
  unfold Builtin.«collections.defaultdict.__missing__»
  obtain ⟨of, fd, hof, hdf⟩ := hf
  have LF : Looks (model prog w) s.heap (borrowsExactly (.ref f)) true := by
    unfold borrowsExactly
    refine (Looks.ld (part := none) hof).andThen ?_
    rw [hdf]
    exact .now
  obtain ⟨hp, gg, d, tk, os⟩ := s
  dsimp only at X hm ho LF
  unfold Builtin.Collections_defaultdict.factory? slotAt callOutOfASlot
  repeat ((fail_if_success (with_reducible show wpAny _ _ (callBorrowed _ _) _ _ _)); lk)
  refine borrowed_of (wpAny_mono fac (fun v s' q => ?_) fun _ _ z => z)
  obtain ⟨X', ho', fin⟩ := q
  refine wpAny_pure ⟨quiet_setdef _, codeAny_builtin entry_setdef ?_⟩
  rw [Around.under_plainId plain_setdef]
  have L0 := typeOf_fdd (M := model prog w) ho'
  have L1 : Looks (model prog w) s'.heap (isSubtype (.ref 120) (.type "collections.OrderedDict")) false := looks_mroIn X' (mb_od w.params)
  have hb' : (b == sysModules) = false := beq_false_of_ne hb
  have hfind : (es.findIdx? fun e => (strKind prog w).is k e.key) = none := by
    refine Array.findIdx?_eq_none_iff.mpr fun e he => ?_
    have h1 := K.prs.find k
    rw [hn, Option.map_eq_none_iff, List.find?_eq_none] at h1
    simpa using h1 e (Array.mem_toList_iff.mpr he)
  obtain ⟨hp', gg', d', tk', os'⟩ := s'
  dsimp only at L0 L1 fin
  unfold Builtin.«dict.setdefault» Builtin.Dict.keyAndDefault Builtin.Dict.notOrdered Builtin.Dict.nameIsSure
  repeat ((fail_if_success (with_reducible show wpAny _ _ (dictSetDefault _ _ _) _ _ _)); lk)
  rw [hb', if_neg (by decide)]
  refine wpAny_bind ?_
  unfold dictSetDefault
  refine wpAny_holding (wpAny_bind ?_)
  refine (strKind prog w).pyHash (strKind_is prog w k t) ?_
  refine wpAny_bind (wpAny_dictFind_of (s := ⟨hp', gg', d', tk' + 1, os'⟩) (es := es) (strKind_is prog w k t) ho' rfl K.keys ?_)
  rw [hfind]
  refine wpAny_bind (wpAny_rule (wpAny_bind (wpAny_updateDictKeys (s := ⟨hp', gg', d', tk' + 1, os'⟩) ho' rfl ?_ (by rw [sizeLine_eq]; omega) (Nat.le_of_eq (Array.size_push ..)))))
  refine wpAny_pure (wpAny_pure ?_)
  refine fin _ (ep + 1) (Heap.SameBut.update ..) ?_
  exact Heap.get?_update_self _ ho' rfl
end
end Mine
end
section
open PySem PySem.W PySem.Spec PySem.Calls PyProof.Rows PySem.Builtin PySem.Builtin.Str
set_option Elab.async false
set_option tactic.hygienic false
set_option linter.unusedVariables false
set_option maxRecDepth 100000
set_option maxHeartbeats 4000000
namespace Mine
theorem slot_md_get : Slot "method_descriptor" "__get__" "method_descriptor.__get__" :=
  .of (owner := "method_descriptor") (n := "__get__") (by rw [typeLookup_type, builtinLookup_eq_fast]; kernel_rfl) (by decide +kernel) (by decide +kernel) (by decide +kernel)
    (by first | exact .inl (by decide +kernel) | exact .inr (by decide +kernel)) (by rw [isSubtype_type]; kernel_rfl)
theorem entry_md_get : entryFor table "method_descriptor.__get__" = some Builtin.«method_descriptor.__get__» := entryFor_of_tree (by kernel_rfl)
theorem args_md_get (a b c : Value) : argsOk "method_descriptor.__get__" ⟨[a, b, c], []⟩ := by unfold argsOk; kernel_rfl
theorem al_missing (P : Params) : alongIn (Mine.hd.heap_1 P) "__missing__" [.type "collections.defaultdict", .type "dict", .type "object"] = some (some (.builtin "collections.defaultdict.__missing__")) := by kernel_rfl
theorem own_missing (P : Params) : ownIn (Mine.hd.heap_1 P) "__missing__" (.type "collections.defaultdict") = some (some (.builtin "collections.defaultdict.__missing__")) := by kernel_rfl
theorem pk_mro120 (P : Params) (pr : Program) : peek (Mine.hd.heap_1 P) ⟨pr, P⟩ (mroOf (.ref 120)) = some [.ref 120, .type "collections.defaultdict", .type "dict", .type "object"] := by kernel_rfl
theorem ty_missing : typeOf (.builtin "collections.defaultdict.__missing__") = pure (.type "method_descriptor") := by show builtinType _ = _; rw [builtinType_eq_fast]; kernel_rfl
theorem ro_120 (P : Params) : nsIn (Mine.hd.heap_1 P) cStatics "thirdparty.any" = some none := by kernel_rfl
theorem told_missing : Manifest.toldItsClass.contains "collections.defaultdict.__missing__" = false := by decide +kernel
section
variable {prog : Program} {w : World} {A : Around} {E : Value → Shared → Prop} {g h h' : Heap} {s : Shared} {es : Array DictEntry} {kvs : List (Str × Value)} {k : Str} {t : Tok} {b dx f : Addr} {ep : Nat}
/-- the method of the super's, bound -/
theorem md_get {Q : Value → Shared → Prop} (X : (Mine.hd.heap_1 w.params).In s.heap) (ho : s.heap.get? b = some (fddObj dx f es ep)) (h : Q (.ref s.heap.objs.size) { s with heap := s.heap.push (bmObj b) }) :
    wpAny (model prog w) A (call (.builtin "method_descriptor.__get__") [.builtin "collections.defaultdict.__missing__", .ref b, .ref 120]) Q E s := by
  have T0 : Looks (model prog w) s.heap (isInstance (.builtin "collections.defaultdict.__missing__") (.type "method_descriptor")) true := (Looks.of_pure ty_missing).andThen (Looks.of_pure (by rw [isSubtype_type]; kernel_rfl))
  have I1 : Looks (model prog w) s.heap (isSubtype (.ref 120) (.type "collections.defaultdict")) true := looks_mroIn X (mb_dd w.params)
  have L0 := typeOf_fdd (M := model prog w) ho
  refine wpAny_call (codeAny_call_builtin slot_md_get.plain entry_md_get (@check_slot (model prog w) _ _ s "method_descriptor.__get__" "method_descriptor" "__get__" (.builtin "collections.defaultdict.__missing__") [.ref b, .ref 120] [] _ (by decide +kernel) (by decide +kernel) T0 (args_md_get _ _ _) ?_))
  obtain ⟨hp, gg, d, tk, os⟩ := s
  dsimp only at X ho L0 I1
  have own : ".".intercalate ("collections.defaultdict.__missing__".cutAt '.').dropLast = "collections.defaultdict" := by kernel_rfl
  have I2 : Looks (model prog w) hp (isSubtype (.ref 120) (.type (".".intercalate ("collections.defaultdict.__missing__".cutAt '.').dropLast))) true := by rw [own]; exact I1
  unfold Builtin.«method_descriptor.__get__»
  repeat lk
  exact h
noncomputable abbrev supObj (b : Addr) : Obj := ks_superObj 120 b 120
theorem super_get {so : Addr} {Q : Value → Shared → Prop} (X : (Mine.hd.heap_1 w.params).In s.heap) (hso : s.heap.get? so = some (supObj b)) (ho : s.heap.get? b = some (fddObj dx f es ep)) (ne : b ≠ 120)
    (h : Q (.ref s.heap.objs.size) { s with heap := s.heap.push (bmObj b), toks := s.toks + 1 }) : wpAny (model prog w) A (getAttr (.ref so) "__missing__" true) Q E s := by
  have hT : ∀ t', ({ s with toks := t' } : Shared).TypeIs (.ref so) "super" := fun _ => ⟨_, hso, rfl⟩
  have hlk := F.ks_slot_super_ga.lookup
  unfold getAttr getAttrBy
  refine wpAny_bind (wpAny_mkText (wpAny_holding (wpAny_bind (wpAny_typeOf (hT _) (wpAny_bind (wpAny_of_eq hlk ?_))))))
  show wpAny _ _ (getAttrByItsOwn (.ref so) (.str "__missing__" s.toks) (.type "super") (.builtin "super.__getattribute__") true true) _ _ _
  unfold getAttrByItsOwn hookBefore callGetattribute boundAndCalled
  refine wpAny_bind (wpAny_of_eq (show (if onTheHeap (.type "super") then typeLookup (.type "super") "__getattr__" else pure none) = pure none from rfl) ?_)
  refine wpAny_bind (wpAny_attempt (wpAny_holding ?_))
  show wpAny _ _ (bindSpecial (.builtin "super.__getattribute__") (.ref so) >>= _) _ _ _
  refine wpAny_bind (wpAny_of_eq (F.ks_slot_super_ga.bind _) ?_)
  refine wpAny_mono (Q := fun v s' => v = .ref s.heap.objs.size ∧ s' = { s with heap := s.heap.push (bmObj b), toks := s.toks + 1 }) (E := fun _ _ => False)
    (wpAny_call_entry F.ks_slot_super_ga (hT _) F.ks_entry_super_ga ?_ (F.ks_gaArgs_super _ _)) (fun v s' hv => ?_) fun _ _ z => z.elim
  · have md := md_get (prog := prog) (A := A.in1) (E := fun _ _ => False) (s := { s with toks := s.toks + 1 }) (Q := fun v s' => v = .ref s.heap.objs.size ∧ s' = { s with heap := s.heap.push (bmObj b), toks := s.toks + 1 }) X ho ⟨rfl, rfl⟩
    obtain ⟨hp, gg, d, tk, os⟩ := s
    dsimp only at X hso ho md
    have L1 : Looks (model prog w) hp (mroOf (.ref 120)) [.ref 120, .type "collections.defaultdict", .type "dict", .type "object"] := Looks.of_peek X (pk_mro120 w.params prog)
    have hno : Looks (model prog w) hp (opaqueClassAbove (.ref 120)) none := looks_opaque X (ro_120 w.params)
    have hlk2 := slot_md_get.lookup
    have hne : (Value.ref b == Value.ref 120) = false := by simp [ne]
    have hdt : (supObj b).data = .fields #[.ref 120, .ref b, .ref 120] := rfl
    have f0 : (#[.ref 120, .ref b, .ref 120] : Array Value)[0]? = some (.ref 120) := rfl
    have f1 : (#[.ref 120, .ref b, .ref 120] : Array Value)[1]? = some (.ref b) := rfl
    have f2 : (#[.ref 120, .ref b, .ref 120] : Array Value)[2]? = some (.ref 120) := rfl
    have hl : (List.dropWhile (· != .ref 120) [Value.ref 120, .type "collections.defaultdict", .type "dict", .type "object"]).drop 1 = [.type "collections.defaultdict", .type "dict", .type "object"] := by decide +kernel
    have hcl : (("__missing__" : Str) == ("__class__" : Str)) = false := by decide +kernel
    have al := al_missing w.params
    unfold Builtin.«super.__getattribute__»
    iterate 22 ((fail_if_success (with_reducible show wpAny _ _ (call _ _ _) _ _ _)); (first
      | (with_reducible refine wpAny_field hso hdt f0 ?_) | (with_reducible refine wpAny_field hso hdt f1 ?_) | (with_reducible refine wpAny_field hso hdt f2 ?_)
      | (with_reducible refine ks_wpAny_notOpaque hno ?_)
      | (simp only [hcl, hne, Bool.or_false, Bool.false_eq_true, if_false])
      | wp_step
      | dsimp only))
    refine wpAny_bind (Looks.at L1 ?_)
    rw [hl]
    have Lo : Looks (model prog w) hp (classOwn (.type "collections.defaultdict") "__missing__") (some (.builtin "collections.defaultdict.__missing__")) := looks_ownIn X (own_missing w.params)
    rw [List.forIn_cons]
    refine wpAny_bind (wpAny_bind (wpAny_bind (Lo.at ?_)))
    dsimp only
    refine wpAny_bind (wpAny_of_eq ty_missing ?_)
    refine wpAny_bind (wpAny_of_eq hlk2 ?_)
    dsimp only
    refine wpAny_bind (wpAny_holding (wpAny_mono md (fun v s' hv => ?_) fun _ _ z => z.elim))
    obtain ⟨rfl, rfl⟩ := hv
    refine wpAny_bind (wpAny_pure (wpAny_pure ?_))
    refine wpAny_pure (wpAny_pure ?_)
    exact ⟨_, rfl, rfl, rfl⟩
  · obtain ⟨rfl, rfl⟩ := hv
    exact wpAny_pure h
end
end Mine
end
section
open PySem PySem.W PySem.Spec PySem.Calls PyProof.Rows PySem.Builtin PySem.Builtin.Str
set_option Elab.async false
set_option tactic.hygienic false
set_option linter.unusedVariables false
set_option maxRecDepth 100000
set_option maxHeartbeats 4000000
namespace Mine
section
variable {M : Model} {A : Around} {c : Code} {E : Value → Shared → Prop} {s : Shared}
theorem at_nil {Q : List Value → Shared → Prop} (h : Q [] s) : _root_.PySem.wpAt M A c (spliced []) Q E s := _root_.PySem.wpAt_of_wpAny (wpAny_pure h)
theorem at_cons {x : Sem Value} {rest : List (Bool × Sem Value)} {Q : List Value → Shared → Prop}
    (h : _root_.PySem.wpAt M A c x (fun v s₁ => _root_.PySem.wpAt M A c (spliced rest) (fun vs s₂ => Q (v :: vs) s₂) E s₁) E s) : _root_.PySem.wpAt M A c (spliced ((false, x) :: rest)) Q E s := by
  unfold spliced
  refine _root_.PySem.wpAt_bind (_root_.PySem.wpAt_mono h (fun v s₁ h₁ => ?_) fun _ _ z => z)
  rw [if_neg (by decide)]
  exact _root_.PySem.wpAt_bind (_root_.PySem.wpAt_of_wpAny (wpAny_pure (_root_.PySem.wpAt_bind (ks_wpAt_holding (_root_.PySem.wpAt_mono h₁ (fun vs s₂ h₂ => _root_.PySem.wpAt_of_wpAny (wpAny_pure h₂)) fun _ _ z => z)))))
theorem at_args {f : Value} {x y : Sem Value} {b : Bool} {rest : List (Bool × Sem Value)} {Q : Args → Shared → Prop}
    (h : _root_.PySem.wpAt M A c (spliced ((false, x) :: (b, y) :: rest)) (fun vs s' => Q ⟨vs, []⟩ s') E s) : _root_.PySem.wpAt M A c (evalArgs f true ((false, x) :: (b, y) :: rest) []) Q E s := by
  unfold evalArgs
  show _root_.PySem.wpAt M A c (spliced ((false, x) :: (b, y) :: rest) >>= _) Q E s
  refine _root_.PySem.wpAt_bind (_root_.PySem.wpAt_mono h (fun vs s' h' => ?_) fun _ _ z => z)
  refine ks_wpAt_holding ?_
  exact _root_.PySem.wpAt_of_wpAny (wpAny_bind (wpAny_pure (wpAny_bind (wpAny_pure (wpAny_pure h')))))
theorem at_callB {pos : Pos} {id : String} {args : List (Bool × Sem Value)} {Q : Value → Shared → Prop} (hplain : args.any (·.1) = false)
    (h : _root_.PySem.wpAt M A c (evalArgs (.builtin id) true args []) (fun a s₁ => wpAny M A (call (.builtin id) a.pos a.kw) Q E s₁) E s) : _root_.PySem.wpAt M A c (callWith pos (.builtin id) [] args []) Q E s := by
  unfold callWith
  refine _root_.PySem.wpAt_bind (ks_wpAt_holding (_root_.PySem.wpAt_mono h (fun a s₁ h₁ => ?_) fun _ _ z => z))
  refine _root_.PySem.wpAt_of_wpAny (wpAny_bind (wpAny_standAt ?_))
  simp only [hplain, List.any_nil, Bool.or_false]
  refine wpAny_bind (wpAny_pure ?_)
  exact wpAny_bind (wpAny_mono h₁ (fun r s₂ hr => wpAny_bind (wpAny_holding (wpAny_point (wpAny_pure hr)))) fun _ _ z => z)
theorem at_attr {prog : Program} {w : World} {o : Expr} {name : Str} {pos : Pos} {env : Env} {Q : Value → Shared → Prop} (h : _root_.PySem.wpAt (model prog w) A c (attributeBase o name env (eval o env)) (fun ov s₁ => wpAny (model prog w) A (getAttr ov name true) Q E s₁) E s) :
    _root_.PySem.wpAt (model prog w) A c (eval (.Attribute o name pos) env) Q E s := by
  rw [arm_eval_Attribute]
  refine _root_.PySem.wpAt_bind (_root_.PySem.wpAt_mono h (fun ov s₁ h₁ => ?_) fun _ _ z => z)
  refine _root_.PySem.wpAt_of_wpAny (wpAny_bind (wpAny_standAt (wpAny_bind (wpAny_holding (wpAny_mono h₁ (fun r s₂ hr => ?_) fun _ _ z => z)))))
  exact wpAny_bind (wpAny_letTemporaryGo (wpAny_pure hr))
end
/-- the program that the claim is about -/
structure ProgOk (prog : Program) : Prop where
  file : ((prog.main.file : Str) == ("/claim/cut.py" : Str)) = true
  top : (prog.main.scope.names.lookup ("super" : Str)).isSome = false
noncomputable def f110 (P : Params) : { fd : FuncData // fdOf ((Mine.hd.heap_1 P).lookup 110) = some fd } := by
  refine ⟨?_, ?h⟩
  rotate_left
  (conv => lhs; whnf)
noncomputable def b110 (P : Params) : { b : List Stmt // (f110 P).1.body = .stmts b } := ⟨_, rfl⟩
theorem at110 (P : Params) : ∃ o, (Mine.hd.heap_1 P).lookup 110 = some o ∧ o.data = .func (f110 P).1 := ⟨_, rfl, rfl⟩
theorem cell98 (P : Params) : ∃ o, (Mine.hd.heap_1 P).lookup 98 = some o ∧ o.data = .cell (some (.ref 120)) := ⟨_, rfl, rfl⟩
theorem cls120 (P : Params) : ∃ o cd, (Mine.hd.heap_1 P).lookup 120 = some o ∧ o.data = .cls cd := ⟨_, _, rfl, rfl⟩
theorem code109 (P : Params) : ∃ o vs t, (Mine.hd.heap_1 P).lookup 109 = some o ∧ o.data = .fields vs ∧ vs[2]? = some (.str ("/claim/cut.py" : Str) t) := ⟨_, _, _, rfl, rfl, rfl⟩
theorem mg_super (P : Params) : mgC P "super" = none := by kernel_rfl
theorem bt_super : bootBuiltins "super" = some (.type "super") := by decide +kernel
theorem mg_getattr (P : Params) : mgC P "getattr" = none := by kernel_rfl
theorem bt_getattr : bootBuiltins "getattr" = some (.builtin "getattr") := by decide +kernel
section
variable {prog : Program} {w : World} {A : Around} {E : Value → Shared → Prop} {mb : Str → Option Value} {X : List Addr} {g h h' : Heap} {s : Shared} {es : Array DictEntry} {kvs : List (Str × Value)} {k : Str} {t : Tok} {b dx f : Addr} {ep : Nat}
/-- getattr(self, "_frozen", d) -/
theorem call_getattr3 {kt : Tok} {d : Value} {r : Option Value} {Q : Value → Shared → Prop} (Xk : (Mine.hd.heap_1 w.params).In s.heap) (ho : s.heap.get? b = some (fddObj dx f es ep))
    (ga : ∀ (Q' : Option Value → Shared → Prop), (∀ h' tk, 0 < tk → (∀ a o, s.heap.get? a = some o → h'.get? a = some o) → Q' r { s with heap := h', toks := tk }) → wpAny (model prog w) A.in1 (getAttrBy? (.ref b) (.str "_frozen" kt)) Q' E s)
    (h : ∀ h' tk, 0 < tk → (∀ a o, s.heap.get? a = some o → h'.get? a = some o) → Q (r.getD d) { s with heap := h', toks := tk }) : wpAny (model prog w) A (call (.builtin "getattr") [.ref b, .str "_frozen" kt, d]) Q E s := by
  have L0 := typeOf_fdd (M := model prog w) ho
  have L1 : Looks (model prog w) s.heap (isSubtype (.ref 120) (.type "module")) false := looks_mroIn Xk (mb_mod w.params)
  have ga' := ga (fun r' s' => match r' with | some v => Q v s' | none => Q d s') fun h' tk p kp => by
    have := h h' tk p kp
    cases r with
    | none => exact this
    | some v => exact this
  clear ga h
  refine Calls.call_function_entry KB.kind_getattr KB.plain_getattr KB.entry_getattr (by unfold argsOk; kernel_rfl) ?_
  obtain ⟨hp, gg, dr, tk, os⟩ := s
  dsimp only at L0 L1
  unfold Builtin.«getattr»
  refine wpAny_bind (wpAny_of_eq (a := [.ref b, .str "_frozen" kt, d]) (by first | rfl | kernel_rfl) ?_)
  dsimp only
  refine wpAny_bind (wpAny_of_eq (a := ()) (by first | rfl | kernel_rfl) ?_)
  refine wpAny_bind (wpAny_of_eq (a := none) (by first | rfl | kernel_rfl) ?_)
  dsimp only
  repeat ((fail_if_success (with_reducible show wpAny _ _ (getAttrBy? _ _) _ _ _)); lk)
  refine wpAny_mono ga' (fun r' s' q => ?_) fun _ _ z => z
  cases r' with
  | some v => exact wpAny_pure ⟨_, rfl, q⟩
  | none =>
    dsimp only
    rw [if_neg (by decide)]
    exact wpAny_pure ⟨_, rfl, q⟩
theorem arm_call_call (f : Expr) (a1 : List Expr) (k1 : List Keyword) (p1 : Pos) (a2 : List Expr) (k2 : List Keyword) (p2 : Pos) (env : Env) : eval (.Call (.Call f a1 k1 p1) a2 k2 p2) env = (do
    callWith p2 (← eval (.Call f a1 k1 p1) env) [] (backTo p2 (starEach a2 env)) (backToKw p2 (keywordEach k2 env))) := rfl
/-- what comes of a look for _frozen -/
noncomputable def Frz (prog : Program) (w : World) (s : Shared) (b : Addr) (r : Option Value) : Prop :=
  ∀ (A' : Around) (s₁ : Shared) (kt : Tok) (Q' : Option Value → Shared → Prop) (E' : Value → Shared → Prop), A'.handled = none → 0 < s₁.toks → (∀ a o, s.heap.get? a = some o → s₁.heap.get? a = some o) →
    (∀ h' tk, 0 < tk → (∀ a o, s₁.heap.get? a = some o → h'.get? a = some o) → Q' r { s₁ with heap := h', toks := tk }) → wpAny (model prog w) A' (getAttrBy? (.ref b) (.str "_frozen" kt)) Q' E' s₁
/-- what is called may be called from a frame -/
noncomputable def CallOk (h : Heap) (v : Value) : Prop := ∃ a o, v = .ref a ∧ h.get? a = some o ∧ ((∃ fd, o.data = .func fd) ∨ o = bmObj a ∨ (o.cls = .type "builtin_function_or_method" ∧ ∃ vs, o.data = .fields vs))
theorem keeps_ok {M : Model} {v : Value} {h : Heap} (c : CallOk h v) : ∃ k, (k = Keeper.frame ∨ k = Keeper.machine ∨ k = Keeper.boundFrame) ∧ Looks M h (keeperOf v) k := by
  obtain ⟨a, o, rfl, ho, c⟩ := c
  have fin : (o.cls = .type "builtin_function_or_method" ∧ ∃ vs, o.data = .fields vs) → Looks M h (keeperOf (.ref a)) .machine := fun ⟨hc, vs, hd⟩ => by
    unfold keeperOf
    refine (Looks.ld (part := none) ho).andThen ?_
    rw [hd, hc]
    exact .now
  rcases c with ⟨fd, hd⟩ | rfl | c
  · refine ⟨.frame, .inl rfl, ?_⟩
    unfold keeperOf
    refine (Looks.ld (part := none) ho).andThen ?_
    rw [hd]
    exact .now
  · exact ⟨.machine, .inr (.inl rfl), fin ⟨rfl, _, rfl⟩⟩
  · exact ⟨.machine, .inr (.inl rfl), fin c⟩
theorem callee_mono {h h' : Heap} {v : Value} (c : CallOk h v) (k : ∀ a o, h.get? a = some o → h'.get? a = some o) : CallOk h' v := let ⟨a, o, e, ho, q⟩ := c; ⟨a, o, e, k _ _ ho, q⟩
set_option tactic.hygienic true in
/-- __missing__ -/
theorem mis_open {Q : Value → Shared → Prop} {r : Option Value} (PO : ProgOk prog) (hA : A.handled = none) (room : A.depth < recursionLimit) (O : Ok (WX w mb X) g s) (ho : s.heap.get? b = some (fddObj dx f es ep)) (ne : b ≠ 120) (hr : ∀ v, r = some v → CallOk s.heap v) (ga : Frz prog w s b r)
    (fin : ∀ (A' : Around) (s₂ : Shared) (m : Addr), A'.handled = none → A'.depth = A.depth + 1 → A'.units = A.units + 3 → s₂ = { s with heap := s₂.heap, toks := s₂.toks } → 0 < s₂.toks → (∀ a o, s.heap.get? a = some o → s₂.heap.get? a = some o) → s.heap.objs.size ≤ s₂.heap.objs.size → s₂.heap.get? m = some (bmObj b) →
      wpAny (model prog w) A' (call (r.getD (.ref m)) [.str k t]) Q (fun _ _ => False) s₂) :
    wpAny (model prog w) A (call (.ref 110) [.ref b, .str k t]) Q E s := by
  obtain ⟨o110, l110, d110⟩ := at110 w.params
  have Xk : (Mine.hd.heap_1 w.params).In s.heap := O.wd.k.keeps O.sub
  have hcode : s.heap.CodeRec (f110 w.params).1.code (f110 w.params).1.qualname := codeRec_of Xk (by rfl)
  refine wpAny_call (ks_codeAny_call_defAt (fd := (f110 w.params).1) (body := (b110 w.params).1) (binds := [("self", .ref b), ("key", .str k t)]) room (Xk _ _ l110) d110 (O.wd.nl.keeps O.sub) hcode rfl (BindsTo.of_eq rfl) (by
    have : ∀ x ∈ [(("self" : Str), NameKind.local), ("key", .local), ("__class__", .free), ("getattr", .globalImplicit), ("super", .globalImplicit)], x.2 ≠ NameKind.cell := by decide
    exact this) (fun x hx => ?_) fun h₀ hns kp => ?_)
  · rcases List.mem_cons.mp hx with rfl | hx
    · rfl
    · rw [List.mem_singleton.mp hx]; rfl
  refine ks_wpAt_execs_cons (ks_wpAt_Return_some ?_)
  rw [arm_call_call, arm_eval_Call_Name']
  have z₀ : s.heap.objs.size < h₀.objs.size := hns.lt
  have e₀ : Ext g s.heap g h₀ := ⟨fun b o _ e => kp b o e, Nat.le_of_lt z₀, fun b o e => kp b o (O.sub b o e), fun _ _ => rfl⟩
  have p₀ : 0 < s.toks + [(("self" : Str), Value.ref b), ("key", .str k t)].length := Nat.succ_pos _
  have S : SE prog w (WX w mb X) (callEnv (f110 w.params).1 s.heap.objs.size 110) g { s with heap := h₀, toks := s.toks + [(("self" : Str), Value.ref b), ("key", .str k t)].length } (lk [("self", .raw (.ref b)), ("key", .raw (.str k t))]) := by
    refine ⟨O.ext e₀ p₀, rfl, rfl, rfl, ⟨z₀, rfl⟩, fun p hp => ?_, fun x d hx => ?_⟩
    · obtain ⟨o, l, _⟩ := cell98 w.params
      have hp' : p ∈ [(("__class__" : Str), (98 : Addr))] := hp
      rw [List.mem_singleton.mp hp']
      exact ⟨Heap.lt_size (kp _ _ (Xk _ _ l)), rfl⟩
    · simp only [lk, List.lookup_cons] at hx
      split at hx
      · rename_i q
        cases hx
        rw [eq_of_beq q]
        exact ⟨_, .inl ⟨rfl, rfl, _, hns, rfl⟩, .raw _⟩
      · split at hx
        · rename_i q
          cases hx
          rw [eq_of_beq q]
          exact ⟨_, .inl ⟨rfl, rfl, _, hns, rfl⟩, .raw _⟩
        · cases hx
  refine _root_.PySem.wpAt_bind (_root_.PySem.wpAt_bind (_root_.PySem.wpAt_of_wpAny (ev_builtin S rfl (mg_getattr w.params) bt_getattr ?_)))
  refine at_callB rfl (at_args (at_cons (_root_.PySem.wpAt_of_wpAny (((ev_name (d := .raw (.ref b)) rfl).run g _ S).use S.pos fun v₁ h₁ g₁ tk₁ p₁ e₁ r₁ => ?_))))
  first | obtain rfl := r₁.inv | obtain ⟨_, rfl⟩ := r₁.inv
  have S1 := S.ext e₁ p₁
  refine at_cons (_root_.PySem.wpAt_of_wpAny (Constant_str (k := 0) (pos := ⟨85, 29, 85, 38⟩) ?_))
  have S2 := S1.ext (Ext.refl S1.sub) (Nat.succ_pos tk₁)
  obtain ⟨ocl, cd, l120, d120⟩ := cls120 w.params
  obtain ⟨o98, l98, d98⟩ := cell98 w.params
  obtain ⟨o109, vs109, t109, l109, d109, q109⟩ := code109 w.params
  have X2 : (Mine.hd.heap_1 w.params).In h₁ := S2.wd.k.keeps S2.sub
  have ho2 : h₁.get? b = some (fddObj dx f es ep) := e₁.keep _ _ rfl (kp _ _ ho)
  refine at_cons (at_attr (ks_wpAt_super_base (env := callEnv (f110 w.params).1 s.heap.objs.size 110) (ar := { arg := "self", annotation := none, pos := ⟨84, 20, 84, 24⟩ }) rfl rfl (by decide +kernel) rfl (X2 _ _ l110) d110 rfl rfl (X2 _ _ l109) d109 q109 PO.file PO.top ?_))
  refine ks_loadName_global rfl rfl (loadGlobal_builtin (by rw [S2.gl]; exact S2.wd.gn.keeps S2.sub) (mg_super w.params) (by rw [S2.bt]; exact S2.wd.bn.keeps S2.sub) ((S2.wd.mb _ (by decide +kernel)).trans bt_super) ⟨rfl, ?_⟩)
  refine wpAny_loadName_free rfl rfl rfl ⟨_, X2 _ _ l98, d98⟩ ?_
  obtain ⟨vs, Hs, rs⟩ := S2.vars "self" (.raw (.ref b)) rfl
  first | obtain rfl := rs.inv | obtain ⟨_, rfl⟩ := rs.inv
  refine load_holds rfl Hs (by decide +kernel) ?_
  refine ks_wpAny_isType_cls (X2 _ _ l120) d120 ⟨rfl, ?_⟩
  refine ks_wpAny_call_super (X2 _ _ l120) d120 ho2 rfl (fun c q => nomatch q) (looks_mroIn X2 (mb_self w.params)) fun h₂ hso k₂ => ?_
  have z₂ : h₁.objs.size ≤ h₂.objs.size := Nat.le_of_lt (Heap.lt_size hso)
  have e₂ : Ext g₁ h₁ g₁ h₂ := ⟨fun a o _ q => k₂ a o q, z₂, fun a o q => k₂ a o (S2.sub a o q), fun _ _ => rfl⟩
  have S3 := S2.ext e₂ (Nat.succ_pos tk₁)
  refine super_get (S3.wd.k.keeps S3.sub) hso (k₂ _ _ ho2) ne ?_
  have e₃ := ext_push e₂.sub (bmObj b)
  have S4 := S3.ext e₃ (Nat.succ_pos (tk₁ + 1))
  have old : ∀ a o, s.heap.get? a = some o → (h₂.push (bmObj b)).get? a = some o := fun a o q => e₃.keep _ _ rfl (e₂.keep _ _ rfl (e₁.keep _ _ rfl (kp _ _ q)))
  have hmO : (h₂.push (bmObj b)).get? h₂.objs.size = some (bmObj b) := Heap.get?_push_size _ rfl
  refine at_nil ?_
  refine call_getattr3 (dx := dx) (f := f) (es := es) (ep := ep) (r := r) (S4.wd.k.keeps S4.sub) (old _ _ ho) (fun Q' q => ga _ _ _ Q' _ hA S4.pos old q) fun h₄ tk₄ p₄ k₄ => ?_
  have z₄ : (h₂.push (bmObj b)).objs.size ≤ h₄.objs.size := by rw [Heap.size_push]; exact Heap.lt_size (k₄ _ _ hmO)
  have e₄ : Ext g₁ (h₂.push (bmObj b)) g₁ h₄ := ⟨fun a o _ q => k₄ a o q, z₄, fun a o q => k₄ a o (S4.sub a o q), fun _ _ => rfl⟩
  have S5 := S4.ext e₄ p₄
  have old4 : ∀ a o, s.heap.get? a = some o → h₄.get? a = some o := fun a o q => k₄ _ _ (old a o q)
  have co : CallOk h₄ (r.getD (.ref h₂.objs.size)) := by
    cases hq : r with
    | none => exact ⟨_, _, rfl, k₄ _ _ hmO, .inr (.inr ⟨rfl, _, rfl⟩)⟩
    | some v => exact callee_mono (hr v hq) old4
  refine _root_.PySem.wpAt_of_wpAny (callWith_of (P := fun h => CallOk h (r.getD (.ref h₂.objs.size))) rfl (fun h c => keeps_ok c) (evalArgs_plain (spliced_cons (((ev_name (d := .raw (.str k t)) rfl).run g₁ _ S5).use p₄ fun v₅ h₅ g₅ tk₅ p₅ e₅ r₅ => spliced_nil ?_))))
  first | obtain rfl := r₅.inv | obtain ⟨_, rfl⟩ := r₅.inv
  have old5 : ∀ a o, s.heap.get? a = some o → h₅.get? a = some o := fun a o q => e₅.keep _ _ rfl (old4 a o q)
  refine ⟨callee_mono co fun a o q => e₅.keep _ _ rfl q, ?_⟩
  refine wpAny_mono (fin _ _ h₂.objs.size hA rfl rfl rfl p₅ old5 (Nat.le_trans (Nat.le_of_lt z₀) (Nat.le_trans e₁.size (Nat.le_trans z₂ (Nat.le_trans e₃.size (Nat.le_trans z₄ e₅.size))))) (e₅.keep _ _ rfl (k₄ _ _ hmO))) (fun v s' q => ?_) fun _ _ z => z.elim
  exact q
end
end Mine
end
section
open PySem PySem.W PySem.Spec PySem.Calls PyProof.Rows PySem.Builtin PySem.Builtin.Str
set_option Elab.async false
set_option tactic.hygienic false
set_option linter.unusedVariables false
set_option maxRecDepth 100000
set_option maxHeartbeats 4000000
namespace Mine
theorem slot_mem_get : Slot "member_descriptor" "__get__" "member_descriptor.__get__" :=
  .of (owner := "member_descriptor") (n := "__get__") (by rw [typeLookup_type, builtinLookup_eq_fast]; kernel_rfl) (by decide +kernel) (by decide +kernel) (by decide +kernel)
    (by first | exact .inl (by decide +kernel) | exact .inr (by decide +kernel)) (by rw [isSubtype_type]; kernel_rfl)
theorem entry_mem_get : entryFor table "member_descriptor.__get__" = some Builtin.«member_descriptor.__get__» := entryFor_of_tree (by kernel_rfl)
theorem args_mem_get (a b c : Value) : argsOk "member_descriptor.__get__" ⟨[a, b, c], []⟩ := by unfold argsOk; kernel_rfl
theorem entry_fac : entryFor table "collections.defaultdict.default_factory" = some Builtin.«collections.defaultdict.default_factory» := entryFor_of_tree (by kernel_rfl)
theorem plain_fac : plainId "collections.defaultdict.default_factory" = true := by decide +kernel
theorem quiet_fac (a : Args) : (Code.builtin "collections.defaultdict.default_factory" a).quiet = true := Code.quiet_builtin _ (by decide +kernel)
theorem ty_fac : typeOf (.builtin "collections.defaultdict.default_factory") = pure (.type "member_descriptor") := by show builtinType _ = _; rw [builtinType_eq_fast]; kernel_rfl
theorem fo_factory (P : Params) (od : Obj) : findObj (Mine.hd.heap_1 P) 120 (some od) "default_factory" = some (.bind (.builtin "member_descriptor.__get__") (.builtin "collections.defaultdict.default_factory")) := by kernel_rfl
theorem ty_values : typeOf (.builtin "dict.values") = pure (.type "method_descriptor") := by show builtinType _ = _; rw [builtinType_eq_fast]; kernel_rfl
theorem ty_items : typeOf (.builtin "dict.items") = pure (.type "method_descriptor") := by show builtinType _ = _; rw [builtinType_eq_fast]; kernel_rfl
theorem ty_117 (P : Params) : typeIn (Mine.hd.heap_1 P) (.ref 117) = some (.type "function") := by kernel_rfl
theorem canon_dd : (Manifest.canonical "collections.defaultdict.__getattribute__" != "object.__getattribute__") = false := by decide +kernel
section
variable {prog : Program} {w : World} {A : Around} {E : Value → Shared → Prop} {mb : Str → Option Value} {X : List Addr} {g h h' : Heap} {s : Shared} {es : Array DictEntry} {kvs : List (Str × Value)} {k : Str} {t : Tok} {b dx f : Addr} {ep : Nat} {od : Obj}
/-- a method of a book's -/
theorem meth_fdd {name : Str} {v : Value} {T : String} {pl : Sem Bool} {Q : Value × List Value → Shared → Prop} (Xk : (Mine.hd.heap_1 w.params).In s.heap) (ho : s.heap.get? b = some (fddObj dx f es ep)) (hd : s.heap.get? dx = some od) (hs : lookIn name od = some none)
    (hf : findIn (Mine.hd.heap_1 w.params) (.ref 120) name = some (some v)) (ht : Looks (model prog w) s.heap (typeOf v) (.type T)) (hT : T = "function" ∨ T = "method_descriptor") (h : Q (v, [.ref b]) s) :
    wpAny (model prog w) A (getMethod (.ref b) name pl) Q E s := by
  have I := inst_at ho hd
  unfold getMethod specialOf
  refine wpAny_bind (wpAny_bind (I.type.here ((looks_findIn Xk (fb_ga w.params)).here ?_)))
  dsimp only
  rw [canon_dd, if_neg (by decide)]
  refine wpAny_bind (wpAny_bind (I.type.here ((looks_findIn Xk (fb_gx w.params)).here ?_)))
  refine wpAny_bind (wpAny_bind (I.type.here ((looks_findIn Xk hf).here (wpAny_bind (ht.here ?_)))))
  rw [if_neg (by rcases hT with rfl | rfl <;> decide +kernel)]
  refine wpAny_bind (wpAny_loadPart I.at_ ?_)
  refine wpAny_bind (wpAny_bind (wpAny_loadPart hd ?_))
  rw [nsLook_of hs]
  exact wpAny_pure (wpAny_bind (wpAny_rule (wpAny_pure h)))
theorem mem_get {Q : Value → Shared → Prop} (Xk : (Mine.hd.heap_1 w.params).In s.heap) (ho : s.heap.get? b = some (fddObj dx f es ep)) (h : Q (.ref f) s) :
    wpAny (model prog w) A (call (.builtin "member_descriptor.__get__") [.builtin "collections.defaultdict.default_factory", .ref b, .ref 120]) Q E s := by
  have T0 : Looks (model prog w) s.heap (isInstance (.builtin "collections.defaultdict.default_factory") (.type "member_descriptor")) true := (Looks.of_pure ty_fac).andThen (Looks.of_pure (by rw [isSubtype_type]; kernel_rfl))
  have I1 : Looks (model prog w) s.heap (isSubtype (.ref 120) (.type "collections.defaultdict")) true := looks_mroIn Xk (mb_dd w.params)
  have L0 := typeOf_fdd (M := model prog w) ho
  refine wpAny_call (codeAny_call_builtin slot_mem_get.plain entry_mem_get (@check_slot (model prog w) _ _ s "member_descriptor.__get__" "member_descriptor" "__get__" (.builtin "collections.defaultdict.default_factory") [.ref b, .ref 120] [] _ (by decide +kernel) (by decide +kernel) T0 (args_mem_get _ _ _) ?_))
  obtain ⟨hp, gg, d, tk, os⟩ := s
  dsimp only at Xk ho L0 I1
  have own : ".".intercalate ("collections.defaultdict.default_factory".cutAt '.').dropLast = "collections.defaultdict" := by kernel_rfl
  have I2 : Looks (model prog w) hp (isSubtype (.ref 120) (.type (".".intercalate ("collections.defaultdict.default_factory".cutAt '.').dropLast))) true := by rw [own]; exact I1
  have fin : wpAny (model prog w) A.in1 (Builtin.«collections.defaultdict.default_factory» ⟨[.ref b], []⟩) (fun fin s' => fin = .done (.ret (.ref f)) ∧ s' = ⟨hp, gg, d, tk, os⟩) E ⟨hp, gg, d, tk, os⟩ := by
    unfold Builtin.«collections.defaultdict.default_factory» Builtin.Collections_defaultdict.factory? slotAt
    repeat lk
    exact ⟨rfl, rfl⟩
  unfold Builtin.«member_descriptor.__get__»
  unfold Builtin.Getset_descriptor.descrGet
  repeat lk
  refine ⟨quiet_fac _, codeAny_builtin entry_fac ?_⟩
  rw [Around.under_plainId plain_fac]
  refine wpAny_mono fin (fun fin s' q => ?_) fun _ _ z => z
  obtain ⟨rfl, rfl⟩ := q
  exact h
/-- b.default_factory -/
theorem gab_factory {tk : Tok} {fill expr : Bool} {Q : Value → Shared → Prop} (Xk : (Mine.hd.heap_1 w.params).In s.heap) (ho : s.heap.get? b = some (fddObj dx f es ep)) (hd : s.heap.get? dx = some od) (h : Q (.ref f) s) :
    wpAny (model prog w) A (getAttrBy (.ref b) (.str "default_factory" tk) fill expr) Q E s := by
  refine gab_open Xk ho ?_
  have L0 := typeOf_fdd (M := model prog w) ho
  have L1 := looks_find (M := model prog w) Xk (inst_at ho hd) (fo_factory w.params od)
  have m := mem_get (prog := prog) (A := A.in1) (E := fun e s' => wpAny (model prog w) A (getattributeRaised (.ref b) (.str "default_factory" tk) (.ref 120) e none fill expr) Q E s') (Q := fun v s' => v = .ref f ∧ s' = s) Xk ho ⟨rfl, rfl⟩
  obtain ⟨hp, gg, d, tk', os⟩ := s
  dsimp only at L0 L1
  unfold Builtin.«object.__getattribute__»
  refine wpAny_bind (wpAny_pure (wpAny_bind (wpAny_pure (wpAny_bind (L0.at (wpAny_bind (L1.at ?_)))))))
  dsimp only
  unfold Builtin.ObjectAttr.bindTo
  dsimp only
  refine wpAny_bind (wpAny_holding (wpAny_mono m (fun v s' q => ?_) fun _ _ z => z))
  obtain ⟨rfl, rfl⟩ := q
  exact wpAny_pure ⟨_, rfl, handed_on rfl h⟩
theorem meth_factory {pl : Sem Bool} {Q : Value × List Value → Shared → Prop} (Xk : (Mine.hd.heap_1 w.params).In s.heap) (ho : s.heap.get? b = some (fddObj dx f es ep)) (hd : s.heap.get? dx = some od) (h : Q (.ref f, []) { s with toks := s.toks + 1 }) :
    wpAny (model prog w) A (getMethod (.ref b) "default_factory" pl) Q E s := by
  have I := inst_at ho hd
  unfold getMethod specialOf
  refine wpAny_bind (wpAny_bind (I.type.here ((looks_findIn Xk (fb_ga w.params)).here ?_)))
  dsimp only
  rw [canon_dd, if_neg (by decide)]
  refine wpAny_bind (wpAny_bind (I.type.here ((looks_findIn Xk (fb_gx w.params)).here ?_)))
  refine wpAny_bind (wpAny_bind (I.type.here ((looks_findIn Xk (fb_factory w.params)).here (wpAny_bind (wpAny_of_eq ty_fac ?_)))))
  rw [if_pos (by decide)]
  unfold getAttr
  exact wpAny_bind (wpAny_bind (wpAny_mkText (gab_factory (s := { s with toks := s.toks + 1 }) Xk ho hd (wpAny_pure h))))
end
end Mine
end
section
open PySem PySem.W PySem.Spec PySem.Calls PyProof.Rows PySem.Builtin PySem.Builtin.Str
set_option Elab.async false
set_option tactic.hygienic false
set_option linter.unusedVariables false
set_option maxRecDepth 100000
set_option maxHeartbeats 4000000
namespace Mine
theorem pk_dnew (P : Params) (pr : Program) (f : Addr) : peek (Mine.hd.heap_1 P) ⟨pr, P⟩ (checkBuiltinCall "dict.__new__" ⟨[.ref 120, .ref f], []⟩) = some () := by kernel_rfl
theorem pk_type120 (P : Params) (pr : Program) : peek (Mine.hd.heap_1 P) ⟨pr, P⟩ (isType (.ref 120)) = some true := by kernel_rfl
theorem pk_sub120 (P : Params) (pr : Program) : peek (Mine.hd.heap_1 P) ⟨pr, P⟩ (isSubtype (.ref 120) (.type "dict")) = some true := by kernel_rfl
theorem pk_madeBy120 (P : Params) (pr : Program) : peek (Mine.hd.heap_1 P) ⟨pr, P⟩ (Bind.madeBy (.ref 120)) = some (some "dict.__new__") := by kernel_rfl
theorem sp_call120 (P : Params) : specialIn (Mine.hd.heap_1 P) (.ref 120) "__call__" = some (some (.builtin "type.__call__")) := by kernel_rfl
theorem in_type120 (P : Params) : instIn (Mine.hd.heap_1 P) (.ref 120) (.type "type") = some true := by kernel_rfl
theorem del120 (P : Params) : ∃ oc od cd sl, (Mine.hd.heap_1 P).lookup 120 = some ⟨oc, od, .cls cd, sl⟩ ∧ cd.hasDel = false := ⟨_, _, _, _, rfl, rfl⟩
theorem plain_dnew : plainId "dict.__new__" = true := by decide +kernel
theorem entry_dnew : entryFor table "dict.__new__" = some Builtin.«dict.__new__» := entryFor_of_tree (by kernel_rfl)
theorem entry_ddi : entryFor table "collections.defaultdict.__init__" = some Builtin.«collections.defaultdict.__init__» := entryFor_of_tree (by kernel_rfl)
theorem plain_ddi : plainId "collections.defaultdict.__init__" = true := by decide +kernel
theorem args_ddi (a b : Value) : argsOk "collections.defaultdict.__init__" ⟨[a, b], []⟩ := by unfold argsOk; kernel_rfl
theorem ddi_bind {x : Value} : bindSpecial (.builtin "collections.defaultdict.__init__") x = pure (.builtin "collections.defaultdict.__init__", [x]) := by
  have : Slot "collections.defaultdict" "__init__" "collections.defaultdict.__init__" := .of (owner := "collections.defaultdict") (n := "__init__") (by rw [typeLookup_type, builtinLookup_eq_fast]; kernel_rfl) (by decide +kernel) (by decide +kernel) (by decide +kernel)
    (by first | exact .inl (by decide +kernel) | exact .inr (by decide +kernel)) (by rw [isSubtype_type]; kernel_rfl)
  exact this.bind x
theorem fn_call : fastLookup "function" "__call__" = some (some (.builtin "function.__call__")) := by kernel_rfl
section
variable {prog : Program} {w : World} {A : Around} {E : Value → Shared → Prop} {mb : Str → Option Value} {X : List Addr} {g h h' : Heap} {s : Shared} {es : Array DictEntry} {kvs : List (Str × Value)} {k : Str} {t : Tok} {b dx f : Addr} {ep : Nat} {od : Obj}
/-- dict.__new__(FreezableDefaultDict, f) -/
theorem call_dnew {Q : Value → Shared → Prop} (Xk : (Mine.hd.heap_1 w.params).In s.heap)
    (h : Q (.ref (s.heap.objs.size + 1)) { s with heap := (s.heap.push emptyD).push { cls := .ref 120, dict := some s.heap.objs.size, data := .dict #[] } }) : wpAny (model prog w) A (call (.builtin "dict.__new__") [.ref 120, .ref f]) Q E s := by
  obtain ⟨hp, g, d, tk, os⟩ := s
  dsimp only at Xk
  have L1 := Looks.of_peek (M := model prog w) Xk (pk_type120 w.params prog)
  have L2 := Looks.of_peek (M := model prog w) Xk (pk_sub120 w.params prog)
  have L3 := Looks.of_peek (M := model prog w) Xk (pk_mro120 w.params prog)
  refine wpAny_call (codeAny_call_builtin plain_dnew entry_dnew ((Looks.of_peek (M := model prog w) Xk (pk_dnew w.params prog f)).here ?_))
  obtain ⟨oc, od, cd, sl, hC, hdel⟩ := del120 w.params
  have hC₁ := Xk _ _ hC
  unfold Builtin.«dict.__new__»
  repeat ((fail_if_success (with_reducible show wpAny _ _ (newObj _ _ _) _ _ _)); lk)
  show wpAny _ _ (newObjAsIs _ _ _) _ _ _
  unfold newObjAsIs classHasDel
  refine wpAny_bind (wpAny_alloc (wpAny_bind (wpAny_bind (wpAny_load (Heap.get?_push_of_some _ (Heap.get?_push_of_some _ hC₁)) (wpAny_pure ?_)))))
  dsimp only
  rw [hdel]
  refine wpAny_pure (wpAny_pure ?_)
  show Q _ _
  rw [Heap.size_push]
  exact h
/-- defaultdict.__init__(b, f) -/
theorem call_ddi {Q : Value → Shared → Prop} (Xk : (Mine.hd.heap_1 w.params).In s.heap) (ho : s.heap.get? b = some { cls := .ref 120, dict := some dx, data := .dict #[] }) (hK : (Mine.hd.heap_1 w.params).lookup b = none) (hf : ∃ o, s.heap.get? f = some o ∧ o.cls = .type "function")
    (h : ∀ h', Heap.SameBut b s.heap h' → h'.get? b = some (fddObj dx f #[] 0) → Q .none { s with heap := h' }) : wpAny (model prog w) A (call (.builtin "collections.defaultdict.__init__") [.ref b, .ref f]) Q E s := by
  obtain ⟨of, hof, hcf⟩ := hf
  obtain ⟨hp, gg, d, tk, os⟩ := s
  dsimp only at Xk ho hof
  have L0 : Looks (model prog w) hp (typeOf (.ref b)) (.ref 120) := (Looks.ld (part := none) ho).andThen .now
  have I1 : Looks (model prog w) hp (isInstance (.ref b) (.type "collections.defaultdict")) true := L0.andThen (looks_mroIn Xk (mb_dd w.params))
  have L1 : Looks (model prog w) hp (typeOf (.ref f)) (.type "function") := hcf ▸ (Looks.ld (part := none) hof).andThen .now
  have L2 : Looks (model prog w) hp (typeLookup (.type "function") "__call__") (some (.builtin "function.__call__")) := looks_findIn Xk fn_call
  refine wpAny_call (codeAny_call_builtin plain_ddi entry_ddi (@check_slot (model prog w) _ _ _ "collections.defaultdict.__init__" "collections.defaultdict" "__init__" (.ref b) [.ref f] [] _ (by decide +kernel) (by decide +kernel) I1 (args_ddi _ _) ?_))
  unfold Builtin.«collections.defaultdict.__init__» specialOf Builtin.Collections_defaultdict.setFactory slotAt
  repeat ((fail_if_success (with_reducible show wpAny _ _ (setSlotAt _ _ _) _ _ _)); lk)
  show wpAny _ _ (setSlotAt b 0 (some (.ref f))) _ _ _
  unfold setSlotAt
  rw [if_neg (by rw [sizeLine_eq]; decide)]
  refine wpAny_updatePart ho ?_
  have sb := Heap.SameBut.update hp b fun o : Obj => { o with slots := (o.slots ++ Array.replicate (0 + 1 - o.slots.size) none).setIfInBounds 0 (some (.ref f)) }
  have ho' : (hp.update b fun o : Obj => { o with slots := (o.slots ++ Array.replicate (0 + 1 - o.slots.size) none).setIfInBounds 0 (some (.ref f)) }).get? b = some (fddObj dx f #[] 0) := Heap.get?_update_self _ ho rfl
  have fin := h _ sb ho'
  have Xk' : (Mine.hd.heap_1 w.params).In (hp.update b fun o : Obj => { o with slots := (o.slots ++ Array.replicate (0 + 1 - o.slots.size) none).setIfInBounds 0 (some (.ref f)) }) := fun a o e => by
    refine (sb.2 a fun q => ?_).trans (Xk a o e)
    subst q
    rw [hK] at e; cases e
  generalize (hp.update b fun o : Obj => { o with slots := (o.slots ++ Array.replicate (0 + 1 - o.slots.size) none).setIfInBounds 0 (some (.ref f)) }) = hp' at sb ho' fin Xk'
  have M0 := typeOf_fdd (M := model prog w) ho'
  have M1 : Looks (model prog w) hp' (isSubtype (.ref 120) (.type "collections.OrderedDict")) false := looks_mroIn Xk' (mb_od w.params)
  refine wpAny_bind (wpAny_holding (wpAny_runValue (codeAny_builtin PySem.F.entry_dict_init ?_)))
  show wpAny _ _ (Builtin.«dict.__init__» ⟨[.ref b], []⟩) _ _ ⟨hp', gg, d, tk, os⟩
  unfold Builtin.«dict.__init__» Builtin.Dict.selfAndRest Builtin.Dict.notOrdered Builtin.Dict.updateCommon Builtin.Dict.addKeywords
  repeat lk
  exact fin
theorem K_bound {a : Addr} (Xk : (Mine.hd.heap_1 w.params).In h) (e : h.get? a = none) : (Mine.hd.heap_1 w.params).lookup a = none := by
  cases q : (Mine.hd.heap_1 w.params).lookup a with
  | none => rfl
  | some o => rw [Xk _ _ q] at e; cases e
/-- FreezableDefaultDict(f) -/
theorem call_fdd {Q : Value → Shared → Prop} (Xk : (Mine.hd.heap_1 w.params).In s.heap) (hf : ∃ o, s.heap.get? f = some o ∧ o.cls = .type "function")
    (h : ∀ h' tk, s.toks ≤ tk → (∀ a o, s.heap.get? a = some o → h'.get? a = some o) → h'.objs.size = s.heap.objs.size + 2 → h'.get? s.heap.objs.size = some emptyD → h'.get? (s.heap.objs.size + 1) = some (fddObj s.heap.objs.size f #[] 0) → Q (.ref (s.heap.objs.size + 1)) { s with heap := h', toks := tk }) :
    wpAny (model prog w) A (call (.ref 120) [.ref f]) Q E s := by
  obtain ⟨oc, od, cd, sl, hC, hdel⟩ := del120 w.params
  have call := looks_specialIn (M := model prog w) Xk (sp_call120 w.params)
  have typ := looks_instIn (M := model prog w) Xk (in_type120 w.params)
  have hm := Looks.of_peek (M := model prog w) Xk (pk_mro120 w.params prog)
  have L3 := Looks.of_peek (M := model prog w) Xk (pk_madeBy120 w.params prog)
  refine wpAny_call (codeAny_of_tree ?_)
  show wpAny _ _ (callAny (.ref 120) _) _ _ _
  refine wpAny_bind (wpAny_load (Xk _ _ hC) ?_)
  show wpAny _ _ (callAny.viaDunder (.ref 120) _) _ _ _
  unfold callAny.viaDunder
  refine wpAny_bind (call.here ?_)
  dsimp only
  rw [tc_bind]
  refine wpAny_bind (wpAny_pure (wpAny_bind (wpAny_pure ?_)))
  refine wpAny_pure (a := PySem.Fin.again (.call (.builtin "type.__call__") ⟨[.ref 120, .ref f], []⟩)) (And.intro rfl ?_)
  refine codeAny_call_builtin_at (Code.quiet_builtin _ (by decide +kernel)) entry_typeCall (check_slot tc_kind tc_split typ (tc_args _ _ _) ?_)
  unfold Builtin.«type.__call__»
  obtain ⟨hp, gg, d, tk, os⟩ := s
  dsimp only at Xk hm L3
  repeat ((fail_if_success (with_reducible show wpAny _ _ (PySem.call _ _ _) _ _ _)); lk)
  refine call_dnew Xk ?_
  dsimp only
  have e1 : ((hp.push emptyD).push { cls := .ref 120, dict := some hp.objs.size, data := .dict #[] }).objs.size = hp.objs.size + 2 := by rw [Heap.size_push, Heap.size_push]
  have kp : ∀ a o, hp.get? a = some o → ((hp.push emptyD).push { cls := .ref 120, dict := some hp.objs.size, data := .dict #[] }).get? a = some o := fun a o e => Heap.get?_push_of_some _ (Heap.get?_push_of_some _ e)
  have hd : ((hp.push emptyD).push { cls := .ref 120, dict := some hp.objs.size, data := .dict #[] }).get? hp.objs.size = some emptyD := Heap.get?_push_of_some _ (Heap.get?_push_size _ rfl)
  have hb : ((hp.push emptyD).push { cls := .ref 120, dict := some hp.objs.size, data := .dict #[] }).get? (hp.objs.size + 1) = some { cls := .ref 120, dict := some hp.objs.size, data := .dict #[] } := by
    rw [← Heap.size_push hp emptyD]; exact Heap.get?_push_size _ rfl
  generalize (hp.push emptyD).push { cls := .ref 120, dict := some hp.objs.size, data := .dict #[] } = h₁ at e1 kp hd hb
  have X1 : (Mine.hd.heap_1 w.params).In h₁ := Xk.keeps kp
  have T1 : Looks (model prog w) h₁ (typeOf (.ref (hp.objs.size + 1))) (.ref 120) := (Looks.ld (part := none) hb).andThen .now
  have I1 : Looks (model prog w) h₁ (isInstance (.ref (hp.objs.size + 1)) (.ref 120)) true := T1.andThen (looks_mroIn X1 (mb_self w.params))
  have I2 : Looks (model prog w) h₁ (typeLookup (.ref 120) "__init__") (some (.builtin "collections.defaultdict.__init__")) := looks_findIn X1 (fb_init w.params)
  have B1 : Looks (model prog w) h₁ (bindSpecial (.builtin "collections.defaultdict.__init__") (.ref (hp.objs.size + 1))) (.builtin "collections.defaultdict.__init__", [.ref (hp.objs.size + 1)]) := Looks.of_pure ddi_bind
  have offK : (Mine.hd.heap_1 w.params).lookup (hp.objs.size + 1) = none := K_bound Xk (by
    cases q : hp.get? (hp.objs.size + 1) with
    | none => rfl
    | some o => exact absurd (Heap.lt_size q) (Nat.not_lt.mpr (Nat.le_succ _)))
  obtain ⟨of, hof, hcf⟩ := hf
  unfold callSpecial? specialOf
  repeat ((fail_if_success (with_reducible show wpAny _ _ (PySem.call _ _ _) _ _ _)); lk)
  refine call_ddi X1 hb offK ⟨of, kp _ _ hof, hcf⟩ fun h₂ sb ho => ?_
  repeat lk
  refine h h₂ _ (Nat.le_refl _) (fun a o e => (sb.2 a fun q => ?_).trans (kp a o e)) (sb.1.trans e1) ((sb.2 _ (Nat.ne_of_lt (Nat.lt_succ_self _))).trans hd) ho
  subst q
  exact absurd (Heap.lt_size e) (Nat.not_lt.mpr (Nat.le_succ _))
end
end Mine
end
section
open PySem PySem.W PySem.Spec PySem.Calls PyProof.Rows PySem.Builtin PySem.Builtin.Str
set_option Elab.async false
set_option tactic.hygienic false
set_option linter.unusedVariables false
set_option maxRecDepth 100000
set_option maxHeartbeats 4000000
namespace Mine
section
variable {prog : Program} {w : World} {A : Around} {E : Value → Shared → Prop} {mb : Str → Option Value} {W : Wo} {g h h' : Heap} {s : Shared} {es : Array DictEntry} {kvs : List (Str × Value)} {k : Str} {t : Tok} {b dx f : Addr} {ep : Nat} {od : Obj}
theorem frz_none (O : Ok W g s) (q : SameW W (WX w mb [])) (ho : s.heap.get? b = some (fddObj dx f es ep)) (hd : s.heap.get? dx = some emptyD) : Frz prog w s b none := fun A' s₁ kt Q' E' hA p old k => by
  have Xk : (Mine.hd.heap_1 w.params).In s.heap := (O.toX q).wd.k.keeps O.sub
  refine grows p (gab_missing hA (Xk.keeps old) (old _ _ ho) (old _ _ hd) (fo_frozen0 w.params) (by decide +kernel) fun h' tk kp => fun p' _ => ?_)
  exact k h' tk p' kp
/-- b[k] of an open book -/
theorem sub_touch {value slice : Expr} {Q : Value → Shared → Prop} (PO : ProgOk prog) (hA : A.handled = none) (room : A.depth + 10 < recursionLimit) (O : Ok W g s) (q : SameW W (WX w mb [])) (ho : s.heap.get? b = some (fddObj dx f es ep)) (hd : s.heap.get? dx = some emptyD) (K : Keyed prog w es kvs) (hb : b ≠ sysModules) (ne : b ≠ 120) (hz : es.size ≤ 1000) (hf : ∃ o fd, s.heap.get? f = some o ∧ o.data = .func fd)
    (hit : ∀ v, valueAt kvs k = some v → Q v { s with toks := s.toks + 1 })
    (miss : valueAt kvs k = none → ∀ (A' : Around) (s₂ : Shared), A'.handled = none → A'.depth ≤ A.depth + 1 → A'.units ≤ A.units + 10 → s₂ = { s with heap := s₂.heap, toks := s₂.toks } → 0 < s₂.toks → (∀ a o, s.heap.get? a = some o → s₂.heap.get? a = some o) → s.heap.objs.size ≤ s₂.heap.objs.size →
      wpAny (model prog w) A' (call (.ref f) []) (fun v s' => (Mine.hd.heap_1 w.params).In s'.heap ∧ s'.heap.get? b = some (fddObj dx f es ep) ∧ ∀ h'' ep', Heap.SameBut b s'.heap h'' → h''.get? b = some (fddObj dx f (es.push ⟨(strKind prog w).hash k, .str k t, v⟩) ep') → Q v { s' with heap := h'', toks := s'.toks + 1 }) (fun _ _ => False) s₂)
    (hs : Plain slice := by intro _ _; rfl) : wpAny (model prog w) A (subscriptTail value slice (.ref b) (.str k t)) Q E s := by
  have Xk : (Mine.hd.heap_1 w.params).In s.heap := (O.toX q).wd.k.keeps O.sub
  refine sub_fdd Xk ho K hb hit (fun hn => ?_) hs
  have O1 : Ok W g { s with toks := s.toks + 1 } := O.ext (tk := s.toks + 1) (Ext.refl O.sub) (Nat.succ_pos _)
  have room1 : A.in1.depth < recursionLimit := Nat.lt_of_le_of_lt (Nat.le_add_right _ _) room
  refine mis_open (X := []) (r := none) PO hA room1 (O1.toX q) ho ne (fun v hv => nomatch hv) (frz_none O1 q ho hd) fun A' s₂ m h1 h2 h3 h4 h5 h6 h7 h8 => ?_
  obtain ⟨of, fd, hof, hdf⟩ := hf
  refine call_bm (Xk.keeps h6) h8 (h6 _ _ ho) K hn hb hz ⟨of, fd, h6 _ _ hof, hdf⟩ ?_
  exact miss hn A'.in1 s₂ h1 (by show A'.depth ≤ _; rw [h2]; exact Nat.le_refl _) (by show A'.units + 1 ≤ _; rw [h3]; show A.units + 1 + 3 + 1 ≤ _; omega) h4 h5 h6 h7
/-- b[k] of a frozen book: nothing stays -/
theorem sub_frozen {value slice : Expr} {lam : Addr} {Q : Value → Shared → Prop} (PO : ProgOk prog) (hA : A.handled = none) (room : A.depth + 10 < recursionLimit) (O : Ok W g s) (q : SameW W (WX w mb [])) (ho : s.heap.get? b = some (fddObj dx f es ep)) (hd : s.heap.get? dx = some od) (hz : findObj (Mine.hd.heap_1 w.params) 120 (some od) "_frozen" = some (.value (.ref lam))) (hl : ∃ o fd, s.heap.get? lam = some o ∧ o.data = .func fd)
    (K : Keyed prog w es kvs) (hb : b ≠ sysModules) (ne : b ≠ 120)
    (hit : ∀ v, valueAt kvs k = some v → Q v { s with toks := s.toks + 1 })
    (miss : valueAt kvs k = none → ∀ (A' : Around) (s₂ : Shared), A'.handled = none → A'.depth ≤ A.depth + 1 → A'.units ≤ A.units + 10 → s₂ = { s with heap := s₂.heap, toks := s₂.toks } → 0 < s₂.toks → (∀ a o, s.heap.get? a = some o → s₂.heap.get? a = some o) → s.heap.objs.size ≤ s₂.heap.objs.size →
      wpAny (model prog w) A' (call (.ref lam) [.str k t]) Q (fun _ _ => False) s₂)
    (hs : Plain slice := by intro _ _; rfl) : wpAny (model prog w) A (subscriptTail value slice (.ref b) (.str k t)) Q E s := by
  have Xk : (Mine.hd.heap_1 w.params).In s.heap := (O.toX q).wd.k.keeps O.sub
  refine sub_fdd Xk ho K hb hit (fun hn => ?_) hs
  have O1 : Ok W g { s with toks := s.toks + 1 } := O.ext (tk := s.toks + 1) (Ext.refl O.sub) (Nat.succ_pos _)
  have room1 : A.in1.depth < recursionLimit := Nat.lt_of_le_of_lt (Nat.le_add_right _ _) room
  obtain ⟨ol, fl, hol, hdl⟩ := hl
  refine mis_open (X := []) (r := some (.ref lam)) PO hA room1 (O1.toX q) ho ne (fun v hv => ?_) (fun A' s₁ kt Q' E' hA p old k => ?_) fun A' s₂ m h1 h2 h3 h4 h5 h6 h7 h8 => ?_
  · cases hv
    exact ⟨lam, ol, rfl, hol, .inl ⟨fl, hdl⟩⟩
  · unfold getAttrBy?
    exact wpAny_bind (wpAny_attempt (gab_value (Xk.keeps old) (old _ _ ho) (old _ _ hd) hz rfl (wpAny_pure (k s₁.heap s₁.toks p fun _ _ e => e))))
  · exact miss hn A' s₂ h1 (by rw [h2]; exact Nat.le_refl _) (by rw [h3]; show A.units + 1 + 3 ≤ _; omega) h4 h5 h6 h7
end
end Mine
end
section
open PySem PySem.W PySem.Spec PySem.Calls PyProof.Rows PySem.Builtin PySem.Builtin.Str
set_option Elab.async false
set_option tactic.hygienic false
set_option linter.unusedVariables false
set_option maxRecDepth 100000
set_option maxHeartbeats 4000000
namespace Mine
/-- a frozen book's own dict -/
noncomputable abbrev fzD (x : Int) (tk : Tok) (v : Value) (n : Nat) : Obj := { cls := .type "dict", data := .dict #[⟨x, .str "_frozen" tk, v⟩] n }
theorem fo_frozen1 (P : Params) (x : Int) (tk : Tok) (lam : Addr) (n : Nat) : findObj (Mine.hd.heap_1 P) 120 (some (fzD x tk (.ref lam) n)) "_frozen" = some (.value (.ref lam)) := by kernel_rfl
theorem sh_values (x : Int) (tk : Tok) (v : Value) (n : Nat) : lookIn "values" (fzD x tk v n) = some none := by kernel_rfl
theorem sh_items (x : Int) (tk : Tok) (v : Value) (n : Nat) : lookIn "items" (fzD x tk v n) = some none := by kernel_rfl
theorem sh_freeze0 : lookIn "freeze" emptyD = some none := by kernel_rfl
theorem sh_values0 : lookIn "values" emptyD = some none := by kernel_rfl
theorem pk_hasdict (P : Params) : ∃ cd, clsIn (Mine.hd.heap_1 P) 120 = some cd ∧ cd.hasDict = true := ⟨_, rfl, rfl⟩
theorem refuse_fdd (self : Value) : refuseLoop self "__setattr__" [.ref 120, .type "collections.defaultdict", .type "dict", .type "object"] = pure () := by kernel_rfl
section
variable {prog : Program} {w : World} {A : Around} {E : Value → Shared → Prop} {mb : Str → Option Value} {W : Wo} {g h h' : Heap} {s : Shared} {es : Array DictEntry} {kvs : List (Str × Value)} {k : Str} {t : Tok} {b dx f : Addr} {ep : Nat} {od : Obj}
/-- b._frozen = v -/
theorem set_frozen {lam : Addr} {Q : Unit → Shared → Prop} (Xk : (Mine.hd.heap_1 w.params).In s.heap) (ho : s.heap.get? b = some (fddObj dx f es ep)) (hd : s.heap.get? dx = some emptyD)
    (h : ∀ h' x tk n, Heap.SameBut dx s.heap h' → h'.get? dx = some (fzD x tk (.ref lam) n) → Q () { s with heap := h', toks := s.toks + 2 }) : wpAny (model prog w) A (setAttr (.ref b) "_frozen" (.ref lam)) Q E s := by
  have SF := PySem.F.store_object
  refine set_plain Xk (inst_at ho hd) (fb_setattr w.params) ?_
  have sub := inst_fdd (M := model prog w) Xk ho (mb_obj w.params)
  refine codeAny_call_builtin SF.slot.plain SF.entry (@check_slot (model prog w) _ _ { s with toks := s.toks + 1 } "object.__setattr__" "object" "__setattr__" (.ref b) [.str "_frozen" s.toks, .ref lam] [] _ SF.kind SF.split sub (SF.args (.ref b) (.str "_frozen" s.toks) (.ref lam)) ?_)
  have L0 := typeOf_fdd (M := model prog w) ho
  have L1 : Looks (model prog w) s.heap (mroOf (.ref 120)) [.ref 120, .type "collections.defaultdict", .type "dict", .type "object"] := Looks.of_peek Xk (pk_mro120 w.params prog)
  have L2 : Looks (model prog w) s.heap (typeLookup (.ref 120) "_frozen") none := looks_findIn Xk (fb_frozen w.params)
  obtain ⟨cd, hc, -⟩ := pk_bound w.params
  have L3 := looks_clsIn (M := model prog w) Xk hc
  obtain ⟨hp, gg, d, tk, os⟩ := s
  dsimp only at Xk ho hd L0 L1 L2 L3 h
  rw [osa_eq, refuse_eq]
  refine wpAny_bind (wpAny_bind (L0.at (wpAny_bind (L1.at ?_))))
  rw [refuse_fdd]
  refine wpAny_pure (wpAny_bind (L0.at (wpAny_bind (L2.at (wpAny_bind ?_)))))
  refine wpAny_pure ?_
  dsimp only
  obtain ⟨cd', hc', hdict⟩ := pk_hasdict w.params
  have L4 := looks_clsIn (M := model prog w) Xk hc'
  have D' : (hp.update dx (Obj.putName "_frozen" (PyData.keyHash w.params "_frozen") (.str "_frozen" (tk + 1)) (.ref lam))).get? dx = some (fzD (PyData.keyHash w.params "_frozen") (tk + 1) (.ref lam) 1) := (Heap.get?_update_self _ hd rfl)
  unfold ObjectAttr.storeInOwnDict
  refine wpAny_bind (wpAny_pure (wpAny_bind (wpAny_bind (wpAny_loadPart ho (wpAny_bind (L4.here ?_))))))
  rw [hdict]
  refine wpAny_pure (a := some dx) (wpAny_bind (wpAny_pure (wpAny_bind ?_)))
  unfold nsSet
  refine wpAny_bind (wpAny_bind (wpAny_askSetting (wpAny_pure (wpAny_bind (wpAny_mkText (wpAny_bind (wpAny_loadPart hd ?_)))))))
  dsimp only
  rw [aRefKeyMayBeTheName_at]
  rw [show ((!(#[] : Array DictEntry).any fun x => x.key.isStr (Str.ofString "_frozen")) && (#[] : Array DictEntry).any fun x => x.refKey) = false from by decide +kernel]
  refine wpAny_updatePart' hd ?_
  refine wpAny_bind (wpAny_lookBehind (s := ⟨_, _, _, _, _⟩) D' (pastItsLine_dict (by rw [sizeLine_eq]; exact (by decide : (1:Nat) ≤ 16777216 + 1))) ?_)
  refine wpAny_pure ?_
  exact h _ _ _ _ (Heap.SameBut.update ..) D'
end
end Mine
end
section
open PySem PySem.W PySem.Spec PySem.Calls PyProof.Rows PySem.Builtin PySem.Builtin.Str
set_option Elab.async false
set_option tactic.hygienic false
set_option linter.unusedVariables false
set_option maxRecDepth 100000
set_option maxHeartbeats 4000000
namespace Mine
section
variable {M : Model} {A : Around} {E : Value → Shared → Prop} {s : Shared} {name qual : Str} {params : Arguments} {body : Expr} {scope : Scope} {env : Env} {c P : Addr} {pos : Pos} {firstLine : Nat} {mg : Str → Option Value} {Q : Value → Shared → Prop}
/-- a function is made, its code object's own table told of -/
theorem make_deep (hcl : closureFor scope env = pure []) (hge0 : env.globals = mainGlobals) (hg : s.heap.Ns mainGlobals mg) (hcode : env.code = .ref c) (C : CodeHd s.heap c P) (hP : s.heap.get? P = some (tabObj #[]))
    (hgP : mainGlobals ≠ P) (hb : s.heap.BuiltinsAt mg P)
    (h : ∀ c' P' h' tk, Heap.ExtBut P s.heap h' → s.heap.objs.size ≤ c' → c' < h'.objs.size → h'.CodeRec (.ref c') qual → h'.get? P = some (tabObj #[rawInt pos.line, rawInt pos.col, .ref c']) → s.heap.objs.size ≤ P' → CodeHd h' c' P' → h'.get? P' = some (tabObj #[]) →
      Q (.ref h'.objs.size) { s with heap := h'.push (kla_obj name qual params body scope [] ((mg "__name__").getD .none) c' .none), toks := tk }) :
    wpAny M A (makeFunction name qual params (.expr body) scope env [] [] [] pos firstLine) Q E s := by
  rw [makeFunction_eq]
  simp only [List.zip_nil_right, List.filterMap_nil, List.isEmpty_nil, if_true, pure_bind]
  obtain ⟨bm, ob, hbm, hne0, _, hneP, hbo, hcls, hdict, hdata⟩ := hb
  unfold makeTail
  rw [hcl, hge0]
  refine wpAny_bind (wpAny_pure ?_)
  simp only [List.isEmpty_nil, if_true]
  refine wpAny_bind (wpAny_pure ?_)
  refine wpAny_bind (wpAny_functionCodeX hcode (C.code hP trivial) (C.tab hP) rfl fun c' h' tk hx hge hlt _ hrec htb deep => ?_)
  have hg' := hg.extBut hx hgP
  obtain ⟨P', d1, d2, d3⟩ := deep
  refine wpAny_bind (wpAny_builtinsFor hg' hbm hne0 (hx _ _ hneP hbo) hcls hdict hdata ?_)
  refine wpAny_bind (wpAny_nsGet hg' ?_)
  exact wpAny_bind (wpAny_pure (wpAny_newObj_type (h c' P' h' tk hx hge hlt hrec (by simpa using htb.2) d1 (CodeHd.of d2 d3) d3.2) (by size_fits)))
end
/-- the place of a table that may not be there yet -/
noncomputable def tabL : Option Addr → List Addr
  | none => []
  | some a => [a]
/-- the two tables of nested lambdas -/
noncomputable def T2At (g h : Heap) (P : Addr) (pos : Pos) (qual : Str) (pos' : Pos) (qual' : Str) : Option Addr → Prop
  | none => h.get? P = some (tabObj #[])
  | some P' => (∃ c', h.get? P = some (tabObj #[rawInt pos.line, rawInt pos.col, .ref c']) ∧ g.CodeRec (.ref c') qual ∧ CodeHd g c' P') ∧ TabOk g h P' pos' qual' ∧ P' ≠ P
theorem T2At.mono {g g' h h' : Heap} {P : Addr} {pos : Pos} {qual : Str} {pos' : Pos} {qual' : Str} {o : Option Addr} (x : T2At g h P pos qual pos' qual' o) (k : Kp g g') (e : ∀ a ∈ P :: tabL o, ∀ ob, h.get? a = some ob → h'.get? a = some ob) : T2At g' h' P pos qual pos' qual' o := by
  cases o with
  | none => exact e _ (.head _) _ x
  | some P' =>
    obtain ⟨⟨c', x1, x2, x3⟩, y, z⟩ := x
    exact ⟨⟨c', e _ (.head _) _ x1, x2.keeps k, x3.keeps k⟩, y.mono k (e _ (.tail _ (.head _))), z⟩
noncomputable def ownT2 (P : Addr) (pos : Pos) (qual : Str) (pos' : Pos) (qual' : Str) (o : Option Addr) : Own where
  fp := P :: tabL o
  xs := P :: tabL o
  O := fun g h => T2At g h P pos qual pos' qual' o
  ok := fun a _ _ k f => a.mono k f
section
variable {prog : Program} {w : World} {W : Wo} {A : Around} {E : Value → Shared → Prop} {g g' h h' : Heap} {s : Shared} {env : Env}
/-- a lambda that makes lambdas is made -/
theorem mk_lam2 {c P : Addr} {params : Arguments} {body : Expr} {scope : Scope} {pos pos' : Pos} {qual' : Str} {o : Option Addr} {Q : Value → Shared → Prop} (O : Ok W g s) (hgl : env.globals = mainGlobals) (hcode : env.code = .ref c) (C : CodeHd g c P) (hcl : closureFor scope env = pure [])
    (hdef : defaultsOf params env = ([], [])) (T : T2At g s.heap P pos (env.qual ++ "<lambda>") pos' qual' o) (gP : ∀ a ∈ P :: tabL o, g.get? a = none ∧ a < s.heap.objs.size)
    (k : ∀ f g' h' tk pm c' ctv P', 0 < tk → ExtX [P] g s.heap g' h' → g'.get? f = some { cls := .type "function", data := .func (lamFn env params body scope [] pm (.ref c') ctv) } → g'.CodeRec (.ref c') (env.qual ++ "<lambda>") → CodeHd g' c' P' →
      T2At g' h' P pos (env.qual ++ "<lambda>") pos' qual' (some P') → (o = some P' ∨ (o = none ∧ s.heap.objs.size ≤ P')) → (∀ a ∈ [P, P'], g'.get? a = none ∧ a < h'.objs.size) → s.heap.objs.size ≤ f → Q (.ref f) { s with heap := h', toks := tk }) :
    wpAny (model prog w) A (eval (.Lambda params body scope pos) env) Q E s := by
  obtain ⟨bm, ob, b1, b2, b3, b4, b5, b6⟩ := O.wd.bm
  have hgs := O.wd.gn.keeps O.sub
  obtain ⟨gP0, zP⟩ := gP P (.head _)
  have hgP : mainGlobals ≠ P := fun q => by
    obtain ⟨o, es, ep, e, hd, _⟩ := O.wd.gn
    rw [q, gP0] at e; cases e
  have hbP : bm ≠ P := fun q => by rw [q, gP0] at b3; cases b3
  have hbG : bm ≠ mainGlobals := fun q => by
    obtain ⟨o, es, ep, e, hd, _⟩ := O.wd.gn
    rw [q, e] at b3; cases b3; rw [hd] at b6; cases b6
  have bat : s.heap.BuiltinsAt W.mg P := ⟨bm, ob, b1, b2, hbG, hbP, O.sub _ _ b3, b4, b5, b6⟩
  refine kla_eval hdef (grows O.pos ?_)
  cases o with
  | none =>
    refine make_deep (mg := W.mg) hcl hgl hgs hcode (C.keeps O.sub) T hgP bat fun c' P' h' tk hx hge hlt hrec htb nP' hd' tP' => fun p z => ?_
    obtain ⟨c₂, oc, vs, t, e2, hoc, hd, hv⟩ := id hrec
    cases e2
    have nf : h'.objs.size ≠ c' := Nat.ne_of_gt hlt
    have zz : s.heap.objs.size ≤ h'.objs.size := Nat.le_of_lt (Nat.lt_of_le_of_lt hge hlt)
    have x1 : ExtX [P] g s.heap g h' := extX_of_but O.sub gP0 hx zz
    have x2 := x1.trans (ext_push x1.sub (kla_obj "<lambda>" (env.qual ++ "<lambda>") params body scope [] ((W.mg "__name__").getD .none) c' .none)).toX
    obtain ⟨x3, y1, y2⟩ := ext_two x2 (Heap.get?_push_of_some _ hoc) hge (Heap.get?_push_size _ rfl) zz (Ne.symm nf)
    have ltP' : P' < h'.objs.size := Heap.lt_size tP'
    obtain ⟨o₃, vs₃, file, tf, flags, tg, inF, text, tt, d1, d2, d3, d4, d5, d6, d7, d8, d9, d10⟩ := hd'
    rw [hoc] at d1
    cases d1
    have offa : ∀ a, a < s.heap.objs.size → (gput (gput g c' oc) h'.objs.size (kla_obj "<lambda>" (env.qual ++ "<lambda>") params body scope [] ((W.mg "__name__").getD .none) c' .none)).get? a = g.get? a := fun a ha => by
      rw [gput_other _ _ (Nat.ne_of_lt (Nat.lt_of_lt_of_le ha zz)), gput_other _ _ (Nat.ne_of_lt (Nat.lt_of_lt_of_le ha hge))]
    have offP' : (gput (gput g c' oc) h'.objs.size (kla_obj "<lambda>" (env.qual ++ "<lambda>") params body scope [] ((W.mg "__name__").getD .none) c' .none)).get? P' = none := by
      rw [gput_other _ _ (Nat.ne_of_lt ltP'), gput_other _ _ (Ne.symm d10)]
      cases q : g.get? P' with
      | none => rfl
      | some o => exact absurd (Heap.lt_size (O.sub _ _ q)) (Nat.not_lt.mpr nP')
    have rec' : (gput (gput g c' oc) h'.objs.size (kla_obj "<lambda>" (env.qual ++ "<lambda>") params body scope [] ((W.mg "__name__").getD .none) c' .none)).CodeRec (.ref c') (env.qual ++ "<lambda>") := ⟨c', oc, vs, t, rfl, y1, hd, hv⟩
    have hd'' : CodeHd (gput (gput g c' oc) h'.objs.size (kla_obj "<lambda>" (env.qual ++ "<lambda>") params body scope [] ((W.mg "__name__").getD .none) c' .none)) c' P' := ⟨oc, vs₃, file, tf, flags, tg, inF, text, tt, y1, d2, d3, d4, d5, d6, d7, d8, d9, d10⟩
    have ltz : ∀ a, a < h'.objs.size → a < (h'.push (kla_obj "<lambda>" (env.qual ++ "<lambda>") params body scope [] ((W.mg "__name__").getD .none) c' .none)).objs.size := fun a ha => by rw [Heap.size_push]; exact Nat.lt_succ_of_lt ha
    refine k h'.objs.size _ _ tk _ c' .none P' p x3 y2 rec' hd'' ⟨⟨c', Heap.get?_push_of_some _ htb, rec', hd''⟩, .inl (Heap.get?_push_of_some _ tP'), aNe fun q => ?_⟩ (.inr ⟨rfl, nP'⟩) (fun a ha => ?_) zz
    · rw [q] at nP'; exact absurd zP (Nat.not_lt.mpr nP')
    · rcases List.mem_cons.mp ha with rfl | ha
      · exact ⟨(offa _ zP).trans gP0, ltz _ (Nat.lt_of_lt_of_le zP zz)⟩
      · rw [List.mem_singleton.mp ha]; exact ⟨offP', ltz _ ltP'⟩
  | some P' =>
    obtain ⟨⟨c', T, rec, hd'⟩, tP', ne⟩ := T
    obtain ⟨gP', zP'⟩ := gP P' (.tail _ (.head _))
    refine kla_makeFunctionHit (mg := W.mg) (cv := .ref c') hcl hgl hgs hcode (C.keeps O.sub) T (by simp [TriplesOk, rawInt]) (by simpa using among_hit) bat fun ctv h' tk kp z0 => fun p z => ?_
    have x1 : Ext g s.heap g h' := ⟨fun b o _ e => kp b o e, z0, fun b o e => kp b o (O.sub b o e), fun _ _ => rfl⟩
    have x2 := ext_put x1.sub { cls := .type "function", data := .func (lamFn env params body scope [] ((W.mg "__name__").getD .none) (.ref c') ctv) } rfl
    have x3 := x1.trans x2
    have gr := Ext.grow O.sub x3
    have offa : ∀ a, a < s.heap.objs.size → g.get? a = none → (gput g h'.objs.size { cls := .type "function", data := .func (lamFn env params body scope [] ((W.mg "__name__").getD .none) (.ref c') ctv) }).get? a = none := fun a ha e => by
      rw [gput_other _ _ (Nat.ne_of_lt (Nat.lt_of_lt_of_le ha z0))]; exact e
    refine k h'.objs.size _ _ tk _ c' ctv P' p x3.toX (gput_self _ _ _ rfl) (rec.keeps gr) (hd'.keeps gr) ⟨⟨c', Heap.get?_push_of_some _ (kp _ _ T), rec.keeps gr, hd'.keeps gr⟩, tP'.mono gr fun o e => Heap.get?_push_of_some _ (kp _ _ e), ne⟩ (.inl rfl) (fun a ha => ?_) z0
    rcases List.mem_cons.mp ha with rfl | ha
    · exact ⟨offa _ zP gP0, by rw [Heap.size_push]; exact Nat.lt_succ_of_lt (Nat.lt_of_lt_of_le zP z0)⟩
    · rw [List.mem_singleton.mp ha]; exact ⟨offa _ zP' gP', by rw [Heap.size_push]; exact Nat.lt_succ_of_lt (Nat.lt_of_lt_of_le zP' z0)⟩
end
end Mine
end
section
open PySem PySem.W PySem.Spec PySem.Calls PyProof.Rows PySem.Builtin PySem.Builtin.Str
set_option Elab.async false
set_option tactic.hygienic false
set_option linter.unusedVariables false
set_option maxRecDepth 100000
set_option maxHeartbeats 4000000
namespace Mine
theorem mg_fdd {w : World} : mgC w.params "FreezableDefaultDict" = some (.ref 120) := by kernel_rfl
theorem keep_120 (P : Params) : keepIn (Mine.hd.heap_1 P) (.ref 120) = true := by kernel_rfl
noncomputable abbrev noArgs : Arguments := { posonlyargs := [], args := [], vararg := none, kwonlyargs := [], kw_defaults := [], kwarg := none, defaults := [] }
noncomputable abbrev scI : Scope := { kind := .function, names := [], isGenerator := false, isCoroutine := false, more := [] }
noncomputable abbrev scO : Scope := { kind := .function, names := [("FreezableDefaultDict", .globalImplicit)], isGenerator := false, isCoroutine := false, more := [] }
theorem sc_cell : ∀ x ∈ scO.names, x.2 ≠ NameKind.cell := by decide
noncomputable abbrev posI : Pos := ⟨157, 0, 157, 10⟩
noncomputable abbrev posO : Pos := ⟨156, 0, 157, 12⟩
noncomputable abbrev bodyI : Expr := .List [] ⟨157, 8, 157, 10⟩
noncomputable abbrev bodyO : Expr := .Call (.Name "FreezableDefaultDict" ⟨156, 8, 156, 28⟩) [.Lambda noArgs bodyI scI posI] [] ⟨156, 8, 157, 12⟩
noncomputable def qualO : Str := (("_law_book" : Str) ++ ".<locals>.") ++ "<lambda>"
noncomputable def qualI : Str := (qualO ++ ".<locals>.") ++ "<lambda>"
/-- the factory of lists -/
noncomputable def LamI (g : Heap) (f : Addr) : Prop := ∃ pm c' ctv, g.get? f = some { cls := .type "function", data := .func (kla_fn "<lambda>" qualI noArgs bodyI scI [] pm (.ref c') ctv) } ∧ g.CodeRec (.ref c') qualI
/-- the factory of floors; its code's table -/
noncomputable def LamO (g : Heap) (f P' : Addr) : Prop := ∃ pm c' ctv, g.get? f = some { cls := .type "function", data := .func (kla_fn "<lambda>" qualO noArgs bodyO scO [] pm (.ref c') ctv) } ∧ g.CodeRec (.ref c') qualO ∧ CodeHd g c' P'
theorem LamI.mono {g g' : Heap} {f : Addr} (x : LamI g f) (k : Kp g g') : LamI g' f := let ⟨a, b, c, d, e⟩ := x; ⟨a, b, c, k _ _ d, e.keeps k⟩
theorem LamO.mono {g g' : Heap} {f P' : Addr} (x : LamO g f P') (k : Kp g g') : LamO g' f P' := let ⟨a, b, c, d, e, i⟩ := x; ⟨a, b, c, k _ _ d, e.keeps k, i.keeps k⟩
section
variable {prog : Program} {w : World} {A : Around} {E : Value → Shared → Prop} {mb : Str → Option Value} {W : Wo} {g g' h h' : Heap} {s : Shared} {env : Env} {ρ : Str → Option Dt} {f P' : Addr}
/-- FreezableDefaultDict(e) -/
theorem ev_fdd {e : Expr} {p pos : Pos} {Q : Value → Shared → Prop} (S : SE prog w W env g s ρ) (q : SameW W (WX w mb [])) (hk : env.kindOf "FreezableDefaultDict" = some .globalImplicit) (hse : starEach [e] env = [(false, eval e env)])
    (lam : wpAny (model prog w) A (eval e env) (fun v s' => ∃ f o, v = .ref f ∧ (Mine.hd.heap_1 w.params).In s'.heap ∧ s'.heap.get? f = some o ∧ o.cls = .type "function" ∧
      ∀ h' tk, s'.toks ≤ tk → (∀ a o, s'.heap.get? a = some o → h'.get? a = some o) → h'.objs.size = s'.heap.objs.size + 2 → h'.get? s'.heap.objs.size = some emptyD → h'.get? (s'.heap.objs.size + 1) = some (fddObj s'.heap.objs.size f #[] 0) → Q (.ref (s'.heap.objs.size + 1)) { s' with heap := h', toks := tk }) E s) :
    wpAny (model prog w) A (eval (.Call (.Name "FreezableDefaultDict" p) [e] [] pos) env) Q E s := by
  refine wpAny_Call_NameR (ev_global S hk (by rw [q.g]; exact mg_fdd) ?_)
  rw [hse]
  refine callWith_of (P := fun h => (Mine.hd.heap_1 w.params).In h) rfl (keeps_K (keep_120 w.params)) (evalArgs_plain (spliced_cons (wpAny_mono lam (fun v s' hv => ?_) fun _ _ z => z)))
  obtain ⟨f, o, rfl, X, ho, hc, k⟩ := hv
  exact spliced_nil ⟨X, call_fdd X ⟨o, ho, hc⟩ k⟩
/-- the factory of lists is called -/
theorem call_lamI {Q : Value → Shared → Prop} (F : LamI g f) (O : Ok W g s) (room : A.depth < recursionLimit)
    (k : ∀ h' tk, 0 < tk → Ext g s.heap g h' → (∀ a o, s.heap.get? a = some o → h'.get? a = some o) → ∀ a, s.heap.objs.size ≤ a → a < h'.objs.size → h'.PlainList a #[] → g.get? a = none → Q (.ref a) { s with heap := h', toks := tk }) : wpAny (model prog w) A (call (.ref f) []) Q E s := by
  obtain ⟨pm, c', ctv, hf, hrec⟩ := F
  refine call_fnE (W := W) (ps := []) (ds := []) (ρ := fun _ => none) O ⟨_, hf, rfl⟩ rfl rfl rfl rfl rfl rfl (fun _ h => nomatch h) hrec rfl (fun _ h => nomatch h) .nil .nil rfl room (fun _ _ h => nomatch h) (fun _ h => nomatch h) fun L h₁ tk₁ p₁ hL x₁ S => ?_
  refine wpAny_List_spliced (wpAny_pure ⟨Nat.zero_le _, ?_⟩)
  have e := ext_push S.sub { cls := .type "list", data := .seq ([] : List Value).toArray }
  have x := x₁.trans e
  exact k _ _ p₁ x (fun a o q => x.keep a o rfl q) _ x₁.size (by rw [Heap.size_push]; exact Nat.lt_succ_self _) ⟨0, Heap.get?_push_size _ rfl⟩ (none_of_size S.toOk)
/-- the factory of floors is called -/
theorem call_lamO {Q : Value → Shared → Prop} (F : LamO g f P') (O : Ok W g s) (q : SameW W (WX w mb [])) (room : A.depth < recursionLimit) (T : TabOk g s.heap P' posI qualI) (gP : g.get? P' = none) (zP : P' < s.heap.objs.size)
    (k : ∀ b d fi g' h' tk, 0 < tk → ExtX [P'] g s.heap g' h' → s.heap.objs.size ≤ d → b = d + 1 → b < h'.objs.size → g'.get? b = none → g'.get? d = none → h'.get? d = some emptyD → h'.get? b = some (fddObj d fi #[] 0) → LamI g' fi → TabOk g' h' P' posI qualI → g'.get? P' = none → Q (.ref b) { s with heap := h', toks := tk }) :
    wpAny (model prog w) A (call (.ref f) []) Q E s := by
  obtain ⟨pm, c', ctv, hf, hrec, hcd⟩ := F
  refine call_fnE (W := W) (ps := []) (ds := []) (ρ := fun _ => none) O ⟨_, hf, rfl⟩ rfl rfl rfl rfl rfl rfl sc_cell hrec rfl (fun _ h => nomatch h) .nil .nil rfl room (fun _ _ h => nomatch h) (fun _ h => nomatch h) fun L h₁ tk₁ p₁ hL x₁ S => ?_
  refine ev_fdd S q rfl rfl ?_
  refine mk_lam (c := c') (P := P') S.toOk rfl rfl hcd rfl rfl (T.mono (Kp.refl _) fun o e => x₁.keep _ _ rfl e) gP (Nat.lt_of_lt_of_le zP x₁.size) fun fi g₂ h₂ tk₂ pm₂ c₂ ctv₂ p₂ x₂ hfi hrec₂ T₂ gP₂ zf => ?_
  have O₂ := S.toOk.extX x₂ p₂
  refine ⟨fi, _, rfl, (by have := O₂.wd.k; rw [q.k] at this; exact this.keeps O₂.sub), x₂.sub _ _ hfi, rfl, fun h' tk hle kp hz hd hb => ?_⟩
  have x₃ : Ext g₂ h₂ g₂ h' := ⟨fun b o _ e => kp b o e, by rw [hz]; exact Nat.le_add_right _ _, fun b o e => kp b o (x₂.sub b o e), fun _ _ => rfl⟩
  have off : ∀ a, h₂.objs.size ≤ a → g₂.get? a = none := fun a ha => by
    cases e : g₂.get? a with
    | none => rfl
    | some o => exact absurd (Heap.lt_size (x₂.sub _ _ e)) (Nat.not_lt.mpr ha)
  exact k _ h₂.objs.size fi g₂ h' tk (Nat.lt_of_lt_of_le p₂ hle) ((x₁.toX (X := [P'])).trans (x₂.trans x₃.toX)) (Nat.le_trans x₁.size x₂.size) rfl (by rw [hz]; exact Nat.lt_succ_self _) (off _ (Nat.le_succ _)) (off _ (Nat.le_refl _)) hd hb ⟨_, _, _, hfi, hrec₂⟩ (T₂.mono (Kp.refl _) fun o e => kp _ _ e) gP₂
end
end Mine
end
section
open PySem PySem.W PySem.Spec PySem.Calls PyProof.Rows PySem.Builtin PySem.Builtin.Str
set_option Elab.async false
set_option tactic.hygienic false
set_option linter.unusedVariables false
set_option maxRecDepth 100000
set_option maxHeartbeats 4000000
namespace Mine
/-- what a book of books of lists holds -/
structure Dat where
  os : List Str
  is : Str → List Str
  vs : Str → Str → List Str
noncomputable def Dat.addO (D : Dat) (o : Str) : Dat := if o ∈ D.os then D else { D with os := D.os ++ [o] }
noncomputable def Dat.addI (D : Dat) (o i : Str) : Dat := if i ∈ D.is o then D else { D with is := fun x => if x = o then D.is o ++ [i] else D.is x }
noncomputable def Dat.addV (D : Dat) (o i v : Str) : Dat := { D with vs := fun x y => if x = o ∧ y = i then D.vs o i ++ [v] else D.vs x y }
structure Dat.Ok (D : Dat) : Prop where
  i0 : ∀ o, o ∉ D.os → D.is o = []
  v0 : ∀ o i, i ∉ D.is o → D.vs o i = []
inductive Tag where
  | bk | bd
  | fl (o : Str) | fd (o : Str)
  | ls (o i : Str)
/-- where it lies -/
structure Bk where
  b : Addr
  d : Addr
  f : Addr
  fl : Str → Addr
  fd : Str → Addr
  ff : Str → Addr
  ls : Str → Str → Addr
  od : Obj
  oo : Str → Obj
noncomputable abbrev keysT (T : List (Addr × Tag)) : List Addr := T.map (·.1)
structure BookAt (prog : Program) (w : World) (g h : Heap) (P' : Addr) (D : Dat) (B : Bk) (T : List (Addr × Tag)) : Prop where
  bk : ∃ es ep, h.get? B.b = some (fddObj B.d B.f es ep) ∧ Keyed prog w es (D.os.map fun o => (o, .ref (B.fl o)))
  bd : h.get? B.d = some B.od
  bf : LamO g B.f P'
  fl : ∀ o ∈ D.os, ∃ es ep, h.get? (B.fl o) = some (fddObj (B.fd o) (B.ff o) es ep) ∧ Keyed prog w es ((D.is o).map fun i => (i, .ref (B.ls o i)))
  fd : ∀ o ∈ D.os, h.get? (B.fd o) = some (B.oo o)
  ff : ∀ o ∈ D.os, LamI g (B.ff o)
  ls : ∀ o ∈ D.os, ∀ i ∈ D.is o, ∃ ys, h.PlainList (B.ls o i) ys ∧ Rds prog w g ys.toList ((D.vs o i).map .str)
  ok : D.Ok
  nd : (keysT T).Nodup
  tb : (B.b, .bk) ∈ T
  td : (B.d, .bd) ∈ T
  tl : ∀ o ∈ D.os, (B.fl o, .fl o) ∈ T
  te : ∀ o ∈ D.os, (B.fd o, .fd o) ∈ T
  ts : ∀ o ∈ D.os, ∀ i ∈ D.is o, (B.ls o i, .ls o i) ∈ T
theorem tagU {T : List (Addr × Tag)} (nd : (keysT T).Nodup) {a : Addr} {t t' : Tag} (x : (a, t) ∈ T) (y : (a, t') ∈ T) : t = t' := by
  induction T with
  | nil => cases x
  | cons p T ih =>
    simp only [keysT, List.map_cons, List.nodup_cons] at nd
    rcases List.mem_cons.mp x with q | x
    · rcases List.mem_cons.mp y with q' | y
      · rw [← q] at q'; cases q'; rfl
      · rw [← q] at nd; exact absurd (List.mem_map_of_mem (f := (·.1)) y) nd.1
    · rcases List.mem_cons.mp y with q' | y
      · rw [← q'] at nd; exact absurd (List.mem_map_of_mem (f := (·.1)) x) nd.1
      · exact ih nd.2 x y
theorem tagNe {T : List (Addr × Tag)} (nd : (keysT T).Nodup) {a b : Addr} {t t' : Tag} (x : (a, t) ∈ T) (y : (b, t') ∈ T) (n : t ≠ t') : a ≠ b := fun q => n (tagU nd x (q ▸ y))
theorem tagIn {T : List (Addr × Tag)} {a : Addr} {t : Tag} (x : (a, t) ∈ T) : a ∈ keysT T := List.mem_map_of_mem (f := (·.1)) x
theorem valueAt_mem {φ : Str → Value} : ∀ {os : List Str} {o : Str}, o ∈ os → valueAt (os.map fun o => (o, φ o)) o = some (φ o)
  | x :: os, o, h => by
    unfold valueAt
    simp only [List.map_cons, List.find?_cons]
    by_cases q : x = o
    · subst q; simp
    · simp only [q, decide_false]
      have h' : o ∈ os := (List.mem_cons.mp h).resolve_left fun z => q z.symm
      have := valueAt_mem (φ := φ) h'
      unfold valueAt at this
      exact this
theorem valueAt_not {φ : Str → Value} : ∀ {os : List Str} {o : Str}, o ∉ os → valueAt (os.map fun o => (o, φ o)) o = none
  | [], _, _ => rfl
  | x :: os, o, h => by
    unfold valueAt
    simp only [List.map_cons, List.find?_cons]
    have q : x ≠ o := fun z => h (z ▸ .head _)
    simp only [q, decide_false]
    have := valueAt_not (φ := φ) (os := os) (o := o) fun z => h (.tail _ z)
    unfold valueAt at this
    exact this
theorem keyed_size {prog : Program} {w : World} {es : Array DictEntry} {kvs : List (Str × Value)} (K : Keyed prog w es kvs) : es.size = kvs.length := by
  have := K.prs.length
  rw [Array.length_toList] at this
  exact this
section
variable {prog : Program} {w : World} {g g' h h' : Heap} {P' : Addr} {D : Dat} {B : Bk} {T : List (Addr × Tag)} {o i v : Str}
/-- what does not touch it leaves it -/
theorem BookAt.frame (x : BookAt prog w g h P' D B T) (k : Kp g g') (e : ∀ p ∈ T, ∀ ob, h.get? p.1 = some ob → h'.get? p.1 = some ob) : BookAt prog w g' h' P' D B T :=
  { x with
    bk := let ⟨es, ep, a, b⟩ := x.bk; ⟨es, ep, e _ x.tb _ a, b⟩
    bd := e _ x.td _ x.bd
    bf := x.bf.mono k
    fl := fun o ho => let ⟨es, ep, a, b⟩ := x.fl o ho; ⟨es, ep, e _ (x.tl o ho) _ a, b⟩
    fd := fun o ho => e _ (x.te o ho) _ (x.fd o ho)
    ff := fun o ho => (x.ff o ho).mono k
    ls := fun o ho i hi => let ⟨ys, a, b⟩ := x.ls o ho i hi; ⟨ys, plain_at a (e _ (x.ts o ho i hi)), b.mono k⟩ }
/-- one more floor -/
theorem BookAt.addO {n m fi : Addr} {es : Array DictEntry} {ep : Nat} (x : BookAt prog w g h P' D B T) (no : o ∉ D.os) (k : Kp g g') (e : ∀ p ∈ T, p.1 ≠ B.b → ∀ ob, h.get? p.1 = some ob → h'.get? p.1 = some ob)
    (hb : h'.get? B.b = some (fddObj B.d B.f es ep)) (K : Keyed prog w es ((D.os.map fun o => (o, Value.ref (B.fl o))) ++ [(o, .ref n)])) (hn : h'.get? n = some (fddObj m fi #[] 0)) (hm : h'.get? m = some (B.oo o)) (hf : LamI g' fi)
    (nT : n ∉ keysT T) (mT : m ∉ keysT T) (nm : n ≠ m) :
    BookAt prog w g' h' P' (D.addO o) { B with fl := fun y => if y = o then n else B.fl y, fd := fun y => if y = o then m else B.fd y, ff := fun y => if y = o then fi else B.ff y } ((n, .fl o) :: (m, .fd o) :: T) := by
  have eD : D.addO o = { D with os := D.os ++ [o] } := if_neg no
  have ne : ∀ y ∈ D.os, y ≠ o := fun y hy q => no (q ▸ hy)
  have i0 : D.is o = [] := x.ok.i0 o no
  have mem : ∀ y, y ∈ D.os ++ [o] → y ∈ D.os ∨ y = o := fun y hy => (List.mem_append.mp hy).imp id List.mem_singleton.mp
  rw [eD]
  refine ⟨⟨es, ep, hb, ?_⟩, e _ x.td (tagNe x.nd x.td x.tb (by simp)) _ x.bd, x.bf.mono k, fun y hy => ?_, fun y hy => ?_, fun y hy => ?_, fun y hy i hi => ?_, ⟨fun y hy => ?_, x.ok.v0⟩, ?_, .tail _ (.tail _ x.tb), .tail _ (.tail _ x.td), fun y hy => ?_, fun y hy => ?_, fun y hy i hi => ?_⟩
  · have : ((D.os ++ [o]).map fun y => (y, Value.ref (if y = o then n else B.fl y))) = (D.os.map fun o => (o, Value.ref (B.fl o))) ++ [(o, .ref n)] := by
      rw [List.map_append]
      congr 1
      · exact List.map_congr_left fun y hy => by rw [if_neg (ne y hy)]
      · simp
    show Keyed prog w es ((D.os ++ [o]).map fun y => (y, Value.ref (if y = o then n else B.fl y)))
    rw [this]; exact K
  · rcases mem y hy with hy | rfl
    · obtain ⟨es', ep', a, b⟩ := x.fl y hy
      refine ⟨es', ep', ?_, b⟩
      dsimp only
      rw [if_neg (ne y hy), if_neg (ne y hy), if_neg (ne y hy)]
      exact e _ (x.tl y hy) (tagNe x.nd (x.tl y hy) x.tb (by simp)) _ a
    · refine ⟨#[], 0, ?_, ?_⟩
      · dsimp only; rw [if_pos rfl, if_pos rfl, if_pos rfl]; exact hn
      · dsimp only; rw [i0]; exact ⟨fun e h => absurd h (by simp), .nil, .nil⟩
  · rcases mem y hy with hy | rfl
    · dsimp only
      rw [if_neg (ne y hy)]
      exact e _ (x.te y hy) (tagNe x.nd (x.te y hy) x.tb (by simp)) _ (x.fd y hy)
    · dsimp only; rw [if_pos rfl]; exact hm
  · rcases mem y hy with hy | rfl
    · dsimp only; rw [if_neg (ne y hy)]; exact (x.ff y hy).mono k
    · dsimp only; rw [if_pos rfl]; exact hf
  · rcases mem y hy with hy | rfl
    · obtain ⟨ys, a, b⟩ := x.ls y hy i hi
      exact ⟨ys, plain_at a (e _ (x.ts y hy i hi) (tagNe x.nd (x.ts y hy i hi) x.tb (by simp))), b.mono k⟩
    · rw [i0] at hi; cases hi
  · exact x.ok.i0 y fun z => hy (List.mem_append_left _ z)
  · simp only [keysT, List.map_cons, List.nodup_cons, List.mem_cons, not_or]
    exact ⟨⟨nm, nT⟩, mT, x.nd⟩
  · rcases mem y hy with hy | rfl
    · dsimp only; rw [if_neg (ne y hy)]; exact .tail _ (.tail _ (x.tl y hy))
    · dsimp only; rw [if_pos rfl]; exact .head _
  · rcases mem y hy with hy | rfl
    · dsimp only; rw [if_neg (ne y hy)]; exact .tail _ (.tail _ (x.te y hy))
    · dsimp only; rw [if_pos rfl]; exact .tail _ (.head _)
  · rcases mem y hy with hy | rfl
    · exact .tail _ (.tail _ (x.ts y hy i hi))
    · rw [i0] at hi; cases hi
/-- one more list -/
theorem BookAt.addI {n : Addr} {es : Array DictEntry} {ep : Nat} (x : BookAt prog w g h P' D B T) (ho : o ∈ D.os) (ni : i ∉ D.is o) (k : Kp g g') (e : ∀ p ∈ T, p.1 ≠ B.fl o → ∀ ob, h.get? p.1 = some ob → h'.get? p.1 = some ob)
    (hb : h'.get? (B.fl o) = some (fddObj (B.fd o) (B.ff o) es ep)) (K : Keyed prog w es (((D.is o).map fun i => (i, Value.ref (B.ls o i))) ++ [(i, .ref n)])) (hn : h'.PlainList n #[]) (nT : n ∉ keysT T) :
    BookAt prog w g' h' P' (D.addI o i) { B with ls := fun y z => if y = o ∧ z = i then n else B.ls y z } ((n, .ls o i) :: T) := by
  have eD : D.addI o i = { D with is := fun x => if x = o then D.is o ++ [i] else D.is x } := if_neg ni
  have v0 : D.vs o i = [] := x.ok.v0 o i ni
  rw [eD]
  refine ⟨?_, e _ x.td (tagNe x.nd x.td (x.tl o ho) (by simp)) _ x.bd, x.bf.mono k, fun y hy => ?_, fun y hy => e _ (x.te y hy) (tagNe x.nd (x.te y hy) (x.tl o ho) (by simp)) _ (x.fd y hy), fun y hy => (x.ff y hy).mono k, fun y hy j hj => ?_, ⟨fun y hy => ?_, fun y j hj => ?_⟩, ?_, .tail _ x.tb, .tail _ x.td, fun y hy => .tail _ (x.tl y hy), fun y hy => .tail _ (x.te y hy), fun y hy j hj => ?_⟩
  · obtain ⟨es', ep', a, b⟩ := x.bk
    exact ⟨es', ep', e _ x.tb (tagNe x.nd x.tb (x.tl o ho) (by simp)) _ a, b⟩
  · by_cases q : y = o
    · subst q
      refine ⟨es, ep, hb, ?_⟩
      dsimp only
      rw [if_pos rfl, List.map_append]
      have : ((D.is y).map fun z => (z, Value.ref (if y = y ∧ z = i then n else B.ls y z))) = (D.is y).map fun z => (z, Value.ref (B.ls y z)) := List.map_congr_left fun z hz => by
        rw [if_neg]; rintro ⟨-, rfl⟩; exact ni hz
      rw [this]
      simpa using K
    · obtain ⟨es', ep', a, b⟩ := x.fl y hy
      refine ⟨es', ep', e _ (x.tl y hy) (tagNe x.nd (x.tl y hy) (x.tl o ho) (by simpa using q)) _ a, ?_⟩
      dsimp only
      rw [if_neg q]
      have : ((D.is y).map fun z => (z, Value.ref (if y = o ∧ z = i then n else B.ls y z))) = (D.is y).map fun z => (z, Value.ref (B.ls y z)) := List.map_congr_left fun z hz => by
        rw [if_neg]; rintro ⟨q', -⟩; exact q q'
      rw [this]; exact b
  · by_cases q : y = o ∧ j = i
    · obtain ⟨rfl, rfl⟩ := q
      dsimp only
      rw [if_pos ⟨rfl, rfl⟩, v0]
      exact ⟨#[], hn, .nil⟩
    · have hj' : j ∈ D.is y := by
        dsimp only at hj
        by_cases q' : y = o
        · subst q'
          rw [if_pos rfl] at hj
          exact (List.mem_append.mp hj).resolve_right fun z => q ⟨rfl, List.mem_singleton.mp z⟩
        · rw [if_neg q'] at hj; exact hj
      obtain ⟨ys, a, b⟩ := x.ls y hy j hj'
      dsimp only
      rw [if_neg q]
      exact ⟨ys, plain_at a (e _ (x.ts y hy j hj') (tagNe x.nd (x.ts y hy j hj') (x.tl o ho) (by simp))), b.mono k⟩
  · dsimp only
    rw [if_neg (fun q : y = o => hy (q ▸ ho))]
    exact x.ok.i0 y hy
  · dsimp only at hj ⊢
    refine x.ok.v0 y j fun z => hj ?_
    by_cases q' : y = o
    · subst q'; rw [if_pos rfl]; exact List.mem_append_left _ z
    · rw [if_neg q']; exact z
  · simp only [keysT, List.map_cons, List.nodup_cons]
    exact ⟨nT, x.nd⟩
  · by_cases q : y = o ∧ j = i
    · obtain ⟨rfl, rfl⟩ := q
      dsimp only
      rw [if_pos ⟨rfl, rfl⟩]; exact .head _
    · have hj' : j ∈ D.is y := by
        dsimp only at hj
        by_cases q' : y = o
        · subst q'
          rw [if_pos rfl] at hj
          exact (List.mem_append.mp hj).resolve_right fun z => q ⟨rfl, List.mem_singleton.mp z⟩
        · rw [if_neg q'] at hj; exact hj
      dsimp only
      rw [if_neg q]; exact .tail _ (x.ts y hy j hj')
/-- one more value -/
theorem BookAt.addV {ys : Array Value} (x : BookAt prog w g h P' D B T) (ho : o ∈ D.os) (hi : i ∈ D.is o) (k : Kp g g') (e : ∀ p ∈ T, p.1 ≠ B.ls o i → ∀ ob, h.get? p.1 = some ob → h'.get? p.1 = some ob)
    (hb : h'.PlainList (B.ls o i) ys) (r : Rds prog w g' ys.toList ((D.vs o i ++ [v]).map .str)) : BookAt prog w g' h' P' (D.addV o i v) B T := by
  refine ⟨?_, e _ x.td (tagNe x.nd x.td (x.ts o ho i hi) (by simp)) _ x.bd, x.bf.mono k, fun y hy => ?_, fun y hy => e _ (x.te y hy) (tagNe x.nd (x.te y hy) (x.ts o ho i hi) (by simp)) _ (x.fd y hy), fun y hy => (x.ff y hy).mono k, fun y hy j hj => ?_, ⟨x.ok.i0, fun y j hj => ?_⟩, x.nd, x.tb, x.td, x.tl, x.te, x.ts⟩
  · obtain ⟨es', ep', a, b⟩ := x.bk
    exact ⟨es', ep', e _ x.tb (tagNe x.nd x.tb (x.ts o ho i hi) (by simp)) _ a, b⟩
  · obtain ⟨es', ep', a, b⟩ := x.fl y hy
    exact ⟨es', ep', e _ (x.tl y hy) (tagNe x.nd (x.tl y hy) (x.ts o ho i hi) (by simp)) _ a, b⟩
  · show ∃ ys, h'.PlainList (B.ls y j) ys ∧ Rds prog w g' ys.toList ((if y = o ∧ j = i then D.vs o i ++ [v] else D.vs y j).map .str)
    by_cases q : y = o ∧ j = i
    · obtain ⟨rfl, rfl⟩ := q
      rw [if_pos ⟨rfl, rfl⟩]
      exact ⟨ys, hb, r⟩
    · rw [if_neg q]
      obtain ⟨ys, a, b⟩ := x.ls y hy j hj
      exact ⟨ys, plain_at a (e _ (x.ts y hy j hj) (tagNe x.nd (x.ts y hy j hj) (x.ts o ho i hi) (by simpa using q))), b.mono k⟩
  · show (if y = o ∧ j = i then D.vs o i ++ [v] else D.vs y j) = []
    rw [if_neg]
    · exact x.ok.v0 y j hj
    · rintro ⟨rfl, rfl⟩; exact hj hi
end
end Mine
end
section
open PySem PySem.W PySem.Spec PySem.Calls PyProof.Rows PySem.Builtin PySem.Builtin.Str
set_option Elab.async false
set_option tactic.hygienic false
set_option linter.unusedVariables false
set_option maxRecDepth 100000
set_option maxHeartbeats 4000000
namespace Mine
/-- an open book under way -/
structure Live (prog : Program) (w : World) (P' : Addr) (D : Dat) (B : Bk) (T : List (Addr × Tag)) (g h : Heap) : Prop where
  bk : BookAt prog w g h P' D B T
  tab : TabOk g h P' posI qualI
  off : ∀ p ∈ T, g.get? p.1 = none ∧ p.1 < h.objs.size ∧ 120 < p.1
  gP : g.get? P' = none
  zP : P' < h.objs.size
  ne : P' ∉ keysT T
  od : B.od = emptyD
  oo : ∀ o, B.oo o = emptyD
/-- from one state to a later one -/
structure Later (P' : Addr) (B : Bk) (T : List (Addr × Tag)) (g h : Heap) (B' : Bk) (T' : List (Addr × Tag)) (g' h' : Heap) : Prop where
  x : ExtX (P' :: keysT T) g h g' h'
  new : ∀ a ∈ keysT T', a ∈ keysT T ∨ h.objs.size ≤ a
  b : B'.b = B.b
section
variable {prog : Program} {w : World} {A : Around} {E : Value → Shared → Prop} {mb : Str → Option Value} {W : Wo} {g g' g'' h h' h'' : Heap} {s : Shared} {env : Env} {P' : Addr} {D D' : Dat} {B B' B'' : Bk} {T T' T'' : List (Addr × Tag)} {o i v : Str} {t : Tok}
theorem Later.trans (x : Later P' B T g h B' T' g' h') (y : Later P' B' T' g' h' B'' T'' g'' h'') : Later P' B T g h B'' T'' g'' h'' where
  x := x.x.transX y.x fun a ha => by
    rcases List.mem_cons.mp ha with rfl | ha
    · exact .inr (.head _)
    · exact (x.new a ha).elim (fun z => .inr (.tail _ z)) .inl
  new := fun a ha => (y.new a ha).elim (x.new a) fun z => .inr (Nat.le_trans x.x.size z)
  b := y.b.trans x.b
theorem Later.refl (k : Kp g h) : Later P' B T g h B T g h := ⟨(Ext.refl k).toX, fun _ z => .inl z, rfl⟩
theorem Live.keys (L : Live prog w P' D B T g h) {a : Addr} (ha : a ∈ keysT T) : g.get? a = none ∧ a < h.objs.size ∧ 120 < a := by
  obtain ⟨p, hp, rfl⟩ := List.mem_map.mp ha
  exact L.off p hp
/-- what leaves the book and its table alone -/
theorem Live.frame {h₂ : Heap} (L : Live prog w P' D B T g h) (x : Ext g h g' h₂) (k : Kp g h) : Live prog w P' D B T g' h₂ :=
  ⟨L.bk.frame (Ext.grow k x) fun p _ o e => x.keep _ _ rfl e, L.tab.mono (Ext.grow k x) fun o e => x.keep _ _ rfl e, fun p hp => let ⟨a, b, c⟩ := L.off p hp; ⟨(x.same _ b).trans a, Nat.lt_of_lt_of_le b x.size, c⟩, (x.same _ L.zP).trans L.gP, Nat.lt_of_lt_of_le L.zP x.size, L.ne, L.od, L.oo⟩
theorem big_new (Xk : (Mine.hd.heap_1 w.params).In h) {a : Addr} (ha : h.objs.size ≤ a) : 120 < a := by
  obtain ⟨o, cd, e, -⟩ := cls120 w.params
  exact Nat.lt_of_lt_of_le (Heap.lt_size (Xk _ _ e)) ha
/-- book[o] -/
theorem op_out {value slice : Expr} {Q : Value → Shared → Prop} (PO : ProgOk prog) (hA : A.handled = none) (room : A.depth + 10 < recursionLimit) (O : Ok W g s) (q : SameW W (WX w mb [])) (L : Live prog w P' D B T g s.heap) (hz : D.os.length ≤ 1000)
    (k : ∀ B' T' g' h' tk, 0 < tk → Live prog w P' (D.addO o) B' T' g' h' → Later P' B T g s.heap B' T' g' h' → Q (.ref (B'.fl o)) { s with heap := h', toks := tk }) (hs : Plain slice := by intro _ _; rfl) :
    wpAny (model prog w) A (subscriptTail value slice (.ref B.b) (.str o t)) Q E s := by
  obtain ⟨es, ep, ho, K⟩ := L.bk.bk
  have hd := L.bk.bd
  rw [L.od] at hd
  obtain ⟨z1, z2, z3⟩ := L.off _ L.bk.tb
  obtain ⟨pm, c', ctv, hf, -, -⟩ := L.bk.bf
  have Xk : (Mine.hd.heap_1 w.params).In s.heap := (O.toX q).wd.k.keeps O.sub
  refine sub_touch PO hA room O q ho hd K (aNe fun e => absurd z3 (by rw [e]; decide)) (aNe fun e => absurd z3 (by rw [e]; decide)) (by rw [keyed_size K, List.length_map]; exact hz) ⟨_, _, O.sub _ _ hf, rfl⟩ (fun v hv => ?_) (fun hn A' s₂ h1 h2 h3 h4 h5 h6 h7 => ?_) hs
  · by_cases hm : o ∈ D.os
    · rw [valueAt_mem hm] at hv
      cases hv
      have eD : D.addO o = D := if_pos hm
      exact k B T g s.heap _ (Nat.succ_pos _) (by rw [eD]; exact L) (Later.refl O.sub)
    · rw [valueAt_not hm] at hv; cases hv
  · have no : o ∉ D.os := fun hm => by rw [valueAt_mem hm] at hn; cases hn
    have x1 : Ext g s.heap g s₂.heap := ⟨fun b o _ e => h6 b o e, h7, fun b o e => h6 b o (O.sub b o e), fun _ _ => rfl⟩
    have O₂ : Ok W g s₂ := by
      have := O.ext (tk := s₂.toks) x1 h5
      rw [h4]; exact this
    have L₂ := L.frame x1 O.sub
    refine call_lamO (W := W) (mb := mb) L₂.bk.bf O₂ q (by omega) L₂.tab L₂.gP L₂.zP fun b m fi g₃ h₃ tk₃ p₃ x₃ hm hbm hb₃ gb gm hd₃ ho₃ hfi T₃ gP₃ => ?_
    dsimp only
    have O₃ : Ok W g₃ { s₂ with heap := h₃, toks := tk₃ } := O₂.extX x₃ p₃
    have nP : ∀ {a}, a ∈ keysT T → a ∉ [P'] := fun ha q => L.ne (List.mem_singleton.mp q ▸ ha)
    have kp₃ : ∀ p ∈ T, ∀ ob, s₂.heap.get? p.1 = some ob → h₃.get? p.1 = some ob := fun p hp ob e => x₃.keep _ _ rfl (nP (tagIn hp)) e
    refine ⟨(by have := O₃.wd.k; rw [q.k] at this; exact this.keeps O₃.sub), kp₃ _ L.bk.tb _ (h6 _ _ ho), fun h₄ ep' sb hb₄ => ?_⟩
    have offb : g₃.get? B.b = none := (x₃.same _ (L₂.keys (tagIn L.bk.tb)).2.1).trans (L₂.keys (tagIn L.bk.tb)).1
    have nb : b ∉ keysT T := fun ha => absurd (L₂.keys ha).2.1 (Nat.not_lt.mpr (by rw [hbm]; exact Nat.le_succ_of_le hm))
    have nm : m ∉ keysT T := fun ha => absurd (L₂.keys ha).2.1 (Nat.not_lt.mpr hm)
    have bB : b ≠ B.b := fun e => nb (e ▸ tagIn L.bk.tb)
    have mB : m ≠ B.b := fun e => nm (e ▸ tagIn L.bk.tb)
    have PB : P' ≠ B.b := fun e => L.ne (e ▸ tagIn L.bk.tb)
    have x₄ : ExtX [B.b] g₃ h₃ g₃ h₄ := extX_of_but x₃.sub offb (fun c oc hc e => (sb.2 c hc).trans e) (Nat.le_of_eq sb.1.symm)
    have sz : s.heap.objs.size ≤ m := Nat.le_trans h7 hm
    have szb : s.heap.objs.size ≤ b := by rw [hbm]; exact Nat.le_succ_of_le sz
    have lt₄ : ∀ a, a < h₃.objs.size → a < h₄.objs.size := fun a ha => by rw [sb.1]; exact ha
    have bk' := (L₂.bk).addO (o := o) (n := b) (m := m) (fi := fi) (h' := h₄) (g' := g₃) no (ExtX.grow O₂.sub x₃) (fun p hp hne ob e => (sb.2 _ hne).trans (kp₃ p hp ob e)) hb₄ (keyed_push K hn) ((sb.2 b bB).trans ho₃) (by rw [L.oo]; exact (sb.2 m mB).trans hd₃) hfi nb nm (by rw [hbm]; exact Nat.succ_ne_self m)
    have := k _ _ g₃ h₄ (tk₃ + 1) (Nat.succ_pos _) ⟨bk', T₃.mono (Kp.refl _) fun oc e => (sb.2 P' PB).trans e, fun p hp => ?_, gP₃, lt₄ _ (Nat.lt_of_lt_of_le L₂.zP x₃.size), ?_, L.od, fun y => L.oo y⟩ ⟨?_, fun a ha => ?_, rfl⟩
    · rw [h4]
      simpa using this
    · rcases List.mem_cons.mp hp with rfl | hp
      · exact ⟨gb, lt₄ _ hb₃, big_new Xk szb⟩
      · rcases List.mem_cons.mp hp with rfl | hp
        · exact ⟨gm, lt₄ _ (Heap.lt_size hd₃), big_new Xk sz⟩
        · obtain ⟨c1, c2, c3⟩ := L₂.off p hp
          exact ⟨(x₃.same _ c2).trans c1, lt₄ _ (Nat.lt_of_lt_of_le c2 x₃.size), c3⟩
    · simp only [keysT, List.map_cons, List.mem_cons, not_or]
      refine ⟨aNe fun e => ?_, aNe fun e => ?_, L.ne⟩
      · exact absurd L.zP (Nat.not_lt.mpr (by rw [e]; exact szb))
      · exact absurd L.zP (Nat.not_lt.mpr (by rw [e]; exact sz))
    · refine ((x1.toX (X := P' :: keysT T)).trans (x₃.mono fun a ha => ?_)).trans (x₄.mono fun a ha => ?_)
      · rw [List.mem_singleton.mp ha]; exact .head _
      · rw [List.mem_singleton.mp ha]; exact .tail _ (tagIn L.bk.tb)
    · simp only [keysT, List.map_cons, List.mem_cons] at ha
      rcases ha with rfl | rfl | ha
      · exact .inr szb
      · exact .inr sz
      · exact .inl ha
end
end Mine
end
section
open PySem PySem.W PySem.Spec PySem.Calls PyProof.Rows PySem.Builtin PySem.Builtin.Str
set_option Elab.async false
set_option tactic.hygienic false
set_option linter.unusedVariables false
set_option maxRecDepth 100000
set_option maxHeartbeats 4000000
namespace Mine
section
variable {prog : Program} {w : World} {A : Around} {E : Value → Shared → Prop} {mb : Str → Option Value} {W : Wo} {g g' g'' h h' h'' : Heap} {s : Shared} {env : Env} {P' : Addr} {D D' : Dat} {B B' B'' : Bk} {T T' T'' : List (Addr × Tag)} {o i v : Str} {t : Tok}
/-- floor[i] -/
theorem op_in {value slice : Expr} {Q : Value → Shared → Prop} (PO : ProgOk prog) (hA : A.handled = none) (room : A.depth + 10 < recursionLimit) (O : Ok W g s) (q : SameW W (WX w mb [])) (L : Live prog w P' D B T g s.heap) (ho : o ∈ D.os) (hz : (D.is o).length ≤ 1000)
    (k : ∀ B' T' g' h' tk, 0 < tk → Live prog w P' (D.addI o i) B' T' g' h' → Later P' B T g s.heap B' T' g' h' → Q (.ref (B'.ls o i)) { s with heap := h', toks := tk }) (hs : Plain slice := by intro _ _; rfl) :
    wpAny (model prog w) A (subscriptTail value slice (.ref (B.fl o)) (.str i t)) Q E s := by
  obtain ⟨es, ep, hb, K⟩ := L.bk.fl o ho
  have hd := L.bk.fd o ho
  rw [L.oo] at hd
  have inT := tagIn (L.bk.tl o ho)
  obtain ⟨z1, z2, z3⟩ := L.keys inT
  have hF := L.bk.ff o ho
  obtain ⟨pm, c', ctv, hf, -⟩ := id hF
  have Xk : (Mine.hd.heap_1 w.params).In s.heap := (O.toX q).wd.k.keeps O.sub
  refine sub_touch PO hA room O q hb hd K (aNe fun e => absurd z3 (by rw [e]; decide)) (aNe fun e => absurd z3 (by rw [e]; decide)) (by rw [keyed_size K, List.length_map]; exact hz) ⟨_, _, O.sub _ _ hf, rfl⟩ (fun v hv => ?_) (fun hn A' s₂ h1 h2 h3 h4 h5 h6 h7 => ?_) hs
  · by_cases hm : i ∈ D.is o
    · rw [valueAt_mem hm] at hv
      cases hv
      have eD : D.addI o i = D := if_pos hm
      exact k B T g s.heap _ (Nat.succ_pos _) (by rw [eD]; exact L) (Later.refl O.sub)
    · rw [valueAt_not hm] at hv; cases hv
  · have ni : i ∉ D.is o := fun hm => by rw [valueAt_mem hm] at hn; cases hn
    have x1 : Ext g s.heap g s₂.heap := ⟨fun b o _ e => h6 b o e, h7, fun b o e => h6 b o (O.sub b o e), fun _ _ => rfl⟩
    have O₂ : Ok W g s₂ := by
      have := O.ext (tk := s₂.toks) x1 h5
      rw [h4]; exact this
    have L₂ := L.frame x1 O.sub
    refine call_lamI (W := W) hF O₂ (by omega) fun h₃ tk₃ p₃ x₃ k₃ a ha hlt hpl ga => ?_
    dsimp only
    have L₃ := L₂.frame x₃ O₂.sub
    have O₃ := O₂.ext x₃ p₃
    refine ⟨(by have := O₃.wd.k; rw [q.k] at this; exact this.keeps O₃.sub), k₃ _ _ (h6 _ _ hb), fun h₄ ep' sb hb₄ => ?_⟩
    have nT : a ∉ keysT T := fun hm => absurd (L₂.keys hm).2.1 (Nat.not_lt.mpr ha)
    have aB : a ≠ B.fl o := fun e => nT (e ▸ inT)
    have PB : P' ≠ B.fl o := fun e => L.ne (e ▸ inT)
    have x₄ : ExtX [B.fl o] g h₃ g h₄ := extX_of_but x₃.sub z1 (fun c oc hc e => (sb.2 c hc).trans e) (Nat.le_of_eq sb.1.symm)
    have sz : s.heap.objs.size ≤ a := Nat.le_trans h7 ha
    have lt₄ : ∀ a, a < h₃.objs.size → a < h₄.objs.size := fun a ha => by rw [sb.1]; exact ha
    have bk' := (L₃.bk).addI (o := o) (i := i) (n := a) (h' := h₄) (g' := g) ho ni (Kp.refl _) (fun p hp hne ob e => (sb.2 _ hne).trans e) hb₄ (keyed_push K hn) (plain_at hpl fun _ e => (sb.2 a aB).trans e) nT
    have := k _ _ g h₄ (tk₃ + 1) (Nat.succ_pos _) ⟨bk', L₃.tab.mono (Kp.refl _) fun oc e => (sb.2 P' PB).trans e, fun p hp => ?_, L.gP, lt₄ _ L₃.zP, ?_, L.od, fun y => L.oo y⟩ ⟨?_, fun c hc => ?_, rfl⟩
    · dsimp only at this
      rw [if_pos ⟨rfl, rfl⟩] at this
      rw [h4]; exact this
    · rcases List.mem_cons.mp hp with rfl | hp
      · exact ⟨ga, lt₄ _ hlt, big_new Xk sz⟩
      · obtain ⟨c1, c2, c3⟩ := L₃.off p hp
        exact ⟨c1, lt₄ _ c2, c3⟩
    · simp only [keysT, List.map_cons, List.mem_cons, not_or]
      exact ⟨aNe fun e => absurd L.zP (Nat.not_lt.mpr (by rw [e]; exact sz)), L.ne⟩
    · refine ((x1.trans x₃).toX (X := P' :: keysT T)).trans (x₄.mono fun a ha => ?_)
      rw [List.mem_singleton.mp ha]; exact .tail _ inT
    · simp only [keysT, List.map_cons, List.mem_cons] at hc
      rcases hc with rfl | hc
      · exact .inr sz
      · exact .inl hc
/-- floor[i].append(v): what the append does -/
theorem op_app {Q : Value → Shared → Prop} {tv : Tok} (L : Live prog w P' D B T g s.heap) (sub : Kp g s.heap) (ho : o ∈ D.os) (hi : i ∈ D.is o) (hz : (D.vs o i).length ≤ 1000)
    (k : ∀ h', Live prog w P' (D.addV o i v) B T g h' → Later P' B T g s.heap B T g h' → Q .none { s with heap := h' }) :
    wpAny (model prog w) A (call (.builtin "list.append") [.ref (B.ls o i), .str v tv]) Q E s := by
  obtain ⟨ys, hy, hr⟩ := L.bk.ls o ho i hi
  have inT := tagIn (L.bk.ts o ho i hi)
  have hs6 : sizeLine = 16777216 := rfl
  refine wpAny_list_append_plain (hsz := by have := hr.length; rw [Array.length_toList, List.length_map] at this; omega) hy fun h₂ hl₂ hs₂ => ?_
  have PB : P' ≠ B.ls o i := fun e => L.ne (e ▸ inT)
  obtain ⟨z1, z2, z3⟩ := L.keys inT
  have bk' := (L.bk).addV (v := v) ho hi (Kp.refl g) (fun p hp hne ob e => (hs₂.2 _ hne).trans e) hl₂ (by rw [Array.toList_push, List.map_append]; exact hr.append (.cons (.str _ _) .nil))
  have x : ExtX [B.ls o i] g s.heap g h₂ := extX_of_but sub z1 (fun c oc hc e => (hs₂.2 c hc).trans e) (Nat.le_of_eq hs₂.1.symm)
  refine k h₂ ⟨bk', L.tab.mono (Kp.refl _) fun oc e => (hs₂.2 P' PB).trans e, fun p hp => ?_, L.gP, by rw [hs₂.1]; exact L.zP, L.ne, L.od, L.oo⟩ ⟨x.mono fun a ha => ?_, fun _ z => .inl z, rfl⟩
  · obtain ⟨c1, c2, c3⟩ := L.off p hp
    exact ⟨c1, by rw [hs₂.1]; exact c2, c3⟩
  · rw [List.mem_singleton.mp ha]; exact .tail _ inT
end
end Mine
end
section
open PySem PySem.W PySem.Spec PySem.Calls PyProof.Rows PySem.Builtin PySem.Builtin.Str
set_option Elab.async false
set_option tactic.hygienic false
set_option linter.unusedVariables false
set_option maxRecDepth 100000
set_option maxHeartbeats 4000000
namespace Mine
/-- the first table, filled -/
noncomputable def T1At (g h : Heap) (P' : Addr) : Prop := ∃ c', h.get? 242 = some (tabObj #[rawInt posO.line, rawInt posO.col, .ref c']) ∧ g.CodeRec (.ref c') qualO ∧ CodeHd g c' P'
/-- an open book and the tables of its lambdas, under way -/
structure Core (prog : Program) (w : World) (P' : Addr) (D : Dat) (B : Bk) (T : List (Addr × Tag)) (g h : Heap) : Prop where
  bk : BookAt prog w g h P' D B T
  tab : TabOk g h P' posI qualI
  big : ∀ p ∈ T, 120 < p.1
  ne : P' ∉ keysT T
  od : B.od = emptyD
  oo : ∀ o, B.oo o = emptyD
  t1 : T1At g h P'
  n1 : 242 ∉ keysT T
  n2 : P' ≠ 242
noncomputable def ownBk (prog : Program) (w : World) (o2 : Option Addr) (P' : Addr) (D : Dat) (B : Bk) (T : List (Addr × Tag)) : Own where
  fp := 242 :: P' :: keysT T
  xs := 242 :: tabL o2
  O := fun g h => Core prog w P' D B T g h
  ok := fun c _ _ k f => ⟨c.bk.frame k fun p hp o e => f _ (.tail _ (.tail _ (tagIn hp))) o e, c.tab.mono k fun o e => f _ (.tail _ (.head _)) o e, c.big, c.ne, c.od, c.oo, let ⟨c', a, b, d⟩ := c.t1; ⟨c', f _ (.head _) _ a, b.keeps k, d.keeps k⟩, c.n1, c.n2⟩
section
variable {prog : Program} {w : World} {A : Around} {mb : Str → Option Value} {W : Wo} {g g₀ g' g'' h h' h'' : Heap} {s s₀ : Shared} {env : Env} {l : List (Str × Dt)} {ν : List (Str × Value)} {os : List Own} {P' : Addr} {o2 : Option Addr} {D D' : Dat} {B B' B'' : Bk} {T T' T'' : List (Addr × Tag)} {o i v : Str}
theorem live_of (F : Fs prog w W env g₀ s₀ l ν (ownBk prog w o2 P' D B T :: os) g s) : Live prog w P' D B T g s.heap := by
  obtain ⟨c, f⟩ := F.ow _ (.head _)
  obtain ⟨-, f1, -, f2, -⟩ := f P' (.tail _ (.head _))
  refine ⟨c.bk, c.tab, fun p hp => ?_, f2, f1, c.ne, c.od, c.oo⟩
  obtain ⟨-, k1, -, k2, -⟩ := f p.1 (.tail _ (.tail _ (tagIn hp)))
  exact ⟨k2, k1, c.big p hp⟩
/-- the book goes on -/
theorem Fs.later {tk : Nat} (F : Fs prog w W env g₀ s₀ l ν (ownBk prog w o2 P' D B T :: os) g s) (L' : Live prog w P' D' B' T' g' h') (y : Later P' B T g s.heap B' T' g' h') (p : 0 < tk) :
    Fs prog w W env g₀ s₀ l ν (ownBk prog w o2 P' D' B' T' :: os) g' { s with heap := h', toks := tk } := by
  obtain ⟨c, f⟩ := F.ow _ (.head _)
  have f242 := f 242 (.head _)
  have n242 : 242 ∉ P' :: keysT T := fun q => (List.mem_cons.mp q).elim (fun z => c.n2 z.symm) c.n1
  have kg := ExtX.grow F.se.sub y.x
  obtain ⟨c', t1, t2, t3⟩ := c.t1
  refine F.mut (o' := ownBk prog w o2 P' D' B' T') (y.x.mono fun a ha => .tail _ ha) p ⟨L'.bk, L'.tab, fun p hp => (L'.off p hp).2.2, L'.ne, L'.od, L'.oo, ⟨c', y.x.keep _ _ rfl n242 t1, t2.keeps kg, t3.keeps kg⟩, fun hq => ?_, c.n2⟩ (fun a ha => ?_)
  · rcases y.new _ hq with z | z
    · exact c.n1 z
    · exact absurd f242.2.1 (Nat.not_lt.mpr z)
  · rcases List.mem_cons.mp ha with rfl | ha
    · exact .inl ⟨.head _, (y.x.same _ f242.2.1).trans f242.2.2.2.1⟩
    · rcases List.mem_cons.mp ha with rfl | ha
      · exact .inl ⟨.tail _ (.head _), L'.gP⟩
      · obtain ⟨z1, z2, -⟩ := L'.keys ha
        rcases y.new a ha with z | z
        · exact .inl ⟨.tail _ (.tail _ z), z1⟩
        · exact .inr ⟨z, z2, rfl, z1⟩
/-- book[o] in a frame -/
theorem sub_out {xb : Str} {pb pos : Pos} {Q : Value → Shared → Prop} {E : Value → Shared → Prop} (PO : ProgOk prog) (R : Room A 10) (q : SameW W (WX w mb [])) (F : Fs prog w W env g₀ s₀ l ν (ownBk prog w o2 P' D B T :: os) g s)
    (hb : Ev prog w W A env (lk l) (.Name xb pb) (.raw (.ref B.b))) {eo : Expr} (ho : Ev prog w W A env (lk l) eo (.str o)) (hz : D.os.length ≤ 1000) (hs : Plain eo)
    (k : ∀ B' T' g' s', Fs prog w W env g₀ s₀ l ν (ownBk prog w o2 P' (D.addO o) B' T' :: os) g' s' → B'.b = B.b → Q (.ref (B'.fl o)) s') :
    wpAny (model prog w) A (eval (.Subscript (.Name xb pb) eo pos) env) Q E s := by
  refine Subscript_ ((hb.run g s F.se).use F.se.pos fun v₁ h₁ g₁ tk₁ p₁ e₁ r₁ => ?_)
  first | obtain rfl := r₁.inv | obtain ⟨_, rfl⟩ := r₁.inv
  have F1 := F.ext e₁ p₁
  refine (ho.run g₁ _ F1.se).use p₁ fun v₂ h₂ g₂ tk₂ p₂ e₂ r₂ => ?_
  first | obtain rfl := r₂.inv | obtain ⟨_, rfl⟩ := r₂.inv
  have F2 := F1.ext e₂ p₂
  have L := live_of F2
  refine op_out PO R.hd R.dp F2.se.toOk q L hz (fun B' T' g' h' tk p L' y => ?_) hs
  exact k B' T' g' _ (F2.later L' y p) y.b
/-- book[o][i].append(v) -/
theorem row_go {xb : Str} {pb p1 p2 pa pc pos : Pos} {eo ei ev : Expr} {rest : List Stmt} {Q : Flow → Shared → Prop} {E : Value → Shared → Prop} (PO : ProgOk prog) (R : Room A 10) (q : SameW W (WX w mb [])) {b0 : Addr}
    (hb : Ev prog w W A env (lk l) (.Name xb pb) (.raw (.ref b0))) (ho : Ev prog w W A env (lk l) eo (.str o)) (hi : Ev prog w W A env (lk l) ei (.str i)) (hv : Ev prog w W A env (lk l) ev (.str v)) (so : Plain eo) (si : Plain ei)
    (eb : B.b = b0) (z1 : D.os.length ≤ 1000) (z2 : ∀ o, (D.is o).length ≤ 1000) (z3 : ∀ o i, (D.vs o i).length ≤ 1000)
    (kk : ∀ B' T' , B'.b = b0 → Go prog w W A env g₀ s₀ l ν (ownBk prog w o2 P' (((D.addO o).addI o i).addV o i v) B' T' :: os) rest Q E)
    (hbase : attributeBase (.Subscript (.Subscript (.Name xb pb) eo p1) ei p2) "append" env (eval (.Subscript (.Subscript (.Name xb pb) eo p1) ei p2) env) = eval (.Subscript (.Subscript (.Name xb pb) eo p1) ei p2) env)
    (hse : starEach [ev] env = [(false, eval ev env)]) (hline : (pa.endLine == pc.line) = true)
    (hin : interactive env = false) (hs : swapsWith (.Call (.Attribute (.Subscript (.Subscript (.Name xb pb) eo p1) ei p2) "append" pa) [ev] [] pc) none pos.line env = pure false) :
    Go prog w W A env g₀ s₀ l ν (ownBk prog w o2 P' D B T :: os) (.Expr (.Call (.Attribute (.Subscript (.Subscript (.Name xb pb) eo p1) ei p2) "append" pa) [ev] [] pc) pos :: rest) Q E := .mk fun g s F => by
  subst eb
  refine wpAny_execs_cons (wpAny_Expr (wpAny_Call_method hbase (by rw [hse]; rfl) hline PySem.F.plainAttrs_list PySem.F.slot_list_append PySem.F.type_list_append ?_) hin hs)
  refine Subscript_ (sub_out PO R q F hb ho z1 so fun B₁ T₁ g₁ s₁ F1 eb₁ => ?_)
  refine (hi.run g₁ s₁ F1.se).use F1.se.pos fun v₂ h₂ g₂ tk₂ p₂ e₂ r₂ => ?_
  first | obtain rfl := r₂.inv | obtain ⟨_, rfl⟩ := r₂.inv
  have F2 := F1.ext e₂ p₂
  have L := live_of F2
  have mo : o ∈ (D.addO o).os := by
    unfold Dat.addO
    split
    · assumption
    · exact List.mem_append_right _ (.head _)
  have mi : i ∈ ((D.addO o).addI o i).is o := by
    unfold Dat.addI
    split
    · assumption
    · show i ∈ (if o = o then _ else _); rw [if_pos rfl]; exact List.mem_append_right _ (.head _)
  have io : (D.addO o).is = D.is := by unfold Dat.addO; split <;> rfl
  have vo : (D.addO o).vs = D.vs := by unfold Dat.addO; split <;> rfl
  have oi : ((D.addO o).addI o i).os = (D.addO o).os := by unfold Dat.addI; split <;> rfl
  have vi : ((D.addO o).addI o i).vs = D.vs := by rw [← vo]; unfold Dat.addI; split <;> rfl
  refine op_in PO R.hd R.dp F2.se.toOk q L mo (by rw [io]; exact z2 o) (fun B₃ T₃ g₃ h₃ tk₃ p₃ L₃ y₃ => ?_) si
  have F3 := F2.later L₃ y₃ p₃
  obtain ⟨ys, ⟨n, hy⟩, hr⟩ := L₃.bk.ls o (by rw [oi]; exact mo) i mi
  refine ⟨⟨_, hy, rfl⟩, (fun a e => by cases e; exact ⟨_, hy, rfl⟩), ?_⟩
  rw [hse]
  refine callWith_builtin rfl (evalArgs_plain (spliced_cons ((hv.run g₃ _ F3.se).use p₃ fun u h₄ g₄ tk₄ p₄ e₄ r₄ => spliced_nil ?_)))
  first | obtain rfl := r₄.inv | obtain ⟨_, rfl⟩ := r₄.inv
  have F4 := F3.ext e₄ p₄
  refine op_app (live_of F4) F4.se.sub (by rw [oi]; exact mo) mi (by rw [vi]; exact z3 o i) fun h₅ L₅ y₅ => ?_
  exact (kk B₃ T₃ (y₃.b.trans eb₁)).run g₄ _ (F4.later L₅ y₅ p₄)
end
end Mine
end
section
open PySem PySem.W PySem.Spec PySem.Calls PyProof.Rows PySem.Builtin PySem.Builtin.Str
set_option Elab.async false
set_option tactic.hygienic false
set_option linter.unusedVariables false
set_option maxRecDepth 100000
set_option maxHeartbeats 4000000
namespace Mine
section
variable {prog : Program} {w : World} {W : Wo} {A : Around} {env : Env} {g g₀ h g' h' g'' h'' : Heap} {s s₀ : Shared} {l l' : List (Str × Dt)} {ν ν' : List (Str × Value)} {os : List Own} {Q : Flow → Shared → Prop} {E : Value → Shared → Prop} {rest : List Stmt}
end
noncomputable def Dat.none : Dat := ⟨[], fun _ => [], fun _ _ => []⟩
noncomputable def Dat.lay (D : Dat) (t : Trip) : Dat := ((D.addO t.o).addI t.o t.i).addV t.o t.i t.v
noncomputable def datOf (ts : List Trip) : Dat := ts.foldl Dat.lay Dat.none
theorem lay_os (D : Dat) (t : Trip) : (D.lay t).os.length ≤ D.os.length + 1 := by
  unfold Dat.lay Dat.addV Dat.addI Dat.addO
  dsimp only
  split <;> split <;> simp
theorem lay_is (D : Dat) (t : Trip) (o : Str) : ((D.lay t).is o).length ≤ (D.is o).length + 1 := by
  unfold Dat.lay Dat.addV Dat.addI Dat.addO
  have e : ∀ z : List Str, (if o = t.o then z ++ [t.i] else D.is o).length ≤ (if o = t.o then z else D.is o).length + 1 := fun z => by split <;> simp
  have e2 : (if o = t.o then D.is t.o else D.is o) = D.is o := by split <;> simp_all
  have := e (D.is t.o)
  rw [e2] at this
  split <;> split <;> first | exact Nat.le_succ _ | exact this
set_option tactic.hygienic true in
theorem lay_vs (D : Dat) (t : Trip) (o i : Str) : ((D.lay t).vs o i).length ≤ (D.vs o i).length + 1 := by
  have e : ((D.addO t.o).addI t.o t.i).vs = D.vs := by
    unfold Dat.addI Dat.addO
    split <;> split <;> rfl
  unfold Dat.lay Dat.addV
  dsimp only
  rw [e]
  split
  · rename_i q; obtain ⟨rfl, rfl⟩ := q; simp
  · omega
theorem dat_small (ts : List Trip) : (datOf ts).os.length ≤ ts.length ∧ (∀ o, ((datOf ts).is o).length ≤ ts.length) ∧ ∀ o i, ((datOf ts).vs o i).length ≤ ts.length := by
  suffices h : ∀ (ts : List Trip) (D : Dat) (n : Nat), D.os.length ≤ n → (∀ o, (D.is o).length ≤ n) → (∀ o i, (D.vs o i).length ≤ n) → (ts.foldl Dat.lay D).os.length ≤ n + ts.length ∧ (∀ o, ((ts.foldl Dat.lay D).is o).length ≤ n + ts.length) ∧ ∀ o i, ((ts.foldl Dat.lay D).vs o i).length ≤ n + ts.length by
    have := h ts Dat.none 0 (Nat.le_refl _) (fun _ => Nat.le_refl _) fun _ _ => Nat.le_refl _
    simpa [datOf] using this
  intro ts
  induction ts with
  | nil => intro D n a b c; exact ⟨a, b, c⟩
  | cons t ts ih =>
    intro D n a b c
    obtain ⟨x, y, z⟩ := ih (D.lay t) (n + 1) (Nat.le_trans (lay_os D t) (Nat.succ_le_succ a)) (fun o => Nat.le_trans (lay_is D t o) (Nat.succ_le_succ (b o))) fun o i => Nat.le_trans (lay_vs D t o i) (Nat.succ_le_succ (c o i))
    simp only [List.foldl_cons, List.length_cons]
    exact ⟨by omega, fun o => by have := y o; omega, fun o i => by have := z o i; omega⟩
theorem code_246 (P : Params) : ∃ d sl vs file tf flags tg inF text tt, (Mine.hd.heap_1 P).lookup 246 = some ⟨.type "code", d, .fields vs, sl⟩ ∧ vs[11]? = some (.ref 242) ∧ vs.getD 11 .none = .ref 242 ∧ vs.getD 18 .none = .str file tf ∧
    vs.getD 7 .none = .int flags tg ∧ vs.getD 9 .none = .bool inF ∧ vs.getD 10 .none = .int text tt := ⟨_, _, _, _, _, _, _, _, _, _, rfl, rfl, rfl, rfl, rfl, rfl, rfl⟩
section
variable {prog : Program} {w : World} {A : Around} {mb : Str → Option Value} {X : List Addr} {g : Heap} {s : Shared}
/-- _law_book(rows) -/
theorem call_book {ts : List Trip} {vs : List Value} {o2 : Option Addr} {Q : Value → Shared → Prop} {E : Value → Shared → Prop} (PO : ProgOk prog) (R : Room A 12) (O : Ok (WX w mb X) g s) (rs : Rds prog w g vs [.lst (ts.map Trip.dt)]) (h6 : ts.length ≤ 6)
    (T : T2At g s.heap 242 posO qualO posI qualI o2) (gP : ∀ a ∈ 242 :: tabL o2, g.get? a = none ∧ a < s.heap.objs.size)
    (k : ∀ g' h' tk P' B T, 0 < tk → ExtX (242 :: tabL o2) g s.heap g' h' → Core prog w P' (datOf ts) B T g' h' → (∀ a ∈ keysT T, s.heap.objs.size ≤ a) → (o2 = some P' ∨ (o2 = none ∧ s.heap.objs.size ≤ P')) → (∀ a ∈ 242 :: P' :: keysT T, g'.get? a = none ∧ a < h'.objs.size) → Q (.ref B.b) { s with heap := h', toks := tk }) :
    wpAny (model prog w) A (call (.ref 247) vs) Q E s := by
  refine wpAny_call (enter (W := WX w mb (242 :: tabL o2)) (d247 (w := w) (mb := mb)).toX rfl (Nat.lt_of_le_of_lt (Nat.le_add_right _ _) R.dp) O.toX rs [ownT2 242 posO qualO posI qualI o2] (fun o ho => ?_) (List.pairwise_singleton _ _) fun L => ?_)
  · rw [List.mem_singleton.mp ho]
    exact ⟨T, fun b hb => ⟨hb, hb, (gP b hb).2, (gP b hb).1⟩⟩
  have hh : (A.deeper (callEnvC (f247 w.params).1 L 247)).handled = none := R.hd
  have R10 : Room (A.deeper (callEnvC (f247 w.params).1 L 247)) 10 := by
    refine ⟨hh, ?_, ?_⟩
    · have := R.dp; show A.depth + 1 + 10 < _; omega
    · have := R.un; show A.units + 3 + 64 * 10 + 128 < _; omega
  obtain ⟨z0, zi, zv⟩ := dat_small ts
  refine .mk fun g₁ s₁ F => wpAny_execs_cons (wpAny_Assign_Name (ev_fdd F.se ⟨rfl, rfl, rfl⟩ rfl rfl ?_) rfl)
  obtain ⟨T₁, f₁⟩ := F.ow _ (.head _)
  refine mk_lam2 (c := 246) (P := 242) F.se.toOk rfl rfl (codeHd_of F.se.wd.k (by decide) (code_246 w.params)) rfl rfl T₁ (fun a ha => ⟨(f₁ a ha).2.2.2.1, (f₁ a ha).2.1⟩) fun fo g₂ h₂ tk₂ pm c' ctv P' p₂ x₂ hfo hrec hcd T₂ hP' off₂ zf => ?_
  refine ⟨fo, _, rfl, (F.se.toOk.extX x₂ p₂).wd.k.keeps x₂.sub, x₂.sub _ _ hfo, rfl, fun h₃ tk₃ hle kp hz hd hb => ?_⟩
  have p₃ : 0 < tk₃ := Nat.lt_of_lt_of_le p₂ hle
  dsimp only
  have x₃ : Ext g₂ h₂ g₂ h₃ := ⟨fun b o _ e => kp b o e, by rw [hz]; exact Nat.le_add_right _ _, fun b o e => kp b o (x₂.sub b o e), fun _ _ => rfl⟩
  have xx := x₂.trans (x₃.toX (X := [242]))
  have Xk : (Mine.hd.heap_1 w.params).In s₁.heap := F.se.wd.k.keeps F.se.sub
  have n242 : 242 < s₁.heap.objs.size := (f₁ _ (.head _)).2.1
  have szm : s₁.heap.objs.size ≤ h₂.objs.size := x₂.size
  have offn : ∀ a, h₂.objs.size ≤ a → g₂.get? a = none := fun a ha => by
    cases e : g₂.get? a with
    | none => rfl
    | some o => exact absurd (Heap.lt_size (x₂.sub _ _ e)) (Nat.not_lt.mpr ha)
  obtain ⟨t1, tP', nP'⟩ := T₂
  obtain ⟨oP', lP'⟩ := off₂ P' (.tail _ (.head _))
  have core : Core prog w P' Dat.none { b := h₂.objs.size + 1, d := h₂.objs.size, f := fo, fl := fun _ => 0, fd := fun _ => 0, ff := fun _ => 0, ls := fun _ _ => 0, od := emptyD, oo := fun _ => emptyD } [(h₂.objs.size + 1, .bk), (h₂.objs.size, .bd)] g₂ h₃ := by
    refine ⟨⟨⟨#[], 0, hb, ⟨fun e h => absurd h (by simp), .nil, .nil⟩⟩, hd, ⟨_, _, _, hfo, hrec, hcd⟩, (fun _ h => nomatch h), (fun _ h => nomatch h), (fun _ h => nomatch h), (fun _ h => nomatch h), ⟨fun _ _ => rfl, fun _ _ _ => rfl⟩, ?_, .head _, .tail _ (.head _), (fun _ h => nomatch h), (fun _ h => nomatch h), (fun _ h => nomatch h)⟩, tP'.mono (Kp.refl _) fun o e => kp _ _ e, fun p hp => ?_, ?_, rfl, fun _ => rfl, ?_, ?_, nP'⟩
    · simp [keysT]
    · rcases List.mem_cons.mp hp with rfl | hp
      · exact big_new Xk (Nat.le_succ_of_le szm)
      · rw [List.mem_singleton.mp hp]; exact big_new Xk szm
    · simp only [keysT, List.map_cons, List.map_nil, List.mem_cons, not_or, List.not_mem_nil, not_false_eq_true, and_true]
      exact ⟨aNe fun q => absurd lP' (by rw [q]; exact Nat.not_lt.mpr (Nat.le_succ _)), aNe fun q => absurd lP' (by rw [q]; exact Nat.lt_irrefl _)⟩
    · obtain ⟨c'', a1, a2, a3⟩ := t1
      exact ⟨c'', kp _ _ a1, a2, a3⟩
    · simp only [keysT, List.map_cons, List.map_nil, List.mem_cons, not_or, List.not_mem_nil, not_false_eq_true, and_true]
      exact ⟨aNe fun q => absurd n242 (Nat.not_lt.mpr (by rw [q]; exact Nat.le_succ_of_le szm)), aNe fun q => absurd n242 (Nat.not_lt.mpr (by rw [q]; exact szm))⟩
  have F2 := F.mut (o' := ownBk prog w o2 P' Dat.none _ _) (xx.mono fun a ha => by rw [List.mem_singleton.mp ha]; exact .head _) p₃ core fun a ha => ?_
  rotate_left
  · rcases List.mem_cons.mp ha with rfl | ha
    · exact .inl ⟨.head _, (off₂ _ (.head _)).1⟩
    · rcases List.mem_cons.mp ha with rfl | ha
      · rcases hP' with q | ⟨-, q⟩
        · subst q; exact .inl ⟨.tail _ (.head _), oP'⟩
        · exact .inr ⟨q, Nat.lt_of_lt_of_le lP' x₃.size, rfl, oP'⟩
      · simp only [keysT, List.map_cons, List.map_nil, List.mem_cons, List.not_mem_nil, or_false] at ha
        rcases ha with rfl | rfl
        · exact .inr ⟨Nat.le_succ_of_le szm, Heap.lt_size hb, rfl, offn _ (Nat.le_succ _)⟩
        · exact .inr ⟨szm, Heap.lt_size hd, rfl, offn _ (Nat.le_refl _)⟩
  refine F2.store (slotted_of rfl) (.raw _) rfl fun h₄ tk₄ F4 => ?_
  refine Go.run (l := [("book", .raw (.ref (h₂.objs.size + 1))), ("rows", .lst (ts.map Trip.dt))]) ?_ _ _ F4
  refine go_forO (ds := ts.map Trip.dt) (fun i => [("book", .raw (.ref (h₂.objs.size + 1))), ("rows", .lst (ts.map Trip.dt))]) (fun i os' => ∃ B T, B.b = h₂.objs.size + 1 ∧ os' = [ownBk prog w o2 P' (datOf (ts.take i)) B T]) hh (src_list hh (ev_name rfl)) ⟨rfl, rfl, trivial⟩ ⟨_, _, rfl, rfl⟩ (fun i d it hd => ?_) fun os' hos => ?_
  · rw [List.getElem?_map] at hd
    obtain ⟨t, hi, rfl⟩ := Option.map_eq_some_iff.mp hd
    · refine ⟨[("outer", .str t.o), ("inner", .str t.i), ("value", .str t.v)], .tup (.cons (.cons (.cons .nil))), fun y hy => ?_, (by decide +kernel : [("outer" : Str), "inner", "value"].Nodup), fun y hy => ?_, fun E' os' hos => ?_⟩
      · exact mm3 hy rfl rfl rfl
      · rfl
      obtain ⟨B, T', hB, rfl⟩ := hos
      have ei : datOf (ts.take (i + 1)) = (datOf (ts.take i)).lay t := by
        unfold datOf
        rw [List.take_add_one, hi]
        simp
      obtain ⟨y0, yi, yv⟩ := dat_small (ts.take i)
      have hl : (ts.take i).length ≤ 6 := by rw [List.length_take]; omega
      refine row_go PO R10 ⟨rfl, rfl, rfl⟩ (ev_name rfl) (ev_name (d := .str t.o) rfl) (ev_name (d := .str t.i) rfl) (ev_name (d := .str t.v) rfl) (by intro _ _; rfl) (by intro _ _; rfl) hB (by omega) (fun o => by have := yi o; omega) (fun o i => by have := yv o i; omega) (fun B' T'' hB' => ?_) rfl rfl rfl rfl rfl
      refine go_nil fun g₅ s₅ F5 => ⟨.inl rfl, [ownBk prog w o2 P' (datOf (ts.take (i + 1))) B' T''], ⟨B', T'', hB', rfl⟩, g₅, ?_⟩
      rw [ei]
      exact F5.weaken ⟨rfl, rfl, trivial⟩ fun _ _ q => q
  · obtain ⟨B, T', hB, rfl⟩ := hos
    rw [List.length_map, List.take_length]
    refine .mk fun g₅ s₅ F5 => wpAny_execs_cons (wpAny_Return_some (((ev_name (d := .raw (.ref B.b)) (by rw [hB]; rfl)).run g₅ s₅ F5.se).use F5.se.pos fun v h₆ g₆ tk₆ p₆ e₆ r₆ => ?_))
    first | obtain rfl := r₆.inv | obtain ⟨_, rfl⟩ := r₆.inv
    have F6 := F5.ext e₆ p₆
    obtain ⟨c₆, f₆⟩ := F6.ow _ (.head _)
    have := k g₆ h₆ tk₆ P' B T' p₆ F6.bs c₆ (fun a ha => ?_) ?_ fun a ha => ⟨(f₆ a ha).2.2.2.1, (f₆ a ha).2.1⟩
    · rw [F6.sh]; exact this
    · rcases (f₆ a (.tail _ (.tail _ ha))).1 with q | q
      · exact q
      · rcases List.mem_cons.mp q.1 with rfl | q
        · exact absurd ha c₆.n1
        · rcases hP' with z | ⟨z, -⟩
          · subst z
            rw [List.mem_singleton.mp q] at ha
            exact absurd ha c₆.ne
          · subst z; cases q
    · exact hP'.imp id fun q => ⟨q.1, Nat.le_trans F.bs.size q.2⟩
end
end Mine
end
section
open PySem PySem.W PySem.Spec PySem.Calls PyProof.Rows PySem.Builtin PySem.Builtin.Str
set_option Elab.async false
set_option tactic.hygienic false
set_option linter.unusedVariables false
set_option maxRecDepth 100000
set_option maxHeartbeats 4000000
namespace Mine
noncomputable abbrev keyArgs : Arguments := { posonlyargs := [], args := [{ arg := "key", annotation := none, pos := ⟨88, 30, 88, 33⟩ }], vararg := none, kwonlyargs := [], kw_defaults := [], kwarg := none, defaults := [] }
noncomputable abbrev scF : Scope := { kind := .function, names := [("key", .local), ("self", .free)], isGenerator := false, isCoroutine := false, more := [] }
noncomputable abbrev posF : Pos := ⟨88, 23, 88, 57⟩
noncomputable abbrev bodyF : Expr := .Call (.Attribute (.Name "self" ⟨88, 35, 88, 39⟩) "default_factory" ⟨88, 35, 88, 55⟩) [] [] ⟨88, 35, 88, 57⟩
noncomputable def qualF : Str := (("FreezableDefaultDict.freeze" : Str) ++ ".<locals>.") ++ "<lambda>"
theorem scF_cell : ∀ x ∈ scF.names, x.2 ≠ NameKind.cell := by decide
/-- what a frozen book's misses call -/
noncomputable def LamF (g : Heap) (f b : Addr) : Prop := ∃ pm c' ctv c, g.get? f = some { cls := .type "function", data := .func (kla_fn "<lambda>" qualF keyArgs bodyF scF [("self", c)] pm (.ref c') ctv) } ∧ g.CodeRec (.ref c') qualF ∧ g.IsCell c (some (.ref b))
theorem cell_keeps {g g' : Heap} {c : Addr} {v : Option Value} (x : g.IsCell c v) (k : Kp g g') : g'.IsCell c v := let ⟨o, a, b⟩ := x; ⟨o, k _ _ a, b⟩
theorem LamF.mono {g g' : Heap} {f b : Addr} (x : LamF g f b) (k : Kp g g') : LamF g' f b := let ⟨a, b, c, d, e, i, j⟩ := x; ⟨a, b, c, d, k _ _ e, i.keeps k, cell_keeps j k⟩
theorem code_116 (P : Params) : ∃ d sl vs file tf flags tg inF text tt, (Mine.hd.heap_1 P).lookup 116 = some ⟨.type "code", d, .fields vs, sl⟩ ∧ vs[11]? = some (.ref 112) ∧ vs.getD 11 .none = .ref 112 ∧ vs.getD 18 .none = .str file tf ∧
    vs.getD 7 .none = .int flags tg ∧ vs.getD 9 .none = .bool inF ∧ vs.getD 10 .none = .int text tt := ⟨_, _, _, _, _, _, _, _, _, _, rfl, rfl, rfl, rfl, rfl, rfl, rfl⟩
section
variable {prog : Program} {w : World} {A : Around} {E : Value → Shared → Prop} {mb : Str → Option Value} {W : Wo} {X : List Addr} {g g' h h' : Heap} {s : Shared} {env : Env} {es : Array DictEntry} {ep : Nat} {b dx f lam : Addr} {od : Obj} {k : Str} {t : Tok}
set_option tactic.hygienic true in
/-- a miss in a frozen book -/
theorem call_lamF {Q : Value → Shared → Prop} (F : LamF g lam b) (O : Ok W g s) (q : SameW W (WX w mb [])) (room : A.depth < recursionLimit) (ho : s.heap.get? b = some (fddObj dx f es ep)) (hd : s.heap.get? dx = some od) (hf : ∃ o fd, s.heap.get? f = some o ∧ o.data = .func fd)
    (h : ∀ A' (s₂ : Shared), A'.handled = A.handled → A'.depth ≤ A.depth + 1 → s₂ = { s with heap := s₂.heap, toks := s₂.toks } → 0 < s₂.toks → Ext g s.heap g s₂.heap → wpAny (model prog w) A' (call (.ref f) []) Q (fun _ _ => False) s₂) :
    wpAny (model prog w) A (call (.ref lam) [.str k t]) Q E s := by
  obtain ⟨pm, c', ctv, c, hl, hrec, hc⟩ := F
  obtain ⟨oc, hc1, hc2⟩ := hc
  refine call_fnE (W := W) (ps := ["key"]) (ds := [.str k]) (ρ := lk [("self", .raw (.ref b))]) O ⟨_, hl, rfl⟩ rfl rfl rfl rfl rfl rfl scF_cell hrec rfl (fun y hy => ?_) (by decide +kernel) (.cons (.str _ _) .nil) rfl room (fun y e hy => ?_) (fun p hp => ?_) fun L h₁ tk₁ p₁ hL x₁ S => ?_
  · rw [List.mem_singleton.mp hy]; rfl
  · simp only [lk, List.lookup_cons] at hy
    split at hy
    · rename_i q'
      cases hy
      rw [eq_of_beq q']
      exact .inr ⟨rfl, c, _, rfl, ⟨oc, O.sub _ _ hc1, hc2⟩, .raw _⟩
    · cases hy
  · rw [List.mem_singleton.mp hp]
    exact Heap.lt_size (O.sub _ _ hc1)
  · refine call_attr rfl rfl rfl (((ev_name (d := .raw (.ref b)) rfl).run g _ S).use p₁ fun v h₂ g₂ tk₂ p₂ e₂ r₂ pl => ?_)
    first | obtain rfl := r₂.inv | obtain ⟨_, rfl⟩ := r₂.inv
    have x₂ := x₁.trans e₂
    have kp : ∀ a o, s.heap.get? a = some o → h₂.get? a = some o := fun a o e => x₂.keep a o rfl e
    have S₂ := S.ext e₂ p₂
    have Xk : (Mine.hd.heap_1 w.params).In h₂ := by have := S₂.wd.k; rw [q.k] at this; exact this.keeps S₂.sub
    refine meth_factory (s := { s with heap := h₂, toks := tk₂ }) Xk (kp _ _ ho) (kp _ _ hd) ?_
    obtain ⟨o, fd, hf1, hf2⟩ := hf
    refine callWith_function (o := o) (fd := fd) ((evl_nil : EvL prog w W _ _ (lk [("self", .raw (.ref b))]) [] []).args (S₂.ext (tk := tk₂ + 1) (Ext.refl S₂.sub) (Nat.succ_pos _)) fun vs h₃ g₃ tk₃ p₃ e₃ r₃ => ?_)
    first | obtain rfl := r₃.inv | obtain ⟨_, rfl⟩ := r₃.inv
    have x₃ := x₂.trans e₃
    refine ⟨⟨x₃.keep _ _ rfl hf1, hf2⟩, wpAny_mono (h _ { s with heap := h₃, toks := tk₃ } rfl (Nat.le_refl _) rfl p₃ ⟨x₃.keep, x₃.size, fun a o e => x₃.keep _ _ rfl (O.sub _ _ e), fun _ _ => rfl⟩) (fun _ _ z => z) fun _ _ z => z.elim⟩
/-- a book's own dict, under way -/
noncomputable def ownF (dx : Addr) (od : Obj) : Own where
  fp := [dx]
  xs := [dx]
  O := fun _ h => h.get? dx = some od
  ok := fun y _ _ _ e => e _ (.head _) _ y
/-- b.freeze() -/
theorem call_freeze {Q : Value → Shared → Prop} (R : Room A 2) (O : Ok W g s) (q : SameW W (WX w mb X)) (T : TabOk g s.heap 112 posF qualF) (ho : g.get? b = some (fddObj dx f es ep)) (hd : s.heap.get? dx = some emptyD) (nbx : dx ≠ 112)
    (off : ∀ a ∈ [112, dx], g.get? a = none ∧ a < s.heap.objs.size)
    (k : ∀ g' h' tk lam x tk' n, 0 < tk → ExtX [112, dx] g s.heap g' h' → TabOk g' h' 112 posF qualF → h'.get? dx = some (fzD x tk' (.ref lam) n) → LamF g' lam b → Q .none { s with heap := h', toks := tk }) :
    wpAny (model prog w) A (call (.ref 117) [.ref b]) Q E s := by
  refine wpAny_call (enter (W := WX w mb [112, dx]) (d117 (w := w) (mb := mb)).toX rfl (Nat.lt_of_le_of_lt (Nat.le_add_right _ _) R.dp) (O.to ⟨q.k, q.g, q.b⟩ trivial) (.cons (.raw (.ref b)) .nil) [ownT 112 posF qualF, ownF dx emptyD] (fun o h => ?_) ?_ fun L => ?_)
  · rcases List.mem_cons.mp h with rfl | h
    · exact ⟨T, fun a ha => by rw [List.mem_singleton.mp ha]; exact ⟨.head _, .head _, (off _ (.head _)).2, (off _ (.head _)).1⟩⟩
    · rw [List.mem_singleton.mp h]
      exact ⟨hd, fun a ha => ⟨ha, .tail _ ha, (off a (.tail _ ha)).2, (off a (.tail _ ha)).1⟩⟩
  · refine .cons (fun o' ho' a ha => ?_) (List.pairwise_singleton _ _)
    rw [List.mem_singleton.mp ho', List.mem_singleton.mp ha]; exact fun z => nbx (List.mem_singleton.mp z).symm
  refine .mk fun g₁ s₁ F => wpAny_execs_cons (plainObj_wpAny_Assign_Attribute ?_ rfl)
  refine mk_lam (c := 116) (P := 112) F.se.toOk rfl rfl (codeHd_of F.se.wd.k (by decide) (code_116 w.params)) (clos := _) rfl rfl (F.ow _ (.head _)).1 ((F.ow _ (.head _)).2 112 (.head _)).2.2.2.1 ((F.ow _ (.head _)).2 112 (.head _)).2.1 fun lam g₂ h₂ tk₂ pm c' ctv p₂ x₂ hf hrec T₂ gP₂ zf => ?_
  have F2 := F.mut (o' := ownT 112 posF qualF) x₂ p₂ T₂ fun a ha => .inl ⟨ha, by rw [List.mem_singleton.mp ha]; exact gP₂⟩
  refine (((ev_name (d := .raw (.ref b)) rfl).run g₂ _ F2.se).use p₂ fun v h₃ g₃ tk₃ p₃ e₃ r₃ => ?_)
  first | obtain rfl := r₃.inv | obtain ⟨_, rfl⟩ := r₃.inv
  have F3 := F2.ext e₃ p₃
  obtain ⟨d3, f3⟩ := F3.ow _ (.tail _ (.head _))
  have ltb : b < s.heap.objs.size := Heap.lt_size (O.sub _ _ ho)
  have b3 : h₃.get? b = some (fddObj dx f es ep) := F3.se.sub _ _ ((F3.bs.same b ltb).trans ho)
  refine set_frozen (s := { s₁ with heap := h₃, toks := tk₃ }) (F3.se.wd.k.keeps F3.se.sub) b3 d3 fun h₄ x tk' n sb hd₄ => ?_
  dsimp only
  have offd := (f3 dx (.head _)).2.2.2.1
  have x₄ : ExtX [dx] g₃ h₃ g₃ h₄ := extX_of_but F3.se.sub offd (fun c oc hc e => (sb.2 c hc).trans e) (Nat.le_of_eq sb.1.symm)
  have F4 := (F3.perm (.swap _ _ _)).mut (o' := ownF dx (fzD x tk' (.ref lam) n)) x₄ (Nat.succ_pos (tk₃ + 1)) hd₄ fun a ha => .inl ⟨ha, (f3 a ha).2.2.2.1⟩
  refine wpAny_execs_nil ?_
  dsimp only
  obtain ⟨v, H, r⟩ := F4.se.vars "self" (.raw (.ref b)) rfl
  first | obtain rfl := r.inv | obtain ⟨_, rfl⟩ := r.inv
  obtain ⟨c, hc1, oc, hc2, hc3⟩ : ∃ c, (callEnvC (f117 w.params).1 L 117).cells.lookup ("self" : Str) = some c ∧ h₄.IsCell c (some (.ref b)) := by
    rcases H with ⟨z, _⟩ | ⟨_, c, b, _, o⟩
    · have : (callEnvC (f117 w.params).1 L 117).kindOf ("self" : Str) = some .cell := rfl
      rw [this] at z; cases z
    · exact ⟨c, b, o⟩
  obtain ⟨n1, n2, n3, -⟩ := F4.nwC _ (mem_of_lk hc1)
  have xx := extX_claim F4.se.sub hc2 n1 F4.bs
  have kg : Kp g₃ (gput g₃ c oc) := kp_gput n3
  have := k _ h₄ (tk₃ + 1 + 1) lam x tk' n (Nat.succ_pos _) xx (((F4.ow _ (.tail _ (.head _))).1).mono kg fun _ e => e) hd₄ ?_
  · rw [F4.sh]; exact this
  · have kk := (Ext.grow F2.se.sub e₃ : Kp g₂ g₃).trans kg
    refine ⟨pm, c', ctv, c, ?_, hrec.keeps kk, ⟨oc, gput_self _ _ _ (Heap.get?_some_iff.mp hc2).2, hc3⟩⟩
    have e : (L + 1) = c := by
      have : (callEnvC (f117 w.params).1 L 117).cells.lookup ("self" : Str) = some (L + 1) := rfl
      rw [this] at hc1; exact Option.some.inj hc1
    have := kk _ _ hf
    rw [e] at this
    exact this
end
end Mine
end
section
open PySem PySem.W PySem.Spec PySem.Calls PyProof.Rows PySem.Builtin PySem.Builtin.Str
set_option Elab.async false
set_option tactic.hygienic false
set_option linter.unusedVariables false
set_option maxRecDepth 100000
set_option maxHeartbeats 4000000
namespace Mine
theorem entry_itm_iter : entryFor table "dict_itemiterator.__iter__" = some Builtin.«dict_keyiterator.__iter__» := entryFor_alias (id' := "dict_keyiterator.__iter__") (by kernel_rfl) rfl (by decide +kernel) (by kernel_rfl)
section
variable {prog : Program} {w : World} {A : Around} {E : Value → Shared → Prop} {s : Shared} {es : Array DictEntry} {b dx f v it : Addr} {ep i : Nat}
/-- iter of a view of values -/
theorem iter_vals {Q : Value → Shared → Prop} (hv : s.heap.IsValuesView v b) (ho : s.heap.get? b = some (fddObj dx f es ep))
    (hQ : Q (.ref s.heap.objs.size) { s with heap := s.heap.push { cls := .type "dict_valueiterator", data := .fields #[.ref b, .int 0 0, .int es.size 0, .int ep 0] } }) :
    wpAny (model prog w) A (pyIter (.ref v)) Q E s := by
  obtain ⟨ov, hov, hcv, hdv⟩ := id hv
  refine wpAny_pyIter_slot hv.typeIs F.slot_dict_values_iter (wpAny_call_entry F.slot_dict_values_iter hv.typeIs F.entry_dict_values_iter ?_ (F.args_dict_values_iter_1 _))
  refine wpAny_bind (wpAny_pure (wpAny_bind (wpAny_bind (wpAny_field hov hdv (x := .ref b) rfl (wpAny_pure (wpAny_bind ?_))))))
  refine wpAny_bind (wpAny_dictEntries ho rfl (wpAny_bind (wpAny_dictEpoch ho rfl ?_)))
  simp only [show Builtin.Dict_items.ownsTuple "dict_valueiterator" = false from by decide, Bool.false_eq_true, if_false]
  exact wpAny_newObj_type (wpAny_pure ⟨_, rfl, "dict_valueiterator", _, ⟨_, Heap.get?_push_size _ rfl, rfl⟩, F.slot_dict_valueiterator_next.lookup, hQ⟩)
theorem next_val {e : DictEntry} {Q : Option Value → Shared → Prop} (hit : s.heap.IsValIter it b i es.size ep) (ho : s.heap.get? b = some (fddObj dx f es ep)) (hi : es[i]? = some e)
    (hQ : ∀ h', h'.IsValIter it b (i + 1) es.size ep → Heap.SameBut it s.heap h' → Q (some e.val) { s with heap := h' }) : wpAny (model prog w) A (pyNext (.ref it)) Q E s := by
  obtain ⟨o, h1, h2, h3⟩ := id hit
  unfold pyNext
  refine wpAny_bind (wpAny_attempt (wpAny_callSpecial?_slot (name := Str.ofString "__next__") hit.typeIs F.slot_dict_valueiterator_next
    (wpAny_call_entry F.slot_dict_valueiterator_next hit.typeIs F.entry_dict_valueiterator_next ?_ (F.args_dict_valueiterator_next_1 _))))
  refine wpAny_bind (wpAny_pure (wpAny_bind (wpAny_bind (wpAny_bind (wpAny_typeNameOfWhole_valiter hit.typeIs (wpAny_pure (wpAny_bind (wpAny_fieldsOf h1 h3 ?_))))))))
  show wpAny _ _ (if (Value.ref b == Value.none) = true then _ else _) _ _ s
  rw [if_neg (by exact Bool.false_ne_true)]
  refine wpAny_bind (wpAny_pure (wpAny_bind (wpAny_dictEntries ho rfl ?_)))
  rw [if_neg (by simp)]
  refine wpAny_bind (wpAny_pure (wpAny_bind (wpAny_dictEpoch ho rfl ?_)))
  rw [if_neg (by simp)]
  refine wpAny_pure ?_
  dsimp only
  rw [show (if (i : Int) < 0 then none else es[(i : Int).toNat]?) = some e by rw [if_neg (by omega), Int.toNat_natCast]; exact hi]
  refine wpAny_bind (wpAny_bind (wpAny_typeNameOfWhole_valiter hit.typeIs (wpAny_pure (wpAny_bind (wpAny_isOneOf_valiter hit.typeIs ?_)))))
  refine wpAny_bind (wpAny_setField h1 h3 (show _ < 4 by decide) ?_)
  have hit' : (s.heap.update it (Obj.mapFields (·.setIfInBounds 1 (rawInt ((i : Int) + 1))))).IsValIter it b (i + 1) es.size ep :=
    ⟨_, Heap.get?_update_self _ h1 (Obj.isFreed_of_fields (Obj.data_mapFields h3 _)), (Obj.cls_mapFields ..).trans h2, by rw [Obj.data_mapFields h3]; simp [rawInt]⟩
  have fin := hQ _ hit' (Heap.SameBut.update ..)
  exact wpAny_bind (wpAny_holding (wpAny_bind (wpAny_isOneOf_valiter (s := { s with heap := _ }) hit'.typeIs (wpAny_bind (wpAny_isOneOf_valiter (s := { s with heap := _ }) hit'.typeIs (wpAny_pure (wpAny_pure ⟨_, rfl, wpAny_pure fin⟩)))))))
theorem next_valEnd {Q : Option Value → Shared → Prop} (hh : A.handled = none) (hit : s.heap.IsValIter it b i es.size ep) (ho : s.heap.get? b = some (fddObj dx f es ep)) (hi : es[i]? = none)
    (hQ : ∀ h', Heap.ExtBut it s.heap h' → Q none { s with heap := h' }) : wpAny (model prog w) A (pyNext (.ref it)) Q E s := by
  obtain ⟨o, h1, h2, h3⟩ := id hit
  unfold pyNext
  refine wpAny_bind (wpAny_attempt (wpAny_callSpecial?_slot (name := Str.ofString "__next__") hit.typeIs F.slot_dict_valueiterator_next
    (wpAny_call_entry F.slot_dict_valueiterator_next hit.typeIs F.entry_dict_valueiterator_next ?_ (F.args_dict_valueiterator_next_1 _))))
  refine wpAny_bind (wpAny_pure (wpAny_bind (wpAny_bind (wpAny_bind (wpAny_typeNameOfWhole_valiter hit.typeIs (wpAny_pure (wpAny_bind (wpAny_fieldsOf h1 h3 ?_))))))))
  show wpAny _ _ (if (Value.ref b == Value.none) = true then _ else _) _ _ s
  rw [if_neg (by exact Bool.false_ne_true)]
  refine wpAny_bind (wpAny_pure (wpAny_bind (wpAny_dictEntries ho rfl ?_)))
  rw [if_neg (by simp)]
  refine wpAny_bind (wpAny_pure (wpAny_bind (wpAny_dictEpoch ho rfl ?_)))
  rw [if_neg (by simp)]
  refine wpAny_pure ?_
  dsimp only
  rw [show (if (i : Int) < 0 then none else es[(i : Int).toNat]?) = none by rw [if_neg (by omega), Int.toNat_natCast]; exact hi]
  refine wpAny_bind (wpAny_bind (wpAny_typeNameOfWhole_valiter hit.typeIs (wpAny_pure (wpAny_bind (wpAny_setField h1 h3 (show _ < 4 by decide) ?_)))))
  refine wpAny_bind (wpAny_bind (wpAny_newObj_type (wpAny_bind (wpAny_of_eq (t := firstArgMember _ _) (a := Value.none) (by rfl) (wpAny_newObj_type ?_ (by size_fits)))) (by size_fits)))
  refine wpAny_bind (wpAny_handled ?_)
  rw [show A.in1.handled = none from hh]
  refine wpAny_bind (wpAny_pure (wpAny_throw ?_))
  refine wpAny_bind (wpAny_isInstance (T := "StopIteration") (b := true) ⟨_, Heap.get?_push_size _ rfl, rfl⟩ isSubtype_stop (wpAny_pure ?_))
  exact hQ _ (((Heap.SameBut.update ..).extBut.push _).push _)
/-- iter of a view of items -/
theorem iter_items {Q : Value → Shared → Prop} (hv : s.heap.IsItemsView v b) (ho : s.heap.get? b = some (fddObj dx f es ep))
    (hQ : Q (.ref s.heap.objs.size) { s with heap := s.heap.push { cls := .type "dict_itemiterator", data := .fields #[.none, .bool false, .ref b, .int 0 0, .int es.size 0, .int ep 0, .none, .none] } }) :
    wpAny (model prog w) A (pyIter (.ref v)) Q E s := by
  obtain ⟨ov, hov, hcv, hdv⟩ := id hv
  refine wpAny_pyIter_slot hv.typeIs F.slot_dict_items_iter (wpAny_call_entry F.slot_dict_items_iter hv.typeIs F.entry_dict_items_iter ?_ (F.args_dict_items_iter_1 _))
  refine wpAny_bind (wpAny_pure (wpAny_bind (wpAny_bind (wpAny_field hov hdv (x := .ref b) rfl (wpAny_pure (wpAny_bind ?_))))))
  refine wpAny_bind (wpAny_dictEntries ho rfl (wpAny_bind (wpAny_dictEpoch ho rfl ?_)))
  simp only [show Builtin.Dict_items.ownsTuple "dict_itemiterator" = true from by decide, if_true]
  exact wpAny_newObj_type (wpAny_pure ⟨_, rfl, "dict_itemiterator", _, ⟨_, Heap.get?_push_size _ rfl, rfl⟩, F.slot_dict_itemiterator_next.lookup, hQ⟩) (by show 8 ≤ 16777215 + 3; decide)
theorem next_itm {e : DictEntry} {ok ov : Value} {Q : Option Value → Shared → Prop} (hit : IsItemIter s.heap it b i es.size ep ok ov) (ho : s.heap.get? b = some (fddObj dx f es ep)) (hi : es[i]? = some e)
    (hQ : ∀ h', IsItemIterOut h' it b (i + 1) es.size ep e.key e.val s.heap.objs.size → h'.get? s.heap.objs.size = some { cls := .type "tuple", data := .seq #[e.key, e.val] } → h'.objs.size = s.heap.objs.size + 1 →
      (∀ a o, a ≠ it → s.heap.get? a = some o → h'.get? a = some o) → Q (some (.ref s.heap.objs.size)) { s with heap := h' }) : wpAny (model prog w) A (pyNext (.ref it)) Q E s := by
  obtain ⟨hp, gg, d, tk, os⟩ := s
  dsimp only at hit ho hQ
  have hT : Shared.TypeIs ⟨hp, gg, d, tk, os⟩ (.ref it) "dict_itemiterator" := ⟨_, hit, rfl⟩
  have own : Builtin.Dict_items.ownsTuple "dict_itemiterator" = true := by decide
  have lt : it < hp.objs.size := Heap.lt_size hit
  unfold pyNext
  refine wpAny_bind (wpAny_attempt (wpAny_callSpecial?_slot (name := Str.ofString "__next__") hT F.slot_dict_itemiterator_next
    (wpAny_call_entry F.slot_dict_itemiterator_next hT F.entry_dict_itemiterator_next ?_ (F.args_dict_itemiterator_next_1 _))))
  refine wpAny_bind (wpAny_pure (wpAny_bind (wpAny_bind (wpAny_bind (wpAny_typeNameOfWhole_itemiter hT (wpAny_pure (wpAny_bind (wpAny_fieldsOf hit rfl ?_))))))))
  rw [if_pos own]
  show wpAny _ _ (if (Value.ref b == Value.none) = true then _ else _) _ _ _
  rw [if_neg (by exact Bool.false_ne_true)]
  refine wpAny_bind (wpAny_pure (wpAny_bind (wpAny_dictEntries ho rfl ?_)))
  rw [if_neg (by simp)]
  refine wpAny_bind (wpAny_pure (wpAny_bind (wpAny_dictEpoch ho rfl ?_)))
  rw [if_neg (by simp)]
  refine wpAny_pure ?_
  dsimp only
  rw [show (if (i : Int) < 0 then none else es[(i : Int).toNat]?) = some e by rw [if_neg (by omega), Int.toNat_natCast]; exact hi]
  refine wpAny_bind (wpAny_bind (wpAny_typeNameOfWhole_itemiter hT (wpAny_pure (wpAny_bind (wpAny_isOneOf_itemiter hT ?_)))))
  rw [if_pos own]
  refine wpAny_bind (wpAny_setField_rec hit (show _ < 8 by decide) fun h₁ he₁ hs₁ => ?_)
  have it₁ : IsItemIter h₁ it b (i + 1) es.size ep ok ov := by
    have e' : ((i + 1 : Nat) : Int) = (i : Int) + 1 := by omega
    unfold IsItemIter; rw [e']; exact he₁
  have hT₁ : Shared.TypeIs ⟨h₁, gg, d, tk, os⟩ (.ref it) "dict_itemiterator" := ⟨_, it₁, rfl⟩
  refine wpAny_bind (wpAny_holding (wpAny_bind (wpAny_isOneOf_itemiter hT₁ (wpAny_bind (wpAny_isOneOf_itemiter hT₁ ?_)))))
  refine wpAny_bind (wpAny_newTuple ?_)
  have z₁ : h₁.objs.size = hp.objs.size := hs₁.1
  have it₂ : IsItemIter (h₁.push { cls := .type "tuple", data := .seq #[e.key, e.val] }) it b (i + 1) es.size ep ok ov := Heap.get?_push_of_some _ it₁
  have tp : (h₁.push { cls := .type "tuple", data := .seq #[e.key, e.val] }).get? hp.objs.size = some { cls := .type "tuple", data := .seq #[e.key, e.val] } := by rw [← z₁]; exact Heap.get?_push_size _ rfl
  have z₂ : (h₁.push { cls := .type "tuple", data := .seq #[e.key, e.val] }).objs.size = hp.objs.size + 1 := by rw [Heap.size_push, z₁]
  have k₂ : ∀ a o, a ≠ it → hp.get? a = some o → (h₁.push { cls := .type "tuple", data := .seq #[e.key, e.val] }).get? a = some o := fun a o ha q => Heap.get?_push_of_some _ (hs₁.extBut a o ha q)
  dsimp only
  rw [z₁]
  generalize h₁.push { cls := .type "tuple", data := .seq #[e.key, e.val] } = h₂ at it₂ tp z₂ k₂
  refine wpAny_bind (wpAny_bind (wpAny_field it₂ rfl (x := .none) rfl (wpAny_pure ?_)))
  rw [if_pos rfl]
  refine wpAny_bind (wpAny_field it₂ rfl (x := ok) rfl (wpAny_bind (wpAny_field it₂ rfl (x := ov) rfl ?_)))
  refine wpAny_bind (wpAny_setField_rec it₂ (show _ < 8 by decide) fun h₃ it₃ s₃ => wpAny_bind (wpAny_setField_rec it₃ (show _ < 8 by decide) fun h₄ it₄ s₄ => ?_))
  refine wpAny_bind (wpAny_setField_rec it₄ (show _ < 8 by decide) fun h₅ it₅ s₅ => wpAny_bind (wpAny_setField_rec it₅ (show _ < 8 by decide) fun h₆ it₆ s₆ => ?_))
  have all : Heap.SameBut it h₂ h₆ := ((s₃.trans s₄).trans s₅).trans s₆
  refine wpAny_bind (wpAny_letGo (wpAny_pure (wpAny_pure ⟨_, rfl, wpAny_pure (hQ h₆ it₆ ?_ (all.1.trans z₂) fun a o ha q => all.extBut a o ha (k₂ a o ha q))⟩)))
  exact all.extBut _ _ (Nat.ne_of_gt lt) tp
theorem next_itmEnd {ok ov : Value} {Q : Option Value → Shared → Prop} (hh : A.handled = none) (hit : IsItemIter s.heap it b i es.size ep ok ov) (ho : s.heap.get? b = some (fddObj dx f es ep)) (hi : es[i]? = none)
    (hQ : ∀ h', Heap.ExtBut it s.heap h' → Q none { s with heap := h' }) : wpAny (model prog w) A (pyNext (.ref it)) Q E s := by
  have hT : s.TypeIs (.ref it) "dict_itemiterator" := ⟨_, hit, rfl⟩
  have own : Builtin.Dict_items.ownsTuple "dict_itemiterator" = true := by decide
  unfold pyNext
  refine wpAny_bind (wpAny_attempt (wpAny_callSpecial?_slot (name := Str.ofString "__next__") hT F.slot_dict_itemiterator_next
    (wpAny_call_entry F.slot_dict_itemiterator_next hT F.entry_dict_itemiterator_next ?_ (F.args_dict_itemiterator_next_1 _))))
  refine wpAny_bind (wpAny_pure (wpAny_bind (wpAny_bind (wpAny_bind (wpAny_typeNameOfWhole_itemiter hT (wpAny_pure (wpAny_bind (wpAny_fieldsOf hit rfl ?_))))))))
  rw [if_pos own]
  show wpAny _ _ (if (Value.ref b == Value.none) = true then _ else _) _ _ s
  rw [if_neg (by exact Bool.false_ne_true)]
  refine wpAny_bind (wpAny_pure (wpAny_bind (wpAny_dictEntries ho rfl ?_)))
  rw [if_neg (by simp)]
  refine wpAny_bind (wpAny_pure (wpAny_bind (wpAny_dictEpoch ho rfl ?_)))
  rw [if_neg (by simp)]
  refine wpAny_pure ?_
  dsimp only
  rw [show (if (i : Int) < 0 then none else es[(i : Int).toNat]?) = none by rw [if_neg (by omega), Int.toNat_natCast]; exact hi]
  refine wpAny_bind (wpAny_bind (wpAny_typeNameOfWhole_itemiter hT (wpAny_pure ?_)))
  rw [if_pos own]
  refine wpAny_bind (wpAny_setField_rec hit (show _ < 8 by decide) fun h₁ it₁ s₁ => ?_)
  refine wpAny_bind (wpAny_bind (wpAny_newObj_type (wpAny_bind (wpAny_of_eq (t := firstArgMember _ _) (a := Value.none) (by rfl) (wpAny_newObj_type ?_ (by size_fits)))) (by size_fits)))
  refine wpAny_bind (wpAny_handled ?_)
  rw [show A.in1.handled = none from hh]
  refine wpAny_bind (wpAny_pure (wpAny_throw ?_))
  refine wpAny_bind (wpAny_isInstance (T := "StopIteration") (b := true) ⟨_, Heap.get?_push_size _ rfl, rfl⟩ isSubtype_stop (wpAny_pure ?_))
  exact hQ _ ((s₁.extBut.push _).push _)
theorem iter_itm {ok ov : Value} {n : Nat} {Q : Value → Shared → Prop} (hit : IsItemIter s.heap it b i n ep ok ov) (h : Q (.ref it) s) : wpAny (model prog w) A (pyIter (.ref it)) Q E s := by
  have hT : s.TypeIs (.ref it) "dict_itemiterator" := ⟨_, hit, rfl⟩
  refine wpAny_pyIter_slot hT F.slot_dict_itemiterator_iter (wpAny_call_entry F.slot_dict_itemiterator_iter hT entry_itm_iter ?_ (F.args_dict_itemiterator_iter_1 _))
  show wpAny _ _ (ret (.ref it)) _ _ s
  exact wpAny_pure ⟨_, rfl, "dict_itemiterator", _, hT, F.slot_dict_itemiterator_next.lookup, h⟩
end
end Mine
end
section
open PySem PySem.W PySem.Spec PySem.Calls PyProof.Rows PySem.Builtin PySem.Builtin.Str
set_option Elab.async false
set_option tactic.hygienic false
set_option linter.unusedVariables false
set_option maxRecDepth 100000
set_option maxHeartbeats 4000000
namespace Mine
theorem plain_values : plainId "dict.values" = true := by decide +kernel
theorem plain_items : plainId "dict.items" = true := by decide +kernel
theorem kind_values : builtinKind "dict.values" = some .method := by decide +kernel
theorem kind_items : builtinKind "dict.items" = some .method := by decide +kernel
theorem split_values : splitId "dict.values" = some ("dict", "values") := by decide +kernel
theorem split_items : splitId "dict.items" = some ("dict", "items") := by decide +kernel
section
variable {prog : Program} {w : World} {A : Around} {E : Value → Shared → Prop} {s : Shared} {es : Array DictEntry} {b dx f v it : Addr} {ep i : Nat}
theorem call_values {Q : Value → Shared → Prop} (Xk : (Mine.hd.heap_1 w.params).In s.heap) (ho : s.heap.get? b = some (fddObj dx f es ep)) (hb : b ≠ sysModules)
    (h : Q (.ref s.heap.objs.size) { s with heap := s.heap.push { cls := .type "dict_values", data := .fields #[.ref b] } }) : wpAny (model prog w) A (call (.builtin "dict.values") [.ref b]) Q E s := by
  have sub := inst_fdd (M := model prog w) Xk ho (mb_dict w.params)
  refine wpAny_call (codeAny_call_builtin plain_values PySem.F.entry_dict_values (check_meth kind_values split_values sub (PySem.F.args_dict_values_1 _) ?_))
  have L0 := typeOf_fdd (M := model prog w) ho
  have L1 : Looks (model prog w) s.heap (isSubtype (.ref 120) (.type "collections.OrderedDict")) false := looks_mroIn Xk (mb_od w.params)
  obtain ⟨hp, gg, d, tk, os⟩ := s
  dsimp only at Xk ho L0 L1 h
  unfold Builtin.«dict.values»
  repeat ((fail_if_success (with_reducible show wpAny _ _ (if (b == sysModules) = true then _ else _) _ _ _)); lk)
  rw [if_neg (by simpa using hb)]
  repeat lk
  exact h
theorem call_items {Q : Value → Shared → Prop} (Xk : (Mine.hd.heap_1 w.params).In s.heap) (ho : s.heap.get? b = some (fddObj dx f es ep)) (hb : b ≠ sysModules)
    (h : Q (.ref s.heap.objs.size) { s with heap := s.heap.push { cls := .type "dict_items", data := .fields #[.ref b] } }) : wpAny (model prog w) A (call (.builtin "dict.items") [.ref b]) Q E s := by
  have sub := inst_fdd (M := model prog w) Xk ho (mb_dict w.params)
  refine wpAny_call (codeAny_call_builtin plain_items PySem.F.entry_dict_items (check_meth kind_items split_items sub (PySem.F.args_dict_items_1 _) ?_))
  have L0 := typeOf_fdd (M := model prog w) ho
  have L1 : Looks (model prog w) s.heap (isSubtype (.ref 120) (.type "collections.OrderedDict")) false := looks_mroIn Xk (mb_od w.params)
  obtain ⟨hp, gg, d, tk, os⟩ := s
  dsimp only at Xk ho L0 L1 h
  unfold Builtin.«dict.items»
  repeat ((fail_if_success (with_reducible show wpAny _ _ (if (b == sysModules) = true then _ else _) _ _ _)); lk)
  rw [if_neg (by simpa using hb)]
  repeat lk
  exact h
/-- len of an empty book -/
theorem call_len0 {Q : Value → Shared → Prop} (Xk : (Mine.hd.heap_1 w.params).In s.heap) (ho : s.heap.get? b = some (fddObj dx f #[] ep)) (hb : b ≠ sysModules)
    (h : ∀ t tk, s.toks ≤ tk → Q (.int 0 t) { s with toks := tk }) : wpAny (model prog w) A (call (.builtin "len") [.ref b]) Q E s := by
  have sub := inst_fdd (M := model prog w) Xk ho (mb_dict w.params)
  have L0 := typeOf_fdd (M := model prog w) ho
  have L1 : Looks (model prog w) s.heap (typeLookup (.ref 120) "__len__") (some (.builtin "dict.__len__")) := looks_findIn Xk (fb_len (P := w.params))
  have B1 : Looks (model prog w) s.heap (bindSpecial (.builtin "dict.__len__") (.ref b)) (.builtin "dict.__len__", [.ref b]) := Looks.of_pure (PySem.F.slot_dict_len.bind _)
  obtain ⟨hp, gg, d, tk, os⟩ := s
  dsimp only at Xk ho L0 L1 B1 sub h
  refine PySem.Calls.call_function_entry PySem.kind_len PySem.plain_len PySem.entry_len (PySem.args_len1 _) ?_
  unfold Builtin.«len»
  refine wpAny_bind (m := oneArg "len" _) (wpAny_pure ?_)
  have body : wpAny (model prog w) A.in1 (call (.builtin "dict.__len__") [.ref b]) (fun v s' => v = .int 0 tk ∧ s' = ⟨hp, gg, d, tk + 1, os⟩) (fun _ _ => False) ⟨hp, gg, d, tk, os⟩ := by
    refine wpAny_call (codeAny_call_builtin PySem.F.slot_dict_len.plain PySem.F.entry_dict_len (@check_slot (model prog w) _ _ _ "dict.__len__" "dict" "__len__" (.ref b) [] [] _ (by decide +kernel) (by decide +kernel) sub (PySem.F.args_dict_len_1 _) ?_))
    unfold Builtin.«dict.__len__»
    repeat lk
    rw [if_neg (by simpa using hb)]
    repeat lk
    exact ⟨rfl, rfl⟩
  unfold callSpecial? specialOf
  repeat ((fail_if_success (with_reducible show wpAny _ _ (PySem.call _ _ _) _ _ _)); lk)
  refine wpAny_mono body (fun v s' q => ?_) fun _ _ z => z.elim
  obtain ⟨rfl, rfl⟩ := q
  repeat lk
  exact ⟨_, rfl, h _ _ (Nat.le_trans (Nat.le_succ _) (Nat.le_succ _))⟩
end
end Mine
end
section
open PySem PySem.W PySem.Spec PySem.Calls PyProof.Rows PySem.Builtin PySem.Builtin.Str
set_option Elab.async false
set_option tactic.hygienic false
set_option linter.unusedVariables false
set_option maxRecDepth 100000
set_option maxHeartbeats 4000000
namespace Mine
/-- a book's entries, as they lie in g -/
structure View (prog : Program) (w : World) (g : Heap) (b dx f : Addr) (es : Array DictEntry) (ep : Nat) (kds : List (Str × Dt)) : Prop where
  at_ : g.get? b = some (fddObj dx f es ep)
  len : es.size = kds.length
  ent : ∀ (i : Nat) k d, kds[i]? = some (k, d) → ∃ e : DictEntry, es[i]? = some e ∧ (∃ t, e.key = Value.str k t) ∧ Rd prog w g e.val d
section
variable {prog : Program} {w : World} {W : Wo} {A : Around} {env : Env} {g g' h h' h₀ : Heap} {s : Shared} {E : Value → Shared → Prop} {es : Array DictEntry} {b dx f I : Addr} {ep i : Nat} {kds : List (Str × Dt)} {kvs : List (Str × Value)}
theorem View.mono (x : View prog w g b dx f es ep kds) (k : Kp g g') : View prog w g' b dx f es ep kds :=
  ⟨k _ _ x.at_, x.len, fun i y d q => let ⟨e, a, t, r⟩ := x.ent i y d q; ⟨e, a, t, r.mono k⟩⟩
theorem view_of (ho : g.get? b = some (fddObj dx f es ep)) (K : Keyed prog w es kvs) (hl : kvs.length = kds.length) (r : ∀ (i : Nat) k v d, kvs[i]? = some (k, v) → kds[i]? = some (k, d) → Rd prog w g v d) (hk : kvs.map (·.1) = kds.map (·.1)) : View prog w g b dx f es ep kds := by
  have hz := keyed_size K
  refine ⟨ho, hz.trans hl, fun i k d q => ?_⟩
  have hi : i < kds.length := (List.getElem?_eq_some_iff.mp q).1
  obtain ⟨e, he⟩ : ∃ e, es[i]? = some e := ⟨_, Array.getElem?_eq_getElem (by omega)⟩
  obtain ⟨p, hp⟩ : ∃ p, kvs[i]? = some p := ⟨_, List.getElem?_eq_getElem (by omega)⟩
  have e1 : p.1 = k := by
    have := congrArg (fun l => l[i]?) hk
    simp only [List.getElem?_map, hp, q, Option.map_some, Option.some.injEq] at this
    exact this
  obtain ⟨k', v⟩ := p
  dsimp only at e1
  subst e1
  obtain ⟨x, y⟩ := K.prs.get? (i := i) (e := e) (by rw [Array.getElem?_toList]; exact he) hp
  obtain ⟨t, ht⟩ := Value.isStrOf_shape x
  refine ⟨e, he, ⟨t, ht⟩, ?_⟩
  rw [y]
  exact r i _ v d hp q
theorem off_new (k : Kp g h) : g.get? h.objs.size = none := by
  cases e : g.get? h.objs.size with
  | none => rfl
  | some o => have := k _ _ e; rw [get?_size] at this; cases this
/-- the walk over the values -/
theorem it_vals {x : Str} {p : Pos} (hh : A.handled = none) (V : View prog w g b dx f es ep kds) (ne : b ≠ I) (n1 : h₀.objs.size ≤ I) (n2 : g.get? I = none) :
    IsIt prog w W A (.Name x p) g h₀ I [I, b] [I] (fun i h => h.IsValIter I b i es.size ep ∧ h.get? b = some (fddObj dx f es ep)) (kds.map (·.2)) where
  frame := fun i h h' st k => ⟨st.1.at fun o e => k I (.head _) o e, k b (.tail _ (.head _)) _ st.2⟩
  item := fun i d g' s Q E hd O kp off st q => by
    rw [List.getElem?_map] at hd
    obtain ⟨⟨k, dk⟩, hp, rfl⟩ := Option.map_eq_some_iff.mp hd
    obtain ⟨e, he, -, r⟩ := V.ent i k dk hp
    have offI := off I (.head _)
    refine next_val st.1 st.2 he fun h₁ hit sb => wpAny_pure ?_
    exact q _ g' h₁ s.toks O.pos (extX_of_but O.sub offI (fun a o ha q => (sb.2 a ha).trans q) (Nat.le_of_eq sb.1.symm)) (r.mono kp) ⟨hit, (sb.2 b ne).trans st.2⟩
  done := fun g' s Q E O kp off st q => by
    rw [List.length_map, ← V.len] at st
    have offI := off I (.head _)
    refine grows O.pos (next_valEnd hh st.1 st.2 (by simp) fun h₁ eb => fun p₁ z₁ => ?_)
    exact q g' h₁ s.toks O.pos (extX_of_but O.sub offI eb z₁)
  self := fun i s Q E st q => wpAny_pyIter_valiter st.1 q
  new := fun a ha => by rw [List.mem_singleton.mp ha]; exact ⟨n1, rfl, n2⟩
  fpo := fun a ha => by
    rcases List.mem_cons.mp ha with rfl | ha
    · exact .inl (.head _)
    · rw [List.mem_singleton.mp ha]; exact .inr ⟨rfl, by rw [V.at_]; rfl⟩
/-- the walk over the items -/
theorem it_items {elts : List Expr} {n : Nat} {p : Pos} (hh : A.handled = none) (V : View prog w g b dx f es ep kds) (ne : b ≠ I) (n1 : h₀.objs.size ≤ I) (n2 : g.get? I = none) :
    IsIt prog w W A (.Tuple elts n p) g h₀ I [I, b] [I] (fun i h => (∃ ok ov, IsItemIter h I b i es.size ep ok ov) ∧ h.get? b = some (fddObj dx f es ep)) (kds.map fun q => .tup [.str q.1, q.2]) where
  frame := fun i h h' ⟨⟨ok, ov, a⟩, c⟩ k => ⟨⟨ok, ov, k I (.head _) _ a⟩, k b (.tail _ (.head _)) _ c⟩
  item := fun i d g' s Q E hd O kp off st q => by
    obtain ⟨⟨ok, ov, hit⟩, hb⟩ := st
    rw [List.getElem?_map] at hd
    obtain ⟨⟨k, dk⟩, hp, rfl⟩ := Option.map_eq_some_iff.mp hd
    obtain ⟨⟨hsh, key, val⟩, he, ⟨t, ht⟩, r⟩ := V.ent i k dk hp
    dsimp only at ht r
    subst ht
    have offI := off I (.head _)
    have lt : I < s.heap.objs.size := Heap.lt_size hit
    refine next_itm hit hb he fun h₁ it₁ tp z k₁ => ?_
    have x₁ : ExtX [I] g' s.heap g' h₁ := extX_of_but O.sub offI k₁ (by rw [z]; exact Nat.le_succ _)
    refine wpAny_letOwnedTupleGo_items (s := { s with heap := h₁ }) it₁ fun h₂ it₂ sb => ?_
    have tI : s.heap.objs.size ≠ I := Nat.ne_of_gt lt
    have tp₂ : h₂.get? s.heap.objs.size = some { cls := .type "tuple", data := .seq #[.str k t, val] } := (sb.2 _ tI).trans tp
    have x₂ : ExtX [I] g' s.heap g' h₂ := x₁.trans (extX_of_but x₁.sub offI (fun a o ha q => (sb.2 a ha).trans q) (Nat.le_of_eq sb.1.symm))
    have x₃ := extX_claim x₂.sub tp₂ (Nat.le_refl _) x₂
    have kg : Kp g' (gput g' s.heap.objs.size { cls := .type "tuple", data := .seq #[.str k t, val] }) := kp_gput (none_of_size O)
    exact q _ _ h₂ s.toks O.pos x₃ (.tup (n := 0) (gput_self _ _ _ rfl) (.cons (.str _ _) (.cons (r.mono (kp.trans kg)) .nil))) ⟨⟨_, _, it₂⟩, (sb.2 b ne).trans (k₁ b _ ne hb)⟩
  done := fun g' s Q E O kp off st q => by
    obtain ⟨⟨ok, ov, hit⟩, hb⟩ := st
    rw [List.length_map, ← V.len] at hit
    have offI := off I (.head _)
    refine grows O.pos (next_itmEnd hh hit hb (by simp) fun h₁ eb => fun p₁ z₁ => ?_)
    exact q g' h₁ s.toks O.pos (extX_of_but O.sub offI eb z₁)
  self := fun i s Q E ⟨⟨ok, ov, hit⟩, hb⟩ q => iter_itm hit q
  new := fun a ha => by rw [List.mem_singleton.mp ha]; exact ⟨n1, rfl, n2⟩
  fpo := fun a ha => by
    rcases List.mem_cons.mp ha with rfl | ha
    · exact .inl (.head _)
    · rw [List.mem_singleton.mp ha]; exact .inr ⟨rfl, by rw [V.at_]; rfl⟩
end
end Mine
end
section
open PySem PySem.W PySem.Spec PySem.Calls PyProof.Rows PySem.Builtin PySem.Builtin.Str
set_option Elab.async false
set_option tactic.hygienic false
set_option linter.unusedVariables false
set_option maxRecDepth 100000
set_option maxHeartbeats 4000000
namespace Mine
section
variable {prog : Program} {w : World} {W : Wo} {A : Around} {env : Env} {mb : Str → Option Value} {ρ : Str → Option Dt} {g g' h h' h₀ : Heap} {s : Shared} {es : Array DictEntry} {b dx f I : Addr} {ep i : Nat} {kds : List (Str × Dt)} {od : Obj}
theorem big_ne {b : Addr} (h : 120 < b) : b ≠ sysModules ∧ b ≠ 120 := ⟨aNe fun e => absurd h (by rw [e]; decide), aNe fun e => absurd h (by rw [e]; decide)⟩
/-- iter(b.values()) -/
theorem at_values {o : Expr} {x : Str} {px apos pos : Pos} {Q : Value → Shared → Prop} {E : Value → Shared → Prop} (hh : A.handled = none) (S : SE prog w W env g s ρ) (q : SameW W (WX w mb [])) (xo : Ev prog w W A env ρ o (.raw (.ref b)))
    (V : View prog w g b dx f es ep kds) (hd : s.heap.get? dx = some od) (hl : lookIn "values" od = some none) (hb : 120 < b)
    (hbase : attributeBase o "values" env (eval o env) = eval o env) (hline : (apos.endLine == pos.line) = true)
    (k : ∀ I fp wr St h' g' tk, 0 < tk → Ext g s.heap g' h' → IsIt prog w W A (.Name x px) g' s.heap I fp wr St (kds.map (·.2)) → St 0 h' → (∀ b ∈ wr, b < h'.objs.size) → Q (.ref I) { s with heap := h', toks := tk }) :
    wpAny (model prog w) A (eval (.Call (.Attribute o "values" apos) [] [] pos) env) (fun x s₁ => wpAny (model prog w) A (pyIter x) Q E s₁) E s := by
  refine call_attr hbase rfl hline ((xo.run g s S).use S.pos fun v h₁ g₁ tk₁ p₁ e₁ r₁ pl => ?_)
  first | obtain rfl := r₁.inv | obtain ⟨_, rfl⟩ := r₁.inv
  have S1 := S.ext e₁ p₁
  have V1 := V.mono (Ext.grow S.sub e₁)
  have Xk : (Mine.hd.heap_1 w.params).In h₁ := by have := S1.wd.k; rw [q.k] at this; exact this.keeps S1.sub
  have ho := e₁.sub _ _ V1.at_
  refine meth_fdd (s := { s with heap := h₁, toks := tk₁ }) Xk ho (e₁.keep _ _ rfl hd) hl (fb_values (P := w.params)) (Looks.of_pure ty_values) (.inr rfl) ?_
  refine callWith_builtin rfl ((evl_nil : EvL prog w W A env ρ [] []).args S1 fun vs h₂ g₂ tk₂ p₂ e₂ r₂ => ?_)
  first | obtain rfl := r₂.inv | obtain ⟨_, rfl⟩ := r₂.inv
  have S2 := S1.ext e₂ p₂
  have V2 := V1.mono (Ext.grow S1.sub e₂)
  have ho₂ := e₂.sub _ _ V2.at_
  refine call_values (s := { s with heap := h₂, toks := tk₂ }) (by have := S2.wd.k; rw [q.k] at this; exact this.keeps S2.sub) ho₂ (big_ne hb).1 ?_
  have x₃ := ext_push S2.sub { cls := .type "dict_values", data := .fields #[.ref b] }
  have ho₃ := x₃.keep _ _ rfl ho₂
  refine iter_vals (s := { s with heap := _, toks := tk₂ }) ⟨_, Heap.get?_push_size _ rfl, rfl, rfl⟩ ho₃ ?_
  have x₄ := ext_push x₃.sub { cls := .type "dict_valueiterator", data := .fields #[.ref b, .int 0 0, .int es.size 0, .int ep 0] }
  have ho₄ := x₄.keep _ _ rfl ho₃
  have xx := ((e₁.trans e₂).trans x₃).trans x₄
  refine k _ _ _ _ _ g₂ tk₂ p₂ xx (it_vals hh V2 (aNe (Nat.ne_of_lt (Heap.lt_size ho₃))) (((e₁.trans e₂).trans x₃).size) (off_new x₃.sub)) ⟨⟨_, Heap.get?_push_size _ rfl, rfl, rfl⟩, ho₄⟩ fun a ha => ?_
  rw [List.mem_singleton.mp ha]; exact Heap.lt_size (Heap.get?_push_size _ rfl)
/-- iter(b.items()) -/
theorem at_items {o : Expr} {elts : List Expr} {n : Nat} {px apos pos : Pos} {Q : Value → Shared → Prop} {E : Value → Shared → Prop} (hh : A.handled = none) (S : SE prog w W env g s ρ) (q : SameW W (WX w mb [])) (xo : Ev prog w W A env ρ o (.raw (.ref b)))
    (V : View prog w g b dx f es ep kds) (hd : s.heap.get? dx = some od) (hl : lookIn "items" od = some none) (hb : 120 < b)
    (hbase : attributeBase o "items" env (eval o env) = eval o env) (hline : (apos.endLine == pos.line) = true)
    (k : ∀ I fp wr St h' g' tk, 0 < tk → Ext g s.heap g' h' → IsIt prog w W A (.Tuple elts n px) g' s.heap I fp wr St (kds.map fun q => .tup [.str q.1, q.2]) → St 0 h' → (∀ b ∈ wr, b < h'.objs.size) → Q (.ref I) { s with heap := h', toks := tk }) :
    wpAny (model prog w) A (eval (.Call (.Attribute o "items" apos) [] [] pos) env) (fun x s₁ => wpAny (model prog w) A (pyIter x) Q E s₁) E s := by
  refine call_attr hbase rfl hline ((xo.run g s S).use S.pos fun v h₁ g₁ tk₁ p₁ e₁ r₁ pl => ?_)
  first | obtain rfl := r₁.inv | obtain ⟨_, rfl⟩ := r₁.inv
  have S1 := S.ext e₁ p₁
  have V1 := V.mono (Ext.grow S.sub e₁)
  have Xk : (Mine.hd.heap_1 w.params).In h₁ := by have := S1.wd.k; rw [q.k] at this; exact this.keeps S1.sub
  have ho := e₁.sub _ _ V1.at_
  refine meth_fdd (s := { s with heap := h₁, toks := tk₁ }) Xk ho (e₁.keep _ _ rfl hd) hl (fb_items (P := w.params)) (Looks.of_pure ty_items) (.inr rfl) ?_
  refine callWith_builtin rfl ((evl_nil : EvL prog w W A env ρ [] []).args S1 fun vs h₂ g₂ tk₂ p₂ e₂ r₂ => ?_)
  first | obtain rfl := r₂.inv | obtain ⟨_, rfl⟩ := r₂.inv
  have S2 := S1.ext e₂ p₂
  have V2 := V1.mono (Ext.grow S1.sub e₂)
  have ho₂ := e₂.sub _ _ V2.at_
  refine call_items (s := { s with heap := h₂, toks := tk₂ }) (by have := S2.wd.k; rw [q.k] at this; exact this.keeps S2.sub) ho₂ (big_ne hb).1 ?_
  have x₃ := ext_push S2.sub { cls := .type "dict_items", data := .fields #[.ref b] }
  have ho₃ := x₃.keep _ _ rfl ho₂
  refine iter_items (s := { s with heap := _, toks := tk₂ }) ⟨_, Heap.get?_push_size _ rfl, rfl, rfl⟩ ho₃ ?_
  have x₄ := ext_push x₃.sub { cls := .type "dict_itemiterator", data := .fields #[.none, .bool false, .ref b, .int 0 0, .int es.size 0, .int ep 0, .none, .none] }
  have ho₄ := x₄.keep _ _ rfl ho₃
  have xx := ((e₁.trans e₂).trans x₃).trans x₄
  refine k _ _ _ _ _ g₂ tk₂ p₂ xx (it_items hh V2 (aNe (Nat.ne_of_lt (Heap.lt_size ho₃))) (((e₁.trans e₂).trans x₃).size) (off_new x₃.sub)) ⟨⟨_, _, Heap.get?_push_size _ rfl⟩, ho₄⟩ fun a ha => ?_
  rw [List.mem_singleton.mp ha]; exact Heap.lt_size (Heap.get?_push_size _ rfl)
end
end Mine
end
section
open PySem PySem.W PySem.Spec PySem.Calls PyProof.Rows PySem.Builtin PySem.Builtin.Str
set_option Elab.async false
set_option tactic.hygienic false
set_option linter.unusedVariables false
set_option maxRecDepth 100000
set_option maxHeartbeats 4000000
namespace Mine
section
variable {prog : Program} {w : World} {W V : Wo} {A : Around} {env : Env} {g g₀ h g' h' g'' h'' : Heap} {s s₀ : Shared} {l l' : List (Str × Dt)} {ν ν' : List (Str × Value)} {os os' : List Own} {ρ : Str → Option Dt}
/-- the same frame, more known of g -/
theorem SE.toW (S : SE prog w W env g s ρ) (q : SameW W V) (i : V.inv g) : SE prog w V env g s ρ := ⟨S.toOk.to q i, S.fn, S.gl, S.bt, S.lv, S.cv, S.vars⟩
theorem Fs.toW (F : Fs prog w W env g₀ s₀ l ν os g s) (q : SameW W V) (hX : V.X = W.X) (i : V.inv g) : Fs prog w V env g₀ s₀ l ν os g s :=
  ⟨F.se.toW q i, F.sh, by rw [hX]; exact F.bs, F.ns, F.nwL, F.ofL, F.nwC, F.cn, F.raw, by rw [hX]; exact F.ow, F.dj⟩
/-- some of what was under way is done; the rest is told otherwise -/
theorem Fs.reown {as : List Addr} (F : Fs prog w W env g₀ s₀ l ν os g s) (h1 : ∀ a ∈ as, g'.get? a = s.heap.get? a) (h2 : ∀ a, a ∉ as → g'.get? a = g.get? a) (nw : ∀ a ∈ as, s₀.heap.objs.size ≤ a ∧ g.get? a = none ∧ a ≠ env.locals ∧ ∀ p ∈ env.cells, p.2 ≠ a)
    (ow' : ∀ o ∈ os', o.O g' s.heap ∧ ∀ a ∈ o.fp, a ∉ as ∧ ∃ o₂ ∈ os, a ∈ o₂.fp ∧ (a ∈ o₂.xs → a ∈ o.xs)) (dj' : os'.Pairwise (fun x y => ∀ a ∈ x.fp, a ∉ y.fp)) : Fs prog w W env g₀ s₀ l ν os' g' s := by
  have kp : Kp g g' := fun b o e => by
    by_cases hb : b ∈ as
    · rw [(nw b hb).2.1] at e; cases e
    · rw [h2 b hb]; exact e
  have sub : Kp g' s.heap := fun b o e => by
    by_cases hb : b ∈ as
    · rw [h1 b hb] at e; exact e
    · rw [h2 b hb] at e; exact F.se.sub b o e
  refine ⟨⟨⟨sub, F.se.wd.mono kp fun a t => (nomatch t), F.se.tb, F.se.pos⟩, F.se.fn, F.se.gl, F.se.bt, F.se.lv, F.se.cv, fun y d q => ?_⟩, F.sh, ⟨F.bs.keep, F.bs.size, sub, fun a ha => ?_⟩, F.ns, F.nwL, ?_, fun p hp => ?_, F.cn, F.raw, fun o ho => ?_, dj'⟩
  · obtain ⟨v, a, b⟩ := F.se.vars y d q
    exact ⟨v, a, b.mono kp⟩
  · rw [h2 a fun hb => absurd ha (Nat.not_lt.mpr (nw a hb).1)]
    exact F.bs.same a ha
  · rw [h2 _ fun hb => (nw _ hb).2.2.1 rfl]; exact F.ofL
  · obtain ⟨a1, a2, a3, a4⟩ := F.nwC p hp
    exact ⟨a1, a2, by rw [h2 _ fun hb => (nw _ hb).2.2.2 p hp rfl]; exact a3, a4⟩
  · obtain ⟨x, y⟩ := ow' o ho
    refine ⟨x, fun a ha => ?_⟩
    obtain ⟨na, o₂, m2, fa, xa⟩ := y a ha
    obtain ⟨b1, b2, b3, b4, b5, b6⟩ := (F.ow o₂ m2).2 a fa
    exact ⟨b1.imp id fun z => ⟨xa z.1, z.2⟩, b2, b3, by rw [h2 a na]; exact b4, b5, b6⟩
end
/-- g with what h holds at these places -/
noncomputable def gputs (h : Heap) : List Addr → Heap → Heap
  | [], g => g
  | a :: as, g => match h.get? a with
    | some o => gput (gputs h as g) a o
    | none => gputs h as g
theorem gputs_in {h g : Heap} {a : Addr} : ∀ {as : List Addr}, (∀ a ∈ as, (h.get? a).isSome = true) → a ∈ as → (gputs h as g).get? a = h.get? a
  | c :: as, k, m => by
    obtain ⟨o, e⟩ := Option.isSome_iff_exists.mp (k c (.head _))
    unfold gputs
    rw [e]
    dsimp only
    by_cases q : a = c
    · subst q
      rw [gput_self _ _ _ (Heap.get?_some_iff.mp e).2, e]
    · rw [gput_other _ _ q]
      exact gputs_in (fun b hb => k b (.tail _ hb)) ((List.mem_cons.mp m).resolve_left q)
theorem gputs_out {h g : Heap} {a : Addr} : ∀ {as : List Addr}, a ∉ as → (gputs h as g).get? a = g.get? a
  | [], _ => rfl
  | c :: as, k => by
    unfold gputs
    have k1 : a ≠ c := fun q => k (q ▸ .head _)
    have k2 := gputs_out (h := h) (g := g) (as := as) fun q => k (.tail _ q)
    cases h.get? c with
    | none => exact k2
    | some o => dsimp only; rw [gput_other _ _ k1]; exact k2
end Mine
end
section
open PySem PySem.W PySem.Spec PySem.Calls PyProof.Rows PySem.Builtin PySem.Builtin.Str
set_option Elab.async false
set_option tactic.hygienic false
set_option linter.unusedVariables false
set_option maxRecDepth 100000
namespace Mine
section
variable {prog : Program} {w : World} {W : Wo} {A : Around} {env : Env} {g h g' h' g'' h'' : Heap} {ρ : Str → Option Dt}
/-- a comprehension of one clause whose items change things at Y -/
theorem comp_fx {elt target iter : Expr} {scope : Scope} {pos : Pos} {ds out : List Dt} {s : Shared} {Y : List Addr} {Z : Nat → Heap → Heap → Prop} {Q : Value → Shared → Prop} {E : Value → Shared → Prop}
    (hh : A.handled = none) (S : SE prog w W env g s ρ)
    (src : ∀ (Q : Value → Shared → Prop) (E : Value → Shared → Prop), (∀ I fp wr St h' g' tk, 0 < tk → Ext g s.heap g' h' → IsIt prog w W A target g' s.heap I fp wr St ds → St 0 h' → (∀ b ∈ wr, b < h'.objs.size) → Q (.ref I) { s with heap := h', toks := tk }) → wpAny (model prog w) A (eval iter env) (fun x s₁ => wpAny (model prog w) A (pyIter x) Q E s₁) E s)
    (hclos : closureFor scope env = pure []) (hl : out.length = ds.length) (hz : ds.length ≤ sizeLine)
    (zf : ∀ i g h g' h', Z i g h → Kp g g' → (∀ a ∈ Y, ∀ o, h.get? a = some o → h'.get? a = some o) → Z i g' h')
    (hY : ∀ a ∈ Y, a < s.heap.objs.size ∧ g.get? a = none) (z0 : Z 0 g s.heap)
    (helt : ∀ C (i : Nat) d r, ds[i]? = some d → out[i]? = some r → ∃ bs, Pat target d bs ∧ (∀ x ∈ bs.map (·.1), (compEnvC scope [] C env).kindOf x = some .local) ∧ (bs.map (·.1)).Nodup ∧
      ∀ g₁ s₁ (Q : Value → Shared → Prop) (E : Value → Shared → Prop), Kp g g₁ → SE prog w W (compEnvC scope [] C env) g₁ s₁ (lk bs) → Z i g₁ s₁.heap → (∀ a ∈ Y, g₁.get? a = none ∧ a < s₁.heap.objs.size) →
        (∀ v g' h' tk, 0 < tk → ExtX Y g₁ s₁.heap g' h' → Rd prog w g' v r → Z (i + 1) g' h' → Q v { s₁ with heap := h', toks := tk }) → wpAny (model prog w) A (eval elt (compEnvC scope [] C env)) Q E s₁)
    (k : ∀ v g' h' tk, 0 < tk → ExtX Y g s.heap g' h' → Rd prog w g' v (.lst out) → Z ds.length g' h' → Q v { s with heap := h', toks := tk })
    (hkind : scope.kind = .function := by rfl) (hcell : ∀ y ∈ scope.names, y.2 ≠ .cell := by decide)
    (hnames : ∀ x ∈ scope.names, x.2 = .local → scope.names.lookup x.1 = some .local := by decide) (hs : ∀ x, foldedSetIterable iter env x = pure x := by intro _; rfl) :
    wpAny (model prog w) A (eval (.ListComp elt [⟨target, iter, [], 0⟩] scope pos) env) Q E s := by
  rw [eval_ListComp]
  refine wpAny_comprehension_free (use := none) rfl hs hclos hkind hnames ?_
  refine src _ E fun I fp wr St h₁ g₁ tk₁ p₁ e₁ it st hw => ?_
  have S1 := S.ext e₁ p₁
  have gD := off_new e₁.sub
  have gC : g₁.get? (h₁.objs.size + 1) = none := by
    cases e : g₁.get? (h₁.objs.size + 1) with
    | none => rfl
    | some o => exact absurd (Heap.lt_size (e₁.sub _ _ e)) (Nat.not_lt.mpr (Nat.le_succ _))
  refine wpAny_newObj_type (wpAny_newFunctionEnv hcell (fun y hy => nomatch hy) (fun h₂ hns₂ hsb₂ => ?_) hkind)
  have zC : (h₁.push { cls := .type "list", dict := none, data := .seq ([] : List Value).toArray }).objs.size = h₁.objs.size + 1 := Heap.size_push ..
  dsimp only at hns₂ hsb₂ ⊢
  rw [zC] at hns₂ hsb₂ ⊢
  have hl₂ : h₂.objs.size = h₁.objs.size + 2 := by rw [hsb₂.1, Heap.size_push, zC]
  have old : ∀ b o, h₁.get? b = some o → h₂.get? b = some o := fun b o e => by
    have := szN e
    exact hsb₂.extBut b o (aNe (by omega)) (Heap.get?_push_of_some _ (Heap.get?_push_of_some _ e))
  have hacc : h₂.PlainList h₁.objs.size #[] := ⟨_, hsb₂.extBut _ _ (aNe (by omega)) (Heap.get?_push_of_some _ (Heap.get?_push_size _ rfl))⟩
  have e₂ : Ext g₁ h₁ g₁ h₂ := ⟨fun b o _ e => old b o e, by omega, fun b o e => old b o (e₁.sub b o e), fun _ _ => rfl⟩
  have p₂ : 0 < tk₁ + ([] : List (Str × Value)).length := p₁
  have S2 := S1.ext e₂ p₂
  have a₂ : Acc prog w W (compEnvC scope [] (h₁.objs.size + 1) env) h₁.objs.size (fun _ => none) g₁ { s with heap := h₂, toks := tk₁ + ([] : List (Str × Value)).length } [] := by
    refine ⟨⟨S2.toOk, hkind, S.gl, S.bt, ⟨aLt (by show @LT.lt Nat _ _ h₂.objs.size; rw [hl₂]; show h₁.objs.size + 1 < _; omega), rfl⟩, fun p hp => (nomatch hp), fun x d hx => nomatch hx⟩, ⟨_, hns₂⟩, ⟨#[], hacc, .nil⟩, gC, gD, rfl, fun p hp => nomatch hp⟩
  have xe := e₁.trans e₂
  refine (fun loop => codeAny_compStart_list loop (it.self 0 _ _ _ (it.frame _ _ _ st fun b _ o e => old b o e) loop)) ?_
  · skip
    refine loop_lastX (Y := Y) (Z := Z) hh goes1 a₂ it (it.frame _ _ _ st fun b _ o e => old b o e) (fun b hb => ?_) hl (by rw [List.length_nil, Nat.zero_add]; exact hz) zf (fun b hb => ?_) (zf _ _ _ _ _ z0 (Ext.grow S.sub e₁) fun b _ o e => xe.keep b o rfl e) (fun i d r hd hr => ?_) fun g' h' tk p a e z => ?_
    · have := aLtN (hw b hb)
      exact ⟨aNe (by show @Ne Nat b (h₁.objs.size + 1); omega), aNe (by omega), fun p hp => (nomatch hp), aLt (by show @LT.lt Nat _ b h₂.objs.size; omega)⟩
    · obtain ⟨y1, y2⟩ := hY b hb
      have q1 := aLtN y1
      have q2 := e₁.size
      refine ⟨aNe (by show @Ne Nat b (h₁.objs.size + 1); omega), aNe (by omega), fun q => ?_, fun p hp => (nomatch hp), Nat.lt_of_lt_of_le y1 xe.size, (e₁.same b y1).trans y2⟩
      exact absurd y1 (Nat.not_lt.mpr (it.new b q).1)
    · obtain ⟨bs, b1, b2, b3, b4⟩ := helt (h₁.objs.size + 1) i d r hd hr
      refine ⟨bs, b1, b2, b3, fun y e q => (nomatch q), fun g₃ s₃ Q' E' kg S3 Z3 off3 k3 => b4 g₃ s₃ Q' E' ((Ext.grow S.sub e₁).trans kg) ⟨S3.toOk, S3.fn, S3.gl, S3.bt, S3.lv, S3.cv, fun x d hx => S3.vars x d (by show (match bs.lookup x with | some d => some d | none => none) = some d; unfold lk at hx; rw [hx])⟩ Z3 off3 k3⟩
    · obtain ⟨ys, ⟨n, hy⟩, hr⟩ := a.acc
      obtain ⟨m, hm⟩ := a.ns
      refine ⟨m, hm, fun h₃ hs₃ => ?_⟩
      have x₂ : ExtX Y g s.heap g' h' := by
        refine ⟨fun b o t n q => ?_, Nat.le_trans xe.size e.size, e.sub, fun b hb => (e.same b (Nat.lt_of_lt_of_le hb xe.size)).trans (xe.same b hb)⟩
        have lt := szN q
        have sz := e₁.size
        refine e.keep b o t (fun q' => ?_) (xe.keep b o t q)
        rcases List.mem_cons.mp q' with q' | q'
        · have q2 : @Eq Nat b (h₁.objs.size + 1) := q'
          omega
        · rcases List.mem_cons.mp q' with q' | q'
          · have := aEq q'; omega
          · rcases List.mem_append.mp q' with q' | q'
            · exact absurd (Heap.lt_size q) (Nat.not_lt.mpr (it.new b q').1)
            · exact n q'
      have oC : g'.get? (h₁.objs.size + 1) = none := a.offC
      have x₃ : ExtX Y g s.heap g' h₃ := x₂.transX (extX_of_but x₂.sub oC (fun b o hb e => hs₃.extBut b o hb e) (Nat.le_of_eq hs₃.1.symm)) fun b hb => by
        rw [List.mem_singleton.mp hb]; exact .inl (Nat.le_trans e₁.size (Nat.le_succ _))
      have nDC : h₁.objs.size ≠ h₁.objs.size + 1 := by omega
      have hy₃ := hs₃.extBut _ _ (aNe nDC) hy
      refine k _ _ h₃ tk p (extX_claim x₃.sub hy₃ e₁.size x₃) (.lst (gput_self _ _ _ rfl) (hr.mono (kp_gput a.offD))) (zf _ _ _ _ _ z (kp_gput a.offD) fun b hb o q => hs₃.extBut b o (aNe ?_) q)
      have q1 := aLtN (hY b hb).1
      have q2 := e₁.size
      show @Ne Nat b (h₁.objs.size + 1)
      omega
end
end Mine
end
section
open PySem PySem.W PySem.Spec PySem.Calls PyProof.Rows PySem.Builtin PySem.Builtin.Str
set_option Elab.async false
set_option tactic.hygienic false
set_option linter.unusedVariables false
set_option maxRecDepth 100000
namespace Mine
section
variable {prog : Program} {w : World} {W : Wo} {A : Around} {g : Heap}
/-- list + list -/
theorem bin_addL {ds es : List Dt} (hz : ds.length + es.length ≤ sizeLine) : Bin prog w W A (binaryOp .Add) (.lst ds) (.lst es) (.lst (ds ++ es)) := fun g s v₁ v₂ O r₁ r₂ Q E k => by
  obtain ⟨p, vs, n, rfl, a, b⟩ := r₁.inv
  obtain ⟨q, ws, n2, rfl, c, d⟩ := r₂.inv
  · · have l1 := b.length
      have l2 := d.length
      rw [Array.length_toList] at l1 l2
      refine PySem.P.add_list (O.sub _ _ a) (O.sub _ _ c) ?_ (by omega)
      have x := ext_put O.sub { cls := .type "list", data := .seq (vs ++ ws) } rfl
      have kg := Ext.grow O.sub x
      exact k _ _ _ s.toks x (.lst (n := 0) (gput_self _ _ _ rfl) (by rw [Array.toList_append]; exact (b.mono kg).append (d.mono kg)))
theorem nones_fold {n : Nat} : ∀ (acc : Array Value), (List.foldl (fun x1 x2 => x1 ++ x2) acc (List.replicate n (#[Value.none] : Array Value))).toList = acc.toList ++ List.replicate n Value.none := by
  induction n with
  | zero => intro acc; simp
  | succ n ih => intro acc; rw [List.replicate_succ, List.foldl_cons, ih, Array.toList_append, List.replicate_succ]; simp
theorem rds_nones : ∀ {n : Nat}, Rds prog w g (List.replicate n Value.none) (List.replicate n Dt.none)
  | 0 => .nil
  | n + 1 => .cons .none rds_nones
theorem mul_any {l : Addr} {items : Array Value} {n0 : Nat} {x : Int} {u : Tok} {s : Shared} {Q : Value → Shared → Prop} {E : Value → Shared → Prop} (hl : s.heap.get? l = some { cls := .type "list", dict := none, data := .seq items n0, slots := #[] }) (hlo : -(2 ^ 63 : Int) ≤ x) (hhi : x < 2 ^ 63) (hsz : items.size * x.toNat ≤ 2 ^ 24 - 1)
    (h : Q (.ref s.heap.objs.size) { s with heap := s.heap.push { cls := .type "list", data := .seq (List.foldl (fun x1 x2 => x1 ++ x2) #[] (List.replicate (if items.isEmpty = true then 0 else x.toNat) items)) } }) :
    wpAny (model prog w) A (binaryOp .Mult (.ref l) (.int x u)) Q E s :=
  wpAny_binaryOp_repeat_ref (T := "list") (U := "int") (by decide) ⟨_, hl, rfl⟩ (fun s' => typeIs_int s' x u) noFill_list_mul F.fills_int_mul F.slot_int_rmul repeat_list F.slot_int_index.lookup
    (call_meets F.slot_int_rmul (typeIs_int s x u) F.entry_int_rmul (F.args_int_rmul_2 _ _) (int___rmul___int_list x u l items n0)
      ⟨hl, rfl, ⟨_, hl, rfl⟩, call_meets F.slot_list_mul ⟨_, hl, rfl⟩ F.entry_list_mul (F.args_list_mul_2 _ _)
        (AutoListH.list___mul___list_int_3 l items n0 x u (by simp [Builtin.List.listFitsIndex]; omega) (by omega) (by unfold Builtin.List.listTooLong; rw [decide_eq_true_eq, sizeLine_eq]; omega)) ⟨hl, h⟩⟩)
/-- [None] * n -/
theorem bin_mulN {n : Nat} (hz : n ≤ 1000) : Bin prog w W A (binaryOp .Mult) (.lst [.none]) (.int n) (.lst (List.replicate n .none)) := fun g s v₁ v₂ O r₁ r₂ Q E k => by
  obtain ⟨u, rfl⟩ := r₂.inv
  obtain ⟨l, vs, n0, rfl, a, b⟩ := r₁.inv
  · have e : vs = #[Value.none] := by
      obtain ⟨vl⟩ := vs
      obtain ⟨v, q, p⟩ := b.one
      obtain rfl := p.inv
      exact congrArg Array.mk q
    have e1 : vs.size = 1 := by rw [e]; rfl
    refine mul_any (O.sub _ _ a) (by omega) (by omega) (by rw [e1]; omega) ?_
    have hn : (if vs.isEmpty = true then 0 else ((n : Int)).toNat) = n := by rw [e]; rfl
    rw [hn]
    generalize hq : List.foldl (fun x1 x2 => x1 ++ x2) (#[] : Array Value) (List.replicate n vs) = its
    have x := ext_put O.sub { cls := .type "list", data := .seq its } rfl
    refine k _ _ _ s.toks x (.lst (n := 0) (gput_self _ _ _ rfl) ?_)
    rw [← hq, e, nones_fold]
    simpa using rds_nones
end
end Mine
end
section
open PySem PySem.W PySem.Spec PySem.Calls PyProof.Rows PySem.Builtin PySem.Builtin.Str
set_option Elab.async false
set_option tactic.hygienic false
set_option linter.unusedVariables false
set_option maxRecDepth 100000
set_option maxHeartbeats 4000000
namespace Mine
/-- a book that lies in g, its own dicts apart -/
structure BookG (prog : Program) (w : World) (P' : Addr) (D : Dat) (B : Bk) (g : Heap) : Prop where
  bk : ∃ es ep, g.get? B.b = some (fddObj B.d B.f es ep) ∧ Keyed prog w es (D.os.map fun o => (o, .ref (B.fl o)))
  bf : LamO g B.f P'
  fl : ∀ o ∈ D.os, ∃ es ep, g.get? (B.fl o) = some (fddObj (B.fd o) (B.ff o) es ep) ∧ Keyed prog w es ((D.is o).map fun i => (i, .ref (B.ls o i)))
  ff : ∀ o ∈ D.os, LamI g (B.ff o)
  ls : ∀ o ∈ D.os, ∀ i ∈ D.is o, ∃ ys, g.PlainList (B.ls o i) ys ∧ Rds prog w g ys.toList ((D.vs o i).map .str)
  bb : 120 < B.b
  bl : ∀ o ∈ D.os, 120 < B.fl o
  nd : (B.d :: D.os.map B.fd).Nodup
/-- a frozen book -/
structure BookZ (prog : Program) (w : World) (P' : Addr) (D : Dat) (B : Bk) (g : Heap) : Prop extends BookG prog w P' D B g where
  zb : ∃ x tk lam n, g.get? B.d = some (fzD x tk (.ref lam) n) ∧ LamF g lam B.b
  zf : ∀ o ∈ D.os, ∃ x tk lam n, g.get? (B.fd o) = some (fzD x tk (.ref lam) n) ∧ LamF g lam (B.fl o)
theorem BookG.mono {prog : Program} {w : World} {P' : Addr} {D : Dat} {B : Bk} {g g' : Heap} (x : BookG prog w P' D B g) (k : Kp g g') : BookG prog w P' D B g' :=
  ⟨let ⟨es, ep, a, b⟩ := x.bk; ⟨es, ep, k _ _ a, b⟩, x.bf.mono k, fun o ho => let ⟨es, ep, a, b⟩ := x.fl o ho; ⟨es, ep, k _ _ a, b⟩, fun o ho => (x.ff o ho).mono k, fun o ho i hi => let ⟨ys, a, b⟩ := x.ls o ho i hi; ⟨ys, plain_at a (k _), b.mono k⟩, x.bb, x.bl, x.nd⟩
theorem BookZ.mono {prog : Program} {w : World} {P' : Addr} {D : Dat} {B : Bk} {g g' : Heap} (x : BookZ prog w P' D B g) (k : Kp g g') : BookZ prog w P' D B g' :=
  ⟨x.toBookG.mono k, let ⟨a, b, c, d, e, i⟩ := x.zb; ⟨a, b, c, d, k _ _ e, i.mono k⟩, fun o ho => let ⟨a, b, c, d, e, i⟩ := x.zf o ho; ⟨a, b, c, d, k _ _ e, i.mono k⟩⟩
section
variable {prog : Program} {w : World} {P' : Addr} {D : Dat} {B : Bk} {g : Heap}
theorem BookG.viewB (x : BookG prog w P' D B g) : ∃ es ep, View prog w g B.b B.d B.f es ep (D.os.map fun o => (o, .raw (.ref (B.fl o)))) := by
  obtain ⟨es, ep, a, K⟩ := x.bk
  refine ⟨es, ep, view_of a K (by rw [List.length_map, List.length_map]) (fun i k v d h1 h2 => ?_) (by rw [List.map_map, List.map_map]; rfl)⟩
  rw [List.getElem?_map] at h1 h2
  obtain ⟨o, e1, e2⟩ := Option.map_eq_some_iff.mp h1
  rw [e1] at h2
  cases e2; cases h2
  exact .raw _
theorem BookG.viewF (x : BookG prog w P' D B g) {o : Str} (ho : o ∈ D.os) : ∃ es ep, View prog w g (B.fl o) (B.fd o) (B.ff o) es ep ((D.is o).map fun i => (i, .lst ((D.vs o i).map .str))) := by
  obtain ⟨es, ep, a, K⟩ := x.fl o ho
  refine ⟨es, ep, view_of a K (by rw [List.length_map, List.length_map]) (fun n k v d h1 h2 => ?_) (by rw [List.map_map, List.map_map]; rfl)⟩
  rw [List.getElem?_map] at h1 h2
  obtain ⟨i, e1, e2⟩ := Option.map_eq_some_iff.mp h1
  rw [e1] at h2
  cases e2; cases h2
  obtain ⟨ys, ⟨m, p⟩, r⟩ := x.ls o ho _ (List.mem_of_getElem? e1)
  exact .lst p r
end
/-- the worlds in which the book is known -/
noncomputable abbrev WG (prog : Program) (w : World) (mb : Str → Option Value) (X : List Addr) (P' : Addr) (D : Dat) (B : Bk) : Wo := { K := Mine.hd.heap_1 w.params, mg := mgC w.params, mb := mb, X := X, inv := BookG prog w P' D B, invm := fun k x => x.mono k }
noncomputable abbrev WZ (prog : Program) (w : World) (mb : Str → Option Value) (X : List Addr) (P' : Addr) (D : Dat) (B : Bk) : Wo := { K := Mine.hd.heap_1 w.params, mg := mgC w.params, mb := mb, X := X, inv := BookZ prog w P' D B, invm := fun k x => x.mono k }
section
variable {prog : Program} {w : World} {W : Wo} {A : Around} {env : Env} {mb : Str → Option Value} {X : List Addr} {ρ : Str → Option Dt} {g g' h h' : Heap} {s : Shared} {es : Array DictEntry} {b dx f : Addr} {ep : Nat}
/-- o.freeze() -/
theorem at_freeze {o : Expr} {apos pos : Pos} {Q : Value → Shared → Prop} {E : Value → Shared → Prop} (R : Room A 2) (S : SE prog w W env g s ρ) (q : SameW W (WX w mb X)) (xo : Ev prog w W A env ρ o (.raw (.ref b)))
    (T : TabOk g s.heap 112 posF qualF) (ho : g.get? b = some (fddObj dx f es ep)) (hd : s.heap.get? dx = some emptyD) (nbx : dx ≠ 112) (off : ∀ a ∈ [112, dx], g.get? a = none ∧ a < s.heap.objs.size)
    (hbase : attributeBase o "freeze" env (eval o env) = eval o env) (hline : (apos.endLine == pos.line) = true)
    (k : ∀ g' h' tk lam x tk' n, 0 < tk → ExtX [112, dx] g s.heap g' h' → TabOk g' h' 112 posF qualF → h'.get? dx = some (fzD x tk' (.ref lam) n) → LamF g' lam b → Q .none { s with heap := h', toks := tk }) :
    wpAny (model prog w) A (eval (.Call (.Attribute o "freeze" apos) [] [] pos) env) Q E s := by
  refine call_attr hbase rfl hline ((xo.run g s S).use S.pos fun v h₁ g₁ tk₁ p₁ e₁ r₁ pl => ?_)
  first | obtain rfl := r₁.inv | obtain ⟨_, rfl⟩ := r₁.inv
  have S1 := S.ext e₁ p₁
  have Xk : (Mine.hd.heap_1 w.params).In h₁ := by have := S1.wd.k; rw [q.k] at this; exact this.keeps S1.sub
  have kg₁ := Ext.grow S.sub e₁
  have ho₁ := kg₁ _ _ ho
  refine meth_fdd (s := { s with heap := h₁, toks := tk₁ }) Xk (e₁.sub _ _ ho₁) (e₁.keep _ _ rfl hd) sh_freeze0 (fb_freeze (P := w.params)) (looks_typeIn Xk (ty_117 w.params)) (.inl rfl) ?_
  obtain ⟨o117, h117, d117'⟩ := (d117 (w := w) (mb := mb)).at'
  refine callWith_function (o := o117) (fd := (f117 w.params).1) ((evl_nil : EvL prog w W A env ρ [] []).args S1 fun vs h₂ g₂ tk₂ p₂ e₂ r₂ => ?_)
  first | obtain rfl := r₂.inv | obtain ⟨_, rfl⟩ := r₂.inv
  have S2 := S1.ext e₂ p₂
  have x := e₁.trans e₂
  have kg := kg₁.trans (Ext.grow S1.sub e₂)
  refine ⟨⟨(by have := S2.wd.k; rw [q.k] at this; exact this.keeps S2.sub : (Mine.hd.heap_1 w.params).In h₂) _ _ h117, d117'⟩, ?_⟩
  refine call_freeze (s := { s with heap := h₂, toks := tk₂ }) R S2.toOk q (T.mono kg fun o e => x.keep _ _ rfl e) (kg _ _ ho) (x.keep _ _ rfl hd) nbx (fun a ha => ⟨(x.same a (off a ha).2).trans (off a ha).1, Nat.lt_of_lt_of_le (off a ha).2 x.size⟩) fun g' h' tk lam y tk' n p' x' T' hd' lf => ?_
  exact k g' h' tk lam y tk' n p' (x.toX.trans x') T' hd' lf
end
end Mine
end
section
open PySem PySem.W PySem.Spec PySem.Calls PyProof.Rows PySem.Builtin PySem.Builtin.Str
set_option Elab.async false
set_option tactic.hygienic false
set_option linter.unusedVariables false
set_option maxRecDepth 100000
set_option maxHeartbeats 4000000
namespace Mine
/-- the freezing under way: n floors are done -/
structure FzAt (D : Dat) (B : Bk) (n : Nat) (g h : Heap) : Prop where
  t : TabOk g h 112 posF qualF
  d : h.get? B.d = some emptyD
  no : ∀ (j : Nat) o, D.os[j]? = some o → n ≤ j → h.get? (B.fd o) = some emptyD
  yes : ∀ (j : Nat) o, D.os[j]? = some o → j < n → ∃ x tk lam m, h.get? (B.fd o) = some (fzD x tk (.ref lam) m) ∧ LamF g lam (B.fl o)
/-- the freezing done -/
structure FzAll (D : Dat) (B : Bk) (g h : Heap) : Prop where
  t : TabOk g h 112 posF qualF
  d : ∃ x tk lam m, h.get? B.d = some (fzD x tk (.ref lam) m) ∧ LamF g lam B.b
  yes : ∀ o ∈ D.os, ∃ x tk lam m, h.get? (B.fd o) = some (fzD x tk (.ref lam) m) ∧ LamF g lam (B.fl o)
noncomputable abbrev dictsOf (D : Dat) (B : Bk) : List Addr := B.d :: D.os.map B.fd
section
variable {D : Dat} {B : Bk} {n : Nat} {g h g' h' : Heap}
theorem FzAt.frame (z : FzAt D B n g h) (k : Kp g g') (e : ∀ a ∈ 112 :: dictsOf D B, ∀ o, h.get? a = some o → h'.get? a = some o) : FzAt D B n g' h' :=
  ⟨z.t.mono k (e _ (.head _)), e _ (.tail _ (.head _)) _ z.d, fun j o q l => e _ (.tail _ (.tail _ (List.mem_map_of_mem (List.mem_of_getElem? q)))) _ (z.no j o q l), fun j o q l => let ⟨x, tk, lam, m, a, b⟩ := z.yes j o q l; ⟨x, tk, lam, m, e _ (.tail _ (.tail _ (List.mem_map_of_mem (List.mem_of_getElem? q)))) _ a, b.mono k⟩⟩
theorem FzAll.frame (z : FzAll D B g h) (k : Kp g g') (e : ∀ a ∈ 112 :: dictsOf D B, ∀ o, h.get? a = some o → h'.get? a = some o) : FzAll D B g' h' :=
  ⟨z.t.mono k (e _ (.head _)), let ⟨x, tk, lam, m, a, b⟩ := z.d; ⟨x, tk, lam, m, e _ (.tail _ (.head _)) _ a, b.mono k⟩, fun o q => let ⟨x, tk, lam, m, a, b⟩ := z.yes o q; ⟨x, tk, lam, m, e _ (.tail _ (.tail _ (List.mem_map_of_mem q))) _ a, b.mono k⟩⟩
end
noncomputable def ownFz (D : Dat) (B : Bk) (n : Nat) : Own where
  fp := 112 :: dictsOf D B
  xs := [112]
  O := fun g h => FzAt D B n g h
  ok := fun z _ _ k e => z.frame k e
noncomputable def ownFa (D : Dat) (B : Bk) : Own where
  fp := 112 :: dictsOf D B
  xs := [112]
  O := fun g h => FzAll D B g h
  ok := fun z _ _ k e => z.frame k e
/-- the objects of a book, its own dicts apart -/
noncomputable abbrev partsOf (D : Dat) (B : Bk) : List Addr := B.b :: D.os.flatMap fun o => B.fl o :: (D.is o).map (B.ls o)
section
variable {prog : Program} {w : World} {W : Wo} {A : Around} {env : Env} {mb : Str → Option Value} {X : List Addr} {g g₀ g' h h' : Heap} {s s₀ : Shared} {l : List (Str × Dt)} {ν : List (Str × Value)} {os : List Own} {P' : Addr} {o2 : Option Addr} {D : Dat} {B : Bk} {T : List (Addr × Tag)}
theorem mem_parts {a : Addr} (h : a ∈ partsOf D B) : a = B.b ∨ (∃ o ∈ D.os, a = B.fl o) ∨ ∃ o ∈ D.os, ∃ i ∈ D.is o, a = B.ls o i := by
  rcases List.mem_cons.mp h with rfl | h
  · exact .inl rfl
  · obtain ⟨o, ho, h⟩ := List.mem_flatMap.mp h
    rcases List.mem_cons.mp h with rfl | h
    · exact .inr (.inl ⟨o, ho, rfl⟩)
    · obtain ⟨i, hi, rfl⟩ := List.mem_map.mp h
      exact .inr (.inr ⟨o, ho, i, hi, rfl⟩)
theorem parts_fl {o : Str} (ho : o ∈ D.os) : B.fl o ∈ partsOf D B := .tail _ (List.mem_flatMap.mpr ⟨o, ho, .head _⟩)
theorem parts_ls {o i : Str} (ho : o ∈ D.os) (hi : i ∈ D.is o) : B.ls o i ∈ partsOf D B := .tail _ (List.mem_flatMap.mpr ⟨o, ho, .tail _ (List.mem_map_of_mem hi)⟩)
/-- a part of a book: its tag, its object -/
theorem BookAt.part (x : BookAt prog w g h P' D B T) {a : Addr} (ha : a ∈ partsOf D B) : a ∈ keysT T ∧ (h.get? a).isSome = true ∧ a ∉ dictsOf D B := by
  have nd : ∀ {c : Addr} {t : Tag}, (c, t) ∈ T → t ≠ .bd → (∀ o, t ≠ .fd o) → c ∉ dictsOf D B := fun {c t} m n1 n2 hm => by
    rcases List.mem_cons.mp hm with rfl | hm
    · exact n1 (tagU x.nd m x.td)
    · obtain ⟨o, ho, rfl⟩ := List.mem_map.mp hm
      exact n2 o (tagU x.nd m (x.te o ho))
  rcases mem_parts ha with rfl | ⟨o, ho, rfl⟩ | ⟨o, ho, i, hi, rfl⟩
  · obtain ⟨es, ep, e, -⟩ := x.bk
    exact ⟨tagIn x.tb, by rw [e]; rfl, nd x.tb (by simp) (by simp)⟩
  · obtain ⟨es, ep, e, -⟩ := x.fl o ho
    exact ⟨tagIn (x.tl o ho), by rw [e]; rfl, nd (x.tl o ho) (by simp) (by simp)⟩
  · obtain ⟨ys, ⟨n, e⟩, -⟩ := x.ls o ho i hi
    exact ⟨tagIn (x.ts o ho i hi), by rw [e]; rfl, nd (x.ts o ho i hi) (by simp) (by simp)⟩
theorem BookAt.dict (x : BookAt prog w g h P' D B T) {a : Addr} (ha : a ∈ dictsOf D B) : a ∈ keysT T := by
  rcases List.mem_cons.mp ha with rfl | ha
  · exact tagIn x.td
  · obtain ⟨o, ho, rfl⟩ := List.mem_map.mp ha
    exact tagIn (x.te o ho)
theorem fd_nodup {T : List (Addr × Tag)} (nd : (keysT T).Nodup) {fd : Str → Addr} : ∀ {os : List Str}, os.Nodup → (∀ o ∈ os, (fd o, Tag.fd o) ∈ T) → (os.map fd).Nodup
  | [], _, _ => .nil
  | o :: os, h, m => by
    rw [List.map_cons, List.nodup_cons]
    rw [List.nodup_cons] at h
    refine ⟨fun hm => ?_, fd_nodup nd h.2 fun x hx => m x (.tail _ hx)⟩
    obtain ⟨o', ho', e⟩ := List.mem_map.mp hm
    have := tagU nd (m o (.head _)) (e ▸ m o' (.tail _ ho'))
    cases this
    exact h.1 ho'
/-- the open book goes into g, its own dicts stay under way -/
theorem Fs.bookG (F : Fs prog w W env g₀ s₀ l ν [ownT 112 posF qualF, ownBk prog w o2 P' D B T] g s) (hP : ∀ a ∈ tabL o2, a = P') : ∃ g', Fs prog w W env g₀ s₀ l ν [ownFz D B 0, ownT2 242 posO qualO posI qualI (some P')] g' s ∧ BookG prog w P' D B g' := by
  obtain ⟨T1, f1⟩ := F.ow _ (.head _)
  obtain ⟨C, f2⟩ := F.ow _ (.tail _ (.head _))
  have dj := (List.pairwise_cons.mp F.dj).1 _ (.head _)
  have n112 : 112 ∉ 242 :: P' :: keysT T := dj 112 (.head _)
  have inK : ∀ a ∈ keysT T, a ∈ (ownBk prog w o2 P' D B T).fp := fun a ha => .tail _ (.tail _ ha)
  have in1 : ∀ a ∈ partsOf D B, (gputs s.heap (partsOf D B) g).get? a = s.heap.get? a := fun a ha => gputs_in (fun b hb => (C.bk.part hb).2.1) ha
  have in2 : ∀ a, a ∉ partsOf D B → (gputs s.heap (partsOf D B) g).get? a = g.get? a := fun a ha => gputs_out ha
  have offP : ∀ a ∈ partsOf D B, g.get? a = none := fun a ha => (f2 a (inK a (C.bk.part ha).1)).2.2.2.1
  have kg : Kp g (gputs s.heap (partsOf D B) g) := fun b o e => by
    by_cases hb : b ∈ partsOf D B
    · rw [offP b hb] at e; cases e
    · rw [in2 b hb]; exact e
  refine ⟨gputs s.heap (partsOf D B) g, F.reown in1 in2 (fun a ha => ?_) (fun o ho => ?_) ?_, ?_⟩
  · obtain ⟨b1, b2, b3, b4, b5, b6⟩ := f2 a (inK a (C.bk.part ha).1)
    refine ⟨b1.resolve_right fun z => ?_, b4, b5, b6⟩
    rcases List.mem_cons.mp z.1 with rfl | q
    · exact C.n1 (C.bk.part ha).1
    · rw [hP a q] at ha; exact C.ne (C.bk.part ha).1
  · rcases List.mem_cons.mp ho with rfl | ho
    · refine ⟨⟨T1.mono kg fun _ e => e, by have := C.bk.bd; rw [C.od] at this; exact this, fun j o q _ => by have := C.bk.fd o (List.mem_of_getElem? q); rw [C.oo] at this; exact this, fun j o q l => absurd l (Nat.not_lt_zero _)⟩, fun a ha => ?_⟩
      rcases List.mem_cons.mp ha with rfl | ha
      · exact ⟨fun q => n112 (inK _ (C.bk.part q).1), _, .head _, .head _, fun _ => .head _⟩
      · refine ⟨fun q => (C.bk.part q).2.2 ha, _, .tail _ (.head _), inK a (C.bk.dict ha), fun z => ?_⟩
        rcases List.mem_cons.mp z with rfl | q
        · exact absurd (C.bk.dict ha) C.n1
        · rw [hP a q] at ha; exact absurd (C.bk.dict ha) C.ne
    · rw [List.mem_singleton.mp ho]
      refine ⟨⟨let ⟨c', a, b, d⟩ := C.t1; ⟨c', a, b.keeps kg, d.keeps kg⟩, C.tab.mono kg fun _ e => e, C.n2⟩, fun a ha => ?_⟩
      rcases List.mem_cons.mp ha with rfl | ha
      · exact ⟨fun q => C.n1 (C.bk.part q).1, _, .tail _ (.head _), .head _, fun _ => .head _⟩
      · rw [List.mem_singleton.mp ha]
        exact ⟨fun q => C.ne (C.bk.part q).1, _, .tail _ (.head _), .tail _ (.head _), fun _ => .tail _ (.head _)⟩
  · refine .cons (fun o' ho' a ha => ?_) (List.pairwise_singleton _ _)
    rw [List.mem_singleton.mp ho']
    intro q
    have hq : a = 242 ∨ a = P' := by
      rcases List.mem_cons.mp q with rfl | q
      · exact .inl rfl
      · exact .inr (List.mem_singleton.mp q)
    rcases List.mem_cons.mp ha with rfl | ha
    · rcases hq with q | q
      · exact n112 (q ▸ .head _)
      · exact n112 (q ▸ .tail _ (.head _))
    · rcases hq with rfl | rfl
      · exact C.n1 (C.bk.dict ha)
      · exact C.ne (C.bk.dict ha)
  · obtain ⟨es, ep, e, K⟩ := C.bk.bk
    have osn : D.os.Nodup := by
      have := K.nd
      rw [List.map_map] at this
      have e : D.os.map ((fun x : Str × Value => x.1) ∘ fun o => (o, Value.ref (B.fl o))) = D.os := List.map_id D.os
      rw [e] at this
      exact this
    refine ⟨⟨es, ep, (in1 _ (.head _)).trans e, K⟩, C.bk.bf.mono kg, fun o ho => ?_, fun o ho => (C.bk.ff o ho).mono kg, fun o ho i hi => ?_, C.big _ C.bk.tb, fun o ho => C.big _ (C.bk.tl o ho), ?_⟩
    · obtain ⟨es, ep, e, K⟩ := C.bk.fl o ho
      exact ⟨es, ep, (in1 _ (parts_fl ho)).trans e, K⟩
    · obtain ⟨ys, ⟨n, e⟩, r⟩ := C.bk.ls o ho i hi
      exact ⟨ys, ⟨n, (in1 _ (parts_ls ho hi)).trans e⟩, r.mono kg⟩
    · rw [List.nodup_cons]
      refine ⟨fun hm => ?_, fd_nodup C.bk.nd osn C.bk.te⟩
      obtain ⟨o, ho, e⟩ := List.mem_map.mp hm
      have := tagU C.bk.nd C.bk.td (e ▸ C.bk.te o ho)
      cases this
/-- the own dicts of a frozen book go into g -/
theorem Fs.bookZ (F : Fs prog w W env g₀ s₀ l ν [ownFa D B, ownT2 242 posO qualO posI qualI (some P')] g s) (G : BookG prog w P' D B g) (n112 : 112 ∉ dictsOf D B) : ∃ g', Fs prog w W env g₀ s₀ l ν [ownT 112 posF qualF, ownT2 242 posO qualO posI qualI (some P')] g' s ∧ BookZ prog w P' D B g' ∧ Kp g g' := by
  obtain ⟨Z, f1⟩ := F.ow _ (.head _)
  obtain ⟨T2, f2⟩ := F.ow _ (.tail _ (.head _))
  have dj := (List.pairwise_cons.mp F.dj).1 _ (.head _)
  have some' : ∀ a ∈ dictsOf D B, (s.heap.get? a).isSome = true := fun a ha => by
    rcases List.mem_cons.mp ha with rfl | ha
    · obtain ⟨x, tk, lam, m, e, -⟩ := Z.d; rw [e]; rfl
    · obtain ⟨o, ho, rfl⟩ := List.mem_map.mp ha
      obtain ⟨x, tk, lam, m, e, -⟩ := Z.yes o ho; rw [e]; rfl
  have in1 : ∀ a ∈ dictsOf D B, (gputs s.heap (dictsOf D B) g).get? a = s.heap.get? a := fun a ha => gputs_in some' ha
  have in2 : ∀ a, a ∉ dictsOf D B → (gputs s.heap (dictsOf D B) g).get? a = g.get? a := fun a ha => gputs_out ha
  have offD : ∀ a ∈ dictsOf D B, g.get? a = none := fun a ha => (f1 a (.tail _ ha)).2.2.2.1
  have kg : Kp g (gputs s.heap (dictsOf D B) g) := fun b o e => by
    by_cases hb : b ∈ dictsOf D B
    · rw [offD b hb] at e; cases e
    · rw [in2 b hb]; exact e
  refine ⟨gputs s.heap (dictsOf D B) g, F.reown in1 in2 (fun a ha => ?_) (fun o ho => ?_) ?_, ⟨G.mono kg, ?_, fun o ho => ?_⟩, kg⟩
  · obtain ⟨b1, b2, b3, b4, b5, b6⟩ := f1 a (.tail _ ha)
    refine ⟨b1.resolve_right fun z => ?_, b4, b5, b6⟩
    rw [List.mem_singleton.mp z.1] at ha
    exact n112 ha
  · rcases List.mem_cons.mp ho with rfl | ho
    · refine ⟨Z.t.mono kg fun _ e => e, fun a ha => ?_⟩
      rw [List.mem_singleton.mp ha]
      exact ⟨n112, _, .head _, .head _, fun z => z⟩
    · rw [List.mem_singleton.mp ho]
      refine ⟨T2At.mono (g := g) (h := s.heap) (P := 242) (pos := posO) (qual := qualO) (pos' := posI) (qual' := qualI) (o := some P') T2 kg fun _ _ _ e => e, fun a ha => ⟨fun q => dj a (.tail _ q) ha, _, .tail _ (.head _), ha, fun z => z⟩⟩
  · refine .cons (fun o' ho' a ha => ?_) (List.pairwise_singleton _ _)
    rw [List.mem_singleton.mp ho']
    rw [List.mem_singleton.mp ha]
    exact dj 112 (.head _)
  · obtain ⟨x, tk, lam, m, e, f⟩ := Z.d
    exact ⟨x, tk, lam, m, (in1 _ (.head _)).trans e, f.mono kg⟩
  · obtain ⟨x, tk, lam, m, e, f⟩ := Z.yes o ho
    exact ⟨x, tk, lam, m, (in1 _ (.tail _ (List.mem_map_of_mem ho))).trans e, f.mono kg⟩
end
end Mine
end
section
open PySem PySem.W PySem.Spec PySem.Calls PyProof.Rows PySem.Builtin PySem.Builtin.Str
set_option Elab.async false
set_option tactic.hygienic false
set_option linter.unusedVariables false
set_option maxRecDepth 100000
set_option maxHeartbeats 4000000
namespace Mine
section
variable {prog : Program} {w : World} {A : Around} {mb : Str → Option Value} {X : List Addr} {g g₀ g' h h' : Heap} {s s₀ : Shared} {l : List (Str × Dt)} {ν : List (Str × Value)} {P' : Addr} {o2 : Option Addr} {D : Dat} {B : Bk} {T : List (Addr × Tag)}
theorem fz_all {g h : Heap} (z : FzAt D B D.os.length g h) (x : ExtX [112, B.d] g h g' h') (k : Kp g g') (n : (dictsOf D B).Nodup) (n112 : 112 ∉ dictsOf D B) (t : TabOk g' h' 112 posF qualF) {y tk lam m} (hd : h'.get? B.d = some (fzD y tk (.ref lam) m)) (hl : LamF g' lam B.b) : FzAll D B g' h' := by
  refine ⟨t, ⟨y, tk, lam, m, hd, hl⟩, fun o ho => ?_⟩
  obtain ⟨j, hj⟩ := List.mem_iff_getElem?.mp ho
  obtain ⟨x', tk', lam', m', e, f⟩ := z.yes j o hj (List.getElem?_eq_some_iff.mp hj).1
  have hm : B.fd o ∈ D.os.map B.fd := List.mem_map_of_mem ho
  refine ⟨x', tk', lam', m', x.keep _ _ rfl (fun q => ?_) e, f.mono k⟩
  rcases List.mem_cons.mp q with q | q
  · exact n112 (q ▸ .tail _ hm)
  · rw [List.mem_singleton.mp q] at hm
    exact (List.nodup_cons.mp n).1 hm
theorem fz_step {g h : Heap} {i : Nat} {o : Str} (z : FzAt D B i g h) (hi : D.os[i]? = some o) (x : ExtX [112, B.fd o] g h g' h') (k : Kp g g') (n : (dictsOf D B).Nodup) (n112 : 112 ∉ dictsOf D B) (t : TabOk g' h' 112 posF qualF) {y tk lam m} (hd : h'.get? (B.fd o) = some (fzD y tk (.ref lam) m)) (hl : LamF g' lam (B.fl o)) : FzAt D B (i + 1) g' h' := by
  have nd := (List.nodup_cons.mp n)
  have mo : B.fd o ∈ D.os.map B.fd := List.mem_map_of_mem (List.mem_of_getElem? hi)
  have other : ∀ (j : Nat) o', D.os[j]? = some o' → j ≠ i → B.fd o' ∉ [112, B.fd o] := fun j o' hj ne q => by
    rcases List.mem_cons.mp q with q | q
    · exact n112 (q ▸ .tail _ (List.mem_map_of_mem (List.mem_of_getElem? hj)))
    · have q := List.mem_singleton.mp q
      have e1 : (D.os.map B.fd)[j]? = some (B.fd o') := by rw [List.getElem?_map, hj]; rfl
      have e2 : (D.os.map B.fd)[i]? = some (B.fd o) := by rw [List.getElem?_map, hi]; rfl
      have l1 := (List.getElem?_eq_some_iff.mp e1).1
      exact ne ((List.getElem?_inj l1 nd.2).mp (by rw [e1, e2, q]))
  refine ⟨t, x.keep _ _ rfl (fun q => ?_) z.d, fun j o' hj l => x.keep _ _ rfl (other j o' hj (by omega)) (z.no j o' hj (by omega)), fun j o' hj l => ?_⟩
  · rcases List.mem_cons.mp q with q | q
    · exact n112 (q ▸ .head _)
    · rw [← List.mem_singleton.mp q] at mo
      exact nd.1 mo
  · by_cases e : j = i
    · subst e
      rw [hi] at hj
      cases hj
      exact ⟨y, tk, lam, m, hd, hl⟩
    · obtain ⟨a1, a2, a3, a4, a5, a6⟩ := z.yes j o' hj (by omega)
      exact ⟨a1, a2, a3, a4, x.keep _ _ rfl (other j o' hj e) a5, a6.mono k⟩
/-- said = [floor.freeze() for floor in book.values()] + [book.freeze()] -/
theorem go_said {L : Addr} {Q : Flow → Shared → Prop} {E : Value → Shared → Prop} (R : Room A 3) (hz : D.os.length ≤ 1000) (hb : l.lookup ("book" : Str) = some (.raw (.ref B.b))) (hν : ν.lookup ("said" : Str) = none) (hP : ∀ a ∈ tabL o2, a = P')
    (kk : Go prog w (WZ prog w mb X P' D B) A (callEnvC (f264 w.params).1 L 264) g₀ s₀ (("said", .lst (List.replicate (D.os.length + 1) .none)) :: l) ν [ownT 112 posF qualF, ownT2 242 posO qualO posI qualI (some P')] ((b264 w.params).1.drop 3) Q E) :
    Go prog w (WX w mb X) A (callEnvC (f264 w.params).1 L 264) g₀ s₀ l ν [ownT 112 posF qualF, ownBk prog w o2 P' D B T]
      ((b264 w.params).1.drop 2) Q E := .mk fun g s F₀ => by
  have n112 : 112 ∉ dictsOf D B := fun hm => (List.pairwise_cons.mp F₀.dj).1 _ (.head _) 112 (.head _) (.tail _ (.tail _ ((F₀.ow _ (.tail _ (.head _))).1.bk.dict hm)))
  obtain ⟨g₁, F₁', G₁⟩ := F₀.bookG hP
  have F₁ := F₁'.toW (V := WG prog w mb X P' D B) ⟨rfl, rfl, rfl⟩ rfl G₁
  obtain ⟨z₁, f₁⟩ := F₁.ow _ (.head _)
  obtain ⟨es, ep, V⟩ := G₁.viewB
  have hs6 : sizeLine = 16777216 := rfl
  refine wpAny_execs_cons (wpAny_Assign_Name (wpAny_BinOp ?_) rfl)
  refine comp_fx (Y := 112 :: dictsOf D B) (Z := fun i g h => FzAt D B i g h) (out := List.replicate D.os.length .none) R.hd F₁.se (fun Q' E' k => at_values R.hd F₁.se ⟨rfl, rfl, rfl⟩ (ev_name hb) V z₁.d sh_values0 G₁.bb rfl rfl k) rfl (by rw [List.length_replicate, List.length_map, List.length_map]) (by rw [List.length_map, List.length_map]; omega)
    (fun i g h g' h' z k e => z.frame k e) (fun a ha => ⟨(f₁ a ha).2.1, (f₁ a ha).2.2.2.1⟩) z₁ (fun C i d r hd hr => ?_) fun v g₂ h₂ tk₂ p₂ x₂ r₂ z₂ => ?_
  · rw [List.map_map, List.getElem?_map] at hd
    obtain ⟨o, ho, rfl⟩ := Option.map_eq_some_iff.mp hd
    have hr' : r = .none := by
      have := List.mem_of_getElem? hr
      exact List.eq_of_mem_replicate this
    subst hr'
    have mo := List.mem_of_getElem? ho
    refine ⟨[("floor", .raw (.ref (B.fl o)))], .name, fun y hy => ?_, by simp, fun g₃ s₃ Q' E' kg S₃ z₃ off₃ k => ?_⟩
    · rw [List.mem_singleton.mp hy]; rfl
    obtain ⟨es', ep', hfl, -⟩ := G₁.fl o mo
    have inY : ∀ a ∈ [112, B.fd o], a ∈ 112 :: dictsOf D B := fun a ha => by
      rcases List.mem_cons.mp ha with rfl | ha
      · exact .head _
      · rw [List.mem_singleton.mp ha]; exact .tail _ (.tail _ (List.mem_map_of_mem mo))
    refine at_freeze (X := X) (s := s₃) ⟨R.hd, Nat.lt_of_le_of_lt (Nat.add_le_add_left (by decide) _) R.dp, by have := R.un; omega⟩ S₃ ⟨rfl, rfl, rfl⟩ (ev_name rfl) z₃.t (kg _ _ hfl) (z₃.no i o ho (Nat.le_refl _)) (fun q => n112 (q ▸ .tail _ (List.mem_map_of_mem mo))) (fun a ha => off₃ a (inY a ha)) rfl rfl fun g' h' tk lam x tk' n p' x' T' hd' lf => ?_
    exact k _ g' h' tk p' (x'.mono inY) .none (fz_step z₃ ho x' (ExtX.grow S₃.sub x') G₁.nd n112 T' hd' lf)
  · have hl : ((D.os.map fun o => (o, Dt.raw (.ref (B.fl o)))).map (·.2)).length = D.os.length := by rw [List.length_map, List.length_map]
    rw [hl] at z₂
    have off₂ : ∀ a ∈ 112 :: dictsOf D B, g₂.get? a = none := fun a ha => (x₂.same a (f₁ a ha).2.1).trans (f₁ a ha).2.2.2.1
    have F₂ := F₁.mut (o' := ownFz D B D.os.length) x₂ p₂ z₂ fun a ha => .inl ⟨ha, off₂ a ha⟩
    have G₂ := G₁.mono (ExtX.grow F₁.se.sub x₂)
    obtain ⟨es', ep', hbk, -⟩ := G₂.bk
    have inY : ∀ a ∈ [112, B.d], a ∈ 112 :: dictsOf D B := fun a ha => by
      rcases List.mem_cons.mp ha with rfl | ha
      · exact .head _
      · rw [List.mem_singleton.mp ha]; exact .tail _ (.head _)
    refine wpAny_List_spliced (wpAny_mono (Q := fun vs s' => _) (show wpAny _ _ (PySem.spliced [(false, _)]) _ _ _ from spliced_cons (at_freeze (X := X) (s := { s with heap := h₂, toks := tk₂ }) ⟨R.hd, Nat.lt_of_le_of_lt (Nat.add_le_add_left (by decide) _) R.dp, by have := R.un; omega⟩ F₂.se ⟨rfl, rfl, rfl⟩ (ev_name hb) z₂.t hbk z₂.d (fun q => n112 (q ▸ .head _)) (fun a ha => ⟨off₂ a (inY a ha), Nat.lt_of_lt_of_le (f₁ a (inY a ha)).2.1 x₂.size⟩) rfl rfl fun g₃ h₃ tk₃ lam x tk' n p₃ x₃ T₃ hd₃ lf => spliced_nil ?_)) (fun _ _ h => h) fun _ _ h => h)
    refine ⟨by show 1 ≤ _; omega, ?_⟩
    have kg₃ := ExtX.grow F₂.se.sub x₃
    have z₃ := fz_all z₂ x₃ kg₃ G₁.nd n112 T₃ hd₃ lf
    have off₃ : ∀ a ∈ 112 :: dictsOf D B, g₃.get? a = none := fun a ha => (x₃.same a (Nat.lt_of_lt_of_le (f₁ a ha).2.1 x₂.size)).trans (off₂ a ha)
    have F₃ := F₂.mut (o' := ownFa D B) (x₃.mono inY) p₃ z₃ fun a ha => .inl ⟨ha, off₃ a ha⟩
    have x₄ := ext_put F₃.se.sub { cls := .type "list", data := .seq [Value.none].toArray } rfl
    have F₄ := F₃.ext x₄ p₃
    have kg₄ := Ext.grow F₃.se.sub x₄
    refine (bin_addL (ds := List.replicate D.os.length .none) (es := [.none]) (by rw [List.length_replicate]; show _ + 1 ≤ _; omega) _ _ v _ F₄.se.toOk (r₂.mono (kg₃.trans kg₄)) (.lst (n := 0) (gput_self _ _ _ rfl) (.cons .none .nil))).use p₃ fun u h₅ g₅ tk₅ p₅ e₅ r₅ => ?_
    have F₅ := F₄.ext e₅ p₅
    have G₅ := (G₂.mono (kg₃.trans kg₄)).mono (Ext.grow F₄.se.sub e₅)
    obtain ⟨g₆, F₆', Z₆, kg₆⟩ := F₅.bookZ G₅ n112
    have F₆ := F₆'.toW (V := WZ prog w mb X P' D B) ⟨rfl, rfl, rfl⟩ rfl Z₆
    refine F₆.store (slotted_of rfl) (r₅.mono kg₆) hν fun h₇ tk₇ F₇ => ?_
    rw [show List.replicate D.os.length Dt.none ++ [Dt.none] = List.replicate (D.os.length + 1) .none from (List.replicate_succ').symm] at F₇
    exact kk.run _ _ F₇
end
end Mine
end
section
open PySem PySem.W PySem.Spec PySem.Calls PyProof.Rows PySem.Builtin PySem.Builtin.Str
set_option Elab.async false
set_option tactic.hygienic false
set_option linter.unusedVariables false
set_option maxRecDepth 100000
set_option maxHeartbeats 4000000
namespace Mine
theorem fo_frozenZ (P : Params) (x : Int) (tk : Tok) (lam : Addr) (n : Nat) : findObj (Mine.hd.heap_1 P) 120 (some (fzD x tk (.ref lam) n)) "_frozen" = some (.value (.ref lam)) := fo_frozen1 P x tk lam n
section
variable {prog : Program} {w : World} {A : Around} {env : Env} {mb : Str → Option Value} {X : List Addr} {ρ : Str → Option Dt} {g g' h h' : Heap} {s : Shared} {P' : Addr} {D : Dat} {B : Bk} {o k : Str}
/-- a floor of a frozen book, asked for what isn't there -/
theorem subZ_fl {e : Expr} {n : Nat} {pk pos : Pos} {Q : Value → Shared → Prop} {E : Value → Shared → Prop} (PO : ProgOk prog) (R : Room A 10) (S : SE prog w (WZ prog w mb X P' D B) env g s ρ) (xe : Ev prog w (WZ prog w mb X P' D B) A env ρ e (.raw (.ref (B.fl o)))) (ho : o ∈ D.os) (nk : k ∉ D.is o)
    (kk : ∀ a g' h' tk, 0 < tk → Ext g s.heap g' h' → s.heap.objs.size ≤ a → h'.PlainList a #[] → g'.get? a = none → Q (.ref a) { s with heap := h', toks := tk }) :
    wpAny (model prog w) A (eval (.Subscript e (.Constant (.str k) n pk) pos) env) Q E s := by
  refine Subscript_ ((xe.run g s S).use S.pos fun v h₁ g₁ tk₁ p₁ e₁ r₁ => ?_)
  first | obtain rfl := r₁.inv | obtain ⟨_, rfl⟩ := r₁.inv
  have S1 := S.ext e₁ p₁
  refine ((ev_str (x := k)).run g₁ _ S1).use p₁ fun v₂ h₂ g₂ tk₂ p₂ e₂ r₂ => ?_
  first | obtain rfl := r₂.inv | obtain ⟨_, rfl⟩ := r₂.inv
  have S2 := S1.ext e₂ p₂
  have Z := S2.wd.iv
  obtain ⟨es, ep, hf, K⟩ := Z.fl o ho
  obtain ⟨x, tk', lam, m, hd, hl⟩ := Z.zf o ho
  have hI := Z.ff o ho
  obtain ⟨pmI, cI, tI, hfI, -⟩ := id hI
  obtain ⟨pmF, cF, tF, clF, hfF, -, -⟩ := id hl
  have sub := S2.sub
  have nb := big_ne (Z.bl o ho)
  have e₁₂ := e₁.trans e₂
  refine sub_frozen (mb := mb) (od := fzD x tk' (.ref lam) m) PO R.hd R.dp S2.toOk ⟨rfl, rfl, rfl⟩ (sub _ _ hf) (sub _ _ hd) (fo_frozenZ w.params x tk' lam m) ⟨_, _, sub _ _ hfF, rfl⟩ K nb.1 nb.2 (fun v hv => by rw [valueAt_not nk] at hv; cases hv) fun _ A' s₃ h1 h2 h3 h4 h5 h6 h7 => ?_
  have x₃ : Ext g₂ h₂ g₂ s₃.heap := ⟨fun b o _ e => h6 b o e, h7, fun b o e => h6 b o (sub b o e), fun _ _ => rfl⟩
  have O₃ : Ok (WZ prog w mb X P' D B) g₂ s₃ := by
    have := S2.toOk.ext (tk := s₃.toks) x₃ h5
    rw [h4]; exact this
  have rd := R.dp
  refine call_lamF (mb := mb) hl O₃ ⟨rfl, rfl, rfl⟩ (by omega) (h6 _ _ (sub _ _ hf)) (h6 _ _ (sub _ _ hd)) ⟨_, _, h6 _ _ (sub _ _ hfI), rfl⟩ fun A'' s₄ j1 j2 j3 j4 x₄ => ?_
  have O₄ : Ok (WZ prog w mb X P' D B) g₂ s₄ := by
    have := O₃.ext (tk := s₄.toks) x₄ j4
    rw [j3]; exact this
  refine call_lamI hI O₄ (by omega) fun h₅ tk₅ p₅ x₅ k₅ a ha hlt hp ga => ?_
  have xx := ((e₁₂.trans x₃).trans x₄).trans x₅
  have := kk a g₂ h₅ tk₅ p₅ xx (Nat.le_trans ((e₁₂.trans x₃).trans x₄).size ha) hp ga
  rw [j3, h4]
  exact this
/-- a frozen book, asked for what isn't there -/
theorem subZ_bk {e : Expr} {n : Nat} {pk pos : Pos} {Q : Value → Shared → Prop} {E : Value → Shared → Prop} (PO : ProgOk prog) (R : Room A 10) (S : SE prog w (WZ prog w mb X P' D B) env g s ρ) (xe : Ev prog w (WZ prog w mb X P' D B) A env ρ e (.raw (.ref B.b))) (nk : k ∉ D.os)
    (T : TabOk g s.heap P' posI qualI) (gP : g.get? P' = none) (zP : P' < s.heap.objs.size)
    (kk : ∀ b d fi g' h' tk, 0 < tk → ExtX [P'] g s.heap g' h' → s.heap.objs.size ≤ d → b = d + 1 → g'.get? b = none → g'.get? d = none → h'.get? d = some emptyD → h'.get? b = some (fddObj d fi #[] 0) → LamI g' fi → TabOk g' h' P' posI qualI → g'.get? P' = none → Q (.ref b) { s with heap := h', toks := tk }) :
    wpAny (model prog w) A (eval (.Subscript e (.Constant (.str k) n pk) pos) env) Q E s := by
  refine Subscript_ ((xe.run g s S).use S.pos fun v h₁ g₁ tk₁ p₁ e₁ r₁ => ?_)
  first | obtain rfl := r₁.inv | obtain ⟨_, rfl⟩ := r₁.inv
  have S1 := S.ext e₁ p₁
  refine ((ev_str (x := k)).run g₁ _ S1).use p₁ fun v₂ h₂ g₂ tk₂ p₂ e₂ r₂ => ?_
  first | obtain rfl := r₂.inv | obtain ⟨_, rfl⟩ := r₂.inv
  have S2 := S1.ext e₂ p₂
  have Z := S2.wd.iv
  obtain ⟨es, ep, hf, K⟩ := Z.bk
  obtain ⟨x, tk', lam, m, hd, hl⟩ := Z.zb
  have hO := Z.bf
  obtain ⟨pmO, cO, tO, hfO, -, -⟩ := id hO
  obtain ⟨pmF, cF, tF, clF, hfF, -, -⟩ := id hl
  have sub := S2.sub
  have nb := big_ne Z.bb
  have e₁₂ := e₁.trans e₂
  have kg := Ext.grow S.sub e₁₂
  refine sub_frozen (mb := mb) (od := fzD x tk' (.ref lam) m) PO R.hd R.dp S2.toOk ⟨rfl, rfl, rfl⟩ (sub _ _ hf) (sub _ _ hd) (fo_frozenZ w.params x tk' lam m) ⟨_, _, sub _ _ hfF, rfl⟩ K nb.1 nb.2 (fun v hv => by rw [valueAt_not nk] at hv; cases hv) fun _ A' s₃ h1 h2 h3 h4 h5 h6 h7 => ?_
  have x₃ : Ext g₂ h₂ g₂ s₃.heap := ⟨fun b o _ e => h6 b o e, h7, fun b o e => h6 b o (sub b o e), fun _ _ => rfl⟩
  have O₃ : Ok (WZ prog w mb X P' D B) g₂ s₃ := by
    have := S2.toOk.ext (tk := s₃.toks) x₃ h5
    rw [h4]; exact this
  have rd := R.dp
  refine call_lamF (mb := mb) hl O₃ ⟨rfl, rfl, rfl⟩ (by omega) (h6 _ _ (sub _ _ hf)) (h6 _ _ (sub _ _ hd)) ⟨_, _, h6 _ _ (sub _ _ hfO), rfl⟩ fun A'' s₄ j1 j2 j3 j4 x₄ => ?_
  have O₄ : Ok (WZ prog w mb X P' D B) g₂ s₄ := by
    have := O₃.ext (tk := s₄.toks) x₄ j4
    rw [j3]; exact this
  have xo := (e₁₂.trans x₃).trans x₄
  refine call_lamO (mb := mb) hO O₄ ⟨rfl, rfl, rfl⟩ (by omega) (T.mono kg fun o e => xo.keep _ _ rfl e) ((xo.same _ zP).trans gP) (Nat.lt_of_lt_of_le zP xo.size) fun b d fi g₅ h₅ tk₅ p₅ x₅ hd₅ hb₅ lt₅ gb gd e1 e2 li T₅ gP₅ => ?_
  have := kk b d fi g₅ h₅ tk₅ p₅ (xo.toX.trans x₅) (Nat.le_trans xo.size hd₅) hb₅ gb gd e1 e2 li T₅ gP₅
  rw [j3, h4]
  exact this
end
end Mine
end
section
open PySem PySem.W PySem.Spec PySem.Calls PyProof.Rows PySem.Builtin PySem.Builtin.Str
set_option Elab.async false
set_option tactic.hygienic false
set_option linter.unusedVariables false
set_option maxRecDepth 100000
set_option maxHeartbeats 4000000
namespace Mine
section
variable {prog : Program} {w : World} {A : Around} {env : Env} {mb : Str → Option Value} {X : List Addr} {ρ : Str → Option Dt} {g g' h h' : Heap} {s : Shared} {P' : Addr} {D : Dat} {B : Bk} {o k : Str}
theorem mgz_len : mgC w.params "len" = none := by kernel_rfl
theorem starE1 {e : Expr} {i : Expr} {p : Pos} : starEach [.Subscript e i p] env = [(false, eval (.Subscript e i p) env)] := rfl
/-- len(floor[k]) -/
theorem ev_lenZ {e : Expr} {n : Nat} {pl pk ps pos : Pos} (PO : ProgOk prog) (R : Room A 10) (xe : Ev prog w (WZ prog w mb X P' D B) A env ρ e (.raw (.ref (B.fl o)))) (ho : o ∈ D.os) (nk : k ∉ D.is o) (hk : env.kindOf "len" = some .globalImplicit) :
    Ev prog w (WZ prog w mb X P' D B) A env ρ (.Call (.Name "len" pl) [.Subscript e (.Constant (.str k) n pk) ps] [] pos) (.int 0) := .mk fun g s S Q E q => by
  refine wpAny_Call_NameR (ev_builtin S hk (mgz_len (w := w)) boot_len ?_)
  rw [starE1]
  refine callWith_builtin rfl (evalArgs_plain (spliced_cons (subZ_fl PO R S xe ho nk fun a g' h' tk p x ha hp ga => spliced_nil ?_)))
  refine PySem.Calls.call_len_list (s := { s with heap := h', toks := tk }) hp.isList (by decide) ?_
  exact q _ h' g' _ x (.int ..)
/-- floor[k].append(e) -/
theorem ev_appZ {e ev : Expr} {n : Nat} {pa pk ps pos : Pos} {d : Dt} (PO : ProgOk prog) (R : Room A 10) (xe : Ev prog w (WZ prog w mb X P' D B) A env ρ e (.raw (.ref (B.fl o)))) (xv : Ev prog w (WZ prog w mb X P' D B) A env ρ ev d) (ho : o ∈ D.os) (nk : k ∉ D.is o)
    (hse : starEach [ev] env = [(false, eval ev env)]) (hline : (pa.endLine == pos.line) = true) :
    Ev prog w (WZ prog w mb X P' D B) A env ρ (.Call (.Attribute (.Subscript e (.Constant (.str k) n pk) ps) "append" pa) [ev] [] pos) .none := .mk fun g s S Q E q => by
  refine wpAny_Call_method rfl (by rw [hse]; rfl) hline PySem.F.plainAttrs_list PySem.F.slot_list_append PySem.F.type_list_append (subZ_fl PO R S xe ho nk fun a g' h' tk p x ha hp ga => ?_)
  obtain ⟨m, hp'⟩ := id hp
  refine ⟨⟨_, hp', rfl⟩, (fun c e => by cases e; exact ⟨_, hp', rfl⟩), ?_⟩
  rw [hse]
  have S1 := S.ext x p
  refine callWith_builtin rfl (evalArgs_plain (spliced_cons ((xv.run g' _ S1).use p fun u h₂ g₂ tk₂ p₂ x₂ r₂ => spliced_nil ?_)))
  refine wpAny_list_append_plain (s := { s with heap := h₂, toks := tk₂ }) (plain_at hp fun _ e => x₂.keep _ _ rfl e) fun h₃ hl₃ hs₃ => ?_
  have lt : a < h'.objs.size := Heap.lt_size hp'
  have ga₂ : g₂.get? a = none := (x₂.same a lt).trans ga
  have x₃ : ExtX [a] g₂ h₂ g₂ h₃ := extX_of_but x₂.sub ga₂ (fun b o hb e => hs₃.extBut b o hb e) (Nat.le_of_eq hs₃.1.symm)
  exact q _ h₃ g₂ tk₂ ((x.trans x₂).transX x₃ fun b hb => by rw [List.mem_singleton.mp hb]; exact ha) .none
/-- a statement that is an expression of no value -/
theorem go_exprN {W : Wo} {g₀ : Heap} {s₀ : Shared} {l : List (Str × Dt)} {ν : List (Str × Value)} {os : List Own} {e : Expr} {pos : Pos} {rest : List Stmt} {Q : Flow → Shared → Prop} {E : Value → Shared → Prop} (x : Ev prog w W A env (lk l) e .none) (kk : Go prog w W A env g₀ s₀ l ν os rest Q E)
    (hi : interactive env = false := by rfl) (hs : swapsWith e none pos.line env = pure false := by rfl) : Go prog w W A env g₀ s₀ l ν os (.Expr e pos :: rest) Q E := .mk fun g s F => by
  refine wpAny_execs_cons (wpAny_Expr ((x.run g s F.se).use F.se.pos fun v h' g' tk p e r => ?_) hi hs)
  first | obtain rfl := r.inv | obtain ⟨_, rfl⟩ := r.inv
  exact kk.run g' _ (F.ext e p)
end
end Mine
end
section
open PySem PySem.W PySem.Spec PySem.Calls PyProof.Rows PySem.Builtin PySem.Builtin.Str
set_option Elab.async false
set_option tactic.hygienic false
set_option linter.unusedVariables false
set_option maxRecDepth 100000
set_option maxHeartbeats 4000000
namespace Mine
section
variable {prog : Program} {w : World} {A : Around} {env : Env} {mb : Str → Option Value} {X : List Addr} {g₀ g g' h h' : Heap} {s s₀ : Shared} {l : List (Str × Dt)} {ν : List (Str × Value)} {os : List Own} {P' : Addr} {D : Dat} {B : Bk} {o k k2 : Str} {rest : List Stmt} {Q : Flow → Shared → Prop} {E : Value → Shared → Prop}
/-- x += len(book[k]) -/
theorem go_lenB {x xb : Str} {n : Nat} {a : Int} {px pl pb pk ps pc pos : Pos} (PO : ProgOk prog) (R : Room A 10) (hb : l.lookup xb = some (.raw (.ref B.b))) (hx : lk l x = some (.int a)) (nk : k ∉ D.os) (hkl : env.kindOf "len" = some .globalImplicit)
    (kk : Go prog w (WZ prog w mb X P' D B) A env g₀ s₀ ((x, .int (a + 0)) :: l) ν (ownT P' posI qualI :: os) rest Q E) (hk : Slotted env x) (hν : ν.lookup x = none) (hc : (x == ("__classdict__" : Str)) = false := by decide +kernel)
    (hd1 : (xb == ("__debug__" : Str)) = false := by decide +kernel) (hd2 : (xb == ("__classdict__" : Str)) = false := by decide +kernel) :
    Go prog w (WZ prog w mb X P' D B) A env g₀ s₀ l ν (ownT P' posI qualI :: os) (.AugAssign (.Name x px) .Add (.Call (.Name "len" pl) [.Subscript (.Name xb pb) (.Constant (.str k) n pk) ps] [] pc) pos :: rest) Q E := .mk fun g s F => by
  obtain ⟨u, hu, ru⟩ := F.se.vars x _ hx
  obtain ⟨T, f⟩ := F.ow _ (.head _)
  obtain ⟨-, zP, -, gP, -⟩ := f P' (.head _)
  refine wpAny_execs_cons (wpAny_AugAssign_Name (load_holds F.se.fn hu hc (wpAny_Call_NameR (ev_builtin F.se hkl (mgz_len (w := w)) boot_len ?_))))
  rw [starE1]
  refine callWith_builtin rfl (evalArgs_plain (spliced_cons (subZ_bk PO R F.se (ev_name hb hd1 hd2) nk T gP zP fun b d fi g₂ h₂ tk₂ p₂ x₂ hd hbd gb gd ed eb li T₂ gP₂ => spliced_nil ?_)))
  have F₂ := F.mut (o' := ownT P' posI qualI) x₂ p₂ T₂ fun a ha => .inl ⟨ha, by rw [List.mem_singleton.mp ha]; exact gP₂⟩
  have Xk : (Mine.hd.heap_1 w.params).In s.heap := F.se.wd.k.keeps F.se.sub
  have bB : 120 < b := big_new Xk (by rw [hbd]; exact Nat.le_succ_of_le hd)
  first | obtain rfl := ru.inv | obtain ⟨_, rfl⟩ := ru.inv
  refine call_len0 (s := { s with heap := h₂, toks := tk₂ }) (F₂.se.wd.k.keeps F₂.se.sub) eb (big_ne bB).1 fun t tk₃ hle => iadd_int ?_
  exact (F₂.ext (Ext.refl F₂.se.sub) (Nat.succ_pos _)).store hk (.int ..) hν fun h₃ tk₄ F₃ => kk.run g₂ _ F₃
/-- book[k][k2].append(e) -/
theorem go_appB {xb : Str} {n n2 : Nat} {ev : Expr} {dv : Dt} {pb pk pk2 ps ps2 pa pc pos : Pos} (PO : ProgOk prog) (R : Room A 10) (hb : l.lookup xb = some (.raw (.ref B.b))) (xv : Ev prog w (WZ prog w mb X P' D B) A env (lk l) ev dv) (nk : k ∉ D.os)
    (kk : Go prog w (WZ prog w mb X P' D B) A env g₀ s₀ l ν (ownT P' posI qualI :: os) rest Q E)
    (hse : starEach [ev] env = [(false, eval ev env)]) (hline : (pa.endLine == pc.line) = true) (hi : interactive env = false)
    (hs : swapsWith (.Call (.Attribute (.Subscript (.Subscript (.Name xb pb) (.Constant (.str k) n pk) ps) (.Constant (.str k2) n2 pk2) ps2) "append" pa) [ev] [] pc) none pos.line env = pure false)
    (hd1 : (xb == ("__debug__" : Str)) = false := by decide +kernel) (hd2 : (xb == ("__classdict__" : Str)) = false := by decide +kernel) :
    Go prog w (WZ prog w mb X P' D B) A env g₀ s₀ l ν (ownT P' posI qualI :: os) (.Expr (.Call (.Attribute (.Subscript (.Subscript (.Name xb pb) (.Constant (.str k) n pk) ps) (.Constant (.str k2) n2 pk2) ps2) "append" pa) [ev] [] pc) pos :: rest) Q E := .mk fun g s F => by
  obtain ⟨T, f⟩ := F.ow _ (.head _)
  obtain ⟨-, zP, -, gP, -⟩ := f P' (.head _)
  refine wpAny_execs_cons (wpAny_Expr (wpAny_Call_method rfl (by rw [hse]; rfl) hline PySem.F.plainAttrs_list PySem.F.slot_list_append PySem.F.type_list_append ?_) hi hs)
  refine Subscript_ (subZ_bk PO R F.se (ev_name hb hd1 hd2) nk T gP zP fun b d fi g₂ h₂ tk₂ p₂ x₂ hd hbd gb gd ed eb li T₂ gP₂ => ?_)
  have F₂ := F.mut (o' := ownT P' posI qualI) x₂ p₂ T₂ fun a ha => .inl ⟨ha, by rw [List.mem_singleton.mp ha]; exact gP₂⟩
  have Xk : (Mine.hd.heap_1 w.params).In s.heap := F.se.wd.k.keeps F.se.sub
  have nwb : s.heap.objs.size ≤ b := by rw [hbd]; exact Nat.le_succ_of_le hd
  have bB := big_ne (big_new Xk nwb)
  have ltb : b < h₂.objs.size := Heap.lt_size eb
  refine ((ev_str (x := k2)).run g₂ _ F₂.se).use p₂ fun v₃ h₃ g₃ tk₃ p₃ e₃ r₃ => ?_
  first | obtain rfl := r₃.inv | obtain ⟨_, rfl⟩ := r₃.inv
  have F₃ := F₂.ext e₃ p₃
  have kg₃ := Ext.grow F₂.se.sub e₃
  have li₃ := li.mono kg₃
  obtain ⟨pmI, cI, tI, hfI, -⟩ := id li₃
  have eb₃ := e₃.keep _ _ rfl eb
  have ed₃ := e₃.keep _ _ rfl ed
  have gb₃ : g₃.get? b = none := (e₃.same _ ltb).trans gb
  refine sub_touch (mb := mb) (kvs := []) (s := { s with heap := h₃, toks := tk₃ }) PO R.hd R.dp F₃.se.toOk ⟨rfl, rfl, rfl⟩ eb₃ ed₃ ⟨fun e h => absurd h (by simp), .nil, .nil⟩ bB.1 bB.2 (Nat.zero_le _) ⟨_, _, e₃.sub _ _ hfI, rfl⟩ (fun v hv => by cases hv) fun hn A' s₄ j1 j2 j3 j4 j5 j6 j7 => ?_
  have x₄ : Ext g₃ h₃ g₃ s₄.heap := ⟨fun b o _ e => j6 b o e, j7, fun b o e => j6 b o (e₃.sub b o e), fun _ _ => rfl⟩
  have O₄ : Ok (WZ prog w mb X P' D B) g₃ s₄ := by
    have := F₃.se.toOk.ext (tk := s₄.toks) x₄ j5
    rw [j4]; exact this
  have rd := R.dp
  refine call_lamI li₃ O₄ (by omega) fun h₅ tk₅ p₅ x₅ k₅ a ha hlt hp ga => ?_
  dsimp only
  have eb₅ := k₅ _ _ (j6 _ _ eb₃)
  refine ⟨(O₄.ext x₅ p₅).wd.k.keeps x₅.sub, eb₅, fun h₆ ep' sb hb₆ => ?_⟩
  have x₃₅ := x₄.trans x₅
  have lt₃ : b < h₃.objs.size := Heap.lt_size eb₃
  have x₆ : ExtX [b] g₃ h₅ g₃ h₆ := extX_of_but x₅.sub gb₃ (fun c oc hc e => (sb.2 c hc).trans e) (Nat.le_of_eq sb.1.symm)
  have nab : a ≠ b := fun e => absurd lt₃ (Nat.not_lt.mpr (Nat.le_trans j7 (e ▸ ha)))
  have hp₆ : h₆.PlainList a #[] := plain_at hp fun _ e => (sb.2 a nab).trans e
  obtain ⟨m, hp₆'⟩ := id hp₆
  refine ⟨⟨_, hp₆', rfl⟩, (fun c e => by cases e; exact ⟨_, hp₆', rfl⟩), ?_⟩
  rw [hse]
  have nwa : s.heap.objs.size ≤ a := Nat.le_trans (Nat.le_trans (Nat.le_trans x₂.size e₃.size) j7) ha
  have y : ExtX [P'] g s.heap g₃ h₆ := ((x₂.trans e₃.toX).trans x₃₅.toX).transX x₆ fun c hc => by rw [List.mem_singleton.mp hc]; exact .inl nwb
  have gP₃ : g₃.get? P' = none := (y.same _ zP).trans gP
  have nPb : P' ≠ b := fun e => absurd zP (Nat.not_lt.mpr (e ▸ nwb))
  have nPa : P' ≠ a := fun e => absurd zP (Nat.not_lt.mpr (e ▸ nwa))
  have T₆ : TabOk g₃ h₆ P' posI qualI := (T₂.mono kg₃ fun o e => x₃₅.keep _ _ rfl (e₃.keep _ _ rfl e)).mono (Kp.refl _) fun o e => (sb.2 P' nPb).trans e
  have F₆ := F.mut (tk := tk₅ + 1) (o' := ownT P' posI qualI) y (Nat.succ_pos _) T₆ fun c hc => .inl ⟨hc, by rw [List.mem_singleton.mp hc]; exact gP₃⟩
  have es : ({ s₄ with heap := h₆, toks := tk₅ + 1 } : Shared) = { s with heap := h₆, toks := tk₅ + 1 } := by rw [j4]
  rw [show ({ heap := h₆, gens := s₄.gens, drawn := s₄.drawn, toks := tk₅ + 1, os := s₄.os } : Shared) = { s with heap := h₆, toks := tk₅ + 1 } from es]
  refine callWith_builtin rfl (evalArgs_plain (spliced_cons ((xv.run g₃ _ F₆.se).use F₆.se.pos fun u h₇ g₇ tk₇ p₇ e₇ r₇ => spliced_nil ?_)))
  have hp₇ := plain_at hp₆ fun _ e => e₇.keep _ _ rfl e
  refine wpAny_list_append_plain (s := { s with heap := h₇, toks := tk₇ }) hp₇ fun h₈ hl₈ hs₈ => ?_
  have lta : a < h₆.objs.size := Heap.lt_size hp₆'
  have ga₇ : g₇.get? a = none := (e₇.same a lta).trans ga
  have x₈ : ExtX [a] g₇ h₇ g₇ h₈ := extX_of_but e₇.sub ga₇ (fun c oc hc e => hs₈.extBut c oc hc e) (Nat.le_of_eq hs₈.1.symm)
  have y₈ : ExtX [P'] g s.heap g₇ h₈ := (y.trans e₇.toX).transX x₈ fun c hc => by rw [List.mem_singleton.mp hc]; exact .inl nwa
  have T₈ : TabOk g₇ h₈ P' posI qualI := (T₆.mono (Ext.grow y.sub e₇) fun o e => e₇.keep _ _ rfl e).mono (Kp.refl _) fun o e => hs₈.extBut _ _ nPa e
  exact kk.run g₇ _ (F.mut (tk := tk₇) (o' := ownT P' posI qualI) y₈ p₇ T₈ fun c hc => .inl ⟨hc, by rw [List.mem_singleton.mp hc]; exact (y₈.same _ zP).trans gP⟩)
end
end Mine
end
section
open PySem PySem.W PySem.Spec PySem.Calls PyProof.Rows PySem.Builtin PySem.Builtin.Str
set_option Elab.async false
set_option tactic.hygienic false
set_option linter.unusedVariables false
set_option maxRecDepth 100000
set_option maxHeartbeats 4000000
namespace Mine
section
variable {prog : Program} {w : World} {A : Around} {env : Env} {mb : Str → Option Value} {X : List Addr} {ρ : Str → Option Dt} {g : Heap} {s : Shared} {P' : Addr} {D : Dat} {B : Bk} {o : Str}
theorem src_valsZ {e : Expr} {x : Str} {px pa pc : Pos} (hh : A.handled = none) (xb : Ev prog w (WZ prog w mb X P' D B) A env ρ e (.raw (.ref B.b))) (hbase : attributeBase e "values" env (eval e env) = eval e env) (hline : (pa.endLine == pc.line) = true) :
    Src prog w (WZ prog w mb X P' D B) A env ρ (.Call (.Attribute e "values" pa) [] [] pc) (.Name x px) (D.os.map fun o => .raw (.ref (B.fl o))) := fun g s Q E S k => by
  have Z := S.wd.iv
  obtain ⟨es, ep, V⟩ := Z.viewB
  obtain ⟨y, tk, lam, m, hd, -⟩ := Z.zb
  refine at_values (x := x) (px := px) hh S ⟨rfl, rfl, rfl⟩ xb V (S.sub _ _ hd) (sh_values y tk (.ref lam) m) Z.bb hbase hline fun I fp wr St h' g' tk' p x it st hw => k I fp wr St h' g' tk' p x ?_ st hw
  rw [List.map_map] at it
  exact it
theorem src_itemsZ {e : Expr} {elts : List Expr} {n : Nat} {px pa pc : Pos} (hh : A.handled = none) (xb : Ev prog w (WZ prog w mb X P' D B) A env ρ e (.raw (.ref B.b))) (hbase : attributeBase e "items" env (eval e env) = eval e env) (hline : (pa.endLine == pc.line) = true) :
    Src prog w (WZ prog w mb X P' D B) A env ρ (.Call (.Attribute e "items" pa) [] [] pc) (.Tuple elts n px) (D.os.map fun o => .tup [.str o, .raw (.ref (B.fl o))]) := fun g s Q E S k => by
  have Z := S.wd.iv
  obtain ⟨es, ep, V⟩ := Z.viewB
  obtain ⟨y, tk, lam, m, hd, -⟩ := Z.zb
  refine at_items (elts := elts) (n := n) (px := px) hh S ⟨rfl, rfl, rfl⟩ xb V (S.sub _ _ hd) (sh_items y tk (.ref lam) m) Z.bb hbase hline fun I fp wr St h' g' tk' p x it st hw => k I fp wr St h' g' tk' p x ?_ st hw
  rw [List.map_map] at it
  exact it
theorem src_itemsF {e : Expr} {elts : List Expr} {n : Nat} {px pa pc : Pos} (hh : A.handled = none) (ho : o ∈ D.os) (xb : Ev prog w (WZ prog w mb X P' D B) A env ρ e (.raw (.ref (B.fl o)))) (hbase : attributeBase e "items" env (eval e env) = eval e env) (hline : (pa.endLine == pc.line) = true) :
    Src prog w (WZ prog w mb X P' D B) A env ρ (.Call (.Attribute e "items" pa) [] [] pc) (.Tuple elts n px) ((D.is o).map fun i => .tup [.str i, .lst ((D.vs o i).map .str)]) := fun g s Q E S k => by
  have Z := S.wd.iv
  obtain ⟨es, ep, V⟩ := Z.viewF ho
  obtain ⟨y, tk, lam, m, hd, -⟩ := Z.zf o ho
  refine at_items (elts := elts) (n := n) (px := px) hh S ⟨rfl, rfl, rfl⟩ xb V (S.sub _ _ hd) (sh_items y tk (.ref lam) m) (Z.bl o ho) hbase hline fun I fp wr St h' g' tk' p x it st hw => k I fp wr St h' g' tk' p x ?_ st hw
  rw [List.map_map] at it
  exact it
set_option tactic.hygienic true in
/-- _law_left(book) -/
theorem call_left {Q : Value → Shared → Prop} {E : Value → Shared → Prop} (PO : ProgOk prog) (R : Room A 12) (O : Ok (WZ prog w mb X P' D B) g s) (nz : ("y" : Str) ∉ D.os) (ny : ∀ o ∈ D.os, ("y" : Str) ∉ D.is o) (T : TabOk g s.heap P' posI qualI) (gP : g.get? P' = none) (zP : P' < s.heap.objs.size)
    (k : ∀ t g' h' tk, 0 < tk → ExtX [P'] g s.heap g' h' → TabOk g' h' P' posI qualI → g'.get? P' = none → Q (.int 0 t) { s with heap := h', toks := tk }) : wpAny (model prog w) A (call (.ref 259) [.ref B.b]) Q E s := by
  refine wpAny_call (enter (W := WZ prog w mb [P'] P' D B) (ps := ["book"]) ((d259 (w := w) (mb := mb)).toX (X := [])) rfl (Nat.lt_of_le_of_lt (Nat.le_add_right _ _) R.dp) (Ok.to (W := WZ prog w mb X P' D B) (V := WZ prog w mb [P'] P' D B) ⟨rfl, rfl, rfl⟩ O O.wd.iv) (.cons (.raw (.ref B.b)) .nil) [ownT P' posI qualI] (fun o ho => ?_) (List.pairwise_singleton _ _) fun L => ?_)
  · rw [List.mem_singleton.mp ho]
    exact ⟨T, fun b hb => by rw [List.mem_singleton.mp hb]; exact ⟨.head _, .head _, zP, gP⟩⟩
  have hh : (A.deeper (callEnvC (f259 w.params).1 L 259)).handled = none := R.hd
  have R10 : Room (A.deeper (callEnvC (f259 w.params).1 L 259)) 10 := by
    refine ⟨hh, ?_, ?_⟩
    · have := R.dp; show A.depth + 1 + 10 < _; omega
    · have := R.un; show A.units + 3 + 64 * 10 + 128 < _; omega
  refine go_assign (d := .int 0) ev_int ?_
  refine go_for (ds := (List.range 2).map fun (i : Nat) => .int i) (fun _ => [("left", .int 0), ("book", .raw (.ref B.b))]) (fun _ => [ownT P' posI qualI]) hh (src_range hh (n := 2) ev_int rfl (mg_range w.params) (by decide)) ⟨rfl, rfl, trivial⟩ rfl (fun i d it hd => ?_) ?_
  · refine ⟨[("step", d)], .name, fun y hy => ?_, by simp, fun y hy => rfl, fun E' => ?_⟩
    · rw [List.mem_singleton.mp hy]; rfl
    refine go_for (ds := D.os.map fun o => .raw (.ref (B.fl o))) (fun _ => [("left", .int 0), ("book", .raw (.ref B.b))]) (fun _ => [ownT P' posI qualI] ++ [it]) hh (src_valsZ hh (ev_name rfl) rfl rfl) ⟨rfl, rfl, trivial⟩ rfl (fun j d2 it2 hd2 => ?_) ?_
    · rw [List.getElem?_map] at hd2
      obtain ⟨o, ho, rfl⟩ := Option.map_eq_some_iff.mp hd2
      have mo := List.mem_of_getElem? ho
      refine ⟨[("floor", .raw (.ref (B.fl o)))], .name, fun y hy => ?_, by simp, fun y hy => rfl, fun E'' => ?_⟩
      · rw [List.mem_singleton.mp hy]; rfl
      refine go_augI (a := 0) (b := 0) rfl (ev_lenZ PO R10 (ev_name rfl) mo (ny o mo) rfl) ?_
      refine go_exprN (ev_appZ PO R10 (ev_name rfl) ev_str mo (ny o mo) rfl rfl) ?_
      refine go_nil fun g₁ s₁ F₁ => turn_next g₁ s₁ (F₁.weaken ⟨rfl, rfl, trivial⟩ fun _ _ q => q)
    · refine go_lenB (a := 0) PO R10 rfl rfl nz rfl ?_ (slotted_of rfl) rfl
      refine go_appB PO R10 rfl ev_str nz ?_ rfl rfl rfl rfl
      refine go_nil fun g₁ s₁ F₁ => turn_next g₁ s₁ (F₁.weaken ⟨rfl, rfl, trivial⟩ fun _ _ q => q)
  · refine .mk fun g₁ s₁ F₁ => wpAny_execs_cons (wpAny_Return_some (((ev_name (d := .int 0) rfl).run g₁ s₁ F₁.se).use F₁.se.pos fun v h₂ g₂ tk₂ p₂ e₂ r₂ => ?_))
    first | obtain rfl := r₂.inv | obtain ⟨_, rfl⟩ := r₂.inv
    rename_i t
    have F₂ := F₁.ext e₂ p₂
    obtain ⟨T₂, f₂⟩ := F₂.ow _ (.head _)
    have := k t g₂ h₂ tk₂ p₂ F₂.bs T₂ (f₂ P' (.head _)).2.2.2.1
    rw [F₂.sh]
    exact this
end
end Mine
end
section
open PySem PySem.W PySem.Spec PySem.Calls PyProof.Rows PySem.Builtin PySem.Builtin.Str
set_option Elab.async false
set_option tactic.hygienic false
set_option linter.unusedVariables false
set_option maxRecDepth 100000
set_option maxHeartbeats 4000000
namespace Mine
section
variable {prog : Program} {w : World} {W : Wo} {A : Around} {env : Env} {g g₀ h g' h' g'' h'' : Heap} {s s₀ : Shared} {l l' : List (Str × Dt)} {ν ν' : List (Str × Value)} {os : List Own} {Q : Flow → Shared → Prop} {E : Value → Shared → Prop} {rest : List Stmt}
set_option tactic.hygienic true in
/-- x = [comprehension], x a plain local: the list is stored before the comprehension's frame is let go -/
theorem go_assignComp {x : Str} {px spos : Pos} {elt target iter : Expr} {more : List Comprehension} {scope : Scope} {pos : Pos} {cl : List (Str × Addr)} (ns : List Str) {ds out : List Dt} (src : Src prog w W A env (lk l) iter target ds)
    (hclos : closureFor scope env = pure cl) (hcl : ∀ p ∈ cl, p ∈ env.cells) (hco : ClOk env scope cl ns)
    (L : LoopSpec prog w W A env (clρ ns (lk l)) (.ListComp elt (⟨target, iter, [], 0⟩ :: more) scope pos) target scope cl ds out)
    (kk : Go prog w W A env g₀ s₀ ((x, .lst out) :: l) ν os rest Q E) (hk : Slotted env x := by exact slotted_of rfl) (hν : ν.lookup x = none := by rfl)
    (hsw : swapsWith (.ListComp elt (⟨target, iter, [], 0⟩ :: more) scope pos) (some (.Name x px)) spos.line env = pure true := by rfl)
    (hkind : scope.kind = .function := by rfl) (hcell : ∀ y ∈ scope.names, y.2 ≠ .cell := by decide)
    (hnames : ∀ x ∈ scope.names, x.2 = .local → scope.names.lookup x.1 = some .local := by decide) (hs : ∀ x, foldedSetIterable iter env x = pure x := by intro _; rfl) :
    Go prog w W A env g₀ s₀ l ν os (.Assign [.Name x px] (.ListComp elt (⟨target, iter, [], 0⟩ :: more) scope pos) spos :: rest) Q E := .mk fun g s F => by
  refine wpAny_execs_cons ?_
  rw [exec_Assign_Name_used _ _ _ _ hsw]
  refine wpAny_bind (wpAny_standAt (wpAny_bind ?_))
  rw [arm_evalThenUse_ListComp]
  refine wpAny_bind (wpAny_mono (Q := fun _ s' => wpAny (model prog w) A (execs rest env) Q E s') (wpAny_comprehension_free (use := some (assign (.Name x px) env)) rfl hs hclos hkind hnames ?_) (fun _ s' hq => wpAny_pure (wpAny_pure hq)) fun _ _ e => e)
  have S := F.se
  refine src g s _ E S fun I fp wr St h₁ g₁ tk₁ p₁ e₁ it st hw => ?_
  refine comp_core L hcl hco hkind hcell it (S.ext e₁ p₁) (fun p hp => (S.cv p hp).1) st hw fun D C g₂ h₂ tk₂ p₂ e₂ hD hC tD tC nDC ns₂ oD oC acc zD => ?_
  obtain ⟨m, hm⟩ := ns₂
  obtain ⟨ys, ⟨n, hy⟩, hr⟩ := acc
  have x₂ : Ext g s.heap g₂ h₂ := e₁.transX e₂ fun a ha => (it.new a ha).1
  have nwD := Nat.le_trans e₁.size hD
  have nwC := Nat.le_trans e₁.size hC
  have x₃ := ext_claim x₂.sub hy nwD x₂
  have F₂ := F.ext x₃ p₂
  have oC' : (gput g₂ D { cls := .type "list", data := .seq ys n }).get? C = none := by rw [gput_other _ _ (Ne.symm nDC)]; exact oC
  have rd : Rd prog w (gput g₂ D { cls := .type "list", data := .seq ys n }) (.ref D) (.lst out) := .lst (gput_self _ _ _ rfl) (hr.mono (kp_gput oD))
  have ltL : env.locals < s.heap.objs.size := S.lv.1
  have nCL : C ≠ env.locals := fun q => absurd ltL (Nat.not_lt.mpr (q ▸ nwC))
  have nCc : ∀ p ∈ env.cells, p.2 ≠ C := fun p hp q => absurd (S.cv p hp).1 (Nat.not_lt.mpr (q ▸ nwC))
  refine wpAny_assign_Name (F₂.storeAny hk fun b h₃ tk₃ p₃ e₃ hb n' c' hx hy => ?_)
  have F₃ := F₂.put (l' := (x, .lst out) :: l) (ν' := ν) e₃ hb p₃ n' c' (fun y d' q => by
    simp only [List.lookup_cons] at q
    split at q
    · rename_i q'; cases q; rw [eq_of_beq q']; exact ⟨_, hx, rd⟩
    · rename_i q'
      obtain ⟨u, hu, ru⟩ := F₂.se.vars y d' q
      exact ⟨u, hy y u q' hu, ru⟩) fun y u q => hy y u (by
        cases q' : y == x with
        | false => rfl
        | true => rw [eq_of_beq q', hν] at q; cases q) (F₂.raw y u q)
  have nCb : C ≠ b := fun q => by
    rcases hb with rfl | ⟨p, hp, rfl⟩
    · exact nCL q
    · exact nCc p hp q.symm
  obtain ⟨oc, es, ep, ho, r⟩ := hm
  have hm₃ : h₃.Ns C m := ⟨oc, es, ep, e₃.keep _ _ rfl (fun q => nCb (List.mem_singleton.mp q)) ho, r⟩
  refine ⟨m, hm₃, fun h₄ hs₄ => ?_⟩
  have x₄ : ExtX [C] (gput g₂ D { cls := .type "list", data := .seq ys n }) h₃ (gput g₂ D { cls := .type "list", data := .seq ys n }) h₄ := extX_of_but F₃.se.sub oC' (fun b o hb e => hs₄.extBut b o hb e) (Nat.le_of_eq hs₄.1.symm)
  refine kk.run _ _ (F₃.extX x₄ p₃ fun a ha => ?_)
  rw [List.mem_singleton.mp ha]
  exact ⟨.inl (Nat.le_trans F.bs.size nwC), nCL, nCc, fun o ho q => absurd ((F.ow o ho).2 _ q).2.1 (Nat.not_lt.mpr nwC)⟩
end
end Mine
end
section
open PySem PySem.W PySem.Spec PySem.Calls PyProof.Rows PySem.Builtin PySem.Builtin.Str
set_option Elab.async false
set_option tactic.hygienic false
set_option linter.unusedVariables false
set_option maxRecDepth 100000
set_option maxHeartbeats 4000000
namespace Mine
noncomputable def floorPairs (D : Dat) (o : Str) : List (Str × Str) := ((D.is o).map fun i => (D.vs o i).map fun v => (i, v)).flatten
noncomputable def writtenRows (D : Dat) (how : Nat) : List (Str × Str) := D.os.map fun o => (o, header (floorPairs D o) how)
/-- the sizes at which a book is written -/
structure Fits (D : Dat) (how : Nat) : Prop where
  os : D.os.length ≤ 10
  fl : ∀ o ∈ D.os, (floorPairs D o).length ≤ 10
  ps : ∀ o ∈ D.os, ∀ p ∈ floorPairs D o, p.1.length ≤ 10 ∧ p.2.length ≤ 1000
  ws : ∀ p ∈ writtenRows D how, p.1.length ≤ 10 ∧ p.2.length ≤ 1000
theorem Fn.toV {prog : Program} {w : World} {W V : Wo} {n : Nat} {a : Addr} {ds : List Dt} {d : Dt} (h : Fn prog w V n a ds d) (q : SameW W V) (i : ∀ g, W.inv g → V.inv g) : Fn prog w W n a ds d := fun A g s vs R O rs => h A g s vs R (O.to q (i g O.wd.iv)) rs
section
variable {prog : Program} {w : World} {mb : Str → Option Value} {P' : Addr} {D : Dat} {B : Bk}
theorem mg_header : mgC w.params "_law_header" = some (.ref 230) := by kernel_rfl
theorem floor_dt (D : Dat) (o : Str) : prsDt (floorPairs D o) = .lst ((D.is o).map fun i => (D.vs o i).map fun v => Dt.tup [.str i, .str v]).flatten := by
  unfold prsDt floorPairs
  rw [List.map_flatten, List.map_map]
  congr 2
  refine List.map_congr_left fun i _ => ?_
  simp [Function.comp_def]
/-- _law_written(book, how) -/
theorem fn_written {how : Nat} (hf : Fits D how) : Fn prog w (WZ prog w mb [] P' D B) 3 252 [.raw (.ref B.b), .int how] (.str (header (writtenRows D how) (how + 1))) := by
  have hsz : sizeLine = 16777216 := rfl
  refine fn_of ((d252 (w := w) (mb := mb)).toX (X := [])) rfl fun A L g s₀ Q E R O q => ?_
  obtain ⟨o₁, ho₁, hd₁⟩ := (d230 (w := w) (mb := mb)).at'
  refine go_assignL fun Dr => ?_
  refine go_for (ds := D.os.map fun o => .tup [.str o, .raw (.ref (B.fl o))]) (fun i => [("book", .raw (.ref B.b)), ("how", .int how)]) (fun i => [ownL prog w Dr ((writtenRows D how).take i |>.map fun p => .tup [.str p.1, .str p.2])]) R.hd (src_itemsZ R.hd (ev_name rfl) rfl rfl) ⟨rfl, rfl, trivial⟩ rfl (fun i d it hd => ?_) ?_
  · rw [List.getElem?_map] at hd
    obtain ⟨o, ho, rfl⟩ := Option.map_eq_some_iff.mp hd
    have mo := List.mem_of_getElem? ho
    refine ⟨[("outer", .str o), ("floor", .raw (.ref (B.fl o)))], .tup (.cons (.cons .nil)), fun y hy => ?_, (by show List.Nodup [("outer" : Str), "floor"]; decide +kernel), fun y hy => ?_, fun E' => ?_⟩
    · exact mm2 hy rfl rfl
    · exact mm2 hy rfl rfl
    have hlen : (((D.is o).map fun i => (D.vs o i).map fun v => Dt.tup [.str i, .str v]).flatten).length ≤ sizeLine := by
      have e := floor_dt D o
      unfold prsDt at e
      injection e with e
      rw [← e, List.length_map]
      have := hf.fl o mo
      omega
    refine go_assignComp [] (out := ((D.is o).map fun i => (D.vs o i).map fun v => Dt.tup [.str i, .str v]).flatten) (ds := (D.is o).map fun i => .tup [.str i, .lst ((D.vs o i).map .str)]) (src_itemsF R.hd mo (ev_name rfl) rfl rfl) (cl := _) rfl (fun _ h => nomatch h) clok_nil (spec2 R.hd (by simp) hlen (fun _ _ => rfl) fun C j d os hd hos => ?_) ?_
    · rw [List.getElem?_map] at hd hos
      obtain ⟨n, hn, rfl⟩ := Option.map_eq_some_iff.mp hd
      rw [hn] at hos
      cases hos
      refine ⟨[("inner", .str n), ("values", .lst ((D.vs o n).map .str))], (D.vs o n).map .str, .tup (.cons (.cons .nil)), fun y hy => ?_, (by show List.Nodup [("inner" : Str), "values"]; decide +kernel), fun _ _ h => (nomatch h), src_list R.hd (ev_name rfl), by simp, fun m d' r hd' hr => ?_⟩
      · exact mm2 hy rfl rfl
      · rw [List.getElem?_map] at hd' hr
        obtain ⟨v, hv, rfl⟩ := Option.map_eq_some_iff.mp hd'
        rw [hv] at hr
        cases hr
        refine ⟨[("value", .str v)], .name, fun y hy => ?_, by simp, fun y e hy => ?_, ?_⟩
        · rw [List.mem_singleton.mp hy]; rfl
        · have hm : y ∈ [("inner" : Str), "values"] := by
            cases hb : List.lookup y [(("inner" : Str), Dt.str n), ("values", .lst ((D.vs o n).map .str))] with
            | some d => exact mem_of_lookup_d hb
            | none => rw [ovl_none hb] at hy; cases hy
          simp only [List.mem_cons, List.not_mem_nil, or_false] at hm
          rcases hm with rfl | rfl <;> rfl
        · exact ev_tuple (evl_cons (ev_name rfl) (evl_cons (ev_name rfl) evl_nil))
    · rw [← floor_dt]
      refine go_append (r := .tup [.str o, .str (header (floorPairs D o) how)]) (ev_tuple (evl_cons (ev_name rfl) (evl_cons (ev_call (evl_cons (ev_name rfl) (evl_cons (ev_name rfl) evl_nil)) rfl (mg_header (w := w)) ho₁ hd₁ ((fn_header (hf.ps o mo) (hf.fl o mo)).toX (mb := mb) (X := []) ⟨rfl, rfl, rfl⟩) ⟨R.hd, ?_, ?_⟩) evl_nil))) rfl ?_ ?_
      · have := R.dp; omega
      · have := R.un; omega
      · rw [List.length_map, List.length_take]
        have := hf.os
        unfold writtenRows
        rw [List.length_map]
        omega
      · refine go_nil fun g₁ s₁ F₁ => turn_next g₁ s₁ ?_
        have e : (writtenRows D how).take (i + 1) = (writtenRows D how).take i ++ [(o, header (floorPairs D o) how)] := by
          rw [List.take_add_one]
          unfold writtenRows
          rw [List.getElem?_map, ho]
          rfl
        rw [e, List.map_append]
        exact F₁.weaken ⟨rfl, rfl, trivial⟩ fun _ _ q => q
  · have e : (writtenRows D how).take (D.os.map fun o => Dt.tup [.str o, .raw (.ref (B.fl o))]).length = writtenRows D how := by
      rw [List.length_map]
      have : (writtenRows D how).length = D.os.length := by unfold writtenRows; rw [List.length_map]
      rw [← this, List.take_length]
    rw [e]
    refine go_seal ?_
    refine go_return (d := .str (header (writtenRows D how) (how + 1))) (ev_call (ds := [prsDt (writtenRows D how), .int ((how + 1 : Nat) : Int)]) (evl_cons (ev_name rfl) (evl_cons (ev_bin (ev_name rfl) ev_int bin_addI) evl_nil)) rfl (mg_header (w := w)) ho₁ hd₁ ((fn_header hf.ws (by unfold writtenRows; rw [List.length_map]; exact hf.os)).toX (mb := mb) (X := []) ⟨rfl, rfl, rfl⟩) ⟨R.hd, ?_, ?_⟩) q
    · have := R.dp; omega
    · have := R.un; omega
end
end Mine
end
section
open PySem PySem.W PySem.Spec PySem.Calls PyProof.Rows PySem.Builtin PySem.Builtin.Str
set_option Elab.async false
set_option tactic.hygienic false
set_option linter.unusedVariables false
set_option maxRecDepth 100000
set_option maxHeartbeats 4000000
namespace Mine
noncomputable def bookTrips (D : Dat) : List Trip := (D.os.map fun o => (floorPairs D o).map fun p => (⟨o, p.1, p.2⟩ : Trip)).flatten
/-- what a turn asks of its rows -/
structure TurnOk (ts : List Trip) (how : Nat) (D : Dat) : Prop where
  eD : D = (datOf ts).addO "z"
  h6 : ts.length ≤ 6
  ok : ∀ t ∈ ts, TripOk t
  nz : ("z" : Str) ∉ (datOf ts).os
  ny : ("y" : Str) ∉ D.os
  nyi : ∀ o ∈ D.os, ("y" : Str) ∉ D.is o
  fit : Fits D how
  t1 : ∃ rows, Told (header (writtenRows D how) (how + 1)) rows ∧ pairsOf rows = writtenRows D how
  t2 : ∃ f : Str → List Itm, ∀ o ∈ D.os, Told (header (floorPairs D o) how) (f o) ∧ pairsOf (f o) = floorPairs D o
  so : ∀ o ∈ D.os, PyData.strOk o = true
theorem TurnOk.os {ts : List Trip} {how : Nat} {D : Dat} (T : TurnOk ts how D) : D.os = (datOf ts).os ++ [("z" : Str)] := by
  rw [T.eD]; unfold Dat.addO; rw [if_neg T.nz]
theorem TurnOk.len {ts : List Trip} {how : Nat} {D : Dat} (T : TurnOk ts how D) : D.os.length = (datOf ts).os.length + 1 ∧ (datOf ts).os.length ≤ 6 := by
  refine ⟨by rw [T.os, List.length_append]; rfl, Nat.le_trans (dat_small ts).1 T.h6⟩
theorem Room.le {A : Around} {n m : Nat} (R : Room A n) (h : m ≤ n) : Room A m := ⟨R.hd, by have := R.dp; omega, by have := R.un; omega⟩
theorem pys_map (ds : List Dt) : Dt.pys ds = ds.map Dt.py := by
  induction ds with
  | nil => rfl
  | cons d ds ih => exact congrArg (List.cons d.py) ih
theorem ok_lst {ds : List Dt} (h : ∀ d ∈ ds, d.ok = true) : (Dt.lst ds).ok = true := oks_of h
theorem lay_all : ∀ {ds : List Dt}, (∀ d ∈ ds, SeqAt.shaped d.py = true) → PyData.canLayAll0 (Dt.pys ds) = true
  | [], _ => rfl
  | d :: ds, h => by
    have := SeqAt.canLay_of_shaped (h d (.head _))
    show (d.py.canLay0 && PyData.canLayAll0 (Dt.pys ds)) = true
    rw [this, lay_all fun x hx => h x (.tail _ hx)]; rfl
theorem dep_all {k : Nat} : ∀ {ds : List Dt}, (∀ d ∈ ds, d.py.depth ≤ k) → PyData.depthAll (Dt.pys ds) ≤ k
  | [], _ => Nat.zero_le _
  | d :: ds, h => by
    show max d.py.depth (PyData.depthAll (Dt.pys ds)) ≤ k
    exact Nat.max_le.mpr ⟨h d (.head _), dep_all fun x hx => h x (.tail _ hx)⟩
theorem shaped_lst {ds : List Dt} {k : Nat} (h : ∀ d ∈ ds, SeqAt.shaped d.py = true ∧ d.py.depth ≤ k) (hk : k ≤ 60) : SeqAt.shaped (Dt.lst ds).py = true := by
  have h1 := lay_all fun d hd => (h d hd).1
  have h2 := dep_all fun d hd => (h d hd).2
  unfold SeqAt.shaped
  simp only [Dt.py, PyData.canLay0, PyData.depth, h1, Bool.true_and, decide_eq_true_eq]
  omega
theorem lay_os_eq (D : Dat) (t : Trip) : (D.lay t).os = if t.o ∈ D.os then D.os else D.os ++ [t.o] := by
  unfold Dat.lay Dat.addV Dat.addI Dat.addO
  dsimp only
  split <;> split <;> rfl
theorem dat_snoc {ts : List Trip} {i : Nat} {t : Trip} (h : ts[i]? = some t) : datOf (ts.take (i + 1)) = (datOf (ts.take i)).lay t := by
  unfold datOf
  rw [List.take_add_one, h]
  simp
section
variable {prog : Program} {w : World} {A : Around} {mb : Str → Option Value} {X : List Addr} {g g₀ : Heap} {s s₀ : Shared} {P' : Addr} {D : Dat} {B : Bk} {ts : List Trip} {how : Nat}
theorem mg_written : mgC w.params "_law_written" = some (.ref 252) := by kernel_rfl
theorem mg_triples : mgC w.params "_law_triples" = some (.ref 240) := by kernel_rfl
theorem fn_pairsD (T : TurnOk ts how D) : Fn prog w (WW w mb) 4 235 [.str (header (writtenRows D how) (how + 1))] (prsDt (writtenRows D how)) := by
  obtain ⟨rows, t, e⟩ := T.t1
  have := fn_pairs (prog := prog) (w := w) (mb := mb) t.len t.parse t.ok
  rw [show rows.map (fun r => (Txt.strip r.n, unq r.val)) = writtenRows D how from e] at this
  exact this
theorem fn_triplesD (T : TurnOk ts how D) : Fn prog w (WW w mb) 5 240 [prsDt (writtenRows D how)] (.lst ((bookTrips D).map Trip.dt)) := by
  obtain ⟨f, hf⟩ := T.t2
  have := fn_triples (prog := prog) (w := w) (mb := mb) (os := D.os.map fun o => ⟨o, header (floorPairs D o) how, f o⟩) (by rw [List.length_map]; exact T.fit.os) fun r hr => by
    obtain ⟨o, ho, rfl⟩ := List.mem_map.mp hr
    exact (hf o ho).1
  have e1 : (D.os.map fun o => (⟨o, header (floorPairs D o) how, f o⟩ : Outer)).map (fun r => (r.o, r.text)) = writtenRows D how := by rw [List.map_map]; rfl
  have e2 : ((D.os.map fun o => (⟨o, header (floorPairs D o) how, f o⟩ : Outer)).map Outer.trips).flatten = bookTrips D := by
    unfold bookTrips
    rw [List.map_map]
    congr 1
    refine List.map_congr_left fun o ho => ?_
    have := (hf o ho).2
    show (f o).map _ = _
    rw [← this]
    unfold pairsOf
    rw [List.map_map]
    rfl
  rw [e1, e2] at this
  exact this
/-- the rest of _law_turn, once the book is frozen and asked -/
theorem go_tail {L : Addr} {Q : Flow → Shared → Prop} (R : Room A 6) (T : TurnOk ts how D)
    (hret : ∀ v g' s' l ν, Fs prog w (WZ prog w mb X P' D B) (callEnvC (f264 w.params).1 L 264) g₀ s₀ l ν [ownT 112 posF qualF, ownT2 242 posO qualO posI qualI (some P')] g' s' → Rd prog w g' v (.lst ((bookTrips D).map Trip.dt)) → Q (.ret v) s') :
    Go prog w (WZ prog w mb X P' D B) A (callEnvC (f264 w.params).1 L 264) g₀ s₀ [("left", .int 0), ("said", .lst (List.replicate (D.os.length + 1) .none)), ("left", .int 0), ("book", .raw (.ref B.b)), ("rows", .lst (ts.map Trip.dt)), ("how", .int how)] [] [ownT 112 posF qualF, ownT2 242 posO qualO posI qualI (some P')] ((b264 w.params).1.drop 4) Q (fun _ _ => False) := by
  obtain ⟨o1, ho1, hd1⟩ := (d252 (w := w) (mb := mb)).at'
  obtain ⟨o2, ho2, hd2⟩ := (d235 (w := w) (mb := mb)).at'
  obtain ⟨o3, ho3, hd3⟩ := (d240 (w := w) (mb := mb)).at'
  have hs6 : sizeLine = 16777216 := rfl
  have Ru : A.units + 128 < cLine := by have := R.un; omega
  obtain ⟨ln1, ln2⟩ := T.len
  refine go_assign (d := prsDt (writtenRows D how)) (ev_call (evl_cons (ev_call (evl_cons (ev_name rfl) (evl_cons (ev_name rfl) evl_nil)) rfl (mg_written (w := w)) ho1 hd1 ((fn_written T.fit).toV ⟨rfl, rfl, rfl⟩ fun g i => i) (R.le (by decide))) evl_nil) rfl (mg_lawPairs w.params) ho2 hd2 ((fn_pairsD T).toX (X := []) ⟨rfl, rfl, rfl⟩) (R.le (by decide))) ?_
  refine go_assignL fun Df => ?_
  refine go_for (ds := ts.map Trip.dt) (fun i => [("pairs", prsDt (writtenRows D how)), ("left", .int 0), ("said", .lst (List.replicate (D.os.length + 1) .none)), ("rows", .lst (ts.map Trip.dt))]) (fun i => ownL prog w Df ((datOf (ts.take i)).os.map .str) :: [ownT 112 posF qualF, ownT2 242 posO qualO posI qualI (some P')]) R.hd (src_list R.hd (ev_name rfl)) ⟨rfl, rfl, rfl, rfl, trivial⟩ rfl (fun i d it hd => ?_) ?_
  · rw [List.getElem?_map] at hd
    obtain ⟨t, hi, rfl⟩ := Option.map_eq_some_iff.mp hd
    refine ⟨[("outer", .str t.o), ("inner", .str t.i), ("value", .str t.v)], .tup (.cons (.cons (.cons .nil))), fun y hy => ?_, (by decide +kernel : [("outer" : Str), "inner", "value"].Nodup), fun y hy => ?_, fun E' => ?_⟩
    · exact mm3 hy rfl rfl rfl
    · exact mm3 hy rfl rfl rfl
    have hl : (ts.take i).length ≤ 6 := by rw [List.length_take]; have := T.h6; omega
    refine go_ifNotIn (a := t.o) rfl rfl (fun hc => ?_) fun hc => ?_
    · have nm : t.o ∉ (datOf (ts.take i)).os := fun hm => by rw [List.contains_iff_mem.mpr hm] at hc; cases hc
      refine go_append (r := .str t.o) (ev_name rfl) rfl (by rw [List.length_map]; have := (dat_small (ts.take i)).1; omega) ?_
      refine go_nil fun g₁ s₁ F₁ => wpAny_execs_nil (turn_next g₁ s₁ ?_)
      have e : (datOf (ts.take (i + 1))).os = (datOf (ts.take i)).os ++ [t.o] := by rw [dat_snoc hi, lay_os_eq, if_neg nm]
      rw [e, List.map_append]
      exact F₁.weaken ⟨rfl, rfl, rfl, rfl, trivial⟩ fun _ _ q => q
    · have hm : t.o ∈ (datOf (ts.take i)).os := List.contains_iff_mem.mp hc
      refine go_nil fun g₁ s₁ F₁ => wpAny_execs_nil (turn_next g₁ s₁ ?_)
      have e : (datOf (ts.take (i + 1))).os = (datOf (ts.take i)).os := by rw [dat_snoc hi, lay_os_eq, if_pos hm]
      rw [e]
      exact F₁.weaken ⟨rfl, rfl, rfl, rfl, trivial⟩ fun _ _ q => q
  · rw [List.length_map, List.take_length]
    refine go_seal ?_
    have zt : PyData.strOk ("z" : Str) = true := T.so _ (by rw [T.os]; exact List.mem_append_right _ (.head _))
    have hw1 : (writtenRows D how).map (·.1) = D.os := by unfold writtenRows; rw [List.map_map]; exact List.map_id _
    have e1 : List.replicate (D.os.length + 1) Dt.none = List.replicate ((datOf ts).os.length + 2) Dt.none := by rw [ln1]
    have e2 : ((((datOf ts).os.map Dt.str).length : Nat) : Int) + 2 = (((datOf ts).os.length + 2 : Nat) : Int) := by rw [List.length_map]; rfl
    have ok1 : (Dt.lst (List.replicate ((datOf ts).os.length + 2) .none)).ok = true := ok_lst fun d hd => by rw [List.eq_of_mem_replicate hd]; rfl
    have ok2 : (Dt.lst (D.os.map .str)).ok = true := ok_lst fun d hd => by
      obtain ⟨o, ho, rfl⟩ := List.mem_map.mp hd
      exact T.so o ho
    have sh1 : SeqAt.shaped (Dt.lst (List.replicate ((datOf ts).os.length + 2) .none)).py = true := shaped_lst (k := 0) (fun d hd => by rw [List.eq_of_mem_replicate hd]; exact ⟨rfl, Nat.le_refl _⟩) (by decide)
    have sh2 : SeqAt.shaped (Dt.lst (D.os.map .str)).py = true := shaped_lst (k := 0) (fun d hd => by
      obtain ⟨o, ho, rfl⟩ := List.mem_map.mp hd
      exact ⟨shaped_str (T.so o ho), Nat.le_refl _⟩) (by decide)
    refine go_if (b := false) (tst_or3 (b := false) (c := false) (d := false) (tst_cmp (d₁ := .int 0) (d₂ := .int 0) (ev_name rfl) ev_int (bin_neRefl rfl rfl (by omega))) (fun _ => tst_cmp (d₁ := .lst (List.replicate ((datOf ts).os.length + 2) .none)) (d₂ := .lst (List.replicate ((datOf ts).os.length + 2) .none)) (ev_name (by rw [← e1]; rfl)) (ev_bin (d₁ := .lst [.none]) (d₂ := .int (((datOf ts).os.length + 2 : Nat) : Int)) (ev_list (evl_cons ev_none evl_nil)) ?_ (bin_mulN (by omega))) (bin_neRefl ok1 sh1 (by omega))) fun _ _ => tst_cmp (d₁ := .lst (D.os.map .str)) (d₂ := .lst (D.os.map .str)) ?_ ?_ (bin_neRefl ok2 sh2 (by omega))) (fun h => nomatch h) fun _ => ?_
    · rw [← e2]
      exact ev_bin (ev_len (f := "len") (ev_name rfl) rfl (mgz_len (w := w)) (by rw [List.length_map]; omega)) ev_int bin_addI
    · refine ev_comp [] (ds := (writtenRows D how).map fun p => .tup [.str p.1, .str p.2]) (src_list R.hd (ev_name rfl)) (cl := _) rfl (fun _ h => nomatch h) clok_nil (spec1 R.hd (by rw [List.length_map, List.length_map, ← hw1, List.length_map]) (by rw [List.length_map]; unfold writtenRows; rw [List.length_map]; omega) fun C i d r hd hr => ?_)
      rw [← hw1, List.map_map, List.getElem?_map] at hr
      rw [List.getElem?_map] at hd
      obtain ⟨p, hp, rfl⟩ := Option.map_eq_some_iff.mp hd
      rw [hp] at hr
      cases hr
      refine ⟨[("name", .str p.1), ("text", .str p.2)], .tup (.cons (.cons .nil)), fun y hy => ?_, (by show List.Nodup [("name" : Str), "text"]; decide +kernel), fun _ _ h => (nomatch h), ev_name rfl⟩
      exact mm2 hy rfl rfl
    · rw [show D.os.map Dt.str = (datOf ts).os.map Dt.str ++ [.str "z"] by rw [T.os, List.map_append]; rfl]
      exact ev_bin (ev_name rfl) (ev_list (evl_cons ev_str evl_nil)) (bin_addL (by rw [List.length_map]; show _ + 1 ≤ _; omega))
    · refine go_nil fun g₁ s₁ F₁ => ?_
      refine wpAny_execs_cons (wpAny_Return_some (((ev_call (W := WZ prog w mb X P' D B) (evl_cons (ev_name rfl) evl_nil) rfl (mg_triples (w := w)) ho3 hd3 ((fn_triplesD T).toX (X := []) ⟨rfl, rfl, rfl⟩) (R.le (by decide))).run g₁ s₁ F₁.se).use F₁.se.pos fun v h₂ g₂ tk₂ p₂ e₂ r₂ => ?_))
      exact hret v g₂ _ _ _ (F₁.ext e₂ p₂) r₂
end
end Mine
end
section
open PySem PySem.W PySem.Spec PySem.Calls PyProof.Rows PySem.Builtin PySem.Builtin.Str
set_option Elab.async false
set_option tactic.hygienic false
set_option linter.unusedVariables false
set_option maxRecDepth 100000
set_option maxHeartbeats 4000000
namespace Mine
section
variable {prog : Program} {w : World} {A : Around} {mb : Str → Option Value} {X Y : List Addr} {g g₀ : Heap} {s s₀ : Shared} {P' : Addr} {D : Dat} {B : Bk} {T : List (Addr × Tag)} {ts : List Trip} {how : Nat} {o2 : Option Addr}
theorem mg_book : mgC w.params "_law_book" = some (.ref 247) := by kernel_rfl
theorem mg_left : mgC w.params "_law_left" = some (.ref 259) := by kernel_rfl
/-- an empty floor has no entries -/
theorem es_nil {es : Array DictEntry} (K : Keyed prog w es []) : es = #[] := by
  have := keyed_size K
  exact Array.eq_empty_of_size_eq_zero this
/-- _law_turn(rows, how) -/
theorem call_turn {vs : List Value} {Q : Value → Shared → Prop} {E : Value → Shared → Prop} (PO : ProgOk prog) (R : Room A 14) (O : Ok (WX w mb Y) g s) (rs : Rds prog w g vs [.lst (ts.map Trip.dt), .int how]) (TO : TurnOk ts how D)
    (T1 : TabOk g s.heap 112 posF qualF) (T2 : T2At g s.heap 242 posO qualO posI qualI o2) (gT : ∀ a ∈ 112 :: 242 :: tabL o2, g.get? a = none ∧ a < s.heap.objs.size) (n112 : 112 ∉ tabL o2)
    (k : ∀ v g' h' tk P', 0 < tk → ExtX (112 :: 242 :: tabL o2) g s.heap g' h' → Rd prog w g' v (.lst ((bookTrips D).map Trip.dt)) → TabOk g' h' 112 posF qualF → T2At g' h' 242 posO qualO posI qualI (some P') → (o2 = some P' ∨ (o2 = none ∧ s.heap.objs.size ≤ P')) → (∀ a ∈ [112, 242, P'], g'.get? a = none ∧ a < h'.objs.size) → P' ≠ 112 → Q v { s with heap := h', toks := tk }) :
    wpAny (model prog w) A (call (.ref 264) vs) Q E s := by
  have hs6 : sizeLine = 16777216 := rfl
  refine wpAny_call (enter (W := WX w mb (112 :: 242 :: tabL o2)) ((d264 (w := w) (mb := mb)).toX (X := [])) rfl (Nat.lt_of_le_of_lt (Nat.le_add_right _ _) R.dp) O.toX rs [ownT 112 posF qualF, ownT2 242 posO qualO posI qualI o2] (fun o ho => ?_) ?_ fun L => ?_)
  · rcases List.mem_cons.mp ho with rfl | ho
    · exact ⟨T1, fun a ha => by rw [List.mem_singleton.mp ha]; exact ⟨.head _, .head _, (gT _ (.head _)).2, (gT _ (.head _)).1⟩⟩
    · rw [List.mem_singleton.mp ho]
      exact ⟨T2, fun a ha => ⟨ha, .tail _ ha, (gT a (.tail _ ha)).2, (gT a (.tail _ ha)).1⟩⟩
  · refine .cons (fun o' ho' a ha => ?_) (List.pairwise_singleton _ _)
    rw [List.mem_singleton.mp ho', List.mem_singleton.mp ha]
    intro q
    rcases List.mem_cons.mp q with q | q
    · cases q
    · exact n112 q
  have hh : (A.deeper (callEnvC (f264 w.params).1 L 264)).handled = none := R.hd
  have R12 : Room (A.deeper (callEnvC (f264 w.params).1 L 264)) 12 := by
    refine ⟨hh, ?_, ?_⟩
    · have := R.dp; show A.depth + 1 + 12 < _; omega
    · have := R.un; show A.units + 3 + 64 * 12 + 128 < _; omega
  obtain ⟨z0, zi, zv⟩ := dat_small ts
  have h6 := TO.h6
  -- book = _law_book(rows)
  refine .mk fun g₁ s₁ F => wpAny_execs_cons (wpAny_Assign_Name (wpAny_Call_NameR (ev_global F.se rfl (mg_book (w := w)) ?_)) rfl)
  obtain ⟨o247, ho247, hd247⟩ := (d247 (w := w) (mb := mb)).at'
  refine callWith_function (o := o247) (fd := (f247 w.params).1) (((evl_cons (ev_name (d := .lst (ts.map Trip.dt)) rfl) evl_nil : EvL prog w (WX w mb (112 :: 242 :: tabL o2)) _ _ (lk _) _ _)).args F.se fun vs₂ h₂ g₂ tk₂ p₂ e₂ r₂ => ?_)
  have F₂ := F.ext e₂ p₂
  refine ⟨⟨e₂.sub _ _ (F₂.se.wd.k _ _ ho247), hd247⟩, ?_⟩
  obtain ⟨T₂, f₂⟩ := F₂.ow _ (.tail _ (.head _))
  refine call_book (s := { s₁ with heap := h₂, toks := tk₂ }) PO R12 F₂.se.toOk r₂ h6 T₂ (fun a ha => ⟨(f₂ a ha).2.2.2.1, (f₂ a ha).2.1⟩) fun g₃ h₃ tk₃ P' B T p₃ x₃ core new hP' off₃ => ?_
  have F₃ := (F₂.perm (.swap _ _ _)).mut (o' := ownBk prog w o2 P' (datOf ts) B T) x₃ p₃ core fun a ha => ?_
  rotate_left
  · obtain ⟨o1, o2'⟩ := off₃ a ha
    rcases List.mem_cons.mp ha with rfl | ha
    · exact .inl ⟨.head _, o1⟩
    · rcases List.mem_cons.mp ha with rfl | ha
      · rcases hP' with rfl | ⟨rfl, q⟩
        · exact .inl ⟨.tail _ (.head _), o1⟩
        · exact .inr ⟨q, o2', rfl, o1⟩
      · exact .inr ⟨new a ha, o2', rfl, o1⟩
  refine F₃.store (slotted_of rfl) (.raw _) rfl fun h₄ tk₄ F₄ => ?_
  have hPP : ∀ a ∈ tabL o2, a = P' := fun a ha => by
    rcases hP' with rfl | ⟨rfl, q⟩
    · exact List.mem_singleton.mp ha
    · cases ha
  have hP₀ : o2 = some P' ∨ (o2 = none ∧ s.heap.objs.size ≤ P') := hP'.imp id fun q => ⟨q.1, Nat.le_trans (Nat.le_trans F.bs.size e₂.size) q.2⟩
  -- left = len(book['z'])
  refine wpAny_execs_cons (wpAny_Assign_Name (wpAny_Call_NameR (ev_builtin F₄.se rfl (mgz_len (w := w)) boot_len ?_)) rfl)
  rw [starE1]
  refine callWith_builtin rfl (evalArgs_plain (spliced_cons (sub_out (mb := mb) (W := WX w mb (112 :: 242 :: tabL o2)) (D := datOf ts) (B := B) (T := T) (P' := P') (o2 := o2) (l := [("book", .raw (.ref B.b)), ("rows", .lst (ts.map Trip.dt)), ("how", .int how)]) PO (R12.le (by decide)) ⟨rfl, rfl, rfl⟩ F₄ (ev_name rfl) (ev_str (x := "z")) (by omega) (by intro _ _; rfl) fun B₅ T₅ g₅ s₅ F₅ hB₅ => spliced_nil ?_)))
  rw [← TO.eD] at F₅
  obtain ⟨C₅, f₅⟩ := F₅.ow _ (.head _)
  have mz : ("z" : Str) ∈ D.os := by rw [TO.os]; exact List.mem_append_right _ (.head _)
  obtain ⟨es, ep, hfl, K⟩ := C₅.bk.fl "z" mz
  have iz : D.is "z" = [] := by
    have := C₅.bk.ok
    rw [TO.eD]
    unfold Dat.addO
    rw [if_neg TO.nz]
    exact F₄.ow _ (.head _) |>.1.bk.ok.i0 _ TO.nz
  rw [iz] at K
  have e0 := es_nil K
  subst e0
  have bz := C₅.big _ (C₅.bk.tl "z" mz)
  refine call_len0 (F₅.se.wd.k.keeps F₅.se.sub) hfl (big_ne bz).1 fun t₆ tk₆ hle => ?_
  have F₆ := F₅.ext (tk := tk₆) (Ext.refl F₅.se.sub) (Nat.lt_of_lt_of_le F₅.se.pos hle)
  refine F₆.store (slotted_of rfl) (.int ..) rfl fun h₇ tk₇ F₇ => ?_
  have F₇' := F₇.perm (.swap _ _ _)
  -- said = ..
  refine Go.run (go_said (T := T₅) (B := B₅) (D := D) (R12.le (by decide)) (by have := TO.len; omega) (by rw [hB₅]; rfl) rfl hPP ?_) _ _ F₇'
  -- left += _law_left(book)
  refine .mk fun g₈ s₈ F₈ => ?_
  refine wpAny_execs_cons ?_
  obtain ⟨u, hu, ru⟩ := F₈.se.vars "left" (.int 0) rfl
  refine wpAny_AugAssign_Name (load_holds F₈.se.fn hu (by decide +kernel) (wpAny_Call_NameR (ev_global F₈.se rfl (mg_left (w := w)) ?_)))
  first | obtain rfl := ru.inv | obtain ⟨_, rfl⟩ := ru.inv
  obtain ⟨o259, ho259, hd259⟩ := (d259 (w := w) (mb := mb)).at'
  refine callWith_function (o := o259) (fd := (f259 w.params).1) (((evl_cons (ev_name (d := .raw (.ref B₅.b)) (by rw [hB₅]; rfl)) evl_nil : EvL prog w (WZ prog w mb (112 :: 242 :: tabL o2) P' D B₅) _ _ (lk _) _ _)).args F₈.se fun vs₉ h₉ g₉ tk₉ p₉ e₉ r₉ => ?_)
  have F₉ := F₈.ext e₉ p₉
  refine ⟨⟨e₉.sub _ _ (F₉.se.wd.k _ _ ho259), hd259⟩, ?_⟩
  obtain ⟨v₉, rfl, ra⟩ := r₉.one
  obtain rfl := ra.inv
  obtain ⟨T₉, f₉⟩ := F₉.ow _ (.tail _ (.head _))
  obtain ⟨t91, t92, t93⟩ := id T₉
  obtain ⟨-, q2, -, q4, -⟩ := f₉ P' (.tail _ (.head _))
  refine call_left (s := { s₈ with heap := h₉, toks := tk₉ }) PO R12 F₉.se.toOk TO.ny TO.nyi t92 q4 q2 fun t g₁₀ h₁₀ tk₁₀ p₁₀ x₁₀ tab₁₀ off₁₀ => iadd_int ?_
  have kg₁₀ := ExtX.grow F₉.se.sub x₁₀
  have F₁₀ := (F₉.perm (.swap _ _ _)).mut (o' := ownT2 242 posO qualO posI qualI (some P')) (x₁₀.mono fun a ha => .tail _ ha) p₁₀ ⟨let ⟨c', a, b, d⟩ := t91; ⟨c', x₁₀.keep _ _ rfl (fun q => t93 (List.mem_singleton.mp q).symm) a, b.keeps kg₁₀, d.keeps kg₁₀⟩, tab₁₀, t93⟩ fun a ha => .inl ⟨ha, by
    rcases List.mem_cons.mp ha with rfl | ha
    · exact (x₁₀.same _ (f₉ _ (.head _)).2.1).trans (f₉ _ (.head _)).2.2.2.1
    · rw [List.mem_singleton.mp ha]; exact off₁₀⟩
  refine ((F₁₀.perm (.swap _ _ _)).ext (Ext.refl F₁₀.se.sub) (Nat.succ_pos _)).store (slotted_of rfl) (.int ..) rfl fun h₁₁ tk₁₁ F₁₁ => ?_
  refine Go.run (go_tail (ts := ts) (D := D) (R12.le (by decide)) TO fun v g' s' l ν F' r' => ?_) _ _ (F₁₁.weaken ⟨rfl, rfl, rfl, ?_, rfl, rfl, trivial⟩ fun _ _ q => q)
  · obtain ⟨Ta, fa⟩ := F'.ow _ (.head _)
    obtain ⟨Tb, fb⟩ := F'.ow _ (.tail _ (.head _))
    have dj := (List.pairwise_cons.mp F'.dj).1 _ (.head _) 112 (.head _)
    have := k v g' s'.heap s'.toks P' F'.se.pos F'.bs r' Ta Tb hP₀ (fun a ha => ?_) fun q => dj (q ▸ .tail _ (.head _))
    · rw [F'.sh]; exact this
    · rcases List.mem_cons.mp ha with rfl | ha
      · exact ⟨(fa _ (.head _)).2.2.2.1, (fa _ (.head _)).2.1⟩
      · exact ⟨(fb a ha).2.2.2.1, (fb a ha).2.1⟩
  · rw [hB₅]; rfl
end
end Mine
end
section
open PySem PySem.W PySem.Spec PySem.Calls PyProof.Rows PySem.Builtin PySem.Builtin.Str
set_option Elab.async false
set_option tactic.hygienic false
set_option linter.unusedVariables false
set_option maxRecDepth 100000
set_option maxHeartbeats 1000000
namespace Mine
noncomputable def S (l : List Nat) : Str := ⟨l.toArray⟩
theorem S_app (a b : List Nat) : S a ++ S b = S (a ++ b) := by
  show (⟨a.toArray ++ b.toArray⟩ : Str) = ⟨(a ++ b).toArray⟩
  rw [List.append_toArray]
theorem S_of (x : Str) : S x.cps.toList = x := rfl
theorem S_list (l : List Nat) : (S l).cps.toList = l := rfl
theorem app_nil (x : Str) : x ++ S [] = x := by
  rw [← S_of x, S_app, List.append_nil]
theorem app_assoc (a b c : Str) : a ++ b ++ c = a ++ (b ++ c) := by
  rw [← S_of a, ← S_of b, ← S_of c, S_app, S_app, S_app, S_app, List.append_assoc]
theorem one_S (c : Nat) : one c = S [c] := rfl
theorem one_beq (c d : Nat) : ((one c) == (⟨#[d]⟩ : Str)) = (c == d) := by
  by_cases h : c = d
  · subst h
    have : (one c == (⟨#[c]⟩ : Str)) = true := beq_iff_eq.mpr rfl
    rw [this]; simp
  · have h1 : (one c == (⟨#[d]⟩ : Str)) = false := beq_eq_false_iff_ne.mpr fun e => h (by
      have := congrArg (fun (x : Str) => x.cps.toList) e
      simpa [one] using this)
    rw [h1]; simp [h]
theorem cm_eq : ("," : Str) = ⟨#[44]⟩ := by decide +kernel
theorem empty_eq : ("" : Str) = S [] := by decide +kernel
/-- the text, read outside quotes, adds l' to the part -/
noncomputable def Adds (l l' : List Nat) : Prop := ∀ res part, l.foldl pstep (res, part, false, false) = (res, part ++ S l', false, false)
theorem Adds.nil : Adds [] [] := fun res part => by rw [List.foldl_nil, app_nil]
theorem Adds.app {a a' b b' : List Nat} (x : Adds a a') (y : Adds b b') : Adds (a ++ b) (a' ++ b') := fun res part => by
  rw [List.foldl_append, x, y, app_assoc, S_app]
theorem Adds.one {c : Nat} (h1 : c ≠ 44) (h2 : c ≠ 34) : Adds [c] [c] := fun res part => by
  show pstep (res, part, false, false) c = _
  unfold pstep
  simp only [Bool.false_eq_true, if_false, cm_eq, dq_eq, one_beq]
  rw [if_neg (by simpa using h1), if_neg (by simpa using h2)]
  rfl
theorem Adds.plain : ∀ {l : List Nat}, (∀ c ∈ l, c ≠ 44 ∧ c ≠ 34) → Adds l l
  | [], _ => .nil
  | c :: l, h => Adds.app (a := [c]) (a' := [c]) (.one (h c (.head _)).1 (h c (.head _)).2) (Adds.plain fun x hx => h x (.tail _ hx))
noncomputable def escL (v : List Nat) : List Nat := rep 34 [92, 34] (rep 92 [92, 92] v)
noncomputable def esc1 (k : Nat) : List Nat := if k = 92 then [92, 92] else if k = 34 then [92, 34] else [k]
theorem escL_cons (k : Nat) (v : List Nat) : escL (k :: v) = esc1 k ++ escL v := by
  unfold escL esc1
  have : rep 92 [92, 92] (k :: v) = (if k = 92 then [92, 92] else [k]) ++ rep 92 [92, 92] v := List.flatMap_cons
  rw [this, rep_append]
  congr 1
  by_cases h : k = 92
  · subst h; rfl
  · rw [if_neg h, if_neg h]
    by_cases h2 : k = 34
    · subst h2; rfl
    · rw [if_neg h2]
      simp [rep, h2]
theorem inQuotes : ∀ (v : List Nat) (res : List Str) (part : Str), (escL v).foldl pstep (res, part, false, true) = (res, part ++ S v, false, true)
  | [], res, part => by rw [app_nil]; rfl
  | k :: v, res, part => by
    have e1 : (esc1 k).foldl pstep (res, part, false, true) = (res, part ++ S [k], false, true) := by
      unfold esc1
      by_cases h : k = 92
      · subst h
        rw [if_pos rfl]
        show pstep (pstep (res, part, false, true) 92) 92 = _
        have : pstep (res, part, false, true) 92 = (res, part, true, true) := by
          unfold pstep
          simp only [Bool.false_eq_true, if_false, if_true, bs_eq, one_beq]
          rfl
        rw [this]
        rfl
      · rw [if_neg h]
        by_cases h2 : k = 34
        · subst h2
          rw [if_pos rfl]
          show pstep (pstep (res, part, false, true) 92) 34 = _
          have : pstep (res, part, false, true) 92 = (res, part, true, true) := by
            unfold pstep
            simp only [Bool.false_eq_true, if_false, if_true, bs_eq, one_beq]
            rfl
          rw [this]
          rfl
        · rw [if_neg h2]
          show pstep (res, part, false, true) k = _
          unfold pstep
          simp only [Bool.false_eq_true, if_false, if_true, bs_eq, dq_eq, one_beq]
          rw [if_neg (by simpa using h), if_neg (by simpa using h2)]
          rfl
    rw [escL_cons, List.foldl_append, e1, inQuotes v, app_assoc, S_app]
    rfl
theorem Adds.quoted (v : List Nat) : Adds (34 :: (escL v ++ [34])) (34 :: (v ++ [34])) := fun res part => by
  rw [List.foldl_cons, List.foldl_append]
  have : pstep (res, part, false, false) 34 = (res, part ++ S [34], false, true) := by
    unfold pstep
    simp only [Bool.false_eq_true, if_false, if_true, cm_eq, dq_eq, one_beq]
    rfl
  rw [this, inQuotes]
  show pstep (res, part ++ S [34] ++ S v, false, true) 34 = _
  have : pstep (res, part ++ S [34] ++ S v, false, true) 34 = (res, part ++ S [34] ++ S v ++ S [34], false, false) := by
    unfold pstep
    simp only [Bool.false_eq_true, if_false, if_true, bs_eq, dq_eq, one_beq]
    rfl
  rw [this, app_assoc, app_assoc, S_app, S_app]
  simp
noncomputable def joinL : List (List Nat) → List Nat
  | [] => []
  | [p] => p
  | p :: q :: r => p ++ 44 :: joinL (q :: r)
theorem strJoin_L : ∀ ls : List (List Nat), Str.join "," (ls.map S) = S (joinL ls)
  | [] => by rfl
  | [p] => by rfl
  | p :: q :: r => by
    have ih := strJoin_L (q :: r)
    show S p ++ "," ++ Str.join "," ((q :: r).map S) = _
    rw [ih, show ("," : Str) = S [44] from cm_eq, S_app, S_app]
    simp [joinL]
theorem fold_join : ∀ (ls : List (List Nat × List Nat)) (p : List Nat × List Nat) (res : List Str), (∀ q ∈ p :: ls, Adds q.1 q.2) →
    ∃ last ini, (p :: ls).map (·.2) = ini ++ [last] ∧ (joinL ((p :: ls).map (·.1))).foldl pstep (res, S [], false, false) = (res ++ ini.map S, S last, false, false)
  | [], p, res, h => ⟨p.2, [], rfl, by
      show p.1.foldl pstep (res, S [], false, false) = _
      rw [h p (.head _), S_app]; simp⟩
  | q :: ls, p, res, h => by
    obtain ⟨last, ini, e1, e2⟩ := fold_join ls q (res ++ [S p.2]) fun x hx => h x (.tail _ hx)
    refine ⟨last, p.2 :: ini, by rw [List.map_cons, e1]; rfl, ?_⟩
    show (p.1 ++ 44 :: joinL ((q :: ls).map (·.1))).foldl pstep (res, S [], false, false) = _
    rw [List.foldl_append, h p (.head _), S_app, List.nil_append, List.foldl_cons]
    have : pstep (res, S p.2, false, false) 44 = (res ++ [S p.2], S [], false, false) := by
      unfold pstep
      simp only [Bool.false_eq_true, if_false, if_true, cm_eq, one_beq, empty_eq]
      rfl
    rw [this, e2]
    simp
theorem parse_join {ls : List (List Nat × List Nat)} (h : ∀ q ∈ ls, Adds q.1 q.2) (hne : ∀ q ∈ ls, q.2 ≠ []) (h0 : ls ≠ []) : parseH (S (joinL (ls.map (·.1)))) = (ls.map fun q => S q.2).map Txt.strip := by
  cases ls with
  | nil => exact absurd rfl h0
  | cons p ls =>
    obtain ⟨last, ini, e1, e2⟩ := fold_join ls p [] h
    have e3 : pst (S (joinL ((p :: ls).map (·.1)))) (S (joinL ((p :: ls).map (·.1)))).cps.size = ([] ++ ini.map S, S last, false, false) := by
      rw [← e2]
      unfold pst
      rw [← Array.length_toList, List.take_length, S_list, ← empty_eq]
    have hl : last ≠ [] := by
      have : last ∈ (p :: ls).map (·.2) := by rw [e1]; simp
      obtain ⟨q, hq, rfl⟩ := List.mem_map.mp this
      exact hne q hq
    have hz : ((S last).length == 0) = false := by
      rw [beq_eq_false_iff_ne]
      intro e
      apply hl
      have : (S last).cps.size = 0 := e
      rw [← Array.length_toList, S_list] at this
      exact List.length_eq_zero_iff.mp this
    unfold parseH
    simp only [e3, hz, Bool.false_eq_true, if_false, List.nil_append]
    congr 1
    have : (p :: ls).map (fun q => S q.2) = ((p :: ls).map (·.2)).map S := by rw [List.map_map]; rfl
    rw [this, e1, List.map_append]
    rfl
end Mine
end
section
open PySem PySem.W PySem.Spec PySem.Calls PyProof.Rows PySem.Builtin PySem.Builtin.Str
set_option Elab.async false
set_option tactic.hygienic false
set_option linter.unusedVariables false
set_option linter.unusedSimpArgs false
set_option maxRecDepth 100000
set_option maxHeartbeats 1000000
namespace Mine
theorem strSub_S (l : List Nat) (i j : Nat) : strSub (S l) i j = S ((l.drop i).take (j - i)) := by
  have := StrLaws.strSub_toList (S l) i j
  rw [← S_of (strSub (S l) i j), this, S_list]
theorem S_len (l : List Nat) : (S l).length = l.length := by
  show l.toArray.size = _
  simp
theorem takeWhile_pre {p : Nat → Bool} : ∀ {a b : List Nat}, (∀ c ∈ a, p c = true) → (b = [] ∨ ∃ x r, b = x :: r ∧ p x = false) → (a ++ b).takeWhile p = a
  | [], b, _, h => by
    rcases h with rfl | ⟨x, r, rfl, hx⟩
    · rfl
    · simp [hx]
  | x :: a, b, h1, h2 => by
    rw [List.cons_append, List.takeWhile_cons, h1 x (.head _), if_pos rfl, takeWhile_pre (fun c hc => h1 c (.tail _ hc)) h2]
/-- blanks off, at both ends -/
theorem strip_law {a b c : List Nat} (ha : ∀ x ∈ a, Unicode.isSpace x = true) (hc : ∀ x ∈ c, Unicode.isSpace x = true) (h1 : ∃ x r, b = x :: r ∧ Unicode.isSpace x = false) (h2 : ∃ r x, b = r ++ [x] ∧ Unicode.isSpace x = false) : Txt.strip (S (a ++ b ++ c)) = S b := by
  obtain ⟨x, r, hb, hx⟩ := h1
  obtain ⟨r', x', hb', hx'⟩ := h2
  have lo : stripLo Unicode.isSpace true (S (a ++ b ++ c)) = a.length := by
    unfold stripLo
    rw [if_pos rfl, S_list, List.append_assoc, takeWhile_pre ha (.inr ⟨x, r ++ c, by rw [hb]; rfl, hx⟩)]
  have hi : stripHi Unicode.isSpace true (S (a ++ b ++ c)) a.length = a.length + b.length := by
    unfold stripHi
    rw [if_pos rfl, S_list, List.append_assoc, List.drop_left, List.reverse_append, takeWhile_pre (fun y hy => hc y (List.mem_reverse.mp hy)) (.inr ⟨x', r'.reverse, by rw [hb', List.reverse_append]; rfl, hx'⟩), List.length_reverse, S_len]
    simp only [List.length_append]
    omega
  unfold Txt.strip
  rw [PyProof.Rows.stripBy_eq, lo, hi, strSub_S, List.append_assoc, List.drop_left]
  have : a.length + b.length - a.length = b.length := by omega
  rw [this, List.take_left]
theorem strip_nil : Txt.strip (S []) = S [] := by
  unfold Txt.strip
  rw [PyProof.Rows.stripBy_eq, strSub_S]; simp
/-- a text with one sign = in front of which there is none: cut there -/
theorem split_law {n v : List Nat} (hn : 61 ∉ n) : Txt.splitMax (S (n ++ 61 :: v)) "=" 1 = [S n, S v] := by
  have eq1 : ("=" : Str) = S [61] := by decide +kernel
  have hk : strKind ("=" : Str) = 1 := by decide +kernel
  have kle : ∀ x : Str, 1 ≤ strKind x := fun x => by
    unfold Str.strKind
    repeat' split
    all_goals decide
  have hlim : limitOf (S (n ++ 61 :: v)) 1 = 1 := by unfold limitOf; rfl
  have hlen : ("=" : Str).length = 1 := by decide +kernel
  have atEq : ∀ i, StrLaws.At (S (n ++ 61 :: v)) "=" (S (n ++ 61 :: v)).length i ↔ (n ++ 61 :: v)[i]? = some 61 := fun i => by
    unfold StrLaws.At
    rw [StrLaws.subAt_eq, hlen, S_len, S_list, eq1, S_list]
    constructor
    · rintro ⟨h1, h2⟩
      have h2 := eq_of_beq h2
      have := congrArg (fun l => l[0]?) h2
      simpa [List.getElem?_take, List.getElem?_drop] using this
    · intro h
      have hlt := (List.getElem?_eq_some_iff.mp h).1
      refine ⟨by omega, beq_iff_eq.mpr ?_⟩
      rw [List.drop_eq_getElem_cons hlt]
      have := (List.getElem?_eq_some_iff.mp h).2
      simp [this]
  unfold Txt.splitMax
  rw [hlim, hlen, hk]
  rw [if_neg (by
    simp only [Bool.or_eq_true, decide_eq_true_eq, not_or]
    refine ⟨by rw [S_len]; simp, Nat.not_lt.mpr (kle _)⟩)]
  rcases StrLaws.occ_head (S (n ++ 61 :: v)) "=" 1 (Nat.le_refl _) with ⟨-, h⟩ | ⟨i, r, h0, h1, h2⟩
  · exact absurd ((atEq n.length).mpr (by simp)) (h n.length)
  · have hr : r = [] := by
      have := StrLaws.occ_length_le (S (n ++ 61 :: v)) "=" 0 (S (n ++ 61 :: v)).length 1
      rw [h0, List.length_cons] at this
      exact List.length_eq_zero_iff.mp (by omega)
    subst hr
    have hi : i = n.length := by
      have hle : ¬ n.length < i := fun q => h2 n.length q ((atEq n.length).mpr (by simp))
      rcases Nat.lt_or_ge i n.length with q | q
      · have := (atEq i).mp h1
        rw [List.getElem?_append_left q] at this
        exact absurd (List.mem_of_getElem? this) hn
      · omega
    subst hi
    rw [h0, if_neg (by simp)]
    unfold partsBetween
    simp only [List.map_cons, List.map_nil, List.cons_append, List.nil_append, List.zip_cons_cons, List.zip_nil_right]
    rw [strSub_S, strSub_S, S_len]
    have e : n.length + (v.length + 1) - (n.length + 1) = v.length := by omega
    simp [e]
end Mine
end
section
open PySem PySem.W PySem.Spec PySem.Calls PyProof.Rows PySem.Builtin PySem.Builtin.Str
set_option Elab.async false
set_option tactic.hygienic false
set_option linter.unusedVariables false
set_option linter.unusedSimpArgs false
set_option maxRecDepth 100000
set_option maxHeartbeats 1000000
namespace Mine
/-- a name that may stand ahead of an equals sign -/
structure NameOk (N : List Nat) : Prop where
  adds : Adds N N
  neq : 61 ∉ N
  ends : N = [] ∨ (∃ x r, N = x :: r ∧ Unicode.isSpace x = false) ∧ ∃ r x, N = r ++ [x] ∧ Unicode.isSpace x = false
  len : N.length ≤ 10
theorem gap_cases (how i : Nat) : gapOf how i = S [] ∨ gapOf how i = S [32] ∨ gapOf how i = S [9, 32] ∨ gapOf how i = S [160] := by
  unfold gapOf
  have : (how + i) % 4 < 4 := Nat.mod_lt _ (by decide)
  generalize (how + i) % 4 = j at this
  match j, this with
  | 0, _ => exact .inl (by decide +kernel)
  | 1, _ => exact .inr (.inl (by decide +kernel))
  | 2, _ => exact .inr (.inr (.inl (by decide +kernel)))
  | 3, _ => exact .inr (.inr (.inr (by decide +kernel)))
theorem gap_facts (how i : Nat) : ∃ G, gapOf how i = S G ∧ G.length ≤ 2 ∧ ∀ c ∈ G, Unicode.isSpace c = true ∧ c ≠ 44 ∧ c ≠ 34 ∧ c ≠ 61 := by
  rcases gap_cases how i with h | h | h | h
  · exact ⟨_, h, by decide, by decide +kernel⟩
  · exact ⟨_, h, by decide, by decide +kernel⟩
  · exact ⟨_, h, by decide, by decide +kernel⟩
  · exact ⟨_, h, by decide, by decide +kernel⟩
noncomputable def quo (v : List Nat) : List Nat := 34 :: (v ++ [34])
/-- the item as written, as read, and what it comes to -/
noncomputable def wr (G N v : List Nat) : List Nat := G ++ N ++ G ++ [61] ++ G ++ quo (escL v) ++ G
noncomputable def rd (G N v : List Nat) : List Nat := G ++ N ++ G ++ [61] ++ G ++ quo v ++ G
noncomputable def front (G N : List Nat) : List Nat := if N = [] then [] else N ++ G
noncomputable def itm (G N v : List Nat) : Itm := ⟨S (front G N ++ 61 :: (G ++ quo v)), S (front G N), S (G ++ quo v)⟩
theorem hItem_wr {how i : Nat} {G N v : List Nat} (h : gapOf how i = S G) : hItem how i (S N, S v) = S (wr G N v) := by
  have e : esc (S v) = S (escL v) := by
    have := esc_list (S v)
    rw [← S_of (esc (S v)), this]; rfl
  have eq1 : ("=" : Str) = S [61] := by decide +kernel
  have eq2 : ("\"" : Str) = S [34] := by decide +kernel
  unfold hItem
  rw [h, e, eq1, eq2]
  simp only [S_app]
  first | (congr 1; simp [wr, quo]; done) | congr 1
theorem wr_adds {G N v : List Nat} (hG : ∀ c ∈ G, c ≠ 44 ∧ c ≠ 34) (hN : Adds N N) : Adds (wr G N v) (rd G N v) :=
  ((((((Adds.plain hG).app hN).app (Adds.plain hG)).app (Adds.one (by decide) (by decide))).app (Adds.plain hG)).app (Adds.quoted v)).app (Adds.plain hG)
theorem quo_last (v : List Nat) : ∃ r x, quo v = r ++ [x] ∧ Unicode.isSpace x = false := ⟨34 :: v, 34, rfl, by decide +kernel⟩
theorem rd_strip {G N v : List Nat} (hG : ∀ c ∈ G, Unicode.isSpace c = true) (hN : NameOk N) : Txt.strip (S (rd G N v)) = (itm G N v).i := by
  unfold itm front
  by_cases h : N = []
  · subst h
    rw [if_pos rfl]
    have e : rd G [] v = (G ++ G) ++ ([] ++ 61 :: (G ++ quo v)) ++ G := by simp [rd]
    rw [e]
    refine strip_law (fun c hc => ?_) hG ⟨61, _, rfl, by decide +kernel⟩ ⟨61 :: (G ++ 34 :: v), 34, by simp [quo], by decide +kernel⟩
    rcases List.mem_append.mp hc with q | q <;> exact hG c q
  · rw [if_neg h]
    rcases hN.ends with q | ⟨⟨x, r, q, hx⟩, -⟩
    · exact absurd q h
    · have e : rd G N v = G ++ (N ++ G ++ 61 :: (G ++ quo v)) ++ G := by simp [rd]
      rw [e]
      exact strip_law hG hG ⟨x, r ++ G ++ 61 :: (G ++ quo v), by rw [q]; simp, hx⟩ ⟨N ++ G ++ 61 :: (G ++ 34 :: v), 34, by simp [quo], by decide +kernel⟩
theorem itm_split {G N v : List Nat} (hG : ∀ c ∈ G, c ≠ 61) (hN : 61 ∉ N) : Txt.splitMax (itm G N v).i "=" 1 = [(itm G N v).n, (itm G N v).v] := by
  refine split_law fun h => ?_
  unfold front at h
  split at h
  · cases h
  · rcases List.mem_append.mp h with q | q
    · exact hN q
    · exact hG 61 q rfl
set_option tactic.hygienic true in
theorem itm_name {G N v : List Nat} (hG : ∀ c ∈ G, Unicode.isSpace c = true) (hN : NameOk N) : Txt.strip (itm G N v).n = S N := by
  show Txt.strip (S (front G N)) = S N
  unfold front
  split
  · rename_i h
    rw [h]; exact strip_nil
  · rename_i h
    rcases hN.ends with q | ⟨h1, h2⟩
    · exact absurd q h
    · have := strip_law (a := []) (b := N) (c := G) (fun _ h => nomatch h) hG h1 h2
      simpa using this
theorem itm_val {G N v : List Nat} (hG : ∀ c ∈ G, Unicode.isSpace c = true) : (itm G N v).val = S (quo v) := by
  have := strip_law (a := G) (b := quo v) (c := []) hG (fun _ h => nomatch h) ⟨34, _, rfl, by decide +kernel⟩ (quo_last v)
  show Txt.strip (S (G ++ quo v)) = _
  simpa using this
theorem quo_len (v : List Nat) : (quo v).length = v.length + 2 := by simp [quo]
theorem quo_quoted (v : List Nat) : quoted (S (quo v)) := by
  have hl : (S (quo v)).length = v.length + 2 := by rw [S_len, quo_len]
  unfold quoted
  rw [hl]
  constructor
  · have : seqIndex? 0 (v.length + 2) = some 0 := by
      unfold seqIndex?
      simp; omega
    rw [this]; rfl
  · have : seqIndex? (-1) (v.length + 2) = some (v.length + 1) := by
      unfold seqIndex?
      have h1 : ((-1 : Int) < 0) := by decide
      simp only [h1, if_true]
      simp; omega
    rw [this]
    show (S (quo v)).cps[v.length + 1]? = some 34
    rw [← Array.getElem?_toList, S_list]
    simp [quo]
theorem unq_quo (v : List Nat) : unq (S (quo v)) = S v := by
  have hl : (S (quo v)).length = v.length + 2 := by rw [S_len, quo_len]
  have e1 := StrLaws.sliceText_neg_hi (S (quo v)) (some 1) (j := -1) (by decide) (by rw [hl]; omega)
  have e2 : (-1 : Int) + ((S (quo v)).length : Nat) = ((v.length + 1 : Nat) : Int) := by rw [hl]; omega
  rw [e2] at e1
  have e3 := StrLaws.sliceText_nat (S (quo v)) (a := 1) (b := v.length + 1) (by omega) (by rw [hl]; omega)
  have e4 : (((S (quo v)).cps.toList.drop 1).take (v.length + 1 - 1)) = v := by
    rw [S_list]
    have : v.length + 1 - 1 = v.length := by omega
    rw [this]
    show (v ++ [34]).take v.length = v
    simp
  rw [e4] at e3
  exact e1.trans e3
end Mine
end
section
open PySem PySem.W PySem.Spec PySem.Calls PyProof.Rows PySem.Builtin PySem.Builtin.Str
set_option Elab.async false
set_option tactic.hygienic false
set_option linter.unusedVariables false
set_option linter.unusedSimpArgs false
set_option maxRecDepth 100000
set_option maxHeartbeats 1000000
namespace Mine
noncomputable def gapL (how i : Nat) : List Nat := (gapOf how i).cps.toList
theorem gapL_facts (how i : Nat) : gapOf how i = S (gapL how i) ∧ (gapL how i).length ≤ 2 ∧ ∀ c ∈ gapL how i, Unicode.isSpace c = true ∧ c ≠ 44 ∧ c ≠ 34 ∧ c ≠ 61 := by
  obtain ⟨G, h1, h2, h3⟩ := gap_facts how i
  have e : gapL how i = G := by unfold gapL; rw [h1]; rfl
  rw [e]
  exact ⟨h1, h2, h3⟩
noncomputable abbrev LP := List Nat × List Nat
noncomputable def toS (p : LP) : Str × Str := (S p.1, S p.2)
noncomputable def itms (how : Nat) (ps : List LP) : List Itm := ps.mapIdx fun i p => itm (gapL how i) p.1 p.2
theorem num_neq : ∀ j < 10, 61 ∉ (num j).cps.toList := by decide +kernel
theorem escL_len (v : List Nat) : (escL v).length ≤ 4 * v.length := by
  have h1 := rep_len 34 92 34 (rep 92 [92, 92] v)
  have h2 := rep_len 92 92 92 v
  unfold escL
  omega
theorem joinL_len {B : Nat} : ∀ {ls : List (List Nat)}, (∀ l ∈ ls, l.length ≤ B) → (joinL ls).length ≤ ls.length * (B + 1)
  | [], _ => by simp [joinL]
  | [p], h => by have := h p (.head _); simp [joinL]; omega
  | p :: q :: r, h => by
    have h1 := h p (.head _)
    have ih := joinL_len (ls := q :: r) fun l hl => h l (.tail _ hl)
    rw [joinL, List.length_append, List.length_cons, List.length_cons, Nat.add_mul]
    omega
/-- a header of such pairs reads as them -/
theorem told_header {ps : List LP} {how : Nat} (h0 : ps ≠ []) (hl : ps.length ≤ 10) (hp : ∀ p ∈ ps, NameOk p.1 ∧ p.2.length ≤ 1000) : Told (header (ps.map toS) how) (itms how ps) ∧ pairsOf (itms how ps) = ps.map toS := by
  have hits : hItems how (ps.map toS) = (ps.mapIdx fun i p => (wr (gapL how i) p.1 p.2, rd (gapL how i) p.1 p.2)).map fun q => S q.1 := by
    apply List.ext_getElem
    · simp [hItems]
    · intro i h1 h2
      simp only [hItems, List.getElem_mapIdx, List.getElem_map]
      exact hItem_wr (gapL_facts how i).1
  have hh : header (ps.map toS) how = S (joinL ((ps.mapIdx fun i p => (wr (gapL how i) p.1 p.2, rd (gapL how i) p.1 p.2)).map (·.1))) := by
    unfold header Txt.join
    rw [StrLaws.glued_eq_join, hits]
    have := strJoin_L ((ps.mapIdx fun i p => (wr (gapL how i) p.1 p.2, rd (gapL how i) p.1 p.2)).map (·.1))
    rw [List.map_map] at this
    exact this
  have at_ : ∀ {i : Nat} {t : Itm}, (itms how ps)[i]? = some t → ∃ p, ps[i]? = some p ∧ t = itm (gapL how i) p.1 p.2 := fun {i t} h => by
    unfold itms at h
    rw [List.getElem?_mapIdx] at h
    cases hi : ps[i]? with
    | none => rw [hi] at h; cases h
    | some p => rw [hi] at h; cases h; exact ⟨p, rfl, rfl⟩
  have mem_ : ∀ {t : Itm}, t ∈ itms how ps → ∃ i p, ps[i]? = some p ∧ t = itm (gapL how i) p.1 p.2 := fun {t} h => by
    obtain ⟨i, hi⟩ := List.mem_iff_getElem?.mp h
    obtain ⟨p, h1, h2⟩ := at_ hi
    exact ⟨i, p, h1, h2⟩
  refine ⟨⟨?_, ?_, ⟨?_, fun t ht => ?_, fun t ht => ?_, fun t ht => ?_, fun j t ht => ?_⟩⟩, ?_⟩
  · rw [hh, S_len]
    have := joinL_len (B := 5000) (ls := (ps.mapIdx fun i p => (wr (gapL how i) p.1 p.2, rd (gapL how i) p.1 p.2)).map (·.1)) fun l hl' => by
      obtain ⟨q, hq, rfl⟩ := List.mem_map.mp hl'
      obtain ⟨i, hi⟩ := List.mem_iff_getElem?.mp hq
      rw [List.getElem?_mapIdx] at hi
      cases hpi : ps[i]? with
      | none => rw [hpi] at hi; cases hi
      | some p =>
        rw [hpi] at hi
        cases hi
        obtain ⟨n1, n2⟩ := hp p (List.mem_of_getElem? hpi)
        have g := (gapL_facts how i).2.1
        have e := escL_len p.2
        have n3 := n1.len
        show (wr (gapL how i) p.1 p.2).length ≤ _
        simp only [wr, quo, List.length_append, List.length_cons, List.length_nil]
        omega
    simp only [List.length_map, List.length_mapIdx] at this
    show _ < 16777216
    omega
  · rw [hh]
    rw [parse_join (fun q hq => ?_) (fun q hq => ?_) (by simpa using h0)]
    · apply List.ext_getElem
      · simp [itms]
      · intro i h1 h2
        simp only [itms, List.getElem_map, List.getElem_mapIdx]
        simp only [List.length_map, List.length_mapIdx] at h1
        exact rd_strip (fun c hc => ((gapL_facts how i).2.2 c hc).1) (hp _ (List.getElem_mem h1)).1
    · obtain ⟨i, hi⟩ := List.mem_iff_getElem?.mp hq
      rw [List.getElem?_mapIdx] at hi
      cases hpi : ps[i]? with
      | none => rw [hpi] at hi; cases hi
      | some p =>
        rw [hpi] at hi
        cases hi
        exact wr_adds (fun c hc => ⟨((gapL_facts how i).2.2 c hc).2.1, ((gapL_facts how i).2.2 c hc).2.2.1⟩) (hp p (List.mem_of_getElem? hpi)).1.adds
    · obtain ⟨i, hi⟩ := List.mem_iff_getElem?.mp hq
      rw [List.getElem?_mapIdx] at hi
      cases hpi : ps[i]? with
      | none => rw [hpi] at hi; cases hi
      | some p =>
        rw [hpi] at hi
        cases hi
        show rd _ _ _ ≠ []
        simp [rd, quo]
  · simpa [itms] using hl
  · obtain ⟨i, p, hpi, rfl⟩ := mem_ ht
    exact itm_split (fun c hc => ((gapL_facts how i).2.2 c hc).2.2.2) (hp p (List.mem_of_getElem? hpi)).1.neq
  · obtain ⟨i, p, hpi, rfl⟩ := mem_ ht
    obtain ⟨n1, n2⟩ := hp p (List.mem_of_getElem? hpi)
    have g := (gapL_facts how i).2.1
    have n3 := n1.len
    have f : (front (gapL how i) p.1).length ≤ 12 := by
      unfold front
      split
      · simp
      · rw [List.length_append]; omega
    refine ⟨?_, ?_, ?_⟩
    · show (S _).length ≤ _
      rw [S_len]
      simp only [quo, List.length_append, List.length_cons, List.length_nil]
      omega
    · show (S _).length ≤ _
      rw [S_len]; omega
    · show (S _).length ≤ _
      rw [S_len]
      simp only [quo, List.length_append, List.length_cons, List.length_nil]
      omega
  · obtain ⟨i, p, hpi, rfl⟩ := mem_ ht
    rw [itm_val fun c hc => ((gapL_facts how i).2.2 c hc).1]
    refine ⟨quo_quoted _, ?_⟩
    rw [S_len, quo_len]
    have := (hp p (List.mem_of_getElem? hpi)).2
    omega
  · obtain ⟨p, hpi, rfl⟩ := at_ ht
    have hj := (List.getElem?_eq_some_iff.mp hpi).1
    rw [itm_val fun c hc => ((gapL_facts how j).2.2 c hc).1]
    have eq1 : ("=" : Str) = S [61] := by decide +kernel
    have e : num j ++ "=" ++ S (quo p.2) = S ((num j).cps.toList ++ 61 :: quo p.2) := by
      rw [eq1, ← S_of (num j), S_app, S_app, S_list]; simp
    rw [e]
    exact split_law (num_neq j (by omega))
  · unfold pairsOf
    apply List.ext_getElem
    · simp [itms]
    · intro i h1 h2
      simp only [List.getElem_map, itms, List.getElem_mapIdx, toS]
      simp only [List.length_map] at h2
      rw [itm_name (fun c hc => ((gapL_facts how i).2.2 c hc).1) (hp _ (List.getElem_mem h2)).1, itm_val fun c hc => ((gapL_facts how i).2.2 c hc).1, unq_quo]
end Mine
end
section
open PySem PySem.W PySem.Spec PySem.Calls PyProof.Rows PySem.Builtin PySem.Builtin.Str
set_option Elab.async false
set_option tactic.hygienic false
set_option linter.unusedVariables false
set_option maxRecDepth 100000
set_option maxHeartbeats 1000000
namespace Mine
theorem nameOk_nil : NameOk [] := ⟨.nil, by decide, .inl rfl, by decide⟩
theorem nameOk_a : NameOk [97] := ⟨.one (by decide) (by decide), by decide, .inr ⟨⟨97, [], rfl, by decide +kernel⟩, [], 97, rfl, by decide +kernel⟩, by decide⟩
theorem nameOk_c : NameOk [99] := ⟨.one (by decide) (by decide), by decide, .inr ⟨⟨99, [], rfl, by decide +kernel⟩, [], 99, rfl, by decide +kernel⟩, by decide⟩
theorem nameOk_z : NameOk [122] := ⟨.one (by decide) (by decide), by decide, .inr ⟨⟨122, [], rfl, by decide +kernel⟩, [], 122, rfl, by decide +kernel⟩, by decide⟩
theorem nameOk_mn : NameOk [109, 32, 110] := ⟨.plain (by decide), by decide, .inr ⟨⟨109, [32, 110], rfl, by decide +kernel⟩, [109, 32], 110, rfl, by decide +kernel⟩, by decide⟩
theorem nameOk_bu : NameOk [98, 34, 117, 44, 32, 34] := ⟨(Adds.one (c := 98) (by decide) (by decide)).app (Adds.quoted [117, 44, 32]), by decide, .inr ⟨⟨98, [34, 117, 44, 32, 34], rfl, by decide +kernel⟩, [98, 34, 117, 44, 32], 34, rfl, by decide +kernel⟩, by decide⟩
/-- the names that the law uses -/
noncomputable def nameL : List (List Nat) := [[97], [], [109, 32, 110], [98, 34, 117, 44, 32, 34], [99], [122]]
theorem nameL_ok : ∀ N ∈ nameL, NameOk N := fun N h => by
  simp only [nameL, List.mem_cons, List.not_mem_nil, or_false] at h
  rcases h with rfl | rfl | rfl | rfl | rfl | rfl
  · exact nameOk_a
  · exact nameOk_nil
  · exact nameOk_mn
  · exact nameOk_bu
  · exact nameOk_c
  · exact nameOk_z
theorem trip_names (n : Int) : (tripOf n).o.cps.toList ∈ nameL ∧ (tripOf n).i.cps.toList ∈ nameL := by
  have h1 := modN_lt (x := n) (m := 3) (by decide)
  have h2 := modN_lt (x := n.fdiv 3) (m := 3) (by decide)
  unfold tripOf
  constructor
  · show ((outs[modN n 3]?).getD "").cps.toList ∈ nameL
    generalize modN n 3 = j at h1
    have : ∀ j < 3, ((outs[j]?).getD ("" : Str)).cps.toList ∈ nameL := by decide +kernel
    exact this j h1
  · show ((inns[modN (n.fdiv 3) 3]?).getD "").cps.toList ∈ nameL
    generalize modN (n.fdiv 3) 3 = j at h2
    have : ∀ j < 3, ((inns[j]?).getD ("" : Str)).cps.toList ∈ nameL := by decide +kernel
    exact this j h2
theorem trip_value (n : Int) : (tripOf n).v.length ≤ 3 := by
  have := valOf_sum n
  unfold tripOf
  show (Txt.join "" (valOf n)).length ≤ 3
  unfold Txt.join
  rw [StrLaws.glued_eq_join]
  have e := StrLaws.join_length_le "" (valOf n)
  have e0 : (("" : Str)).length = 0 := by decide +kernel
  rw [e0] at e
  omega
end Mine
end
section
open PySem PySem.W PySem.Spec PySem.Calls PyProof.Rows PySem.Builtin PySem.Builtin.Str
set_option Elab.async false
set_option tactic.hygienic false
set_option linter.unusedVariables false
set_option maxRecDepth 100000
set_option maxHeartbeats 4000000
namespace Mine
noncomputable def isO (o : Str) (t : Trip) : Bool := t.o == o
noncomputable def isP (o i : Str) (t : Trip) : Bool := t.o == o && t.i == i
/-- what the book holds, told of the rows -/
structure Inv (ts : List Trip) (D : Dat) : Prop where
  mo : ∀ o, o ∈ D.os ↔ ∃ t ∈ ts, t.o = o
  mi : ∀ o i, i ∈ D.is o ↔ ∃ t ∈ ts, t.o = o ∧ t.i = i
  vv : ∀ o i, D.vs o i = (ts.filter (isP o i)).map (·.v)
  po : D.os.Pairwise fun x y => ts.findIdx (isO x) < ts.findIdx (isO y)
  pi : ∀ o, (D.is o).Pairwise fun x y => ts.findIdx (isP o x) < ts.findIdx (isP o y)
theorem isO_self (t : Trip) : isO t.o t = true := by simp [isO]
theorem isP_self (t : Trip) : isP t.o t.i t = true := by simp [isP]
theorem isO_iff {o : Str} {t : Trip} : isO o t = true ↔ t.o = o := by simp [isO]
theorem isP_iff {o i : Str} {t : Trip} : isP o i t = true ↔ t.o = o ∧ t.i = i := by simp [isP]
theorem find_app {p : Trip → Bool} {ts : List Trip} {t : Trip} (h : ∃ u ∈ ts, p u = true) : (ts ++ [t]).findIdx p = ts.findIdx p := by
  rw [List.findIdx_append, if_pos (List.findIdx_lt_length_of_exists h)]
theorem find_new {p : Trip → Bool} {ts : List Trip} {t : Trip} (h : ∀ u ∈ ts, p u = false) (ht : p t = true) : (ts ++ [t]).findIdx p = ts.length := by
  have e : ts.findIdx p = ts.length := List.findIdx_eq_length_of_false h
  rw [List.findIdx_append, e, if_neg (Nat.lt_irrefl _)]
  simp [List.findIdx_cons, ht]
theorem find_lt {p : Trip → Bool} {ts : List Trip} (h : ∃ u ∈ ts, p u = true) : ts.findIdx p < ts.length := List.findIdx_lt_length_of_exists h
theorem lay_is_eq (D : Dat) (t : Trip) (o : Str) : (D.lay t).is o = if o = t.o ∧ t.i ∉ D.is t.o then D.is o ++ [t.i] else D.is o := by
  unfold Dat.lay Dat.addV Dat.addI
  have e : (D.addO t.o).is = D.is := by unfold Dat.addO; split <;> rfl
  rw [e]
  dsimp only
  by_cases h : t.i ∈ D.is t.o
  · rw [if_pos h, e, if_neg fun q => q.2 h]
  · rw [if_neg h]
    dsimp only
    by_cases q : o = t.o
    · subst q; rw [if_pos rfl, if_pos ⟨rfl, h⟩]
    · rw [if_neg q, if_neg fun z => q z.1]
set_option tactic.hygienic true in
theorem lay_vs_eq (D : Dat) (t : Trip) (o i : Str) : (D.lay t).vs o i = if o = t.o ∧ i = t.i then D.vs o i ++ [t.v] else D.vs o i := by
  have e : ((D.addO t.o).addI t.o t.i).vs = D.vs := by
    unfold Dat.addI Dat.addO
    split <;> split <;> rfl
  unfold Dat.lay Dat.addV
  dsimp only
  rw [e]
  split
  · rename_i q; obtain ⟨rfl, rfl⟩ := q; rfl
  · rfl
set_option tactic.hygienic true in
theorem Inv.snoc {ts : List Trip} {D : Dat} (x : Inv ts D) (t : Trip) : Inv (ts ++ [t]) (D.lay t) where
  mo := fun o => by
    rw [lay_os_eq]
    constructor
    · intro h
      split at h
      · obtain ⟨u, hu, e⟩ := (x.mo o).mp h
        exact ⟨u, List.mem_append_left _ hu, e⟩
      · rcases List.mem_append.mp h with h | h
        · obtain ⟨u, hu, e⟩ := (x.mo o).mp h
          exact ⟨u, List.mem_append_left _ hu, e⟩
        · exact ⟨t, List.mem_append_right _ (.head _), (List.mem_singleton.mp h).symm⟩
    · rintro ⟨u, hu, rfl⟩
      rcases List.mem_append.mp hu with hu | hu
      · have := (x.mo u.o).mpr ⟨u, hu, rfl⟩
        split
        · exact this
        · exact List.mem_append_left _ this
      · rw [List.mem_singleton.mp hu]
        split
        · assumption
        · exact List.mem_append_right _ (.head _)
  mi := fun o i => by
    rw [lay_is_eq]
    constructor
    · intro h
      have old : i ∈ D.is o → ∃ u ∈ ts ++ [t], u.o = o ∧ u.i = i := fun h => by
        obtain ⟨u, hu, e⟩ := (x.mi o i).mp h
        exact ⟨u, List.mem_append_left _ hu, e⟩
      split at h
      · rename_i q
        rcases List.mem_append.mp h with h | h
        · exact old h
        · exact ⟨t, List.mem_append_right _ (.head _), q.1.symm, (List.mem_singleton.mp h).symm⟩
      · exact old h
    · rintro ⟨u, hu, rfl, rfl⟩
      rcases List.mem_append.mp hu with hu | hu
      · have := (x.mi u.o u.i).mpr ⟨u, hu, rfl, rfl⟩
        split
        · exact List.mem_append_left _ this
        · exact this
      · rw [List.mem_singleton.mp hu]
        by_cases h : t.i ∈ D.is t.o
        · rw [if_neg fun q => q.2 h]; exact h
        · rw [if_pos ⟨rfl, h⟩]; exact List.mem_append_right _ (.head _)
  vv := fun o i => by
    rw [lay_vs_eq, List.filter_append, List.map_append, ← x.vv]
    by_cases h : o = t.o ∧ i = t.i
    · obtain ⟨rfl, rfl⟩ := h
      rw [if_pos ⟨rfl, rfl⟩, List.filter_cons, if_pos (isP_self t)]
      rfl
    · rw [if_neg h, List.filter_cons, if_neg fun q => h ⟨(isP_iff.mp q).1.symm, (isP_iff.mp q).2.symm⟩]
      simp
  po := by
    have old : D.os.Pairwise fun a b => (ts ++ [t]).findIdx (isO a) < (ts ++ [t]).findIdx (isO b) := x.po.imp_of_mem fun {a b} ha hb h => by
      obtain ⟨u, hu, e⟩ := (x.mo a).mp ha
      obtain ⟨u', hu', e'⟩ := (x.mo b).mp hb
      rw [find_app ⟨u, hu, isO_iff.mpr e⟩, find_app ⟨u', hu', isO_iff.mpr e'⟩]
      exact h
    rw [lay_os_eq]
    split
    · exact old
    · rename_i h
      refine List.pairwise_append.mpr ⟨old, List.pairwise_singleton _ _, fun a ha b hb => ?_⟩
      rw [List.mem_singleton.mp hb]
      obtain ⟨u, hu, e⟩ := (x.mo a).mp ha
      rw [find_app ⟨u, hu, isO_iff.mpr e⟩, find_new (fun v hv => Bool.eq_false_iff.mpr fun q => h ((x.mo t.o).mpr ⟨v, hv, isO_iff.mp q⟩)) (isO_self t)]
      exact find_lt ⟨u, hu, isO_iff.mpr e⟩
  pi := fun o => by
    have old : (D.is o).Pairwise fun a b => (ts ++ [t]).findIdx (isP o a) < (ts ++ [t]).findIdx (isP o b) := (x.pi o).imp_of_mem fun {a b} ha hb h => by
      obtain ⟨u, hu, e⟩ := (x.mi o a).mp ha
      obtain ⟨u', hu', e'⟩ := (x.mi o b).mp hb
      rw [find_app ⟨u, hu, isP_iff.mpr e⟩, find_app ⟨u', hu', isP_iff.mpr e'⟩]
      exact h
    rw [lay_is_eq]
    split
    · rename_i q
      obtain ⟨rfl, h⟩ := q
      refine List.pairwise_append.mpr ⟨old, List.pairwise_singleton _ _, fun a ha b hb => ?_⟩
      rw [List.mem_singleton.mp hb]
      obtain ⟨u, hu, e⟩ := (x.mi t.o a).mp ha
      rw [find_app ⟨u, hu, isP_iff.mpr e⟩, find_new (fun v hv => Bool.eq_false_iff.mpr fun q => h ((x.mi t.o t.i).mpr ⟨v, hv, isP_iff.mp q⟩)) (isP_self t)]
      exact find_lt ⟨u, hu, isP_iff.mpr e⟩
    · exact old
theorem inv_dat (ts : List Trip) : Inv ts (datOf ts) := by
  suffices h : ∀ (us ts : List Trip) (D : Dat), Inv ts D → Inv (ts ++ us) (us.foldl Dat.lay D) by
    exact h ts [] Dat.none ⟨fun o => by simp [Dat.none], fun o i => by simp [Dat.none], fun o i => rfl, .nil, fun _ => .nil⟩
  intro us
  induction us with
  | nil => intro ts D x; simpa using x
  | cons u us ih => intro ts D x; have := ih (ts ++ [u]) (D.lay u) (x.snoc u); simpa using this
/-- the places of the rows of one pair of names -/
noncomputable def idxP (ts : List Trip) (o i : Str) : List Nat := (List.range ts.length).filter fun j => isP o i (tripAt ts j)
noncomputable def idxB (ts : List Trip) (D : Dat) : List Nat := D.os.flatMap fun o => (D.is o).flatMap fun i => idxP ts o i
theorem tripAt_mem {ts : List Trip} {j : Nat} (h : j < ts.length) : tripAt ts j ∈ ts ∧ ts[j]? = some (tripAt ts j) := by
  have e : ts[j]? = some (tripAt ts j) := by
    unfold tripAt
    rw [List.getD_eq_getElem?_getD, List.getElem?_eq_getElem h]
    rfl
  exact ⟨List.mem_of_getElem? e, e⟩
theorem range_trips (ts : List Trip) : (List.range ts.length).map (tripAt ts) = ts := by
  apply List.ext_getElem
  · simp
  · intro i h1 h2
    have := (tripAt_mem h2).2
    rw [List.getElem?_eq_getElem h2] at this
    simp only [List.getElem_map, List.getElem_range]
    exact (Option.some.inj this).symm
theorem idxP_trips (ts : List Trip) (o i : Str) : (idxP ts o i).map (tripAt ts) = ts.filter (isP o i) := by
  unfold idxP
  have := List.filter_map (f := tripAt ts) (p := isP o i) (l := List.range ts.length)
  rw [range_trips] at this
  rw [this]
  rfl
theorem mem_idxP {ts : List Trip} {o i : Str} {j : Nat} : j ∈ idxP ts o i ↔ j < ts.length ∧ (tripAt ts j).o = o ∧ (tripAt ts j).i = i := by
  unfold idxP
  rw [List.mem_filter, List.mem_range, isP_iff]
theorem mem_idxB {ts : List Trip} {D : Dat} (x : Inv ts D) {j : Nat} : j ∈ idxB ts D ↔ j < ts.length := by
  unfold idxB
  constructor
  · intro h
    obtain ⟨o, -, h⟩ := List.mem_flatMap.mp h
    obtain ⟨i, -, h⟩ := List.mem_flatMap.mp h
    exact (mem_idxP.mp h).1
  · intro h
    have m := (tripAt_mem h).1
    exact List.mem_flatMap.mpr ⟨(tripAt ts j).o, (x.mo _).mpr ⟨_, m, rfl⟩, List.mem_flatMap.mpr ⟨(tripAt ts j).i, (x.mi _ _).mpr ⟨_, m, rfl, rfl⟩, mem_idxP.mpr ⟨h, rfl, rfl⟩⟩⟩
theorem ro_lt {k : Nat → Int × Int} {a b : Nat} (h : (k a).1 < (k b).1 ∨ (k a).1 = (k b).1 ∧ (k a).2 < (k b).2) : Ro k a b := .inl (kl_iff.mpr h)
theorem ro_eq {k : Nat → Int × Int} {a b : Nat} (h : k a = k b) (l : a < b) : Ro k a b := .inr ⟨kl_not.mpr (by rw [h]; omega), l⟩
theorem gkey_at {ts : List Trip} {o i : Str} {j : Nat} (h : j ∈ idxP ts o i) : gkey ts j = (((ts.findIdx (isO o) : Nat) : Int), ((ts.findIdx (isP o i) : Nat) : Int)) := by
  obtain ⟨-, rfl, rfl⟩ := mem_idxP.mp h
  rfl
theorem pw_flat {α β : Type} {R : β → β → Prop} {S : α → α → Prop} {f : α → List β} : ∀ {l : List α}, l.Pairwise S → (∀ a ∈ l, (f a).Pairwise R) → (∀ a ∈ l, ∀ b ∈ l, S a b → ∀ x ∈ f a, ∀ y ∈ f b, R x y) → (l.flatMap f).Pairwise R
  | [], _, _, _ => .nil
  | a :: l, h, h1, h2 => by
    rw [List.flatMap_cons]
    have h' := List.pairwise_cons.mp h
    refine List.pairwise_append.mpr ⟨h1 a (.head _), pw_flat h'.2 (fun b hb => h1 b (.tail _ hb)) fun b hb c hc => h2 b (.tail _ hb) c (.tail _ hc), fun x hx y hy => ?_⟩
    obtain ⟨b, hb, hy⟩ := List.mem_flatMap.mp hy
    exact h2 a (.head _) b (.tail _ hb) (h'.1 b hb) x hx y hy
theorem idxB_ord {ts : List Trip} {D : Dat} (x : Inv ts D) : (idxB ts D).Pairwise (Ro (gkey ts)) := by
  refine pw_flat x.po (fun o ho => pw_flat (x.pi o) (fun i hi => ?_) fun i hi i' hi' h a ha b hb => ?_) fun o ho o' ho' h a ha b hb => ?_
  · have : (idxP ts o i).Pairwise (· < ·) := List.pairwise_lt_range.filter _
    exact this.imp_of_mem fun {a b} ha hb h => ro_eq ((gkey_at ha).trans (gkey_at hb).symm) h
  · refine ro_lt (.inr ?_)
    rw [gkey_at ha, gkey_at hb]
    exact ⟨rfl, by show ((_ : Nat) : Int) < ((_ : Nat) : Int); omega⟩
  · obtain ⟨i, -, ha⟩ := List.mem_flatMap.mp ha
    obtain ⟨i', -, hb⟩ := List.mem_flatMap.mp hb
    refine ro_lt (.inl ?_)
    rw [gkey_at ha, gkey_at hb]
    show ((_ : Nat) : Int) < ((_ : Nat) : Int)
    omega
theorem ro_nodup {k : Nat → Int × Int} {l : List Nat} (h : l.Pairwise (Ro k)) : l.Nodup := h.imp fun {a b} r e => by subst e; exact Ro.irrefl r
theorem ro_asymm {k : Nat → Int × Int} {a b : Nat} (x : Ro k a b) (y : Ro k b a) : False := Ro.irrefl (x.trans y)
theorem ro_unique {k : Nat → Int × Int} : ∀ {l l' : List Nat}, l.Pairwise (Ro k) → l'.Pairwise (Ro k) → (∀ j, j ∈ l ↔ j ∈ l') → l = l'
  | [], [], _, _, _ => rfl
  | [], b :: l', _, _, h => absurd ((h b).mpr (.head _)) (by simp)
  | a :: l, [], _, _, h => absurd ((h a).mp (.head _)) (by simp)
  | a :: l, b :: l', h1, h2, h => by
    have h1' := List.pairwise_cons.mp h1
    have h2' := List.pairwise_cons.mp h2
    have e : a = b := by
      rcases List.mem_cons.mp ((h a).mp (.head _)) with q | q
      · exact q
      · rcases List.mem_cons.mp ((h b).mpr (.head _)) with q' | q'
        · exact q'.symm
        · exact (ro_asymm (h1'.1 b q') (h2'.1 a q)).elim
    subst e
    rw [ro_unique h1'.2 h2'.2 fun j => ?_]
    constructor
    · intro hj
      rcases List.mem_cons.mp ((h j).mp (.tail _ hj)) with q | q
      · subst q; exact (Ro.irrefl (h1'.1 _ hj)).elim
      · exact q
    · intro hj
      rcases List.mem_cons.mp ((h j).mpr (.tail _ hj)) with q | q
      · subst q; exact (Ro.irrefl (h2'.1 _ hj)).elim
      · exact q
theorem idxB_places {ts : List Trip} (h6 : ts.length ≤ 6) : idxB ts (datOf ts) = places (gkey ts) ts.length := by
  have p := places_ok (gkey ts) h6
  exact ro_unique (idxB_ord (inv_dat ts)) p.ord fun j => (mem_idxB (inv_dat ts)).trans ⟨fun h => p.all j h, fun h => p.lt h⟩
/-- the book tells its rows grouped -/
theorem book_grouped {ts : List Trip} (h6 : ts.length ≤ 6) : bookTrips (datOf ts) = grouped ts := by
  unfold grouped
  rw [← idxB_places h6]
  unfold bookTrips idxB floorPairs
  rw [List.map_flatMap, List.flatMap_def]
  congr 1
  refine List.map_congr_left fun o ho => ?_
  rw [List.map_flatMap, List.map_flatten, List.map_map, List.flatMap_def]
  congr 1
  refine List.map_congr_left fun i hi => ?_
  rw [idxP_trips]
  show ((datOf ts).vs o i |>.map fun v => (i, v)).map _ = _
  rw [(inv_dat ts).vv, List.map_map, List.map_map]
  refine (List.map_congr_left (g := fun t => t) fun t ht => ?_).trans (List.map_id _)
  obtain ⟨rfl, rfl⟩ := isP_iff.mp (List.mem_filter.mp ht).2
  rfl
theorem book_z {ts : List Trip} (nz : ("z" : Str) ∉ (datOf ts).os) : bookTrips ((datOf ts).addO "z") = bookTrips (datOf ts) := by
  have e : (datOf ts).addO "z" = { datOf ts with os := (datOf ts).os ++ [("z" : Str)] } := if_neg nz
  have i0 : (datOf ts).is "z" = [] := by
    cases q : (datOf ts).is "z" with
    | nil => rfl
    | cons i r =>
      have : i ∈ (datOf ts).is "z" := by rw [q]; exact .head _
      obtain ⟨t, ht, e, -⟩ := ((inv_dat ts).mi _ _).mp this
      exact absurd (((inv_dat ts).mo _).mpr ⟨t, ht, e⟩) nz
  rw [e]
  unfold bookTrips
  have f0 : floorPairs { datOf ts with os := (datOf ts).os ++ [("z" : Str)] } "z" = [] := by
    unfold floorPairs
    dsimp only
    rw [i0]; rfl
  dsimp only
  rw [List.map_append, List.flatten_append]
  have : ((["z"] : List Str).map fun o => (floorPairs { datOf ts with os := (datOf ts).os ++ [("z" : Str)] } o).map fun p => (⟨o, p.1, p.2⟩ : Trip)).flatten = [] := by
    show (List.map _ [("z" : Str)]).flatten = []
    rw [List.map_cons, f0]; rfl
  rw [this, List.append_nil]
  rfl
end Mine
end
section
open PySem PySem.W PySem.Spec PySem.Calls PyProof.Rows PySem.Builtin PySem.Builtin.Str
set_option Elab.async false
set_option tactic.hygienic false
set_option linter.unusedVariables false
set_option maxRecDepth 100000
set_option maxHeartbeats 4000000
namespace Mine
noncomputable def names5 : List Str := ["a", "", "m n", "b\"u, \"", "c"]
structure RowOk (t : Trip) : Prop where
  o : t.o ∈ names5
  i : t.i ∈ names5
  v : t.v.length ≤ 3
  k : PyData.strOk t.v = true
theorem nm_ok : ∀ x ∈ names5, PyData.strOk x = true ∧ x ≠ ("z" : Str) ∧ x ≠ ("y" : Str) ∧ x.length ≤ 10 ∧ x.cps.toList ∈ nameL := by decide +kernel
theorem z_ok : PyData.strOk ("z" : Str) = true ∧ ("z" : Str) ≠ ("y" : Str) ∧ ("z" : Str).length ≤ 10 ∧ ("z" : Str).cps.toList ∈ nameL := by decide +kernel
theorem strOk_app {a b : Str} (ha : PyData.strOk a = true) (hb : PyData.strOk b = true) : PyData.strOk (a ++ b) = true := by
  unfold PyData.strOk at *
  show (a.cps ++ b.cps).all _ = true
  rw [Array.all_append, ha, hb]; rfl
theorem strOk_join {sep : Str} (hs : PyData.strOk sep = true) : ∀ {l : List Str}, (∀ x ∈ l, PyData.strOk x = true) → PyData.strOk (Str.join sep l) = true
  | [], _ => by show PyData.strOk Str.empty = true; decide +kernel
  | [x], h => h x (.head _)
  | x :: y :: r, h => strOk_app (strOk_app (h x (.head _)) hs) (strOk_join hs fun z hz => h z (.tail _ hz))
theorem RowOk.trip {t : Trip} (h : RowOk t) : TripOk t := ⟨(nm_ok _ h.o).1, (nm_ok _ h.i).1, h.k⟩
theorem RowOk.flip {t : Trip} (h : RowOk t) : RowOk ⟨t.i, t.o, t.v⟩ := ⟨h.i, h.o, h.v, h.k⟩
theorem rowOk_of (n : Int) : RowOk (tripOf n) := by
  have h1 := modN_lt (x := n) (m := 3) (by decide)
  have h2 := modN_lt (x := n.fdiv 3) (m := 3) (by decide)
  refine ⟨?_, ?_, trip_value n, ?_⟩
  · show ((outs[modN n 3]?).getD "") ∈ names5
    generalize modN n 3 = j at h1
    have : ∀ j < 3, ((outs[j]?).getD ("" : Str)) ∈ names5 := by decide +kernel
    exact this j h1
  · show ((inns[modN (n.fdiv 3) 3]?).getD "") ∈ names5
    generalize modN (n.fdiv 3) 3 = j at h2
    have : ∀ j < 3, ((inns[j]?).getD ("" : Str)) ∈ names5 := by decide +kernel
    exact this j h2
  · show PyData.strOk (Txt.join "" (valOf n)) = true
    unfold Txt.join
    rw [StrLaws.glued_eq_join]
    refine strOk_join (by decide +kernel) fun x hx => ?_
    unfold valOf at hx
    obtain ⟨k, -, rfl⟩ := List.mem_map.mp hx
    have h3 := modN_lt (x := n.fdiv (36 * 8 ^ k)) (m := 8) (by decide)
    unfold signAt
    generalize modN (n.fdiv (36 * 8 ^ k)) 8 = j at h3
    have : ∀ j < 8, PyData.strOk ((signs[j]?).getD ("" : Str)) = true := by decide +kernel
    exact this j h3
theorem hItem_small {how i : Nat} {p : Str × Str} (h1 : p.1.length ≤ 10) (h2 : p.2.length ≤ 3) : (hItem how i p).length ≤ 40 := by
  have g := gap_len how i
  have e := esc_len p.2
  have e1 : ("=" : Str).length = 1 := by decide +kernel
  have e2 : ("\"" : Str).length = 1 := by decide +kernel
  unfold hItem
  simp only [len_app]
  omega
theorem sum_le {B : Nat} : ∀ {l : List Nat}, (∀ x ∈ l, x ≤ B) → l.sum ≤ l.length * B
  | [], _ => by simp
  | x :: l, h => by
    have h1 := h x (.head _)
    have h2 := sum_le (l := l) fun y hy => h y (.tail _ hy)
    rw [List.sum_cons, List.length_cons, Nat.add_mul]
    omega
theorem header_small {how : Nat} {ps : List (Str × Str)} (hl : ps.length ≤ 10) (h : ∀ p ∈ ps, p.1.length ≤ 10 ∧ p.2.length ≤ 3) : (header ps how).length ≤ 1000 := by
  unfold header Txt.join
  rw [StrLaws.glued_eq_join]
  have e := StrLaws.join_length_le "," (hItems how ps)
  have e1 : ("," : Str).length = 1 := by decide +kernel
  have s := sum_le (B := 40) (l := (hItems how ps).map (·.length)) fun x hx => by
    obtain ⟨it, hit, rfl⟩ := List.mem_map.mp hx
    obtain ⟨i, hi⟩ := List.mem_iff_getElem?.mp hit
    unfold hItems at hi
    rw [List.getElem?_mapIdx] at hi
    obtain ⟨p, hp, rfl⟩ := Option.map_eq_some_iff.mp hi
    obtain ⟨a, b⟩ := h p (List.mem_of_getElem? hp)
    exact hItem_small a b
  rw [List.length_map, hItems_len] at s
  rw [hItems_len, e1] at e
  omega
noncomputable def toL (p : Str × Str) : LP := (p.1.cps.toList, p.2.cps.toList)
theorem toS_toL (ps : List (Str × Str)) : (ps.map toL).map toS = ps := by
  rw [List.map_map]
  exact List.map_id _
theorem told_nil {how : Nat} : Told (header [] how) [] ∧ pairsOf [] = [] := by
  refine ⟨⟨?_, ?_, ⟨Nat.zero_le _, fun _ h => (nomatch h), fun _ h => (nomatch h), fun _ h => (nomatch h), fun j r h => by simp at h⟩⟩, rfl⟩
  · show (Txt.join "," []).length < sizeLine
    have : (Txt.join "," []).length = 0 := by decide +kernel
    rw [this]
    decide
  · show parseH (Txt.join "," []) = []
    decide +kernel
/-- a header of pairs with sound names reads as them -/
theorem told_pairs {ps : List (Str × Str)} {how : Nat} (hl : ps.length ≤ 10) (h : ∀ p ∈ ps, p.1.cps.toList ∈ nameL ∧ p.2.length ≤ 1000) : ∃ rows, Told (header ps how) rows ∧ pairsOf rows = ps := by
  by_cases h0 : ps = []
  · subst h0; exact ⟨_, told_nil⟩
  · have := told_header (ps := ps.map toL) (how := how) (by simpa using h0) (by rw [List.length_map]; exact hl) fun q hq => by
      obtain ⟨p, hp, rfl⟩ := List.mem_map.mp hq
      exact ⟨nameL_ok _ (h p hp).1, (h p hp).2⟩
    rw [toS_toL] at this
    exact ⟨_, this⟩
theorem mem_floor {D : Dat} {o : Str} {p : Str × Str} (h : p ∈ floorPairs D o) : p.1 ∈ D.is o ∧ p.2 ∈ D.vs o p.1 := by
  unfold floorPairs at h
  obtain ⟨l, hl, hp⟩ := List.mem_flatten.mp h
  obtain ⟨i, hi, rfl⟩ := List.mem_map.mp hl
  obtain ⟨v, hv, rfl⟩ := List.mem_map.mp hp
  exact ⟨hi, hv⟩
theorem len_flat {α : Type} : ∀ {L : List (List α)} {l : List α}, l ∈ L → l.length ≤ L.flatten.length
  | x :: L, l, h => by
    rw [List.flatten_cons, List.length_append]
    rcases List.mem_cons.mp h with rfl | h
    · omega
    · have := len_flat h; omega
theorem grouped_len {ts : List Trip} (h6 : ts.length ≤ 6) : (grouped ts).length = ts.length := by
  unfold grouped
  rw [List.length_map, (places_ok (gkey ts) h6).len]
theorem grouped_mem {ts : List Trip} (h6 : ts.length ≤ 6) {t : Trip} (h : t ∈ grouped ts) : t ∈ ts := by
  unfold grouped at h
  obtain ⟨j, hj, rfl⟩ := List.mem_map.mp h
  exact (tripAt_mem ((places_ok (gkey ts) h6).lt hj)).1
/-- the rows of the law's make sound turns -/
theorem turnOk {ts : List Trip} {how : Nat} (h6 : ts.length ≤ 6) (hr : ∀ t ∈ ts, RowOk t) : TurnOk ts how ((datOf ts).addO "z") := by
  have I := inv_dat ts
  have mo : ∀ o ∈ (datOf ts).os, o ∈ names5 := fun o ho => by
    obtain ⟨t, ht, rfl⟩ := (I.mo o).mp ho
    exact (hr t ht).o
  have nz : ("z" : Str) ∉ (datOf ts).os := fun h => (nm_ok _ (mo _ h)).2.1 rfl
  have eD : (datOf ts).addO "z" = { datOf ts with os := (datOf ts).os ++ [("z" : Str)] } := if_neg nz
  have eos : ((datOf ts).addO "z").os = (datOf ts).os ++ [("z" : Str)] := by rw [eD]
  have eis : ((datOf ts).addO "z").is = (datOf ts).is := by rw [eD]
  have evs : ((datOf ts).addO "z").vs = (datOf ts).vs := by rw [eD]
  have efl : ∀ o, floorPairs ((datOf ts).addO "z") o = floorPairs (datOf ts) o := fun o => by unfold floorPairs; rw [eis, evs]
  have mi : ∀ o i, i ∈ (datOf ts).is o → i ∈ names5 := fun o i hi => by
    obtain ⟨t, ht, -, rfl⟩ := (I.mi o i).mp hi
    exact (hr t ht).i
  have mv : ∀ o i v, v ∈ (datOf ts).vs o i → v.length ≤ 3 := fun o i v hv => by
    rw [I.vv] at hv
    obtain ⟨t, ht, rfl⟩ := List.mem_map.mp hv
    exact (hr t (List.mem_filter.mp ht).1).v
  have osm : ∀ o ∈ ((datOf ts).addO "z").os, PyData.strOk o = true ∧ o ≠ ("y" : Str) ∧ o.length ≤ 10 ∧ o.cps.toList ∈ nameL := fun o ho => by
    rw [eos] at ho
    rcases List.mem_append.mp ho with ho | ho
    · obtain ⟨a, -, b, c, d⟩ := nm_ok _ (mo o ho)
      exact ⟨a, b, c, d⟩
    · rw [List.mem_singleton.mp ho]; exact z_ok
  have flm : ∀ o, ∀ p ∈ floorPairs (datOf ts) o, p.1 ∈ names5 ∧ p.2.length ≤ 3 := fun o p hp => by
    obtain ⟨a, b⟩ := mem_floor hp
    exact ⟨mi o _ a, mv o _ _ b⟩
  have fll : ∀ o ∈ ((datOf ts).addO "z").os, (floorPairs (datOf ts) o).length ≤ 6 := fun o ho => by
    rw [eos] at ho
    rcases List.mem_append.mp ho with ho | ho
    · have := len_flat (L := (datOf ts).os.map fun o => (floorPairs (datOf ts) o).map fun p => (⟨o, p.1, p.2⟩ : Trip)) (List.mem_map_of_mem ho)
      have e : ((datOf ts).os.map fun o => (floorPairs (datOf ts) o).map fun p => (⟨o, p.1, p.2⟩ : Trip)).flatten = grouped ts := book_grouped h6
      rw [e, grouped_len h6, List.length_map] at this
      omega
    · rw [List.mem_singleton.mp ho]
      cases q : floorPairs (datOf ts) "z" with
      | nil => exact Nat.zero_le _
      | cons p r =>
        obtain ⟨a, -⟩ := mem_floor (p := p) (D := datOf ts) (o := "z") (by rw [q]; exact .head _)
        obtain ⟨t, ht, e, -⟩ := (I.mi _ _).mp a
        exact absurd ((I.mo _).mpr ⟨t, ht, e⟩) nz
  have osl : ((datOf ts).addO "z").os.length ≤ 7 := by
    rw [eos, List.length_append]
    have := (dat_small ts).1
    show _ + 1 ≤ 7
    omega
  have wsm : ∀ p ∈ writtenRows ((datOf ts).addO "z") how, p.1.cps.toList ∈ nameL ∧ p.1.length ≤ 10 ∧ p.2.length ≤ 1000 := fun p hp => by
    unfold writtenRows at hp
    obtain ⟨o, ho, rfl⟩ := List.mem_map.mp hp
    obtain ⟨a, b, c, d⟩ := osm o ho
    refine ⟨d, c, ?_⟩
    dsimp only
    rw [efl]
    refine header_small (by have := fll o ho; omega) fun p hp => ?_
    obtain ⟨x, y⟩ := flm o p hp
    exact ⟨(nm_ok _ x).2.2.2.1, y⟩
  refine ⟨rfl, h6, fun t ht => (hr t ht).trip, nz, fun h => (osm _ h).2.1 rfl, fun o ho h => ?_, ⟨by omega, fun o ho => ?_, fun o ho p hp => ?_, fun p hp => ⟨(wsm p hp).2.1, (wsm p hp).2.2⟩⟩, ?_, ?_, fun o ho => (osm o ho).1⟩
  · rw [eis] at h
    exact (nm_ok _ (mi o _ h)).2.2.1 rfl
  · rw [efl]; have := fll o ho; omega
  · rw [efl] at hp
    obtain ⟨x, y⟩ := flm o p hp
    exact ⟨(nm_ok _ x).2.2.2.1, by omega⟩
  · exact told_pairs (by unfold writtenRows; rw [List.length_map]; omega) fun p hp => ⟨(wsm p hp).1, (wsm p hp).2.2⟩
  · have all : ∀ o, ∃ rows, o ∈ ((datOf ts).addO "z").os → Told (header (floorPairs ((datOf ts).addO "z") o) how) rows ∧ pairsOf rows = floorPairs ((datOf ts).addO "z") o := fun o => by
      by_cases ho : o ∈ ((datOf ts).addO "z").os
      · obtain ⟨rows, h⟩ := told_pairs (ps := floorPairs ((datOf ts).addO "z") o) (how := how) (by rw [efl]; have := fll o ho; omega) fun p hp => by
          rw [efl] at hp
          obtain ⟨x, y⟩ := flm o p hp
          exact ⟨(nm_ok _ x).2.2.2.2, by omega⟩
        exact ⟨rows, fun _ => h⟩
      · exact ⟨[], fun h => absurd h ho⟩
    exact ⟨fun o => Classical.choose (all o), fun o ho => Classical.choose_spec (all o) ho⟩
theorem turn_tells {ts : List Trip} (h6 : ts.length ≤ 6) (hr : ∀ t ∈ ts, RowOk t) : bookTrips ((datOf ts).addO "z") = grouped ts := by
  rw [book_z (turnOk (how := 0) h6 hr).nz, book_grouped h6]
end Mine
end
section
open PySem PySem.W PySem.Spec PySem.Calls PyProof.Rows PySem.Builtin PySem.Builtin.Str
set_option Elab.async false
set_option tactic.hygienic false
set_option linter.unusedVariables false
set_option maxRecDepth 100000
set_option maxHeartbeats 4000000
namespace Mine
noncomputable def defOf (x : Str) : List Stmt → Option (List Stmt × Scope)
  | [] => none
  | .FunctionDef name _ body _ _ _ scope _ _ _ :: r => if name == x then some (body, scope) else defOf x r
  | _ :: r => defOf x r
noncomputable def qLaw : { q : List Stmt × Scope // defOf "law" PySem.Challenge.rw_il0131_01.prog.main.body = some q } := by
  refine ⟨?_, ?h⟩
  rotate_left
  (conv => lhs; whnf)
noncomputable abbrev envL (L fa : Addr) (cd : Value) : Env := envOfC "law" qLaw.1.2 L fa cd
theorem prog_ok : ProgOk PySem.Challenge.rw_il0131_01.prog := ⟨by kernel_rfl, by kernel_rfl⟩
section
variable {prog : Program} {w : World} {W : Wo} {A : Around} {env : Env} {g g₀ : Heap} {s s₀ : Shared} {ρ : Str → Option Dt} {l : List (Str × Dt)} {os : List Own} {Q : Flow → Shared → Prop}
/-- v[:n], v at hand -/
theorem slice_tailL {value : Expr} {hi : Option Expr} {n : Nat} {p : Pos} {ds : List Dt} {v : Value} {Q : Value → Shared → Prop} {E : Value → Shared → Prop} (S : SE prog w W env g s ρ) (r : Rd prog w g v (.lst ds)) (hh : EvP prog w W A env ρ hi (some n)) (hz : ds.length ≤ sizeLine)
    (k : ∀ u h' g' tk, 0 < tk → Ext g s.heap g' h' → Rd prog w g' u (.lst (ds.take n)) → Q u { s with heap := h', toks := tk }) :
    wpAny (model prog w) A (eval (.Slice none hi none p) env) (fun i s₂ => wpAny (model prog w) A (subscriptTail value (.Slice none hi none p) v i) Q E s₂) E s := by
  refine wpAny_Slice ?_
  rw [evalPart_none]
  refine wpAny_pure (hh.use S fun b h₃ g₃ tk₃ p₃ e₃ _ qb => ?_)
  refine wpAny_pure ?_
  have px := ext_push e₃.sub { cls := .type "slice", data := .fields #[.none, b, .none] }
  obtain ⟨a, vs, rfl, L, R⟩ := (r.mono (Ext.grow S.sub e₃)).isList px.sub
  have hsz : vs.size = ds.length := by rw [← Array.length_toList, R.length]
  refine tail_any L.typeIs slot_list_getitem.lookup (wpAny_getItem_list_slice (lo := none) (hi := some (n : Int)) (st := none) L (Heap.IsSliceOf.new ..) .none qb .none (by simp) ?_ (by rw [hsz]; exact hz)) rfl
  have pp := ext_put px.sub { cls := .type "list", data := .seq (slicePick vs none (some (n : Int)) none) } rfl
  have e0 : slicePick vs none (some (n : Int)) none = (vs.toList.take n).toArray := by
    have := slicePick_run vs 0 (min n vs.size) (Nat.min_le_right ..) (Nat.zero_le _)
    simp only [List.drop_zero, Nat.sub_zero] at this
    have e1 : vs.toList.take n = vs.toList.take (min n vs.size) := by
      rw [← Array.length_toList, List.take_eq_take_min]
    rw [e1, ← this]
    unfold slicePick sliceBounds
    have z1 : max (0 : Int) (min 0 (vs.size : Int)) = 0 := by rw [Int.min_eq_left (Int.natCast_nonneg _)]; rfl
    have z2 : max (0 : Int) (min (if (n : Int) < 0 then (n : Int) + (vs.size : Int) else (n : Int)) (vs.size : Int)) = max 0 (min (if ((min n vs.size : Nat) : Int) < 0 then ((min n vs.size : Nat) : Int) + (vs.size : Int) else ((min n vs.size : Nat) : Int)) (vs.size : Int)) := by
      rw [if_neg (Int.not_lt.mpr (Int.natCast_nonneg _)), if_neg (Int.not_lt.mpr (Int.natCast_nonneg _))]
      congr 1
      omega
    simp [z1, z2]
  refine k _ _ _ tk₃ p₃ ((e₃.trans px).trans pp) (.lst (n := 0) (gput_self _ _ _ rfl) ?_)
  rw [e0] at pp ⊢
  simpa using (R.mono (Ext.grow px.sub pp)).take n
noncomputable def numsOf (ns : List Int) : List Int := (if ns = [] then [957, 160, 5967, 3] else ns).take 6
/-- numbers = (script or [..])[:6]: the walk's first tokens are minted here -/
theorem law_first {L fa : Addr} {cd : Value} {a : Addr} {vs : List Value} {ns : List Int} {rest : List Stmt} {tk : Nat} (hh : A.handled = none) (F : ∀ tk, 0 < tk → Fs prog w W (envL L fa cd) g₀ s₀ [("script", .lst (ns.map .int))] [] os g { s with toks := tk }) (hl : s.heap.IsList a vs.toArray) (hi : IntsAre vs ns) (hz : ns.length ≤ 1000) (H : Holds (envL L fa cd) s.heap "script" (.ref a)) (rd : Rd prog w g (.ref a) (.lst (ns.map .int)))
    (kk : Go prog w W A (envL L fa cd) g₀ s₀ [("numbers", .lst ((numsOf ns).map .int)), ("script", .lst (ns.map .int))] [] os (qLaw.1.1.drop 1) Q (fun _ _ => False)) :
    wpAny (model prog w) A (execs qLaw.1.1 (envL L fa cd)) Q (fun _ _ => False) s := by
  have hs6 : sizeLine = 16777216 := rfl
  refine wpAny_execs_cons (wpAny_Assign_Name (Subscript_ (BoolOp_or ?_)) rfl)
  refine eval_holds (F 1 (by decide)).se.fn H ?_
  refine truthy_ints_fit hl hi (by omega) ?_
  have F1 := F (s.toks + 1 + 1) (Nat.succ_pos _)
  by_cases hns : ns = []
  · have e0 : decide (0 < ns.length) = false := by rw [hns]; rfl
    rw [e0]
    have en : numsOf ns = [957, 160, 5967, 3] := by unfold numsOf; rw [if_pos hns]; rfl
    rw [en] at kk
    refine BoolOp_one ((((ev_list (evl_cons ev_int (evl_cons ev_int (evl_cons ev_int (evl_cons ev_int evl_nil))))) : Ev prog w W A (envL L fa cd) (lk [("script", .lst (ns.map .int))]) _ (.lst [.int 957, .int 160, .int 5967, .int 3])).run g _ F1.se).use F1.se.pos fun v h₂ g₂ tk₂ p₂ e₂ r₂ => ?_)
    have F2 := F1.ext e₂ p₂
    refine slice_tailL (n := 6) F2.se r₂ (by exact ev_int) (by show 4 ≤ _; omega) fun u h₃ g₃ tk₃ q e₃ r₃ => ?_
    exact (F2.ext e₃ q).store (slotted_of rfl) r₃ rfl fun h₄ tk₄ F₄ => kk.run g₃ _ F₄
  · have e0 : decide (0 < ns.length) = true := by cases ns with | nil => exact absurd rfl hns | cons _ _ => rfl
    rw [e0]
    have en : numsOf ns = ns.take 6 := by unfold numsOf; rw [if_neg hns]
    rw [en] at kk
    refine slice_tailL (n := 6) F1.se rd (by exact ev_int) (by rw [List.length_map]; omega) fun u h₃ g₃ tk₃ q e₃ r₃ => ?_
    rw [← List.map_take] at r₃
    exact (F1.ext e₃ q).store (slotted_of rfl) r₃ rfl fun h₄ tk₄ F₄ => kk.run g₃ _ F₄
end
end Mine
end
section
open PySem PySem.W PySem.Spec PySem.Calls PyProof.Rows PySem.Builtin PySem.Builtin.Str
set_option Elab.async false
set_option tactic.hygienic false
set_option linter.unusedVariables false
set_option maxRecDepth 100000
set_option maxHeartbeats 4000000
namespace Mine
noncomputable def prsOf (ts : List Trip) (how : Nat) : List (Str × Str) := ts.map fun t => (t.o, header [(t.i, t.v)] how)
theorem dt_ok {t : Trip} (h : TripOk t) : t.dt.ok = true := by
  show (PyData.strOk t.o && (PyData.strOk t.i && (PyData.strOk t.v && true))) = true
  rw [h.o, h.i, h.v]; rfl
theorem dt_shaped {t : Trip} (h : TripOk t) : SeqAt.shaped t.dt.py = true ∧ t.dt.py.depth ≤ 1 := by
  show SeqAt.shaped (PyData.tuple [.str t.o, .str t.i, .str t.v]) = true ∧ (PyData.tuple [.str t.o, .str t.i, .str t.v]).depth ≤ 1
  constructor
  · simp [SeqAt.shaped, PyData.canLay0, PyData.canLayAll0, h.o, h.i, h.v, PyData.depth, PyData.depthAll]
  · simp [PyData.depth, PyData.depthAll]
theorem rows_ok {ts : List Trip} (h : ∀ t ∈ ts, TripOk t) : (Dt.lst (ts.map Trip.dt)).ok = true ∧ SeqAt.shaped (Dt.lst (ts.map Trip.dt)).py = true :=
  ⟨ok_lst fun d hd => by obtain ⟨t, ht, rfl⟩ := List.mem_map.mp hd; exact dt_ok (h t ht), shaped_lst (k := 1) (fun d hd => by obtain ⟨t, ht, rfl⟩ := List.mem_map.mp hd; exact dt_shaped (h t ht)) (by decide)⟩
theorem prs_ok {ps : List (Str × Str)} (h : ∀ p ∈ ps, PyData.strOk p.1 = true ∧ PyData.strOk p.2 = true) : (prsDt ps).ok = true ∧ SeqAt.shaped (prsDt ps).py = true := by
  unfold prsDt
  refine ⟨ok_lst fun d hd => ?_, shaped_lst (k := 1) (fun d hd => ?_) (by decide)⟩
  · obtain ⟨p, hp, rfl⟩ := List.mem_map.mp hd
    show (PyData.strOk p.1 && (PyData.strOk p.2 && true)) = true
    rw [(h p hp).1, (h p hp).2]; rfl
  · obtain ⟨p, hp, rfl⟩ := List.mem_map.mp hd
    show SeqAt.shaped (PyData.tuple [.str p.1, .str p.2]) = true ∧ (PyData.tuple [.str p.1, .str p.2]).depth ≤ 1
    constructor
    · simp [SeqAt.shaped, PyData.canLay0, PyData.canLayAll0, h p hp, PyData.depth, PyData.depthAll]
    · simp [PyData.depth, PyData.depthAll]
/-- the text of a header is sound -/
theorem strOk_iff {x : Str} : PyData.strOk x = true ↔ ∀ c ∈ x.cps.toList, c < 0x110000 := by
  unfold PyData.strOk
  rw [← Array.all_toList, List.all_eq_true]
  simp
theorem rep_mem {c a b k : Nat} {l : List Nat} (h : k ∈ rep c [a, b] l) : k = a ∨ k = b ∨ k ∈ l := by
  unfold rep at h
  obtain ⟨j, hj, hk⟩ := List.mem_flatMap.mp h
  split at hk
  · simp only [List.mem_cons, List.not_mem_nil, or_false] at hk
    rcases hk with rfl | rfl
    · exact .inl rfl
    · exact .inr (.inl rfl)
  · rw [List.mem_singleton.mp hk]; exact .inr (.inr hj)
theorem strOk_esc {v : Str} (h : PyData.strOk v = true) : PyData.strOk (esc v) = true := by
  rw [strOk_iff] at h ⊢
  rw [esc_list]
  intro k hk
  rcases rep_mem hk with rfl | rfl | hk
  · decide
  · decide
  · rcases rep_mem hk with rfl | rfl | hk
    · decide
    · decide
    · exact h k hk
theorem strOk_header {ps : List (Str × Str)} {how : Nat} (h : ∀ p ∈ ps, PyData.strOk p.1 = true ∧ PyData.strOk p.2 = true) : PyData.strOk (header ps how) = true := by
  unfold header Txt.join
  rw [StrLaws.glued_eq_join]
  refine strOk_join (by decide +kernel) fun x hx => ?_
  unfold hItems at hx
  obtain ⟨i, hi⟩ := List.mem_iff_getElem?.mp hx
  rw [List.getElem?_mapIdx] at hi
  obtain ⟨p, hp, rfl⟩ := Option.map_eq_some_iff.mp hi
  obtain ⟨a, b⟩ := h p (List.mem_of_getElem? hp)
  have g : PyData.strOk (gapOf how i) = true := by
    unfold gapOf
    have : (how + i) % 4 < 4 := Nat.mod_lt _ (by decide)
    generalize (how + i) % 4 = j at this
    have all : ∀ j < 4, PyData.strOk ((blanks[j]?).getD ("" : Str)) = true := by decide +kernel
    exact all j this
  have e1 : PyData.strOk ("=" : Str) = true := by decide +kernel
  have e2 : PyData.strOk ("\"" : Str) = true := by decide +kernel
  unfold hItem
  exact strOk_app (strOk_app (strOk_app (strOk_app (strOk_app (strOk_app g a) g) e1) g) (strOk_app (strOk_app e2 (strOk_esc b)) e2)) g
end Mine
end
section
open PySem PySem.W PySem.Spec PySem.Calls PyProof.Rows PySem.Builtin PySem.Builtin.Str
set_option Elab.async false
set_option tactic.hygienic false
set_option linter.unusedVariables false
set_option maxRecDepth 100000
set_option maxHeartbeats 4000000
namespace Mine
/-- the tables of freeze and of _law_book, under way -/
noncomputable def ownTT (o2 : Option Addr) : Own where
  fp := 112 :: 242 :: tabL o2
  xs := 112 :: 242 :: tabL o2
  O := fun g h => TabOk g h 112 posF qualF ∧ T2At g h 242 posO qualO posI qualI o2 ∧ 112 ∉ tabL o2
  ok := fun ⟨a, b, c⟩ _ _ k f => ⟨a.mono k (f _ (.head _)), T2At.mono (P := 242) (o := o2) b k fun x hx => f x (.tail _ hx), c⟩
noncomputable def flipT (t : Trip) : Trip := ⟨t.i, t.o, t.v⟩
/-- the rows at the start of turn i -/
noncomputable def rowsAt (ts : List Trip) : Nat → List Trip
  | 0 => ts
  | i + 1 => (grouped (rowsAt ts i)).map flipT
theorem rowsAt_ok {ts : List Trip} (h6 : ts.length ≤ 6) (hr : ∀ t ∈ ts, RowOk t) : ∀ i, (rowsAt ts i).length = ts.length ∧ ∀ t ∈ rowsAt ts i, RowOk t
  | 0 => ⟨rfl, hr⟩
  | i + 1 => by
    obtain ⟨a, b⟩ := rowsAt_ok h6 hr i
    have h6' : (rowsAt ts i).length ≤ 6 := by omega
    refine ⟨by show ((grouped (rowsAt ts i)).map flipT).length = _; rw [List.length_map, grouped_len h6', a], fun t ht => ?_⟩
    obtain ⟨u, hu, rfl⟩ := List.mem_map.mp ht
    exact (b u (grouped_mem h6' hu)).flip
theorem mg_triple {w : World} : mgC w.params "_law_triple" = some (.ref 223) := by kernel_rfl
theorem mg_turn {w : World} : mgC w.params "_law_turn" = some (.ref 264) := by kernel_rfl
theorem flat_single {α : Type} : ∀ l : List α, (l.map fun x => [x]).flatten = l
  | [] => rfl
  | x :: l => by rw [List.map_cons, List.flatten_cons, flat_single l]; rfl
theorem mg_grouped {w : World} : mgC w.params "_law_grouped" = some (.ref 269) := by kernel_rfl
section
variable {prog : Program} {w : World} {A : Around} {mb : Str → Option Value} {g₀ : Heap} {s₀ : Shared} {Q : Flow → Shared → Prop}
theorem fn_pairsP {ps : List (Str × Str)} {how : Nat} (hl : ps.length ≤ 10) (h : ∀ p ∈ ps, p.1.cps.toList ∈ nameL ∧ p.2.length ≤ 1000) : Fn prog w (WW w mb) 4 235 [.str (header ps how)] (prsDt ps) := by
  obtain ⟨rows, t, e⟩ := told_pairs (how := how) hl h
  have := fn_pairs (prog := prog) (w := w) (mb := mb) t.len t.parse t.ok
  rw [show rows.map (fun r => (Txt.strip r.n, unq r.val)) = ps from e] at this
  exact this
theorem fn_triplesP {ts : List Trip} {how : Nat} (h6 : ts.length ≤ 6) (hr : ∀ t ∈ ts, RowOk t) : Fn prog w (WW w mb) 5 240 [prsDt (prsOf ts how)] (.lst (ts.map Trip.dt)) := by
  have all : ∀ t : Trip, ∃ rows, t ∈ ts → Told (header [(t.i, t.v)] how) rows ∧ pairsOf rows = [(t.i, t.v)] := fun t => by
    by_cases ht : t ∈ ts
    · obtain ⟨rows, h⟩ := told_pairs (ps := [(t.i, t.v)]) (how := how) (by decide : 1 ≤ 10) fun p hp => by
        rw [List.mem_singleton.mp hp]
        exact ⟨(nm_ok _ (hr t ht).i).2.2.2.2, by have := (hr t ht).v; show t.v.length ≤ 1000; omega⟩
      exact ⟨rows, fun _ => h⟩
    · exact ⟨[], fun h => absurd h ht⟩
  have := fn_triples (prog := prog) (w := w) (mb := mb) (os := ts.map fun t => ⟨t.o, header [(t.i, t.v)] how, Classical.choose (all t)⟩) (by rw [List.length_map]; omega) fun r hr' => by
    obtain ⟨t, ht, rfl⟩ := List.mem_map.mp hr'
    exact (Classical.choose_spec (all t) ht).1
  have e1 : (ts.map fun t => (⟨t.o, header [(t.i, t.v)] how, Classical.choose (all t)⟩ : Outer)).map (fun r => (r.o, r.text)) = prsOf ts how := by rw [List.map_map]; rfl
  have e2 : ((ts.map fun t => (⟨t.o, header [(t.i, t.v)] how, Classical.choose (all t)⟩ : Outer)).map Outer.trips).flatten = ts := by
    rw [List.map_map]
    have : ts.map (Outer.trips ∘ fun t => (⟨t.o, header [(t.i, t.v)] how, Classical.choose (all t)⟩ : Outer)) = ts.map fun t => [t] := List.map_congr_left fun t ht => by
      have := (Classical.choose_spec (all t) ht).2
      show (Classical.choose (all t)).map _ = [t]
      have e : (Classical.choose (all t)).map (fun u => (⟨t.o, Txt.strip u.n, unq u.val⟩ : Trip)) = (pairsOf (Classical.choose (all t))).map fun p => ⟨t.o, p.1, p.2⟩ := by unfold pairsOf; rw [List.map_map]; rfl
      rw [e, this]; rfl
    rw [this]
    exact flat_single ts
  rw [e1, e2] at this
  exact this
set_option tactic.hygienic true in
/-- the law behind its first statement -/
theorem law_rest {L fa : Addr} {cd : Value} {N : List Int} {d0 : Dt} (PO : ProgOk prog) (R : Room A 16) (hn : N.length ≤ 6) (h0 : N ≠ [])
    (hret : ∀ g' s' l ν P', Fs prog w (WX w mb [112, 242, 266]) (envL L fa cd) g₀ s₀ l ν [ownTT (some P'), ownT 266 posG qualG] g' s' → Q (.ret (.bool true)) s') :
    Go prog w (WX w mb [112, 242, 266]) A (envL L fa cd) g₀ s₀ [("numbers", .lst (N.map .int)), ("script", d0)] [] [ownTT none, ownT 266 posG qualG] (qLaw.1.1.drop 1) Q (fun _ _ => False) := by
  have hs6 : sizeLine = 16777216 := rfl
  obtain ⟨n0, N', rfl⟩ : ∃ n0 N', N = n0 :: N' := by cases N with | nil => exact absurd rfl h0 | cons a b => exact ⟨a, b, rfl⟩
  generalize hN : n0 :: N' = N at hn
  have hts : (N.map tripOf).length ≤ 6 := by rw [List.length_map]; exact hn
  have hrow : ∀ t ∈ N.map tripOf, RowOk t := fun t ht => by obtain ⟨n, -, rfl⟩ := List.mem_map.mp ht; exact rowOk_of n
  obtain ⟨o223, h223, d223'⟩ := (d223 (w := w) (mb := mb)).at'
  obtain ⟨o230, h230, d230'⟩ := (d230 (w := w) (mb := mb)).at'
  obtain ⟨o235, h235, d235'⟩ := (d235 (w := w) (mb := mb)).at'
  obtain ⟨o240, h240, d240'⟩ := (d240 (w := w) (mb := mb)).at'
  obtain ⟨hw, hhw⟩ : ∃ hw : Nat, n0.fmod 4 = (hw : Int) := ⟨modN n0 4, modN_eq (by decide)⟩
  refine go_unpack2 (d1 := .int hw) (d2 := .lst ((N.map tripOf).map Trip.dt)) R.hd (ev_tuple (evl_cons ?how (evl_cons ?rows evl_nil))) (.inl rfl) ?_
  case how =>
    rw [← hhw]
    exact ev_bin (ev_sub (ev_name rfl) ev_int (bin_itemL (by decide) (by decide) (by rw [← hN]; rfl))) ev_int (bin_mod (by decide))
  case rows =>
    refine ev_comp [] (ds := N.map .int) (src_list R.hd (ev_name rfl)) (cl := _) rfl (fun _ h => nomatch h) clok_nil (spec1 R.hd (by simp) (by rw [List.length_map]; omega) fun C i d r hd hr => ?_)
    rw [List.getElem?_map] at hd
    rw [List.map_map, List.getElem?_map] at hr
    obtain ⟨n, hi, rfl⟩ := Option.map_eq_some_iff.mp hd
    rw [hi] at hr
    cases hr
    refine ⟨[("n", .int n)], .name, fun y hy => ?_, by simp, fun _ _ h => (nomatch h), ?_⟩
    · rw [List.mem_singleton.mp hy]; rfl
    · exact ev_call (evl_cons (ev_name rfl) evl_nil) rfl (mg_triple (w := w)) h223 d223' (fn_triple.toX (mb := mb) (X := []) ⟨rfl, rfl, rfl⟩) (R.le (by decide))
  generalize hts' : N.map tripOf = ts at hts hrow
  have prs1 : ∀ p ∈ prsOf ts hw, p.1.cps.toList ∈ nameL ∧ p.1.length ≤ 10 ∧ p.2.length ≤ 1000 ∧ PyData.strOk p.1 = true ∧ PyData.strOk p.2 = true := fun p hp => by
    obtain ⟨t, ht, rfl⟩ := List.mem_map.mp hp
    have r := hrow t ht
    obtain ⟨a, -, -, b, c⟩ := nm_ok _ r.o
    obtain ⟨a', -, -, b', c'⟩ := nm_ok _ r.i
    refine ⟨c, b, header_small (by decide : 1 ≤ 10) fun q hq => ?_, a, strOk_header fun q hq => ?_⟩
    · rw [List.mem_singleton.mp hq]; exact ⟨b', r.v⟩
    · rw [List.mem_singleton.mp hq]; exact ⟨a', r.k⟩
  have prl : (prsOf ts hw).length ≤ 6 := by unfold prsOf; rw [List.length_map]; exact hts
  -- pairs
  refine go_assignComp ["how"] (out := (prsOf ts hw).map fun p => .tup [.str p.1, .str p.2]) (ds := ts.map Trip.dt) (src_list R.hd (ev_name rfl)) (cl := _) rfl ?_ (clok_cell clok_nil rfl rfl rfl) (spec1 R.hd (by simp [prsOf]) (by rw [List.length_map]; omega) fun C i d r hd hr => ?_) ?_
  · intro p hp
    rw [List.mem_singleton.mp hp]; first | exact .head _ | exact .tail _ (.head _)
  · rw [List.getElem?_map] at hd
    unfold prsOf at hr
    rw [List.map_map, List.getElem?_map] at hr
    obtain ⟨t, hi, rfl⟩ := Option.map_eq_some_iff.mp hd
    rw [hi] at hr
    cases hr
    have r := hrow t (List.mem_of_getElem? hi)
    refine ⟨[("outer", .str t.o), ("inner", .str t.i), ("value", .str t.v)], .tup (.cons (.cons (.cons .nil))), fun y hy => ?_, (by decide +kernel : [("outer" : Str), "inner", "value"].Nodup), fun y e hy => ?_, ?_⟩
    · exact mm3 hy rfl rfl rfl
    · have hm : y = "how" := by
        unfold clρ at hy
        split at hy
        · rename_i q
          exact List.mem_singleton.mp (List.contains_iff_mem.mp q)
        · cases hy
      subst hm; rfl
    · refine ev_tuple (evl_cons (ev_name rfl) (evl_cons (ev_call (ds := [prsDt [(t.i, t.v)], .int hw]) (evl_cons (ev_list (ds := [.tup [.str t.i, .str t.v]]) (evl_cons (ev_tuple (ds := [.str t.i, .str t.v]) (evl_cons (ev_name rfl) (evl_cons (ev_name rfl) evl_nil))) evl_nil)) (evl_cons (ev_name rfl) evl_nil)) rfl (mg_header (w := w)) h230 d230' ((fn_header (ps := [(t.i, t.v)]) (how := hw) (fun p hp => ?_) (by show 1 ≤ 10; decide)).toX (mb := mb) (X := []) ⟨rfl, rfl, rfl⟩) (R.le (by decide))) evl_nil))
      rw [List.mem_singleton.mp hp]
      exact ⟨(nm_ok _ r.i).2.2.2.1, by have := r.v; show t.v.length ≤ 1000; omega⟩
  -- back
  refine go_assign (d := prsDt (prsOf ts hw)) (ev_call (evl_cons (ev_call (ds := [prsDt (prsOf ts hw), .int hw]) (evl_cons (ev_name rfl) (evl_cons (ev_name rfl) evl_nil)) rfl (mg_header (w := w)) h230 d230' ((fn_header (fun p hp => ⟨(prs1 p hp).2.1, (prs1 p hp).2.2.1⟩) (by omega)).toX (mb := mb) (X := []) ⟨rfl, rfl, rfl⟩) (R.le (by decide))) evl_nil) rfl (mg_lawPairs w.params) h235 d235' ((fn_pairsP (by omega) fun p hp => ⟨(prs1 p hp).1, (prs1 p hp).2.2.1⟩).toX (X := []) ⟨rfl, rfl, rfl⟩) (R.le (by decide))) ?_
  have Ru : A.units + 128 < cLine := by have := R.un; omega
  obtain ⟨k1, k2⟩ := prs_ok (ps := prsOf ts hw) fun p hp => ⟨(prs1 p hp).2.2.2.1, (prs1 p hp).2.2.2.2⟩
  obtain ⟨k3, k4⟩ := rows_ok fun t ht => (hrow t ht).trip
  refine go_if (b := false) (tst_or2 (b := false) (c := false) (tst_cmp (d₁ := prsDt (prsOf ts hw)) (d₂ := prsDt (prsOf ts hw)) (ev_name rfl) (ev_name rfl) (bin_neRefl k1 k2 (by omega))) fun _ => tst_cmp (d₁ := .lst (ts.map Trip.dt)) (d₂ := .lst (ts.map Trip.dt)) (ev_call (evl_cons (ev_name rfl) evl_nil) rfl (mg_triples (w := w)) h240 d240' ((fn_triplesP (how := hw) hts hrow).toX (X := []) ⟨rfl, rfl, rfl⟩) (R.le (by decide))) (ev_name rfl) (bin_neRefl k3 k4 (by omega))) (fun h => nomatch h) fun _ => go_nil fun g₁ s₁ F₁ => Go.run ?_ _ _ F₁
  have how1 : ∀ i : Nat, ((hw : Int) + (i : Int)) = ((hw + i : Nat) : Int) := fun i => rfl
  refine go_forO (ds := (List.range 2).map fun (i : Nat) => .int i) (fun i => [("rows", .lst ((rowsAt ts i).map Trip.dt)), ("how", .int hw)]) (fun i os' => ∃ o2, os' = [ownTT o2, ownT 266 posG qualG] ∧ (i = 0 ∨ o2 ≠ none)) R.hd (src_range R.hd (n := 2) ev_int rfl (mg_range w.params) (by decide)) ⟨rfl, rfl, trivial⟩ ⟨none, rfl, .inl rfl⟩ (fun i d it hd => ?_) fun os' hos => ?_
  · rw [List.getElem?_map] at hd
    obtain ⟨j, hj, rfl⟩ := Option.map_eq_some_iff.mp hd
    obtain ⟨q1, q2⟩ := List.getElem?_eq_some_iff.mp hj
    rw [List.getElem_range] at q2
    subst q2
    refine ⟨[("turn", .int i)], .name, fun y hy => ?_, by simp, fun y hy => rfl, fun E' os' hos => ?_⟩
    · rw [List.mem_singleton.mp hy]; rfl
    obtain ⟨o2, rfl, -⟩ := hos
    obtain ⟨rl, rk⟩ := rowsAt_ok hts hrow i
    have rl6 : (rowsAt ts i).length ≤ 6 := by omega
    refine .mk fun g s F => wpAny_execs_cons (wpAny_Assign_Name (wpAny_Call_NameR (ev_global F.se rfl (mg_turn (w := w)) ?_)) rfl)
    obtain ⟨o264, h264, d264'⟩ := (d264 (w := w) (mb := mb)).at'
    refine callWith_function (o := o264) (fd := (f264 w.params).1) (((evl_cons (ev_name (d := .lst ((rowsAt ts i).map Trip.dt)) rfl) (evl_cons (ev_bin (ev_name (d := .int hw) rfl) (ev_name (d := .int i) rfl) bin_addI) evl_nil) : EvL prog w (WX w mb [112, 242, 266]) _ _ (lk _) _ _)).args F.se fun vs₂ h₂ g₂ tk₂ p₂ e₂ r₂ => ?_)
    have F₂ := F.ext e₂ p₂
    refine ⟨⟨e₂.sub _ _ (F₂.se.wd.k _ _ h264), d264'⟩, ?_⟩
    obtain ⟨⟨ta, tb, tc⟩, f₂⟩ := F₂.ow _ (.head _)
    refine call_turn (s := { s with heap := h₂, toks := tk₂ }) (how := hw + i) PO (R.le (by decide)) F₂.se.toOk r₂ (turnOk rl6 rk) ta tb (fun a ha => ⟨(f₂ a ha).2.2.2.1, (f₂ a ha).2.1⟩) tc fun v g₃ h₃ tk₃ P' p₃ x₃ r₃ ta₃ tb₃ hP' off₃ nP' => ?_
    rw [turn_tells rl6 rk] at r₃
    have hxs : ∀ a ∈ (ownTT o2).xs, a ∈ (ownTT (some P')).xs := fun a ha => by
      rcases List.mem_cons.mp ha with rfl | ha
      · exact .head _
      · rcases List.mem_cons.mp ha with rfl | ha
        · exact .tail _ (.head _)
        · rcases hP' with rfl | ⟨rfl, -⟩
          · exact .tail _ (.tail _ ha)
          · cases ha
    have F₃ := F₂.mut (o' := ownTT (some P')) x₃ p₃ ⟨ta₃, tb₃, fun q => nP' (List.mem_singleton.mp q).symm⟩ (fun a ha => ?_) hxs
    rotate_left
    · obtain ⟨z1, z2⟩ := off₃ a ha
      rcases List.mem_cons.mp ha with rfl | ha
      · exact .inl ⟨.head _, z1⟩
      · rcases List.mem_cons.mp ha with rfl | ha
        · exact .inl ⟨.tail _ (.head _), z1⟩
        · have ha := List.mem_singleton.mp ha
          subst ha
          rcases hP' with rfl | ⟨rfl, q⟩
          · exact .inl ⟨.tail _ (.tail _ (.head _)), z1⟩
          · exact .inr ⟨q, z2, rfl, z1⟩
    refine F₃.store (slotted_of rfl) r₃ rfl fun h₄ tk₄ F₄ => ?_
    -- told != _law_grouped(rows)
    have trk : ∀ t ∈ rowsAt ts i, TripOk t := fun t ht => (rk t ht).trip
    have grk : ∀ t ∈ grouped (rowsAt ts i), TripOk t := fun t ht => trk t (grouped_mem rl6 ht)
    obtain ⟨m1, m2⟩ := rows_ok grk
    refine wpAny_execs_cons (wpAny_If (wpAny_isTrue_Compare1 (((ev_name (d := .lst ((grouped (rowsAt ts i)).map Trip.dt)) rfl).run g₃ _ F₄.se).use F₄.se.pos fun va h₅ g₅ tk₅ p₅ e₅ r₅ => ?_) (by with_unfolding_all rfl)))
    have F₅ := F₄.ext e₅ p₅
    refine wpAny_Call_NameR (ev_global F₅.se rfl (mg_grouped (w := w)) ?_)
    obtain ⟨o269, h269, d269'⟩ := (d269 (w := w) (mb := mb)).at'
    refine callWith_function (o := o269) (fd := (f269 w.params).1) (((evl_cons (ev_name (d := .lst ((rowsAt ts i).map Trip.dt)) rfl) evl_nil : EvL prog w (WX w mb [112, 242, 266]) _ _ (lk _) _ _)).args F₅.se fun vs₆ h₆ g₆ tk₆ p₆ e₆ r₆ => ?_)
    have F₆ := F₅.ext e₆ p₆
    refine ⟨⟨e₆.sub _ _ (F₆.se.wd.k _ _ h269), d269'⟩, ?_⟩
    obtain ⟨tg, fg⟩ := F₆.ow _ (.tail _ (.head _))
    obtain ⟨-, zg, -, gg, -⟩ := fg 266 (.head _)
    refine call_grouped (s := { s with heap := h₆, toks := tk₆ }) (R.le (by decide)) F₆.se.toOk r₆ rl6 trk tg gg zg fun vg g₇ h₇ tk₇ p₇ x₇ r₇ tg₇ gg₇ => ?_
    have F₇ := (F₆.perm (.swap _ _ _)).mut (o' := ownT 266 posG qualG) x₇ p₇ tg₇ fun a ha => .inl ⟨ha, by rw [List.mem_singleton.mp ha]; exact gg₇⟩
    have kg := (Ext.grow F₅.se.sub e₆).trans (ExtX.grow F₆.se.sub x₇)
    refine (bin_neRefl m1 m2 (by omega) g₇ _ va vg F₇.se.toOk (r₅.mono kg) r₇).use p₇ fun u h₈ g₈ tk₈ p₈ e₈ r₈ => ?_
    first | obtain rfl := r₈.inv | obtain ⟨_, rfl⟩ := r₈.inv
    refine wpAny_truthy_bool ?_
    have F₈ := (F₇.ext e₈ p₈).perm (.swap _ _ _)
    refine Go.run ?_ _ _ F₈
    refine go_nil fun g₉ s₉ F₉ => ?_
    refine Go.run ?_ _ _ F₉
    refine go_assignComp [] (out := ((grouped (rowsAt ts i)).map flipT).map Trip.dt) (ds := (grouped (rowsAt ts i)).map Trip.dt) (src_list R.hd (ev_name rfl)) (cl := _) rfl (fun _ h => nomatch h) clok_nil (spec1 R.hd (by simp) (by rw [List.length_map, grouped_len rl6]; omega) fun C j d r hd hr => ?_) ?_
    · rw [List.getElem?_map] at hd
      rw [List.map_map, List.getElem?_map] at hr
      obtain ⟨t, hi, rfl⟩ := Option.map_eq_some_iff.mp hd
      rw [hi] at hr
      cases hr
      refine ⟨[("outer", .str t.o), ("inner", .str t.i), ("value", .str t.v)], .tup (.cons (.cons (.cons .nil))), fun y hy => ?_, (by decide +kernel : [("outer" : Str), "inner", "value"].Nodup), fun _ _ h => (nomatch h), ?_⟩
      · exact mm3 hy rfl rfl rfl
      · exact ev_tuple (evl_cons (ev_name rfl) (evl_cons (ev_name rfl) (evl_cons (ev_name rfl) evl_nil)))
    · refine go_nil fun g₁ s₁ F₁ => ⟨.inl rfl, [ownTT (some P'), ownT 266 posG qualG], ⟨some P', rfl, .inr (fun h => nomatch h)⟩, g₁, F₁.weaken ⟨rfl, rfl, trivial⟩ fun _ _ q => q⟩
  · obtain ⟨o2, rfl, ho⟩ := hos
    have ho : o2 ≠ none := ho.resolve_left (by rw [List.length_map, List.length_range]; decide)
    cases o2 with
    | none => exact absurd rfl ho
    | some P' =>
      refine .mk fun g s F => wpAny_execs_cons (wpAny_Return_some (((ev_bool (b := true)).run g s F.se).use F.se.pos fun v h₂ g₂ tk₂ p₂ e₂ r₂ => ?_))
      first | obtain rfl := r₂.inv | obtain ⟨_, rfl⟩ := r₂.inv
      exact hret g₂ _ _ _ P' (F.ext e₂ p₂)
end
end Mine
end
section
open PySem PySem.W PySem.Spec PySem.Calls PyProof.Rows PySem.Builtin PySem.Builtin.Str
set_option Elab.async false
set_option tactic.hygienic false
set_option linter.unusedVariables false
set_option maxRecDepth 100000
set_option maxHeartbeats 4000000
namespace Mine
noncomputable abbrev tabs3 : List (Addr × Addr) := [(268, 266), (116, 112), (246, 242)]
theorem at3 (P : Params) : ∃ o ep, (Mine.hd.heap_1 P).lookup mainGlobals = some o ∧ o.data = .dict (esT P).1 ep := ⟨_, _, rfl, rfl⟩
theorem ns_main {P : Params} {g : Heap} {mg : Str → Option Value} (X : (Mine.hd.heap_1 P).In g) (h : g.Ns mainGlobals mg) : g.Ns mainGlobals (mgC P) ∧ ∀ x, mgC P x = mg x := by
  obtain ⟨o, es, ep, h1, h2, h3, h4⟩ := h
  obtain ⟨o', ep', e1, e2⟩ := at3 P
  have e3 := X _ _ e1
  rw [h1] at e3
  cases e3
  rw [h2] at e2
  cases e2
  exact ⟨⟨o, _, _, h1, h2, h3, fun _ => rfl⟩, h4⟩
theorem rds_ints {prog : Program} {w : World} {g : Heap} : ∀ {vs : List Value} {ns : List Int}, IntsAre vs ns → Rds prog w g vs (ns.map .int)
  | _, _, .nil => .nil
  | _, _, .cons n t h => .cons (.int n t) (rds_ints h)
theorem rd_script {prog : Program} {w : World} {P : Params} {h g : Heap} {a : Addr} {ns : List Int} {vs : List Value} (W : Well P h (.ref a) (ofPy (.list (ns.map .int)))) (k : ∀ o, h.get? a = some o → o ≠ tabObj #[] → g.get? a = some o) (hl : g.IsList a vs.toArray) (hi : IntsAre vs ns) : Rd prog w g (.ref a) (.lst (ns.map .int)) := by
  obtain ⟨o, e1, -, n, e2⟩ := hl
  have e : ofPy (.list (ns.map .int)) = .list (ofPys (ns.map .int)) := rfl
  rw [e] at W
  cases W with
  | list e3 _ =>
    have e4 := k _ e3 (fun q => by cases q)
    rw [e1] at e4
    cases e4
    dsimp only at e2
    cases e2
    exact .lst e1 (rds_ints hi)
theorem room_caller {env : Env} : Room (callerA.deeper env) 16 := ⟨rfl, by show (1 + claimMargin) + 1 + 16 < recursionLimit; decide +kernel, by show 4 + 3 + 64 * 16 + 128 < cLine; decide +kernel⟩
set_option tactic.hygienic true in
/-- the law, from its frame on -/
theorem law_all {w : World} {p : Program} {loose : List Str} {mean : ExcName → Option Value} {mg mb m : Str → Option Value} {sh h₁ : Heap} {gens : Array GenState} {drawn : Drawn} {os : OsState} {tk : Nat} {fa a : Addr} {cd : Value} {w1 : Obj} {ov : Option Value} {vs : List Value} {ns : List Int} {Q : Flow → Shared → Prop} {E : Value → Shared → Prop}
    (Xk : (Mine.hd.heap_1 w.params).In (ghostOf sh tabs3)) (T : Top p loose mean mg mb (ghostOf sh tabs3)) (F : Fr (ghostOf sh tabs3) sh.objs.size h₁ m) (N : News (ghostOf sh tabs3) sh.objs.size h₁ [(sh.objs.size + 1, w1), (266, tabObj #[]), (112, tabObj #[]), (242, tabObj #[])])
    (hc : w1.data = .cell ov) (hm : m "script" = some (.ref a)) (hW : Well w.params sh (.ref a) (ofPy (.list (ns.map .int)))) (hT : TabsAt tabs3 sh) (hI : IntsAre vs ns) (hl : (ghostOf sh tabs3).IsList a vs.toArray) (hz : ns.length ≤ 63)
    (post : ∀ h' tk', (∀ b o, (ghostOf sh tabs3).get? b = some o → h'.get? b = some o) → GrownAll tabs3 h' → Q (.ret (.bool true)) { heap := h', gens := gens, drawn := drawn, toks := tk', os := os }) :
    wpAny (model PySem.Challenge.rw_il0131_01.prog w) (callerA.deeper (envL sh.objs.size fa cd)) (execs qLaw.1.1 (envL sh.objs.size fa cd)) Q E { heap := h₁, gens := gens, drawn := drawn, toks := tk, os := os } := by
  obtain ⟨n1, n1', n1''⟩ := N (sh.objs.size + 1, w1) (.head _)
  obtain ⟨n2, n2', -⟩ := N (266, tabObj #[]) (.tail _ (.head _))
  obtain ⟨n3, n3', -⟩ := N (112, tabObj #[]) (.tail _ (.tail _ (.head _)))
  obtain ⟨n4, n4', -⟩ := N (242, tabObj #[]) (.tail _ (.tail _ (.tail _ (.head _))))
  obtain ⟨gn, mge⟩ := ns_main Xk T.g
  have rd : Rd PySem.Challenge.rw_il0131_01.prog w (ghostOf sh tabs3) (.ref a) (.lst (ns.map .int)) := rd_script hW (fun o e ne => ghost_get hT e ne) hl hI
  have gz : (ghostOf sh tabs3).objs.size = sh.objs.size := hideAll_size _ _
  have offT : ∀ b ∈ [266, 112, 242], (ghostOf sh tabs3).get? b = none := fun b hb => hideAll_none _ hb
  have ltT : ∀ b ∈ [266, 112, 242], b < sh.objs.size := fun b hb => by
    simp only [List.mem_cons, List.not_mem_nil, or_false] at hb
    rcases hb with rfl | rfl | rfl
    · exact Heap.lt_size (hT (268, 266) (.head _)).2
    · exact Heap.lt_size (hT (116, 112) (.tail _ (.head _))).2
    · exact Heap.lt_size (hT (246, 242) (.tail _ (.tail _ (.head _)))).2
  have cells : (envL sh.objs.size fa cd).cells = [(("how" : Str), sh.objs.size + 1)] := rfl
  have ltL : sh.objs.size < h₁.objs.size := F.ns.lt
  have H : Holds (envL sh.objs.size fa cd) h₁ "script" (.ref a) := .inl ⟨rfl, rfl, m, F.ns, hm⟩
  have Fs0 : ∀ tk, 0 < tk → Fs PySem.Challenge.rw_il0131_01.prog w (WX w mb [112, 242, 266]) (envL sh.objs.size fa cd) (ghostOf sh tabs3) { heap := sh, gens := gens, drawn := drawn, toks := 0, os := os } [("script", .lst (ns.map .int))] [] [ownTT none, ownT 266 posG qualG] (ghostOf sh tabs3) { heap := h₁, gens := gens, drawn := drawn, toks := tk, os := os } := fun tk p => by
    refine ⟨⟨⟨F.keep, ⟨Xk, gn, T.b, T.nolimit, T.builtins, fun _ h => (nomatch h), ?_, trivial⟩, fun _ h => (nomatch h), p⟩, rfl, rfl, rfl, ⟨ltL, rfl⟩, fun q hq => ?_, fun x d hx => ?_⟩, rfl, ⟨fun b o _ nb e => F.keep _ _ (ghost_ne e fun q => nb ?_), Nat.le_of_lt ltL, F.keep, fun _ _ => rfl⟩, ⟨m, F.ns⟩, Nat.le_refl _, none_above _ (Nat.le_of_eq gz), fun q hq => ?_, fun x y c hx hy => ?_, fun x v hx => (nomatch hx), fun o ho => ?_, ?_⟩
    · obtain ⟨bm, ob, b1, b2, b3⟩ := T.bmain
      exact ⟨bm, ob, (mge _).trans b1, b2, b3⟩
    · rw [cells] at hq
      rw [List.mem_singleton.mp hq]
      exact ⟨Heap.lt_size n1, rfl⟩
    · simp only [lk, List.lookup_cons] at hx
      split at hx
      · rename_i q'; cases hx; rw [eq_of_beq q']; exact ⟨_, H, rd⟩
      · cases hx
    · simp only [List.map_cons, List.map_nil, List.mem_cons, List.not_mem_nil, or_false] at q ⊢
      rcases q with q | q | q
      · exact .inr (.inr q)
      · exact .inl q
      · exact .inr (.inl q)
    · rw [cells] at hq
      rw [List.mem_singleton.mp hq]
      exact ⟨Nat.le_succ _, n1', n1'', ov, w1, n1, hc⟩
    · rw [cells] at hx hy
      have e1 := List.mem_singleton.mp hx
      have e2 := List.mem_singleton.mp hy
      rw [Prod.mk.injEq] at e1 e2
      exact e1.1.trans e2.1.symm
    · have cond : ∀ b ∈ [266, 112, 242], b < h₁.objs.size ∧ isTab b = false ∧ (ghostOf sh tabs3).get? b = none ∧ b ≠ (envL sh.objs.size fa cd).locals ∧ ∀ q ∈ (envL sh.objs.size fa cd).cells, q.2 ≠ b := fun b hb => by
        have l := ltT b hb
        refine ⟨Nat.lt_trans l ltL, rfl, offT b hb, Nat.ne_of_lt l, fun q hq e => ?_⟩
        rw [cells] at hq
        rw [List.mem_singleton.mp hq] at e
        exact absurd l (Nat.not_lt.mpr (e ▸ Nat.le_succ _))
      rcases List.mem_cons.mp ho with rfl | ho
      · refine ⟨⟨.inl n3, n4, fun h => nomatch h⟩, fun b hb => ⟨.inr ⟨hb, ?_⟩, cond b ?_⟩⟩
        · rcases List.mem_cons.mp hb with rfl | hb
          · exact .head _
          · rw [List.mem_singleton.mp hb]; exact .tail _ (.head _)
        · rcases List.mem_cons.mp hb with rfl | hb
          · exact .tail _ (.head _)
          · rw [List.mem_singleton.mp hb]; exact .tail _ (.tail _ (.head _))
      · rw [List.mem_singleton.mp ho]
        refine ⟨.inl n2, fun b hb => ?_⟩
        rw [List.mem_singleton.mp hb]
        exact ⟨.inr ⟨.head _, .tail _ (.tail _ (.head _))⟩, cond _ (.head _)⟩
    · refine .cons (fun o' ho' b hb => ?_) (List.pairwise_singleton _ _)
      rw [List.mem_singleton.mp ho']
      rcases List.mem_cons.mp hb with rfl | hb
      · decide
      · rw [List.mem_singleton.mp hb]; decide
  have nz : numsOf ns ≠ [] := by
    unfold numsOf
    split
    · decide
    · rename_i h
      cases ns with
      | nil => exact absurd rfl h
      | cons n r => intro q; cases q
  have nl : (numsOf ns).length ≤ 6 := by unfold numsOf; rw [List.length_take]; omega
  obtain ⟨oL, eL1, eL2⟩ := hl
  refine wpAny_mono (law_first (s := { heap := h₁, gens := gens, drawn := drawn, toks := tk, os := os }) (tk := tk) (rest := []) (A := callerA.deeper (envL sh.objs.size fa cd)) rfl (fun tk p => Fs0 tk p) ⟨oL, F.keep _ _ eL1, eL2⟩ hI (by omega) H rd ?_) (fun _ _ z => z) fun _ _ z => z.elim
  refine law_rest prog_ok room_caller nl nz fun g' s' l ν P' F' => ?_
  obtain ⟨⟨t1, t2, -⟩, -⟩ := F'.ow _ (.head _)
  obtain ⟨t3, -⟩ := F'.ow _ (.tail _ (.head _))
  have kp : Kp (ghostOf sh tabs3) s'.heap := (ExtX.grow (fun b o e => of_hideAll _ e) F'.bs).trans F'.se.sub
  have grT : ∀ {g h : Heap} {P : Addr} {pos : Pos} {qual : Str}, TabOk g h P pos qual → GrownAt P h := fun x => by
    rcases x with x | ⟨c', x, -⟩
    · exact ⟨_, x⟩
    · exact ⟨_, x⟩
  have := post s'.heap s'.toks kp ⟨grT t3, grT t1, (let ⟨⟨c', x, _, _⟩, _, _⟩ := t2; ⟨_, x⟩), trivial⟩
  rw [F'.sh]; exact this
end Mine
end
open PySem PySem.W PySem.Spec PySem.Calls PyProof.Rows
set_option Elab.async true
set_option maxRecDepth 100000
set_option maxHeartbeats 8000000
namespace Mine.main
theorem tw14510055921401542917 : True := trivial
theorem tw16000516295123691885 : True := trivial
theorem tw11156056980113079860 : True := trivial
theorem tw496957432446577329 : True := trivial
theorem tw16826212616301561204 : True := trivial
theorem tw4352565271842959096 : True := trivial
theorem tw3957732937648964663 : True := trivial
theorem tw1444470235128671497 : True := trivial
theorem tw8439145842765281366 : True := trivial
theorem tw15192463279097143943 : True := trivial
theorem tw587027183488705336 : True := trivial
theorem tw958032410127006724 : True := trivial
theorem tw4108550071563198673 : True := trivial
theorem tw3282683096612927266 : True := trivial
theorem tw1429040668314091153 : True := trivial
theorem tw14788915703135433725 : True := trivial
theorem tw10642606787283503386 : True := trivial
theorem tw10391951854915411234 : True := trivial
theorem tw7046553051531188497 : True := trivial
theorem tw14635473669698735251 : True := trivial
theorem tw1850612553970854742 : True := trivial
theorem tw6361450105264607166 : True := trivial
theorem tw17958375852430007124 : True := trivial
theorem tw8356715770997125795 : True := trivial
theorem tw2729793432009153956 : True := trivial
theorem tw5061512775090418087 : True := trivial
theorem tw10665089971535097683 : True := trivial
theorem tw1306636233014830658 : True := trivial
theorem tw7173573769161785238 : True := trivial
theorem tw52199770228462824 : True := trivial
theorem tw13301926697755358949 : True := trivial
theorem tw17974016328880235120 : True := trivial
theorem tw1409966394225722968 : True := trivial
theorem tw1304016184895156253 : True := trivial
theorem tw7237411587787531456 : True := trivial
theorem tw1872026599275502106 : True := trivial
theorem tw12343854547171428336 : True := trivial
theorem tw8652556701797213591 : True := trivial
theorem tw11151226204135878920 : True := trivial
theorem tw1628013610222277130 : True := trivial
theorem tw7751025194823839400 : True := trivial
theorem tw10147355735264893470 : True := trivial
theorem tw9848185148710128376 : True := trivial
theorem tw2227430411747474389 : True := trivial
theorem tw4651154628705390771 : True := trivial
theorem tw3549514262204291990 : True := trivial
theorem tw11710404883906591787 : True := trivial
theorem tw8947760058931562597 : True := trivial
theorem tw8748973510418095054 : True := trivial
theorem tw13898110531924571043 : True := trivial
theorem tw9302470337196694018 : True := trivial
theorem tw15577286369154851727 : True := trivial
theorem tw14560460549640227032 : True := trivial
theorem tw13962693860625380366 : True := trivial
theorem tw17561526911342447988 : True := trivial
theorem tw5532463470591059822 : True := trivial
theorem tw341453280667917650 : True := trivial
theorem tw18332899500509843999 : True := trivial
theorem tw10298723112805639129 : True := trivial
theorem tw9155575984036265788 : True := trivial
theorem tw17118054049896295152 : True := trivial
theorem tw16798622893749714585 : True := trivial
theorem tw14759895335926876869 : True := trivial
theorem tw14819616344575170669 : True := trivial
theorem tw3674409469955505439 : True := trivial
theorem tw16468494690219507866 : True := trivial
theorem tw8467378866343419333 : True := trivial
theorem tw13402765919934010277 : True := trivial
theorem tw18421580907717582127 : True := trivial
theorem tw6912675738884088206 : True := trivial
theorem tw12205347405646519318 : True := trivial
theorem tw2225956059507018244 : True := trivial
theorem tw3796207824708393856 : True := trivial
theorem tw10234815189450012239 : True := trivial
theorem tw14539993770535171780 : True := trivial
theorem tw16008252555379753968 : True := trivial
theorem tw12885673836220544336 : True := trivial
theorem tw7846812961960373227 : True := trivial
theorem tw14955407792418564488 : True := trivial
theorem tw12518504611687188807 : True := trivial
theorem tw16452447596832230105 : True := trivial
theorem tw5871769198996169552 : True := trivial
theorem tw7590696779544312186 : True := trivial
theorem tw10334261112615635914 : True := trivial
theorem tw7380652910202371479 : True := trivial
theorem tw12431561837914552411 : True := trivial
theorem tw6688985731102667080 : True := trivial
theorem tw17146568849442343683 : True := trivial
theorem tw2544328076492683441 : True := trivial
theorem tw1099256609624015869 : True := trivial
theorem tw15624239662980076321 : True := trivial
theorem tw14009396871252706886 : True := trivial
theorem tw1615956725737779560 : True := trivial
theorem tw9563168847844234846 : True := trivial
theorem tw5585478044538960755 : True := trivial
theorem tw1453356044741674121 : True := trivial
theorem tw13110577991587790113 : True := trivial
theorem tw16721930046160240684 : True := trivial
theorem tw15514936471743626214 : True := trivial
theorem tw1677766988990989824 : True := trivial
theorem tw16519101796099990279 : True := trivial
theorem tw15869697094968300390 : True := trivial
theorem tw6557543464795787104 : True := trivial
theorem tw12057704586751987240 : True := trivial
theorem tw2895952525429962455 : True := trivial
theorem tw16778611742570070204 : True := trivial
theorem tw15734660467963936456 : True := trivial
theorem tw9670510015898674028 : True := trivial
theorem tw2195194259037543316 : True := trivial
theorem tw14793117695081215449 : True := trivial
theorem tw15734200111481486640 : True := trivial
theorem tw6385024630547198690 : True := trivial
theorem tw13803360072150633466 : True := trivial
theorem tw7235775444256392728 : True := trivial
theorem tw7074144079889050967 : True := trivial
theorem tw33456957511925785 : True := trivial
theorem tw8079908401900000222 : True := trivial
theorem tw15485851114877660061 : True := trivial
theorem tw452746233719593009 : True := trivial
theorem tw6334894449686545209 : True := trivial
theorem tw5518243967957118194 : True := trivial
theorem tw4126091431370883743 : True := trivial
theorem tw16356685582667847594 : True := trivial
theorem tw1750853009144216356 : True := trivial
theorem tw7153082081811710619 : True := trivial
theorem tw9976160756891316704 : True := trivial
theorem tw223528310411579522 : True := trivial
theorem tw13350764725976880583 : True := trivial
theorem tw2019394398466159022 : True := trivial
theorem tw6886502059237256666 : True := trivial
theorem tw3557749057250611081 : True := trivial
theorem tw3829396358689915599 : True := trivial
theorem tw12900284412222446716 : True := trivial
theorem tw16046730324260685337 : True := trivial
theorem tw13838900630717943254 : True := trivial
theorem tw5240779543111244032 : True := trivial
theorem tw15737690656516749961 : True := trivial
theorem tw13355152605343272895 : True := trivial
theorem tw1714950047550659301 : True := trivial
theorem tw8440099810896429113 : True := trivial
theorem tw14771111431291430275 : True := trivial
theorem tw3045742163950154196 : True := trivial
theorem tw4990475226369331113 : True := trivial
theorem tw11982392923317675503 : True := trivial
theorem tw7761410557224570781 : True := trivial
theorem tw16922381011570985944 : True := trivial
theorem tw3454311308915712629 : True := trivial
theorem tw7875838824674609581 : True := trivial
theorem tw14913163370371810674 : True := trivial
theorem tw6511744376749373798 : True := trivial
theorem tw302440914744352476 : True := trivial
theorem tw1178595665728414349 : True := trivial
theorem tw979501456738626862 : True := trivial
theorem tw221909299271738847 : True := trivial
theorem tw4039676971129161736 : True := trivial
theorem tw17223442867436993403 : True := trivial
theorem tw4681395471914393968 : True := trivial
theorem tw15768048840197415361 : True := trivial
theorem tw4500915450034043215 : True := trivial
theorem tw15342904991969174519 : True := trivial
theorem tw15017983477296125989 : True := trivial
theorem tw18190005008629794160 : True := trivial
theorem tw8466321980469482115 : True := trivial
theorem tw2921621734765799159 : True := trivial
theorem tw6449824600675878752 : True := trivial
theorem tw17725498274588495791 : True := trivial
theorem tw9508770018378322450 : True := trivial
theorem tw16572128252103988241 : True := trivial
theorem tw1277820614484962519 : True := trivial
theorem tw1156462466702112376 : True := trivial
theorem tw14672674291997333471 : True := trivial
theorem tw15595112118272840620 : True := trivial
theorem tw1270039299266317192 : True := trivial
theorem tw11646826074482590764 : True := trivial
theorem tw2238316416991798583 : True := trivial
theorem tw8118072479153026202 : True := trivial
theorem tw9190990891756207365 : True := trivial
theorem tw2007339730380871907 : True := trivial
theorem tw16049902774474827687 : True := trivial
theorem tw15365013842991253249 : True := trivial
theorem tw2702614204127132176 : True := trivial
theorem tw7083192437325867461 : True := trivial
theorem tw1054321117371714560 : True := trivial
theorem tw7173623326730630234 : True := trivial
theorem tw1236483940969888574 : True := trivial
theorem tw12941917028564957548 : True := trivial
theorem tw4072190877284726289 : True := trivial
theorem tw11135027115929721415 : True := trivial
theorem tw1439166485080882 : True := trivial
theorem tw2724176850512262202 : True := trivial
theorem tw9897820754763898449 : True := trivial
theorem tw3613476055612923068 : True := trivial
theorem tw12361340156312767134 : True := trivial
theorem tw18218335207050127959 : True := trivial
theorem tw6545385358150927430 : True := trivial
theorem tw17477492558424962760 : True := trivial
theorem tw9925469786538053656 : True := trivial
theorem tw4452170602077327944 : True := trivial
theorem tw66260789543402106 : True := trivial
theorem tw16480584520131690045 : True := trivial
theorem tw451873465583785326 : True := trivial
theorem tw2406621943657119228 : True := trivial
theorem tw16710147508514199302 : True := trivial
theorem tw9730157408454304684 : True := trivial
theorem tw14457758005677747962 : True := trivial
theorem tw17336282652733537790 : True := trivial
theorem tw16008457594558532635 : True := trivial
theorem tw4365514962571936147 : True := trivial
theorem tw10876375607700338302 : True := trivial
theorem tw14907226015203709474 : True := trivial
theorem tw2496676261509829067 : True := trivial
theorem tw9498315638749924794 : True := trivial
theorem tw13667920496262714385 : True := trivial
theorem tw5649967823195072380 : True := trivial
theorem tw3626430660855392483 : True := trivial
theorem tw1678875084529416142 : True := trivial
theorem tw7221758910455160077 : True := trivial
theorem tw5084117380071580128 : True := trivial
theorem tw15467891735981029475 : True := trivial
theorem tw12670839924663504800 : True := trivial
theorem tw18063282731904131703 : True := trivial
theorem tw3960113756560652017 : True := trivial
theorem tw14662554035588321541 : True := trivial
theorem tw4189750870438640210 : True := trivial
theorem tw1504049600530537962 : True := trivial
theorem tw1084114956928915155 : True := trivial
theorem tw10896356407431480244 : True := trivial
theorem tw7411558596216406370 : True := trivial
theorem tw15303317825217679618 : True := trivial
theorem tw5507402815253087181 : True := trivial
theorem tw7293298908176781663 : True := trivial
theorem tw14027531716089632829 : True := trivial
theorem tw15270170921892066516 : True := trivial
theorem tw9656510801202774680 : True := trivial
theorem tw7308723440029596264 : True := trivial
theorem tw17292155258170135553 : True := trivial
theorem tw3532412968194664532 : True := trivial
theorem tw6697339332421208802 : True := trivial
theorem tw15803610866087392283 : True := trivial
theorem tw15131278010643852716 : True := trivial
theorem tw10094358506670053839 : True := trivial
theorem tw15491723280356408159 : True := trivial
theorem tw8475525182357872103 : True := trivial
theorem tw12927740378394474205 : True := trivial
theorem tw10450603732522932521 : True := trivial
theorem tw12247328531587918298 : True := trivial
theorem tw3562595001068472590 : True := trivial
theorem tw9268297945177815525 : True := trivial
theorem tw5571399437266216444 : True := trivial
theorem tw17272174723667511238 : True := trivial
theorem tw15806524323241146399 : True := trivial
theorem tw11101190512080308003 : True := trivial
theorem tw4637267157515435788 : True := trivial
theorem tw6801380410627298636 : True := trivial
theorem tw17052023290607921161 : True := trivial
theorem tw4261964983698606537 : True := trivial
theorem tw9512817274939609580 : True := trivial
theorem tw13876859957761632879 : True := trivial
theorem tw13724616953566380437 : True := trivial
theorem tw17353955331779342651 : True := trivial
theorem tw7712634645042067442 : True := trivial
theorem tw13693970394777133609 : True := trivial
theorem tw8278394305814214361 : True := trivial
theorem tw4297412468100583042 : True := trivial
theorem tw1826329307503635854 : True := trivial
theorem tw2759098988195820126 : True := trivial
theorem tw11501822485730972192 : True := trivial
theorem tw16965079339398995527 : True := trivial
theorem tw17510229520200029679 : True := trivial
theorem tw17679725944135375923 : True := trivial
theorem tw2629084897520917108 : True := trivial
theorem tw13626721169425172152 : True := trivial
theorem tw11003572833241299968 : True := trivial
theorem tw14061640607465278742 : True := trivial
theorem tw8627561154394265716 : True := trivial
theorem tw15109750227778091905 : True := trivial
theorem tw4038153913678941442 : True := trivial
theorem tw3027586509356016917 : True := trivial
theorem tw3706830351922483016 : True := trivial
theorem tw16526465390540125346 : True := trivial
theorem tw10625486282989778954 : True := trivial
theorem tw17708487481403421675 : True := trivial
theorem tw12690843524423533682 : True := trivial
theorem tw4812270449578504274 : True := trivial
theorem tw5429916682960757874 : True := trivial
theorem tw8211959896082780389 : True := trivial
theorem tw1363464937288350761 : True := trivial
theorem tw14148177179885854485 : True := trivial
theorem tw11785714552879321826 : True := trivial
theorem tw11221353774195762014 : True := trivial
theorem tw10825838108423173272 : True := trivial
theorem tw4900431672193113347 : True := trivial
theorem tw10821422270917381399 : True := trivial
theorem tw10707853282979444102 : True := trivial
theorem tw17737603089517620647 : True := trivial
theorem tw16923884221124529275 : True := trivial
theorem tw6785657489111691699 : True := trivial
theorem tw8663697691656813868 : True := trivial
theorem tw18134284020713443437 : True := trivial
theorem tw6541472054586571296 : True := trivial
theorem tw5102693214775723256 : True := trivial
theorem tw9840939614602229412 : True := trivial
theorem tw16320729459185622934 : True := trivial
theorem tw13224007501803129859 : True := trivial
theorem tw6696893160125735727 : True := trivial
theorem tw17695171507069755227 : True := trivial
theorem tw7186131708394509389 : True := trivial
theorem tw7268301785047649679 : True := trivial
theorem tw4458048076830672230 : True := trivial
theorem tw10669944970481658594 : True := trivial
theorem tw3466206800631347469 : True := trivial
theorem tw5203219222101121401 : True := trivial
theorem tw2583023086579268501 : True := trivial
theorem tw10877679251791092727 : True := trivial
theorem tw18315214858253571532 : True := trivial
theorem tw6044114016751833949 : True := trivial
theorem tw16832360635688203351 : True := trivial
theorem tw11752208632293872130 : True := trivial
theorem tw6053611964639427726 : True := trivial
theorem tw8729708805864041840 : True := trivial
theorem tw3779293765908593550 : True := trivial
theorem tw17236958762192778904 : True := trivial
theorem tw9957550378297406723 : True := trivial
theorem tw2647654807098235363 : True := trivial
theorem tw16361134009908129286 : True := trivial
theorem tw4475767826048309731 : True := trivial
theorem tw750237026923860459 : True := trivial
theorem tw4333880214566435006 : True := trivial
theorem tw387501639795913443 : True := trivial
theorem tw10047389527955405517 : True := trivial
theorem tw14639212616227390028 : True := trivial
theorem tw3137596982192898869 : True := trivial
theorem tw5400957986263281647 : True := trivial
theorem tw6862492499505807319 : True := trivial
theorem tw16187894506366716058 : True := trivial
theorem tw9361300454564663673 : True := trivial
theorem tw10177057350305019805 : True := trivial
theorem tw18431692314602308842 : True := trivial
theorem tw1777545030009416734 : True := trivial
theorem tw16153842264607907944 : True := trivial
theorem tw2538046985915079169 : True := trivial
theorem tw13270728482189477470 : True := trivial
theorem tw834873547066669988 : True := trivial
theorem tw16251939892948500945 : True := trivial
theorem tw832900586485598795 : True := trivial
theorem tw5665406974723832613 : True := trivial
theorem tw12483276189755474720 : True := trivial
theorem tw10609540516017602915 : True := trivial
theorem tw4585930131862741453 : True := trivial
theorem tw8207831470162742035 : True := trivial
theorem tw12298629886278197574 : True := trivial
theorem tw3343439749351644125 : True := trivial
theorem tw6112859857366181021 : True := trivial
theorem tw16193401482309157537 : True := trivial
theorem tw18403998269306519403 : True := trivial
theorem tw2921958311620399285 : True := trivial
theorem tw14909365282108701170 : True := trivial
theorem tw14439473939278146460 : True := trivial
theorem tw3934531018447913466 : True := trivial
theorem tw8930851030842425676 : True := trivial
theorem tw6877560268529008848 : True := trivial
theorem tw9561784451562097942 : True := trivial
theorem tw12252054271945606052 : True := trivial
theorem tw6635558491612396129 : True := trivial
theorem tw13113777628852026922 : True := trivial
theorem tw5665735395497279834 : True := trivial
theorem tw2110754180369666209 : True := trivial
theorem tw4839478117068044826 : True := trivial
theorem tw14106445559736802775 : True := trivial
theorem tw14097447854668400296 : True := trivial
theorem tw13676971244355772609 : True := trivial
theorem tw9069182735580402390 : True := trivial
theorem tw1130211791997205004 : True := trivial
theorem tw14722489848711283861 : True := trivial
theorem tw6910295442248876197 : True := trivial
theorem tw14646587721710459877 : True := trivial
theorem tw6222487380544312443 : True := trivial
theorem tw5240536507193477226 : True := trivial
theorem tw6418098437765475518 : True := trivial
theorem tw5401703158475992631 : True := trivial
theorem tw3299218664060906527 : True := trivial
theorem tw1390771862084280389 : True := trivial
end Mine.main
theorem Mine.main : PySem.Challenge.rw_il0131_01.Holds := by
  w_on; o_law; k_head
  (case hw => w_witness2)
  k_go0
  rename_i w1W r0 hI hrr hcond hcond2 hD h1 tk w1 right X0 Xk T Kb F c1 c2 N l0
  refine Mine.law_all Xk T F N right rfl w1W (by assumption) hI lifted (by omega) fun h' tk' kp gr => ⟨⟨.inl ⟨.bool true, .bool true, [], rfl, fun _ => rfl, .bool true, ?_, fun _ => ⟨.nil, fun _ h => nomatch h⟩⟩, kp, rfl, by assumption⟩, gr⟩
  kernel_rfl
theorem PySem.Challenge.cw_il0131_01_holds : PySem.Challenge.rw_il0131_01.Holds :=
  Mine.main
