import PyProof.Rows.All
import Wide.All
import OpenK.AllK
import Wide.FinOn
import PyProof.Rows.ListMul
import PyProof.TupleKey
import PyProof.MeetsSeq3
import PyProof.Rows.SeqSliceW
import PyProof.Rows.SortRev
import PyProof.ListIndexNeg
import PyProof.Rows.StrIndexOr
import PyProof.MeetsStr2
import KE.KSortTup
import Lean
import PySem.Challenge.RW_pg0319_02
set_option Elab.async false
section
open PySem PySem.W PyProof.Rows
set_option maxRecDepth 100000
namespace Mine
/-! the top, run over a tree of objects -/
noncomputable def topRunT (tb : String → Option Builtin) (p : Program) (w : World) (n₀ : Nat) (ann : Option Value) : Nat → SharedT → Thread → Option SharedT
  | 0, _, _ => none
  | n + 1, s, t => match through t with
    | true => some s
    | false => match stepOk n₀ ann t with
      | false => none
      | true => match stepT (denote tb) p w s t with
        | some (s', t') => topRunT tb p w n₀ ann n s' t'
        | none => none
theorem topRun_ofT {tb : String → Option Builtin} {p : Program} {w : World} {n₀ : Nat} {ann : Option Value} : ∀ {n : Nat} {s r : SharedT} {t : Thread}, topRunT tb p w n₀ ann n s t = some r → topRun tb p w n₀ ann n s.abs t = some r.abs
  | 0, _, _, _, h => nomatch h
  | n + 1, s, r, t, h => by
    unfold topRunT at h
    unfold topRun
    cases ht : through t with
    | true => rw [ht] at h; cases h; rfl
    | false =>
      rw [ht] at h
      cases hk : stepOk n₀ ann t with
      | false => rw [hk] at h; cases h
      | true =>
        rw [hk] at h
        cases hs : stepT (denote tb) p w s t with
        | none => rw [hs] at h; cases h
        | some q => obtain ⟨s₂, t₂⟩ := q; rw [hs] at h; dsimp only; rw [stepT_spec hs]; exact topRun_ofT h
noncomputable def growT : List Obj → Nat → BT → Option BT
  | [], _, t => some t
  | o :: r, n, t => match ((t.ins n o).get n).isSome with
    | true => growT r (n + 1) (t.ins n o)
    | false => none
theorem growT_abs (life : Life) : ∀ (l : List Obj) (n : Nat) (t t' : BT), growT l n t = some t' → (absHeap t' (n + l.length) life) = ⟨(absHeap t n life).objs ++ l.toArray, life⟩
  | [], n, t, t', h => by cases h; simp [absHeap]
  | o :: r, n, t, t', h => by
    unfold growT at h
    cases hs : ((t.ins n o).get n).isSome with
    | false => rw [hs] at h; cases h
    | true =>
      rw [hs] at h
      have ih := growT_abs life r (n + 1) (t.ins n o) t' h
      rw [absHeap_ins hs] at ih
      rw [List.length_cons, show n + (r.length + 1) = n + 1 + r.length by omega, ih]
      simp [Heap.push]
noncomputable def topFromT (tb : String → Option Builtin) (p : Program) (w : World) (N : Nat) (s₀ : Shared) : Option Shared :=
  match s₀.heap.isNs mainGlobals && s₀.gens.size == 0 with
  | true => match growT s₀.heap.objs.toList 0 .nil with
    | some T => (topRunT tb p w s₀.heap.objs.size (s₀.heap.nsMap mainGlobals "__annotations__") N ⟨T, s₀.heap.objs.toList.length, s₀.heap.life, s₀.gens, s₀.drawn, s₀.toks, s₀.os⟩ (topStub p)).bind fun r => match staticsOk (importedModules p.main.body) s₀.heap r.abs.heap && namesBound p r.abs.heap && gensDone r.abs && laidKept s₀.heap r.abs.heap with
      | true => some r.abs
      | false => none
    | none => none
  | false => none
theorem topFrom_ofT {tb : String → Option Builtin} {p : Program} {w : World} {N : Nat} {s₀ s : Shared} (h : topFromT tb p w N s₀ = some s) : topFrom tb p w N s₀ = some s := by
  unfold topFromT at h
  unfold topFrom
  cases h1 : s₀.heap.isNs mainGlobals && s₀.gens.size == 0 with
  | false => rw [h1] at h; cases h
  | true =>
    rw [h1] at h
    dsimp only at h ⊢
    cases h2 : growT s₀.heap.objs.toList 0 .nil with
    | none => rw [h2] at h; cases h
    | some T =>
      rw [h2] at h
      dsimp only at h
      obtain ⟨r, hr, h3⟩ := Option.bind_eq_some_iff.mp h
      have ha := growT_abs s₀.heap.life _ _ _ _ h2
      rw [Nat.zero_add] at ha
      have e : (⟨T, s₀.heap.objs.toList.length, s₀.heap.life, s₀.gens, s₀.drawn, s₀.toks, s₀.os⟩ : SharedT).abs = s₀ := by
        unfold SharedT.abs
        dsimp only
        rw [ha]
        obtain ⟨⟨objs, life⟩, gens, drawn, toks, os⟩ := s₀
        simp [absHeap, BT.list]
      have := topRun_ofT hr
      rw [e] at this
      rw [this]
      exact h3
noncomputable def openEndsT (tb : String → Option Builtin) (p : Program) (w : World) (N : Nat) : Option Shared := (fencedOpening tb p w N).bind (topFromT tb p w N)
theorem ends_ofT {p : Program} {w : World} {N : Nat} {β : Type} {f : Shared → β} {b : β} (h : (openEndsT treeTable p w N).map f = some b) : (openEnds treeTable p w N).map f = some b := by
  obtain ⟨s, h1, h2⟩ := Option.map_eq_some_iff.mp h
  obtain ⟨s₀, h3, h4⟩ := Option.bind_eq_some_iff.mp h1
  unfold openEnds
  rw [h3]
  show (topFrom treeTable p w N s₀).map f = _
  rw [topFrom_ofT h4, ← h2]; rfl
end Mine
end

section
open PySem PySem.Calls PyProof.Rows PySem.W
set_option maxRecDepth 100000
set_option linter.unusedVariables false
namespace Mine

/-- plain data, and own instances with their fields -/
inductive D where
  | none
  | bool (b : Bool)
  | int (i : Int)
  | str (s : Str)
  | tup (xs : List D)
  | lst (xs : List D)
  | inst (C : Addr) (fs : List (Str × D))
  | rng (a b : Int)
  | opq (a : Addr)

noncomputable abbrev Fz := Addr → Option Obj
noncomputable def Fle (F G : Fz) : Prop := ∀ a o, F a = some o → G a = some o
theorem Fle.refl (F : Fz) : Fle F F := fun _ _ e => e
theorem Fle.trans {F G H : Fz} (x : Fle F G) (y : Fle G H) : Fle F H := fun a o e => y a o (x a o e)

noncomputable def NoMore (fs : List (Str × D)) (es : Array DictEntry) : Prop := ∀ y, fs.lookup y = none → nsFind es y = none
mutual
inductive Rd (F : Fz) : D → Value → Prop
  | none : Rd F .none .none
  | bool (b : Bool) : Rd F (.bool b) (.bool b)
  | int (i : Int) (t : Tok) : Rd F (.int i) (.int i t)
  | str (x : Str) (t : Tok) : Rd F (.str x) (.str x t)
  | lst {a : Addr} {o : Obj} {vs : Array Value} {n : Nat} {ds : List D} : F a = some o → o.cls = .type "list" → o.data = .seq vs n → RdL F ds vs.toList → Rd F (.lst ds) (.ref a)
  | tup {a : Addr} {o : Obj} {vs : Array Value} {n : Nat} {ds : List D} : F a = some o → o.cls = .type "tuple" → o.data = .seq vs n → RdL F ds vs.toList → Rd F (.tup ds) (.ref a)
  | inst {x dx C : Addr} {od : Obj} {es : Array DictEntry} {k : Nat} {fs : List (Str × D)} : F x = some (instObj C dx) → F dx = some od → od.data = .dict es k → StrKeys es → RdF F fs es → NoMore fs es → Rd F (.inst C fs) (.ref x)
  | rng {r : Addr} {a b : Int} {t u v : Tok} : F r = some { cls := .type "range", dict := .none, data := .fields #[.int a t, .int b u, .int 1 v], slots := #[] } → Rd F (.rng a b) (.ref r)
  | opq {a : Addr} {o : Obj} : F a = some o → Rd F (.opq a) (.ref a)
inductive RdL (F : Fz) : List D → List Value → Prop
  | nil : RdL F [] []
  | cons {d : D} {v : Value} {ds : List D} {vs : List Value} : Rd F d v → RdL F ds vs → RdL F (d :: ds) (v :: vs)
inductive RdF (F : Fz) : List (Str × D) → Array DictEntry → Prop
  | nil {es : Array DictEntry} : RdF F [] es
  | cons {x : Str} {d : D} {v : Value} {r : List (Str × D)} {es : Array DictEntry} : nsFind es x = some v → Rd F d v → RdF F r es → RdF F ((x, d) :: r) es
end

theorem Rd.mono {F G : Fz} (h : Fle F G) {d : D} {v : Value} (r : Rd F d v) : Rd G d v :=
  Rd.rec (motive_1 := fun d v _ => Rd G d v) (motive_2 := fun ds vs _ => RdL G ds vs) (motive_3 := fun fs es _ => RdF G fs es) .none .bool .int .str
    (fun a b c _ r => .lst (h _ _ a) b c r) (fun a b c _ r => .tup (h _ _ a) b c r) (fun a b c d _ z r => .inst (h _ _ a) (h _ _ b) c d r z) (fun a => .rng (h _ _ a)) (fun a => .opq (h _ _ a)) .nil (fun _ _ a r => .cons a r) .nil (fun e _ _ a r => .cons e a r) r
theorem RdL.ind {F : Fz} {P : List D → List Value → Prop} (hn : P [] []) (hc : ∀ {d : D} {v : Value} {ds : List D} {vs : List Value}, Rd F d v → RdL F ds vs → P ds vs → P (d :: ds) (v :: vs)) {ds : List D} {vs : List Value} (r : RdL F ds vs) : P ds vs :=
  RdL.rec (motive_1 := fun _ _ _ => True) (motive_2 := fun ds vs _ => P ds vs) (motive_3 := fun _ _ _ => True) trivial (fun _ => trivial) (fun _ _ => trivial) (fun _ _ => trivial)
    (fun _ _ _ _ _ => trivial) (fun _ _ _ _ _ => trivial) (fun _ _ _ _ _ _ _ => trivial) (fun _ => trivial) (fun _ => trivial) hn (fun a r _ q => hc a r q) trivial (fun _ _ _ _ _ => trivial) r
theorem RdF.ind {F : Fz} {P : List (Str × D) → Array DictEntry → Prop} (hn : ∀ {es : Array DictEntry}, P [] es) (hc : ∀ {x : Str} {d : D} {v : Value} {r : List (Str × D)} {es : Array DictEntry}, nsFind es x = some v → Rd F d v → RdF F r es → P r es → P ((x, d) :: r) es) {fs : List (Str × D)} {es : Array DictEntry} (r : RdF F fs es) : P fs es :=
  RdF.rec (motive_1 := fun _ _ _ => True) (motive_2 := fun _ _ _ => True) (motive_3 := fun fs es _ => P fs es) trivial (fun _ => trivial) (fun _ _ => trivial) (fun _ _ => trivial)
    (fun _ _ _ _ _ => trivial) (fun _ _ _ _ _ => trivial) (fun _ _ _ _ _ _ _ => trivial) (fun _ => trivial) (fun _ => trivial) trivial (fun _ _ _ _ => trivial) hn (fun e a r _ q => hc e a r q) r
theorem RdL.mono {F G : Fz} (h : Fle F G) {ds : List D} {vs : List Value} (r : RdL F ds vs) : RdL G ds vs := RdL.ind (P := RdL G) .nil (fun a _ r => .cons (a.mono h) r) r
theorem RdF.mono {F G : Fz} (h : Fle F G) {fs : List (Str × D)} {es : Array DictEntry} (r : RdF F fs es) : RdF G fs es := RdF.ind (P := RdF G) .nil (fun e a _ r => .cons e (a.mono h) r) r

namespace RdL
variable {F : Fz} {ds : List D} {vs : List Value}
theorem length (r : RdL F ds vs) : vs.length = ds.length := RdL.ind (P := fun ds vs => vs.length = ds.length) rfl (fun _ _ q => congrArg Nat.succ q) r
theorem get (r : RdL F ds vs) : ∀ {i : Nat} {v : Value}, vs[i]? = some v → ∃ d, ds[i]? = some d ∧ Rd F d v :=
  RdL.ind (P := fun ds vs => ∀ {i : Nat} {v : Value}, vs[i]? = some v → ∃ d, ds[i]? = some d ∧ Rd F d v) (fun e => nomatch e) (@fun _ _ _ _ a _ ih i _ e => by
    cases i with
    | zero => cases e; exact ⟨_, rfl, a⟩
    | succ i => exact ih e) r
theorem get' (r : RdL F ds vs) : ∀ {i : Nat} {d : D}, ds[i]? = some d → ∃ v, vs[i]? = some v ∧ Rd F d v :=
  RdL.ind (P := fun ds vs => ∀ {i : Nat} {d : D}, ds[i]? = some d → ∃ v, vs[i]? = some v ∧ Rd F d v) (fun e => nomatch e) (@fun _ _ _ _ a _ ih i _ e => by
    cases i with
    | zero => cases e; exact ⟨_, rfl, a⟩
    | succ i => exact ih e) r
theorem append {es : List D} {ws : List Value} (r : RdL F ds vs) (s : RdL F es ws) : RdL F (ds ++ es) (vs ++ ws) := RdL.ind (P := fun ds vs => RdL F (ds ++ es) (vs ++ ws)) s (fun a _ q => .cons a q) r
theorem snoc {d : D} {v : Value} (r : RdL F ds vs) (a : Rd F d v) : RdL F (ds ++ [d]) (vs ++ [v]) := r.append (.cons a .nil)
theorem take (r : RdL F ds vs) : ∀ n, RdL F (ds.take n) (vs.take n) := RdL.ind (P := fun ds vs => ∀ n, RdL F (ds.take n) (vs.take n)) (fun n => by rw [List.take_nil, List.take_nil]; exact .nil) (fun a _ q n => by
  cases n with
  | zero => exact .nil
  | succ n => exact .cons a (q n)) r
theorem drop (r : RdL F ds vs) : ∀ n, RdL F (ds.drop n) (vs.drop n) := RdL.ind (P := fun ds vs => ∀ n, RdL F (ds.drop n) (vs.drop n)) (fun n => by rw [List.drop_nil, List.drop_nil]; exact .nil) (fun a r q n => by
  cases n with
  | zero => exact .cons a r
  | succ n => exact q n) r
theorem set (r : RdL F ds vs) : ∀ (i : Nat) {d : D} {v : Value}, Rd F d v → RdL F (ds.set i d) (vs.set i v) := RdL.ind (P := fun ds vs => ∀ (i : Nat) {d : D} {v : Value}, Rd F d v → RdL F (ds.set i d) (vs.set i v)) (fun i _ _ _ => .nil) (@fun _ _ _ _ a r q i d v b => by
  cases i with
  | zero => exact .cons b r
  | succ i => exact .cons a (q i b)) r
end RdL

/-- from frozen to the library's own reading -/
noncomputable def D.py : D → PyData
  | .none => .none
  | .bool b => .bool b
  | .int i => .int i
  | .str s => .str s
  | .tup xs => .tuple (pyAll xs)
  | .lst xs => .list (pyAll xs)
  | .inst _ _ => .none
  | .rng _ _ => .none
  | .opq _ => .none
where pyAll : List D → List PyData
  | [] => []
  | x :: xs => x.py :: pyAll xs
noncomputable def D.plain : D → Bool
  | .none | .bool _ | .int _ | .str _ => true
  | .tup xs | .lst xs => plainAll xs
  | .inst _ _ | .rng _ _ | .opq _ => false
where plainAll : List D → Bool
  | [] => true
  | x :: xs => x.plain && plainAll xs

theorem Rd.reads {F : Fz} {h : Heap} (hk : Fle F h.get?) {d : D} {v : Value} (r : Rd F d v) : d.plain = true → ∃ as, Reads h v d.py as :=
  Rd.rec (motive_1 := fun d v _ => d.plain = true → ∃ as, Reads h v d.py as) (motive_2 := fun ds vs _ => D.plain.plainAll ds = true → ∃ as, ReadsAll h vs (D.py.pyAll ds) as) (motive_3 := fun _ _ _ => True)
    (fun _ => ⟨_, .none⟩) (fun b _ => ⟨_, .bool b⟩) (fun i t _ => ⟨_, .int i t⟩) (fun x t _ => ⟨_, .str x t⟩)
    (fun a b c _ ih p => (ih p).elim fun _ q => ⟨_, .list (hk _ _ a) b c q⟩) (fun a b c _ ih p => (ih p).elim fun _ q => ⟨_, .tuple (hk _ _ a) b c q⟩)
    (fun _ _ _ _ _ _ _ p => nomatch p) (fun _ p => nomatch p) (fun _ p => nomatch p) (fun _ => ⟨_, .nil⟩)
    (fun _ _ ih1 ih2 p => (ih1 (Bool.and_eq_true_iff.mp p).1).elim fun _ q => (ih2 (Bool.and_eq_true_iff.mp p).2).elim fun _ q' => ⟨_, .cons q q'⟩) trivial (fun _ _ _ _ _ => trivial) r

theorem RdL.reads {F : Fz} {h : Heap} (hk : Fle F h.get?) {ds : List D} {vs : List Value} (r : RdL F ds vs) : D.plain.plainAll ds = true → ∃ as, ReadsAll h vs (D.py.pyAll ds) as :=
  RdL.ind (P := fun ds vs => D.plain.plainAll ds = true → ∃ as, ReadsAll h vs (D.py.pyAll ds) as) (fun _ => ⟨_, .nil⟩)
    (fun a _ ih p => (a.reads hk (Bool.and_eq_true_iff.mp p).1).elim fun _ q => (ih (Bool.and_eq_true_iff.mp p).2).elim fun _ q' => ⟨_, .cons q q'⟩) r

/-- what a variable holds -/
inductive Slot where
  | val (d : D)
  | lst (xs : List D)
  | hdr (C : Addr) (xs : List D)
  | nest (xs : List D) (cur : List D)
  | self (C : Addr) (fs : List (Str × D))
  | dict (kvs : List (Int × D))
  | dic (m : Nat) (g : Int → Option D)

noncomputable abbrev Vars := List (Str × Slot)

/-- an exact list object -/
noncomputable def LstAt (h : Heap) (F : Fz) (xs : List D) (a : Addr) : Prop := ∃ vs, h.PlainList a vs ∧ RdL F xs vs.toList
noncomputable def DictAt (h : Heap) (a : Addr) (es : Array DictEntry) : Prop := ∃ o k, h.get? a = some o ∧ o = { cls := .type "dict", data := .dict es k } ∧ StrKeys es

theorem LstAt.mono {h h' : Heap} {F F' : Fz} {xs : List D} {a : Addr} (x : LstAt h F xs a) (e : ∀ o, h.get? a = some o → h'.get? a = some o) (f : Fle F F') : LstAt h' F' xs a := by
  obtain ⟨vs, p, r⟩ := x
  exact ⟨vs, p.at e, r.mono f⟩
theorem DictAt.mono {h h' : Heap} {a : Addr} {es : Array DictEntry} (x : DictAt h a es) (e : ∀ o, h.get? a = some o → h'.get? a = some o) : DictAt h' a es := by
  obtain ⟨o, k, p, q, r⟩ := x
  exact ⟨o, k, e _ p, q, r⟩

/-- the slot's object stands at v, its changeable addresses are as -/
inductive Own (h : Heap) (F : Fz) : Slot → Value → List Addr → Prop
  | val {d : D} {v : Value} : Rd F d v → Own h F (.val d) v []
  | lst {a : Addr} {xs : List D} : LstAt h F xs a → Own h F (.lst xs) (.ref a) [a]
  | hdr {x dx l C : Addr} {od : Obj} {es : Array DictEntry} {k : Nat} {xs : List D} : F x = some (instObj C dx) → F dx = some od → od.data = .dict es k → StrKeys es → nsFind es "_headers" = some (.ref l) → (∀ y : Str, y ≠ "_headers" → nsFind es y = none) → LstAt h F xs l → Own h F (.hdr C xs) (.ref x) [l]
  | self {x dx C : Addr} {es : Array DictEntry} {fs : List (Str × D)} : h.get? x = some (instObj C dx) → DictAt h dx es → es.size ≤ fs.length → RdF F fs es → NoMore fs es → Own h F (.self C fs) (.ref x) [x, dx]
  | nest {a b : Addr} {xs cur : List D} {vs : Array Value} : h.PlainList a (vs.push (.ref b)) → RdL F xs vs.toList → LstAt h F cur b → a ≠ b → Own h F (.nest xs cur) (.ref a) [a, b]
  | dic {a : Addr} {m : Nat} {g : Int → Option D} {g' : Int → Option Value} : h.IntMap a g' → h.DictLe a m → (∀ k d, g k = some d → ∃ v, g' k = some v ∧ Rd F d v) → Own h F (.dic m g) (.ref a) [a]
  | dict0 {a : Addr} : h.get? a = some emptyDict → (a == sysModules) = false → Own h F (.dict []) (.ref a) [a]

theorem Own.mono {h h' : Heap} {F F' : Fz} {sl : Slot} {v : Value} {as : List Addr} (x : Own h F sl v as) (e : ∀ a ∈ as, ∀ o, h.get? a = some o → h'.get? a = some o) (f : Fle F F') : Own h' F' sl v as := by
  cases x with
  | val r => exact .val (r.mono f)
  | lst l => exact .lst (l.mono (e _ (by simp)) f)
  | hdr a b c q r z d => exact .hdr (f _ _ a) (f _ _ b) c q r z (d.mono (e _ (by simp)) f)
  | self a b z c q => exact .self (e _ (by simp) _ a) (b.mono (e _ (by simp))) z (c.mono f) q
  | nest p r l hn => exact .nest (p.at (e _ (by simp))) (r.mono f) (l.mono (e _ (by simp)) f) hn
  | dic i z r =>
    obtain ⟨o, es, ep, ho, q⟩ := i
    have ho' := e _ (by simp) _ ho
    exact .dic ⟨o, es, ep, ho', q⟩ (z.of_same ho ho') fun k d hd => let ⟨v, e1, r1⟩ := r k d hd; ⟨v, e1, r1.mono f⟩
  | dict0 a z => exact .dict0 (e _ (by simp) _ a) z
theorem Own.lt {h : Heap} {F : Fz} {sl : Slot} {v : Value} {as : List Addr} (x : Own h F sl v as) : ∀ a ∈ as, a < h.objs.size := by
  intro a ha
  cases x with
  | val r => cases ha
  | lst l => obtain ⟨vs, ⟨n, p⟩, _⟩ := l; simp at ha; subst ha; exact Heap.lt_size p
  | hdr _ _ _ _ _ _ d => obtain ⟨vs, ⟨n, p⟩, _⟩ := d; simp at ha; subst ha; exact Heap.lt_size p
  | self p b _ c _ =>
    obtain ⟨o, k, q, _⟩ := b
    simp at ha
    rcases ha with rfl | rfl
    · exact Heap.lt_size p
    · exact Heap.lt_size q
  | nest p r l hn =>
    obtain ⟨vs, ⟨n, q⟩, _⟩ := l
    obtain ⟨m, p⟩ := p
    simp at ha
    rcases ha with rfl | rfl
    · exact Heap.lt_size p
    · exact Heap.lt_size q
  | dic i z r => obtain ⟨o, es, ep, ho, q⟩ := i; simp at ha; subst ha; exact Heap.lt_size ho
  | dict0 p _ => simp at ha; subst ha; exact Heap.lt_size p

/-- the world: the program, the heap under the law's call, the written part -/
structure Cx where
  prog : Program
  w : World
  K : Frag
  p : Program
  loose : List Str
  mg : Str → Option Value
  mb : Str → Option Value
  hB : Heap
structure Cx.Ok (c : Cx) : Prop where
  inK : c.K.In c.hB
  top : TopRead c.p c.loose c.mg c.mb c.hB

/-- the storage of an env -/
noncomputable def stor (env : Env) : List Addr := env.locals :: env.cells.map (·.2)
structure Stor (env : Env) (h : Heap) (vm : Str → Option Value) : Prop where
  loc : ∃ m, h.Ns env.locals m ∧ ∀ x, env.kindOf x = some .local → m x = vm x
  cel : ∀ x, env.kindOf x = some .cell ∨ env.kindOf x = some .free → ∃ c, env.cells.lookup x = some c ∧ h.IsCell c (vm x)
structure EnvOk (env : Env) (sc : Scope) : Prop where
  scope : env.scope = sc
  kind : sc.kind = .function
  globals : env.globals = mainGlobals
  builtins : env.builtins = builtinsNs
  nd : (stor env).Nodup

noncomputable abbrev Pins := List (Str × Value)

/-- the state of a frame: ρ what the variables hold, F what is frozen, P what may be changed -/
structure StV (c : Cx) (env : Env) (pins : Pins) (ρ : Vars) (F : Fz) (P : Addr → Prop) (h : Heap) (vm : Str → Option Value) (fp : Str → List Addr) : Prop where
  base : Fle c.hB.get? F
  le : Fle F h.get?
  sto : Stor env h vm
  own : ∀ x s, ρ.lookup x = some s → ∃ v, vm x = some v ∧ Own h F s v (fp x)
  pin : ∀ q ∈ pins, vm q.1 = some q.2
  mem : ∀ a, P a ↔ (a ∈ stor env ∨ ∃ x s, ρ.lookup x = some s ∧ a ∈ fp x)
  lt : ∀ a, P a → a < h.objs.size
  out : ∀ a, P a → F a = none
  nd : ∀ x s, ρ.lookup x = some s → (fp x).Nodup
  apart : ∀ x s y t, ρ.lookup x = some s → ρ.lookup y = some t → x ≠ y → ∀ a ∈ fp x, a ∉ fp y
  aparts : ∀ x s, ρ.lookup x = some s → ∀ a ∈ fp x, a ∉ stor env
noncomputable def St (c : Cx) (env : Env) (pins : Pins) (ρ : Vars) (F : Fz) (P : Addr → Prop) (h : Heap) : Prop := ∃ vm fp, StV c env pins ρ F P h vm fp

/-- nothing old is touched -/
structure Grow (F : Fz) (h : Heap) (F' : Fz) (h' : Heap) : Prop where
  fle : Fle F F'
  new : ∀ a o, F' a = some o → F a = some o ∨ h.objs.size ≤ a
  keep : Fle h.get? h'.get?
  le : Fle F' h'.get?
  size : h.objs.size ≤ h'.objs.size
noncomputable def Same (s s' : Shared) : Prop := ∃ h' tk, s' = { s with heap := h', toks := tk }
theorem Same.refl (s : Shared) : Same s s := ⟨s.heap, s.toks, rfl⟩
theorem Same.trans {s s' s'' : Shared} (x : Same s s') (y : Same s' s'') : Same s s'' := by
  obtain ⟨h, tk, rfl⟩ := x; obtain ⟨h', tk', rfl⟩ := y; exact ⟨h', tk', rfl⟩

theorem Grow.refl {F : Fz} {h : Heap} (l : Fle F h.get?) : Grow F h F h := ⟨.refl _, fun _ _ e => .inl e, .refl _, l, Nat.le_refl _⟩
theorem Grow.trans {F F' F'' : Fz} {h h' h'' : Heap} (x : Grow F h F' h') (y : Grow F' h' F'' h'') : Grow F h F'' h'' where
  fle := x.fle.trans y.fle
  new a o e := by
    rcases y.new a o e with q | q
    · exact x.new a o q
    · exact .inr (Nat.le_trans x.size q)
  keep := x.keep.trans y.keep
  le := y.le
  size := Nat.le_trans x.size y.size

/-- what statements may do -/
structure Step (F : Fz) (P : Addr → Prop) (h : Heap) (F' : Fz) (P' : Addr → Prop) (h' : Heap) : Prop where
  fle : Fle F F'
  new : ∀ a o, F' a = some o → F a = some o ∨ P a ∨ h.objs.size ≤ a
  keep : ∀ a o, ¬ P a → h.get? a = some o → h'.get? a = some o
  mem : ∀ a, P' a → P a ∨ h.objs.size ≤ a
  size : h.objs.size ≤ h'.objs.size
theorem Step.trans {F F' F'' : Fz} {P P' P'' : Addr → Prop} {h h' h'' : Heap} (x : Step F P h F' P' h') (y : Step F' P' h' F'' P'' h'') : Step F P h F'' P'' h'' where
  fle := x.fle.trans y.fle
  new a o e := by
    rcases y.new a o e with q | q | q
    · exact x.new a o q
    · rcases x.mem a q with q | q
      · exact .inr (.inl q)
      · exact .inr (.inr q)
    · exact .inr (.inr (Nat.le_trans x.size q))
  keep a o n e := y.keep a o (fun q => (x.mem a q).elim n fun q => Nat.not_lt.mpr q (Heap.lt_size e)) (x.keep a o n e)
  mem a q := by
    rcases y.mem a q with q | q
    · exact x.mem a q
    · exact .inr (Nat.le_trans x.size q)
  size := Nat.le_trans x.size y.size
theorem Step.refl {F : Fz} {P : Addr → Prop} {h : Heap} : Step F P h F P h := ⟨.refl _, fun _ _ e => .inl e, fun _ _ _ e => e, fun _ q => .inl q, Nat.le_refl _⟩
theorem Grow.step {F F' : Fz} {P : Addr → Prop} {h h' : Heap} (x : Grow F h F' h') : Step F P h F' P h' :=
  ⟨x.fle, fun a o e => (x.new a o e).imp id .inr, fun a o _ e => x.keep a o e, fun _ q => .inl q, x.size⟩

theorem StV.grow {c : Cx} {env : Env} {pins : Pins} {ρ : Vars} {F F' : Fz} {P : Addr → Prop} {h h' : Heap} {vm : Str → Option Value} {fp : Str → List Addr} (S : StV c env pins ρ F P h vm fp) (G : Grow F h F' h') : StV c env pins ρ F' P h' vm fp := {
    base := S.base.trans G.fle
    le := G.le
    sto := ⟨let ⟨m, n, e⟩ := S.sto.loc; ⟨m, n.keeps G.keep, e⟩, fun x hx => let ⟨cc, e, i⟩ := S.sto.cel x hx; ⟨cc, e, i.keeps G.keep⟩⟩
    own := fun x s e => let ⟨v, a, b⟩ := S.own x s e; ⟨v, a, b.mono (fun a _ => G.keep a) G.fle⟩
    pin := S.pin
    mem := S.mem
    lt := fun a q => Nat.lt_of_lt_of_le (S.lt a q) G.size
    out := fun a q => by
      cases e : F' a with
      | none => rfl
      | some o =>
        rcases G.new a o e with z | z
        · rw [S.out a q] at z; cases z
        · exact absurd (S.lt a q) (Nat.not_lt.mpr z)
    nd := S.nd
    apart := S.apart
    aparts := S.aparts }
theorem St.grow {c : Cx} {env : Env} {pins : Pins} {ρ : Vars} {F F' : Fz} {P : Addr → Prop} {h h' : Heap} (S : St c env pins ρ F P h) (G : Grow F h F' h') : St c env pins ρ F' P h' := by
  obtain ⟨vm, fp, S⟩ := S
  exact ⟨vm, fp, S.grow G⟩
end Mine
end

section
open PySem PySem.Calls PyProof.Rows PySem.W
set_option maxRecDepth 100000
set_option linter.unusedVariables false
namespace Mine

noncomputable def Room (n : Nat) (A : Around) : Prop := A.handled = none ∧ A.depth + n ≤ 700 ∧ A.units + 3 * n ≤ 9000
theorem Room.le {n m : Nat} {A : Around} (r : Room n A) (h : m ≤ n) : Room m A := ⟨r.1, by have := r.2.1; omega, by have := r.2.2; omega⟩
theorem Room.depth {n : Nat} {A : Around} (r : Room n A) : A.depth < recursionLimit := by have := r.2.1; unfold recursionLimit; omega
theorem Room.deeper {n : Nat} {A : Around} {env : Env} (r : Room (n + 1) A) : Room n (A.deeper env) := ⟨r.1, by have := r.2.1; show A.depth + 1 + n ≤ 700; omega, by have := r.2.2; show A.units + 3 + 3 * n ≤ 9000; omega⟩
theorem Room.units {n : Nat} {A : Around} (r : Room n A) : A.units + 200 < cLine := by have := r.2.2; unfold cLine; omega

/-- the value reads as d in what is frozen -/
noncomputable def Gives (F : Fz) (s : Shared) (d : D) : Value → Shared → Prop := fun v s' => ∃ F', Grow F s.heap F' s'.heap ∧ Same s s' ∧ Rd F' d v
/-- a truth -/
noncomputable def GivesB (F : Fz) (s : Shared) (b : Bool) : Bool → Shared → Prop := fun b' s' => b' = b ∧ ∃ F', Grow F s.heap F' s'.heap ∧ Same s s'

theorem Gives.flat {F : Fz} {s : Shared} {d : D} {v : Value} {k : Nat} (l : Fle F s.heap.get?) (r : Rd F d v) : Gives F s d v { s with toks := k } := ⟨F, .refl l, ⟨_, _, rfl⟩, r⟩
theorem Gives.now {F : Fz} {s : Shared} {d : D} {v : Value} (l : Fle F s.heap.get?) (r : Rd F d v) : Gives F s d v s := ⟨F, .refl l, .refl s, r⟩
theorem Gives.after {F F₁ : Fz} {s s₁ : Shared} {d : D} {v : Value} {s' : Shared} (G : Grow F s.heap F₁ s₁.heap) (S : Same s s₁) (x : Gives F₁ s₁ d v s') : Gives F s d v s' := by
  obtain ⟨F', G', S', r⟩ := x
  exact ⟨F', G.trans G', S.trans S', r⟩
theorem GivesB.after {F F₁ : Fz} {s s₁ : Shared} {b b' : Bool} {s' : Shared} (G : Grow F s.heap F₁ s₁.heap) (S : Same s s₁) (x : GivesB F₁ s₁ b b' s') : GivesB F s b b' s' := by
  obtain ⟨e, F', G', S'⟩ := x
  exact ⟨e, F', G.trans G', S.trans S'⟩

noncomputable def Fz.ins (F : Fz) (a : Addr) (o : Obj) : Fz := fun b => if b = a then some o else F b
theorem Fz.ins_self (F : Fz) (a : Addr) (o : Obj) : F.ins a o a = some o := if_pos rfl
theorem Fz.ins_le {F : Fz} {a : Addr} {o : Obj} (n : F a = none) : Fle F (F.ins a o) := fun b o' e => by
  unfold Fz.ins
  by_cases h : b = a
  · subst h; rw [n] at e; cases e
  · rw [if_neg h]; exact e
theorem none_of_le {F : Fz} {h : Heap} (l : Fle F h.get?) {a : Addr} (ha : h.objs.size ≤ a) : F a = none := by
  cases e : F a with
  | none => rfl
  | some o => exact absurd (Heap.lt_size (l _ _ e)) (Nat.not_lt.mpr ha)
theorem Grow.push {F : Fz} {h : Heap} (l : Fle F h.get?) (o : Obj) (hf : o.isFreed = false) : Grow F h (F.ins h.objs.size o) (h.push o) where
  fle := Fz.ins_le (none_of_le l (Nat.le_refl _))
  new a o' e := by
    by_cases q : a = h.objs.size
    · exact .inr (Nat.le_of_eq q.symm)
    · unfold Fz.ins at e; rw [if_neg q] at e; exact .inl e
  keep a o' e := Heap.get?_push_of_some _ e
  le a o' e := by
    by_cases q : a = h.objs.size
    · subst q; rw [Fz.ins_self] at e; cases e; exact Heap.get?_push_size _ hf
    · unfold Fz.ins at e; rw [if_neg q] at e; exact Heap.get?_push_of_some _ (l _ _ e)
  size := by rw [Heap.size_push]; exact Nat.le_succ _

/-- readable now: frozen, or an own list -/
inductive Rd1 (h : Heap) (F : Fz) : D → Value → Prop
  | fz {d : D} {v : Value} : Rd F d v → Rd1 h F d v
  | own {xs : List D} {a : Addr} : LstAt h F xs a → Rd1 h F (.lst xs) (.ref a)
theorem Rd1.mono {h h' : Heap} {F F' : Fz} {d : D} {v : Value} (x : Rd1 h F d v) (k : Fle h.get? h'.get?) (f : Fle F F') : Rd1 h' F' d v := by
  cases x with
  | fz r => exact .fz (r.mono f)
  | own l => exact .own (l.mono (k _) f)
theorem Rd1.int {h : Heap} {F : Fz} {i : Int} {v : Value} (x : Rd1 h F (.int i) v) : ∃ t, v = .int i t := by cases x with | fz r => cases r; exact ⟨_, rfl⟩
theorem Rd1.str {h : Heap} {F : Fz} {x : Str} {v : Value} (r : Rd1 h F (.str x) v) : ∃ t, v = .str x t := by cases r with | fz r => cases r; exact ⟨_, rfl⟩
theorem Rd1.bool {h : Heap} {F : Fz} {x : Bool} {v : Value} (r : Rd1 h F (.bool x) v) : v = .bool x := by cases r with | fz r => cases r; rfl
theorem Rd1.none {h : Heap} {F : Fz} {v : Value} (r : Rd1 h F .none v) : v = .none := by cases r with | fz r => cases r; rfl
theorem Rd1.lst {h : Heap} {F : Fz} {xs : List D} {v : Value} (r : Rd1 h F (.lst xs) v) (l : Fle F h.get?) : ∃ a vs, v = .ref a ∧ h.IsList a vs ∧ RdL F xs vs.toList := by
  cases r with
  | fz r => cases r with | lst a b c r => exact ⟨_, _, rfl, ⟨_, l _ _ a, b, _, c⟩, r⟩
  | own x => obtain ⟨vs, p, r⟩ := x; exact ⟨_, vs, rfl, p.isList, r⟩
theorem Rd1.tup {h : Heap} {F : Fz} {xs : List D} {v : Value} (r : Rd1 h F (.tup xs) v) (l : Fle F h.get?) : ∃ a o vs n, v = .ref a ∧ h.get? a = some o ∧ o.cls = .type "tuple" ∧ o.data = .seq vs n ∧ RdL F xs vs.toList := by
  cases r with
  | fz r => cases r with | tup a b c r => exact ⟨_, _, _, _, rfl, l _ _ a, b, c, r⟩
theorem Rd1.reads {h : Heap} {F : Fz} {d : D} {v : Value} (r : Rd1 h F d v) (l : Fle F h.get?) (p : d.plain = true) : ∃ as, Reads h v d.py as := by
  cases r with
  | fz r => exact r.reads l p
  | own x =>
    obtain ⟨vs, ⟨n, q⟩, r⟩ := x
    unfold D.plain at p
    obtain ⟨as, z⟩ := r.reads l p
    exact ⟨_, by unfold D.py; exact .list q rfl rfl z⟩

variable (c : Cx)

/-- an expression gives d, whatever the state that has ρ -/
noncomputable def Ev (n : Nat) (sc : Scope) (ρ : Vars) (e : Expr) (d : D) : Prop :=
  ∀ A env pins F P s, Room n A → EnvOk env sc → St c env pins ρ F P s.heap → wpAny (model c.prog c.w) A (eval e env) (Gives F s d) (fun _ _ => False) s
/-- .. that is looked at, not kept -/
noncomputable def EvR (n : Nat) (sc : Scope) (ρ : Vars) (e : Expr) (d : D) : Prop :=
  ∀ A env pins F P s, Room n A → EnvOk env sc → St c env pins ρ F P s.heap →
    wpAny (model c.prog c.w) A (eval e env) (fun v s' => ∃ F', Grow F s.heap F' s'.heap ∧ Same s s' ∧ Rd1 s'.heap F' d v) (fun _ _ => False) s
/-- a test -/
noncomputable def Te (n : Nat) (sc : Scope) (ρ : Vars) (e : Expr) (b : Bool) : Prop :=
  ∀ A env pins F P s, Room n A → EnvOk env sc → St c env pins ρ F P s.heap → wpAny (model c.prog c.w) A (isTrue e env (eval e env)) (GivesB F s b) (fun _ _ => False) s
/-- a list of expressions -/
noncomputable def EvL (n : Nat) (sc : Scope) (ρ : Vars) (es : List Expr) (ds : List D) : Prop :=
  ∀ A env pins F P s, Room n A → EnvOk env sc → St c env pins ρ F P s.heap → ∀ pos,
    wpAny (model c.prog c.w) A (spliced (backTo pos (starEach es env))) (fun vs s' => ∃ F', Grow F s.heap F' s'.heap ∧ Same s s' ∧ RdL F' ds vs) (fun _ _ => False) s

noncomputable def Bin (op : Operator) (a b d : D) : Prop := ∀ A F s va vb, Room 0 A → Fle c.hB.get? F → Fle F s.heap.get? → Rd1 s.heap F a va → Rd1 s.heap F b vb → wpAny (model c.prog c.w) A (binaryOp op va vb) (Gives F s d) (fun _ _ => False) s
noncomputable def Cmp (op : CmpOp) (a b : D) (r : Bool) : Prop := ∀ A F s va vb, Room 0 A → Fle c.hB.get? F → Fle F s.heap.get? → Rd1 s.heap F a va → Rd1 s.heap F b vb → wpAny (model c.prog c.w) A (compareOp op va vb) (Gives F s (.bool r)) (fun _ _ => False) s
noncomputable def Una (op : UnaryOp) (a d : D) : Prop := ∀ A F s va, Room 0 A → Fle c.hB.get? F → Fle F s.heap.get? → Rd1 s.heap F a va → wpAny (model c.prog c.w) A (unaryOp op va) (Gives F s d) (fun _ _ => False) s
noncomputable def Tru (a : D) (b : Bool) : Prop := ∀ A F s va, Room 0 A → Fle c.hB.get? F → Fle F s.heap.get? → Rd1 s.heap F a va → wpAny (model c.prog c.w) A (truthy va) (GivesB F s b) (fun _ _ => False) s

variable {c} {n : Nat} {sc : Scope} {ρ : Vars}

theorem St.base {env : Env} {pins : Pins} {F : Fz} {P : Addr → Prop} {h : Heap} (S : St c env pins ρ F P h) : Fle c.hB.get? F := let ⟨_, _, S⟩ := S; S.base
theorem St.le {env : Env} {pins : Pins} {F : Fz} {P : Addr → Prop} {h : Heap} (S : St c env pins ρ F P h) : Fle F h.get? := let ⟨_, _, S⟩ := S; S.le

theorem EvR.of {e : Expr} {d : D} (h : Ev c n sc ρ e d) : EvR c n sc ρ e d := fun A env pins F P s r ok S =>
  wpAny_mono (h A env pins F P s r ok S) (fun v s' hp1 => by obtain ⟨F', G, X, q⟩ := hp1; exact ⟨F', G, X, .fz q⟩) fun _ _ x => x

noncomputable def isLoc (sc : Scope) (x : Str) : Bool := match sc.names.lookup x with
  | some .local | some .cell | some .free => !(x == ("__debug__" : Str)) && !(x == ("__classdict__" : Str))
  | _ => false

theorem load_var {env : Env} {h : Heap} {vm : Str → Option Value} {x : Str} {v : Value} {M : Model} {A : Around} {E : Value → Shared → Prop} {s : Shared} {pos : Pos} {Q : Value → Shared → Prop} (ok : EnvOk env sc) (S : Stor env s.heap vm) (hl : isLoc sc x = true) (hv : vm x = some v) (q : Q v s) :
    wpAny M A (eval (.Name x pos) env) Q E s := by
  unfold isLoc at hl
  have hk : env.scope.kind = .function := by rw [ok.scope]; exact ok.kind
  have kx : env.kindOf x = sc.names.lookup x := by unfold Env.kindOf; rw [ok.scope]
  split at hl
  · rename_i e
    obtain ⟨h1, h2⟩ := Bool.and_eq_true_iff.mp hl
    obtain ⟨m, n, em⟩ := S.loc
    exact wpAny_Name (wpAny_loadName_local hk (kx.trans e) n ((em x (kx.trans e)).trans hv) q) (by simpa using h1)
  · rename_i e
    obtain ⟨h1, h2⟩ := Bool.and_eq_true_iff.mp hl
    obtain ⟨cc, e1, e2⟩ := S.cel x (.inl (kx.trans e))
    rw [hv] at e2
    exact wpAny_Name (wpAny_loadName_cell hk (kx.trans e) e1 e2 q) (by simpa using h1)
  · rename_i e
    obtain ⟨h1, h2⟩ := Bool.and_eq_true_iff.mp hl
    obtain ⟨cc, e1, e2⟩ := S.cel x (.inr (kx.trans e))
    rw [hv] at e2
    exact wpAny_Name (wpAny_loadName_free hk (kx.trans e) e1 e2 q (by simpa using h2)) (by simpa using h1)
  · cases hl

theorem Ev_name {x : Str} {pos : Pos} {d : D} (e : ρ.lookup x = some (.val d)) (hl : isLoc sc x = true) : Ev c n sc ρ (.Name x pos) d := fun A env pins F P s r ok S => by
  obtain ⟨vm, fp, S⟩ := S
  obtain ⟨v, hv, o⟩ := S.own x _ e
  generalize fp x = as at o
  cases o with
  | val q => exact load_var (h := s.heap) ok S.sto hl hv (.now S.le q)
theorem EvR_own {x : Str} {pos : Pos} {xs : List D} (e : ρ.lookup x = some (.lst xs)) (hl : isLoc sc x = true) : EvR c n sc ρ (.Name x pos) (.lst xs) := fun A env pins F P s r ok S => by
  obtain ⟨vm, fp, S⟩ := S
  obtain ⟨v, hv, o⟩ := S.own x _ e
  generalize fp x = as at o
  cases o with
  | lst q => exact load_var (h := s.heap) ok S.sto hl hv ⟨F, .refl S.le, .refl s, .own q⟩

theorem Ev_int {i : Int} {k : Nat} {pos : Pos} : Ev c n sc ρ (.Constant (.int i) k pos) (.int i) := fun A env pins F P s r ok S => wpAny_Constant_int (.flat S.le (.int i _))
theorem Ev_str {x : Str} {k : Nat} {pos : Pos} : Ev c n sc ρ (.Constant (.str x) k pos) (.str x) := fun A env pins F P s r ok S => Constant_str (.flat S.le (.str x _))
theorem Ev_bool {b : Bool} {k : Nat} {pos : Pos} : Ev c n sc ρ (.Constant (.bool b) k pos) (.bool b) := fun A env pins F P s r ok S => Constant_bool (.now S.le (.bool b))
theorem Ev_none {k : Nat} {pos : Pos} : Ev c n sc ρ (.Constant .none k pos) .none := fun A env pins F P s r ok S => Constant_none (.now S.le .none)

theorem Ev_BinOp {l r : Expr} {op : Operator} {pos : Pos} {a b d : D} (hl : EvR c n sc ρ l a) (hr : EvR c n sc ρ r b) (ho : Bin c op a b d) : Ev c n sc ρ (.BinOp l op r pos) d := fun A env pins F P s R ok S => by
  refine wpAny_BinOp (wpAny_mono (hl A env pins F P s R ok S) (fun v s₁ hp2 => ?_) fun _ _ x => x)
  obtain ⟨F₁, G₁, X₁, r₁⟩ := hp2
  have S₁ := S.grow G₁
  refine wpAny_mono (hr A env pins F₁ P s₁ R ok S₁) (fun w s₂ hp3 => ?_) fun _ _ x => x
  obtain ⟨F₂, G₂, X₂, r₂⟩ := hp3
  exact wpAny_mono (ho A F₂ s₂ v w (R.le (Nat.zero_le _)) (S₁.grow G₂).base G₂.le (r₁.mono G₂.keep G₂.fle) r₂) (fun z s₃ q => (q.after G₂ X₂).after G₁ X₁) fun _ _ x => x
theorem Ev_Compare {l r : Expr} {op : CmpOp} {pos : Pos} {a b : D} {t : Bool} (hl : EvR c n sc ρ l a) (hr : EvR c n sc ρ r b) (ho : Cmp c op a b t) (hm : behindInMarks op r = false := by rfl) : Ev c n sc ρ (.Compare l [op] [r] pos) (.bool t) := fun A env pins F P s R ok S => by
  refine wpAny_Compare1 (wpAny_mono (hl A env pins F P s R ok S) (fun v s₁ hp4 => ?_) fun _ _ x => x) hm
  obtain ⟨F₁, G₁, X₁, r₁⟩ := hp4
  have S₁ := S.grow G₁
  refine wpAny_mono (hr A env pins F₁ P s₁ R ok S₁) (fun w s₂ hp5 => ?_) fun _ _ x => x
  obtain ⟨F₂, G₂, X₂, r₂⟩ := hp5
  exact wpAny_mono (ho A F₂ s₂ v w (R.le (Nat.zero_le _)) (S₁.grow G₂).base G₂.le (r₁.mono G₂.keep G₂.fle) r₂) (fun z s₃ q => (q.after G₂ X₂).after G₁ X₁) fun _ _ x => x
theorem Te_Compare {l r : Expr} {op : CmpOp} {pos : Pos} {a b : D} {t : Bool} (hl : EvR c n sc ρ l a) (hr : EvR c n sc ρ r b) (ho : Cmp c op a b t) (hm : behindInMarks op r = false := by rfl) : Te c n sc ρ (.Compare l [op] [r] pos) t := fun A env pins F P s R ok S => by
  refine wpAny_isTrue_Compare1 (wpAny_mono (hl A env pins F P s R ok S) (fun v s₁ hp6 => ?_) fun _ _ x => x) hm
  obtain ⟨F₁, G₁, X₁, r₁⟩ := hp6
  have S₁ := S.grow G₁
  refine wpAny_mono (hr A env pins F₁ P s₁ R ok S₁) (fun w s₂ hp7 => ?_) fun _ _ x => x
  obtain ⟨F₂, G₂, X₂, r₂⟩ := hp7
  refine wpAny_mono (ho A F₂ s₂ v w (R.le (Nat.zero_le _)) (S₁.grow G₂).base G₂.le (r₁.mono G₂.keep G₂.fle) r₂) (fun z s₃ q => ?_) fun _ _ x => x
  obtain ⟨F₃, G₃, X₃, r₃⟩ := (q.after G₂ X₂).after G₁ X₁
  cases r₃
  exact wpAny_truthy_bool ⟨rfl, F₃, G₃, X₃⟩
theorem Ev_UnaryOp {x : Expr} {op : UnaryOp} {pos : Pos} {a d : D} (hx : EvR c n sc ρ x a) (ho : Una c op a d) : Ev c n sc ρ (.UnaryOp op x pos) d := fun A env pins F P s R ok S => by
  refine UnaryOp_ (wpAny_mono (hx A env pins F P s R ok S) (fun v s₁ hp8 => ?_) fun _ _ x => x)
  obtain ⟨F₁, G₁, X₁, r₁⟩ := hp8
  exact wpAny_mono (ho A F₁ s₁ v (R.le (Nat.zero_le _)) (S.grow G₁).base G₁.le r₁) (fun z s₃ q => q.after G₁ X₁) fun _ _ x => x
theorem Te_not {x : Expr} {pos : Pos} {b : Bool} (hx : Te c n sc ρ x b) : Te c n sc ρ (.UnaryOp .Not x pos) (!b) := fun A env pins F P s R ok S =>
  isTrue_not (wpAny_mono (hx A env pins F P s R ok S) (fun _ _ hp9 => by obtain ⟨e, q⟩ := hp9; exact ⟨by rw [e], q⟩) fun _ _ x => x)
noncomputable def plainTest : Expr → Bool
  | .UnaryOp .Not _ _ => false
  | .BoolOp .. | .IfExp .. | .Compare .. => false
  | _ => true
theorem isTrue_of_plain {e : Expr} {env : Env} {whole : Sem Value} (h : plainTest e = true) : isTrue e env whole = (do let v ← whole; standAt e.pos; holding [v] (truthy v)) := by
  cases e with
  | UnaryOp op x pos => cases op <;> first | rfl | cases h
  | _ => first | rfl | cases h
theorem Te_plain {e : Expr} {d : D} {b : Bool} (he : EvR c n sc ρ e d) (ht : Tru c d b) (hp : plainTest e = true := by rfl) : Te c n sc ρ e b := fun A env pins F P s R ok S => by
  refine isTrue_plain (wpAny_mono (he A env pins F P s R ok S) (fun v s₁ hp10 => ?_) fun _ _ x => x) (isTrue_of_plain hp)
  obtain ⟨F₁, G₁, X₁, r₁⟩ := hp10
  exact wpAny_mono (ht A F₁ s₁ v (R.le (Nat.zero_le _)) (S.grow G₁).base G₁.le r₁) (fun z s₃ q => q.after G₁ X₁) fun _ _ x => x
theorem Te_and_nil {pos : Pos} : Te c n sc ρ (.BoolOp .And [] pos) true := fun A env pins F P s R ok S => isTrue_and_nil ⟨rfl, F, .refl S.le, .refl s⟩
theorem Te_and {x : Expr} {xs : List Expr} {pos : Pos} {b b' : Bool} (hx : Te c n sc ρ x b) (hr : b = true → Te c n sc ρ (.BoolOp .And xs pos) b') : Te c n sc ρ (.BoolOp .And (x :: xs) pos) (b && b') := fun A env pins F P s R ok S => by
  refine PyProof.Rows.isTrue_and (wpAny_mono (hx A env pins F P s R ok S) (fun t s₁ hp11 => ?_) fun _ _ x => x)
  obtain ⟨e, F₁, G₁, X₁⟩ := hp11
  subst e
  cases t with
  | false => exact ⟨rfl, F₁, G₁, X₁⟩
  | true => exact wpAny_mono (hr rfl A env pins F₁ P s₁ R ok (S.grow G₁)) (fun z s₃ q => q.after G₁ X₁) fun _ _ x => x
theorem Te_or_nil {pos : Pos} : Te c n sc ρ (.BoolOp .Or [] pos) false := fun A env pins F P s R ok S => isTrue_or_nil ⟨rfl, F, .refl S.le, .refl s⟩
theorem Te_or {x : Expr} {xs : List Expr} {pos : Pos} {b b' : Bool} (hx : Te c n sc ρ x b) (hr : b = false → Te c n sc ρ (.BoolOp .Or xs pos) b') : Te c n sc ρ (.BoolOp .Or (x :: xs) pos) (b || b') := fun A env pins F P s R ok S => by
  refine PyProof.Rows.isTrue_or (wpAny_mono (hx A env pins F P s R ok S) (fun t s₁ hp12 => ?_) fun _ _ x => x)
  obtain ⟨e, F₁, G₁, X₁⟩ := hp12
  subst e
  cases t with
  | true => exact ⟨rfl, F₁, G₁, X₁⟩
  | false => exact wpAny_mono (hr rfl A env pins F₁ P s₁ R ok (S.grow G₁)) (fun z s₃ q => q.after G₁ X₁) fun _ _ x => x
theorem Ev_IfExp {t a b : Expr} {pos : Pos} {x : Bool} {d : D} (ht : Te c n sc ρ t x) (ha : x = true → Ev c n sc ρ a d) (hb : x = false → Ev c n sc ρ b d) : Ev c n sc ρ (.IfExp t a b pos) d := fun A env pins F P s R ok S => by
  refine IfExp_ (wpAny_mono (ht A env pins F P s R ok S) (fun t s₁ hp13 => ?_) fun _ _ x => x)
  obtain ⟨e, F₁, G₁, X₁⟩ := hp13
  subst e
  cases t with
  | true => exact wpAny_mono (ha rfl A env pins F₁ P s₁ R ok (S.grow G₁)) (fun z s₃ q => q.after G₁ X₁) fun _ _ x => x
  | false => exact wpAny_mono (hb rfl A env pins F₁ P s₁ R ok (S.grow G₁)) (fun z s₃ q => q.after G₁ X₁) fun _ _ x => x
theorem EvL_nil : EvL c n sc ρ [] [] := fun A env pins F P s R ok S pos => spliced_nil ⟨F, .refl S.le, .refl s, .nil⟩
noncomputable def plainArg : Expr → Bool
  | .Starred .. => false
  | _ => true
theorem starEach_plain {e : Expr} {r : List Expr} {env : Env} (h : plainArg e = true) : starEach (e :: r) env = (false, eval e env) :: starEach r env := by
  cases e <;> first | rfl | cases h
theorem EvL_cons {e : Expr} {es : List Expr} {d : D} {ds : List D} (h1 : Ev c n sc ρ e d) (h2 : EvL c n sc ρ es ds) (hp : plainArg e = true := by rfl) : EvL c n sc ρ (e :: es) (d :: ds) := fun A env pins F P s R ok S pos => by
  rw [starEach_plain hp]
  show wpAny _ _ (spliced ((false, eval e env) :: backTo pos (starEach es env))) _ _ _
  refine spliced_cons (wpAny_mono (h1 A env pins F P s R ok S) (fun v s₁ hp14 => ?_) fun _ _ x => x)
  obtain ⟨F₁, G₁, X₁, r₁⟩ := hp14
  refine wpAny_mono (h2 A env pins F₁ P s₁ R ok (S.grow G₁) pos) (fun vs s₂ hp15 => ?_) fun _ _ x => x
  obtain ⟨F₂, G₂, X₂, r₂⟩ := hp15
  exact ⟨F₂, G₁.trans G₂, X₁.trans X₂, .cons (r₁.mono G₂.fle) r₂⟩
theorem Ev_Tuple {es : List Expr} {k : Nat} {pos : Pos} {ds : List D} (h : EvL c n sc ρ es ds) (hl : ds.length ≤ 1000) : Ev c n sc ρ (.Tuple es k pos) (.tup ds) := fun A env pins F P s R ok S => by
  refine Tuple_ (wpAny_mono (h A env pins F P s R ok S pos) (fun vs s₁ hp16 => ?_) fun _ _ x => x)
  obtain ⟨F₁, G₁, X₁, r₁⟩ := hp16
  refine wpAny_newObj_type ⟨_, G₁.trans (Grow.push G₁.le _ rfl), X₁.trans ⟨_, _, rfl⟩, .tup (Fz.ins_self _ _ _) rfl rfl ?_⟩ ?_
  · exact RdL.mono (Fz.ins_le (none_of_le G₁.le (Nat.le_refl _))) (by simpa using r₁)
  · show vs.toArray.size ≤ sizeLine
    rw [List.size_toArray, r₁.length]; exact Nat.le_trans hl (by decide)
theorem Ev_List {es : List Expr} {pos : Pos} {ds : List D} (h : EvL c n sc ρ es ds) (hl : ds.length ≤ 1000) : Ev c n sc ρ (.List es pos) (.lst ds) := fun A env pins F P s R ok S => by
  refine List_ (wpAny_mono (h A env pins F P s R ok S pos) (fun vs s₁ hp17 => ?_) fun _ _ x => x)
  obtain ⟨F₁, G₁, X₁, r₁⟩ := hp17
  refine wpAny_newObj_type ⟨_, G₁.trans (Grow.push G₁.le _ rfl), X₁.trans ⟨_, _, rfl⟩, .lst (Fz.ins_self _ _ _) rfl rfl ?_⟩ ?_
  · exact RdL.mono (Fz.ins_le (none_of_le G₁.le (Nat.le_refl _))) (by simpa using r₁)
  · show vs.toArray.size ≤ sizeLine
    rw [List.size_toArray, r₁.length]; exact Nat.le_trans hl (by decide)
end Mine
end

section
open PySem PySem.Calls PyProof.Rows PySem.W
set_option maxRecDepth 100000
set_option linter.unusedVariables false
namespace Mine
variable {c : Cx} {n : Nat} {sc : Scope} {ρ : Vars}

theorem Bin.add {a b : Int} : Bin c .Add (.int a) (.int b) (.int (a + b)) := fun A F s va vb R hb l ra rb => by
  obtain ⟨t, rfl⟩ := ra.int; obtain ⟨u, rfl⟩ := rb.int
  exact PyProof.Rows.add_int (.flat l (.int _ _))
theorem Bin.sub {a b : Int} : Bin c .Sub (.int a) (.int b) (.int (a - b)) := fun A F s va vb R hb l ra rb => by
  obtain ⟨t, rfl⟩ := ra.int; obtain ⟨u, rfl⟩ := rb.int
  exact PyProof.Rows.sub_int (.flat l (.int _ _))
theorem Bin.mul {a b : Int} (h : a.natAbs < 2 ^ 60) : Bin c .Mult (.int a) (.int b) (.int (a * b)) := fun A F s va vb R hb l ra rb => by
  obtain ⟨t, rfl⟩ := ra.int; obtain ⟨u, rfl⟩ := rb.int
  refine PyProof.Rows.mul_int (.flat l (.int _ _)) (.of_left ?_)
  unfold Builtin.Int.intBits
  split
  · exact Nat.zero_le _
  · have : a.natAbs.log2 < 60 := (Nat.log2_lt (by simp_all)).mpr h
    omega
theorem Bin.mod {a b : Int} (h : b ≠ 0) : Bin c .Mod (.int a) (.int b) (.int (a.fmod b)) := fun A F s va vb R hb l ra rb => by
  obtain ⟨t, rfl⟩ := ra.int; obtain ⟨u, rfl⟩ := rb.int
  exact PyProof.Rows.mod_int' h (.flat l (.int _ _))
theorem Bin.fdiv {a b : Int} (h : b ≠ 0) (hs : b.natAbs < 1073741824) : Bin c .FloorDiv (.int a) (.int b) (.int (a.fdiv b)) := fun A F s va vb R hb l ra rb => by
  obtain ⟨t, rfl⟩ := ra.int; obtain ⟨u, rfl⟩ := rb.int
  exact PyProof.Rows.floordiv_int h (.flat l (.int _ _)) (.inl (PyProof.noPylong_small hs))
theorem Bin.shr {a b : Int} (h : 0 ≤ b) : Bin c .RShift (.int a) (.int b) (.int (a.fdiv (2 ^ b.toNat))) := fun A F s va vb R hb l ra rb => by
  obtain ⟨t, rfl⟩ := ra.int; obtain ⟨u, rfl⟩ := rb.int
  exact PyProof.Rows.rshift_int h (.flat l (.int _ _))
theorem Una.neg {a : Int} : Una c .USub (.int a) (.int (-a)) := fun A F s va R hb l ra => by
  obtain ⟨t, rfl⟩ := ra.int
  exact P.neg_int (.flat l (.int _ _))

theorem Cmp.lt {a b : Int} : Cmp c .Lt (.int a) (.int b) (decide (a < b)) := fun A F s va vb R hb l ra rb => by
  obtain ⟨t, rfl⟩ := ra.int; obtain ⟨u, rfl⟩ := rb.int
  exact PyProof.Rows.lt_int (.now l (.bool _))
theorem Cmp.gt {a b : Int} : Cmp c .Gt (.int a) (.int b) (decide (b < a)) := fun A F s va vb R hb l ra rb => by
  obtain ⟨t, rfl⟩ := ra.int; obtain ⟨u, rfl⟩ := rb.int
  exact PyProof.Rows.gt_int (.now l (.bool _))
theorem Cmp.le {a b : Int} : Cmp c .LtE (.int a) (.int b) (decide (a ≤ b)) := fun A F s va vb R hb l ra rb => by
  obtain ⟨t, rfl⟩ := ra.int; obtain ⟨u, rfl⟩ := rb.int
  exact PyProof.Rows.le_int (.now l (.bool _))
theorem Cmp.ge {a b : Int} : Cmp c .GtE (.int a) (.int b) (decide (b ≤ a)) := fun A F s va vb R hb l ra rb => by
  obtain ⟨t, rfl⟩ := ra.int; obtain ⟨u, rfl⟩ := rb.int
  exact PyProof.Rows.ge_int (.now l (.bool _))
theorem Cmp.eqI {a b : Int} : Cmp c .Eq (.int a) (.int b) (a == b) := fun A F s va vb R hb l ra rb => by
  obtain ⟨t, rfl⟩ := ra.int; obtain ⟨u, rfl⟩ := rb.int
  exact PyProof.Rows.eq_int (.now l (.bool _))
theorem Cmp.neI {a b : Int} : Cmp c .NotEq (.int a) (.int b) (a != b) := fun A F s va vb R hb l ra rb => by
  obtain ⟨t, rfl⟩ := ra.int; obtain ⟨u, rfl⟩ := rb.int
  exact PyProof.Rows.ne_int (.now l (.bool _))
theorem Cmp.eqS {a b : Str} : Cmp c .Eq (.str a) (.str b) (a == b) := fun A F s va vb R hb l ra rb => by
  obtain ⟨t, rfl⟩ := ra.str; obtain ⟨u, rfl⟩ := rb.str
  exact PyProof.Rows.eq_str (.now l (.bool _))
/-- whether the library's own comparison takes it -/
noncomputable def okEq (d : D) : Bool := d.plain && d.py.canLay0 && decide (d.py.depth ≤ 64)
theorem Room.eq {n : Nat} {A : Around} (r : Room n A) : A.units + 64 < cLine := by have := r.units; omega
theorem Cmp.neD {a b : D} (ha : okEq a = true) (hb' : okEq b = true) : Cmp c .NotEq a b (!PyData.eqv a.py b.py) := fun A F s va vb R hb l ra rb => by
  unfold okEq at ha hb'
  simp only [Bool.and_eq_true, decide_eq_true_eq] at ha hb'
  obtain ⟨as, qa⟩ := ra.reads l ha.1.1
  obtain ⟨bs, qb⟩ := rb.reads l hb'.1.1
  exact SeqAt.compareNe_shaped qa qb (by unfold SeqAt.shaped; simp [ha]) (by unfold SeqAt.shaped; simp [hb']) R.eq (.now l (.bool _))
theorem Cmp.notInL {a : D} {xs : List D} (ha : okEq a = true) (hx : okEq (.lst xs) = true) : Cmp c .NotIn a (.lst xs) (!(D.py.pyAll xs).any fun y => PyData.eqv y a.py) := fun A F s va vb R hb l ra rb => by
  unfold okEq at ha hx
  simp only [Bool.and_eq_true, decide_eq_true_eq] at ha hx
  obtain ⟨as, qa⟩ := ra.reads l ha.1.1
  obtain ⟨bs, qb⟩ := rb.reads l hx.1.1
  have e : (D.lst xs).py = .list (D.py.pyAll xs) := by unfold D.py; rfl
  rw [e] at qb hx
  refine SeqAt.notIn_list_reads qb qa ?_ ha.1.2 ?_ (.now l (.bool _))
  · have := hx.1.2; unfold PyData.canLay0 at this; exact this
  · have := R.units; have := ha.2; have := Nat.min_le_right (PyData.depthAll (D.py.pyAll xs)) a.py.depth; omega

noncomputable def D.isNone : D → Bool
  | .none => true
  | _ => false
theorem Rd1.beqNone {h : Heap} {F : Fz} {d : D} {v : Value} (x : Rd1 h F d v) : (v == Value.none) = d.isNone := by
  cases x with
  | fz r => cases r <;> rfl
  | own l => rfl
theorem Rd1.plainIs {h : Heap} {F : Fz} {d : D} {v : Value} (x : Rd1 h F d v) : PySem.plainIs v .none = true := by
  cases x with
  | fz r => cases r <;> rfl
  | own l => rfl
theorem Cmp.isNotNone {d : D} : Cmp c .IsNot d .none (!d.isNone) := fun A F s va vb R hb l ra rb => by
  have := rb.none; subst this
  refine wpAny_isNot_plain ra.plainIs ?_
  rw [ra.beqNone]
  exact .now l (.bool _)

theorem Tru.bool {b : Bool} : Tru c (.bool b) b := fun A F s va R hb l ra => by
  have := ra.bool; subst this
  exact wpAny_truthy_bool ⟨rfl, F, .refl l, .refl s⟩
theorem Tru.lst {xs : List D} (hl : xs.length ≤ 1000) : Tru c (.lst xs) (!xs.isEmpty) := fun A F s va R hb l ra => by
  obtain ⟨a, vs, rfl, i, r⟩ := ra.lst l
  have e : vs.toList.length = xs.length := r.length
  refine wpAny_truthy_list i (by rw [← Array.length_toList, e]; omega) ⟨?_, F, .refl l, _, _, rfl⟩
  rw [← Array.isEmpty_toList]
  cases xs <;> cases h : vs.toList <;> simp_all

/-- texts -/
noncomputable def strRep (x : Str) (k : Int) : Str := if k < 1 then Str.empty else ⟨(List.replicate k.toNat x.cps).foldl (· ++ ·) #[]⟩
theorem foldl_len : ∀ (k : Nat) (x : Array Nat) (acc : Array Nat), ((List.replicate k x).foldl (· ++ ·) acc).size = acc.size + k * x.size
  | 0, x, acc => by simp
  | k + 1, x, acc => by rw [List.replicate_succ, List.foldl_cons, foldl_len k]; rw [Array.size_append, Nat.add_mul]; omega
theorem Bin.mulS {x : Str} {k : Int} (h1 : k ≤ 1000) (h0 : -1000 ≤ k) (hx : 0 < x.length) (hx2 : x.length ≤ 1000) : Bin c .Mult (.str x) (.int k) (.str (strRep x k)) := fun A F s va vb R hb l ra rb => by
  obtain ⟨t, rfl⟩ := ra.str; obtain ⟨u, rfl⟩ := rb.int
  have hx3 : (x.length == 0) = false := by simp; omega
  refine P.mul_str ?_ (fun hk _ => ?_) (fun hk _ => ?_) ?_
  · simp; omega
  · intro hq
    have : (2 : Int) ^ 63 = 9223372036854775808 := by decide
    rw [this] at hq
    have h3 : (x.length : Int) * k ≤ 1000 * 1000 := Int.mul_le_mul (by omega) h1 (by omega) (by omega)
    have h4 : (x.length : Int) ≤ (9223372036854775808 - 1) / k := (Int.le_ediv_iff_mul_le (by omega)).mpr (by omega)
    omega
  · unfold Builtin.Str.tooLong
    have : x.length * k.toNat ≤ 1000 * 1000 := Nat.mul_le_mul hx2 (by omega)
    have e : sizeLine = 16777216 := by decide
    simp only [decide_eq_false_iff_not]; omega
  · unfold strRep
    by_cases hk : k < 1
    · simp only [if_pos hk]
      exact ⟨by decide, .flat l (.str _ _)⟩
    · simp only [if_neg hk, hx3, Bool.or_false]
      by_cases h1' : (k == 1) = true
      · rw [if_pos h1']
        have hk1 : k = 1 := by simpa using h1'
        subst hk1
        have e : (⟨(List.replicate (1 : Int).toNat x.cps).foldl (· ++ ·) #[]⟩ : Str) = x := by simp
        rw [e]
        exact .now l (.str _ _)
      · rw [if_neg h1']
        refine ⟨?_, .flat l (.str _ _)⟩
        show ((List.replicate k.toNat x.cps).foldl (· ++ ·) #[]).size ≤ sizeLine
        rw [foldl_len]
        have : k.toNat * x.cps.size ≤ 1000 * 1000 := Nat.mul_le_mul (by omega) hx2
        have e : sizeLine = 16777216 := by decide
        simp; omega
theorem Bin.addS {x y : Str} (hx : x.length + y.length ≤ 100000) : Bin c .Add (.str x) (.str y) (.str (x ++ y)) := fun A F s va vb R hb l ra rb => by
  obtain ⟨t, rfl⟩ := ra.str; obtain ⟨u, rfl⟩ := rb.str
  refine P.add_str ?_
  by_cases h1 : (x.length == 0) = true
  · rw [if_pos h1]
    have : x ++ y = y := by
      have hx0 : x.cps = #[] := by have : x.length = 0 := by simpa using h1
                                   exact Array.eq_empty_of_size_eq_zero this
      apply Str.ext'; rw [Str.cps_append, hx0]; simp
    rw [this]; exact .now l (.str _ _)
  · rw [if_neg h1]
    by_cases h2 : (y.length == 0) = true
    · rw [if_pos h2]
      have : x ++ y = x := by
        have hy0 : y.cps = #[] := by have : y.length = 0 := by simpa using h2
                                     exact Array.eq_empty_of_size_eq_zero this
        apply Str.ext'; rw [Str.cps_append, hy0]; simp
      rw [this]; exact .now l (.str _ _)
    · rw [if_neg h2]
      refine ⟨?_, .flat l (.str _ _)⟩
      rw [Str.length_append]; have e : sizeLine = 16777216 := by decide
      omega
theorem RdL.ofPush {F : Fz} {h : Heap} {o : Obj} {ds : List D} {vs : List Value} (l : Fle F h.get?) (r : RdL F ds vs) : RdL (F.ins h.objs.size o) ds vs := r.mono (Fz.ins_le (none_of_le l (Nat.le_refl _)))
theorem Gives.newList {F : Fz} {s : Shared} {vs : Array Value} {ds : List D} {k : Nat} (l : Fle F s.heap.get?) (r : RdL F ds vs.toList) :
    Gives F s (.lst ds) (.ref s.heap.objs.size) { s with heap := s.heap.push { cls := .type "list", data := .seq vs }, toks := k } :=
  ⟨_, Grow.push l _ rfl, ⟨_, _, rfl⟩, .lst (Fz.ins_self _ _ _) rfl rfl (r.ofPush l)⟩
theorem Bin.addL {xs ys : List D} (hl : xs.length + ys.length ≤ 100000) : Bin c .Add (.lst xs) (.lst ys) (.lst (xs ++ ys)) := fun A F s va vb R hb l ra rb => by
  obtain ⟨a, vs, rfl, ⟨⟨cls, dd, data, sl⟩, ho, hc, k, hd⟩, r⟩ := ra.lst l
  obtain ⟨b, ws, rfl, ⟨⟨cls2, dd2, data2, sl2⟩, ho2, hc2, k2, hd2⟩, r2⟩ := rb.lst l
  simp only at hc hd hc2 hd2
  subst hc hd hc2 hd2
  have e1 : vs.size = xs.length := by rw [← Array.length_toList]; exact r.length
  have e2 : ws.size = ys.length := by rw [← Array.length_toList]; exact r2.length
  have hz : vs.size + ws.size ≤ sizeLine := by
    have e : sizeLine = 16777216 := by decide
    omega
  refine concat_meets (T := "list") (id := "list.__add__") ⟨_, ho, rfl⟩ ⟨_, ho2, rfl⟩ noFill_list_add seq_list_add PySem.F.slot_list_add PySem.F.entry_list_add (PySem.F.args_list_add_2 _ _) (list_addW a b vs ws k k2 dd dd2 sl sl2 hz) ⟨ho, ho2, ?_⟩
  exact .newList l (by rw [Array.toList_append]; exact r.append r2)
end Mine
end

section
open PySem PySem.Calls PyProof.Rows PySem.W
set_option maxRecDepth 100000
set_option linter.unusedVariables false
namespace Mine
theorem runs_size {M : Model} {Γ : Ctx} {p : Pos} {t : Sem Fin} {fs : List Frame} {s s' : Shared} {e : End} (h : Runs M Γ p t fs s e s') : s.heap.objs.size ≤ s'.heap.objs.size := by
  induction h <;> (try simp only [Shared.setGen, Heap.size_push, Heap.size_after_update] at *) <;> (first | omega | exact Nat.le_refl _ | assumption)
theorem returns_size {M : Model} {Γ : Ctx} {p : Pos} {s s' : Shared} {r : Result} (h : Returns M Γ p s r s') : s.heap.objs.size ≤ s'.heap.objs.size := runs_size h
theorem wakes_size {M : Model} {Γ : Ctx} {p : Pos} {g : Nat} {r : Resume} {s s' : Shared} {res : GenResult} (h : Wakes M Γ p g r s res s') : s.heap.objs.size ≤ s'.heap.objs.size := by
  unfold Wakes at h
  split at h
  · exact h.elim
  · split at h
    · obtain ⟨e₁, s₁, hr, _, _, rfl⟩ := h; exact (runs_size hr : (s.setGen g .running).heap.objs.size ≤ s₁.heap.objs.size)
    · rw [h.2]; exact Nat.le_refl _
    · rw [h.2]; exact Nat.le_refl _
  · obtain ⟨e₁, s₁, hr, _, _, rfl⟩ := h; exact (runs_size hr : (s.setGen g .running).heap.objs.size ≤ s₁.heap.objs.size)
  · rw [h.2]; exact Nat.le_refl _
  · rw [h.2]; exact Nat.le_refl _
theorem wp_size {α : Type} (M : Model) (Γ : Ctx) (n : Nat) (t : Sem α) : ∀ (Q : α → Pos → Shared → Prop) (E : Value → Pos → Shared → Prop) (p : Pos) (s : Shared), n ≤ s.heap.objs.size → Sem.wp M Γ t Q E p s →
    Sem.wp M Γ t (fun a p' s' => n ≤ s'.heap.objs.size ∧ Q a p' s') (fun e p' s' => n ≤ s'.heap.objs.size ∧ E e p' s') p s := by
  induction t with
  | pure a => intro Q E p s hn h; exact ⟨hn, h⟩
  | raise e => intro Q E p s hn h; exact ⟨hn, h⟩
  | unsupported _ => intro Q E p s _ h; exact h
  | finish _ => intro Q E p s _ h; exact h
  | rule _ k ih => intro Q E p s hn h; exact ih () Q E p s hn h
  | «at» p' k ih => intro Q E p s hn h; exact ih () Q E p' s hn h
  | load a _ k ih => intro Q E p s hn h; obtain ⟨o, ho, h⟩ := h; exact ⟨o, ho, ih o Q E p s hn h⟩
  | update a _ f k ih => intro Q E p s hn h; exact ⟨h.1, ih () Q E p _ (by show n ≤ (s.heap.update a f).objs.size; rw [Heap.size_after_update]; exact hn) h.2⟩
  | loadIfAlive a k ih => intro Q E p s hn h; exact ih _ Q E p s hn h
  | point _ k ih => intro Q E p s hn h; exact ih () Q E p s hn h
  | register _ _ => intro Q E p s _ h; exact h
  | alloc o k ih => intro Q E p s hn h; exact ih _ Q E p _ (by show n ≤ (s.heap.push o).objs.size; rw [Heap.size_push]; omega) h
  | fresh k ih => intro Q E p s hn h; exact ih _ Q E p _ hn h
  | ask k ih => intro Q E p s hn h; exact ih _ Q E p s hn h
  | choose src m k ih => intro Q E p s hn h; exact ⟨h.1, ih _ Q E p _ hn h.2⟩
  | os q _ k ih => intro Q E p s hn h; exact ih _ Q E p _ hn h
  | call c hd _ _ k ih => intro Q E p s hn h; obtain ⟨r, s', hr, h⟩ := h; exact ⟨r, s', hr, ih r Q E p s' (Nat.le_trans hn (returns_size hr)) h⟩
  | handled own k ih => intro Q E p s hn h; exact ih _ Q E p s hn h
  | genState g k ih => intro Q E p s hn h; obtain ⟨st, hs, h⟩ := h; exact ⟨st, hs, ih _ Q E p s hn h⟩
  | newGen c k ih => intro Q E p s hn h; exact ih _ Q E p _ hn h
  | resume g r _ k ih => intro Q E p s hn h; obtain ⟨res, s', hw, h⟩ := h; exact ⟨res, s', hw, ih res Q E p s' (Nat.le_trans hn (wakes_size hw)) h⟩
  | yield _ _ _ _ => intro Q E p s _ h; exact h
  | stack k ih => intro Q E p s hn h; exact ih _ Q E p s hn h
  | fork _ _ => intro Q E p s _ h; exact h
  | thread k ih => intro Q E p s hn h; exact ih _ Q E p s hn h
  | await _ _ _ _ _ => intro Q E p s _ h; exact h
theorem wpAny_sz {α : Type} {M : Model} {A : Around} {s : Shared} {t : Sem α} {Q : α → Shared → Prop} {E : Value → Shared → Prop} {n : Nat} (hn : n ≤ s.heap.objs.size) (h : wpAny M A t Q E s) :
    wpAny M A t (fun a s' => n ≤ s'.heap.objs.size ∧ Q a s') (fun e s' => n ≤ s'.heap.objs.size ∧ E e s') s :=
  fun Γ p hΓ => wp_size M Γ n t _ _ p s hn (h Γ p hΓ)
/-- only what is kept has to be shown -/
theorem gives_keep {M : Model} {A : Around} {s : Shared} {t : Sem Value} {F : Fz} {d : D} (h : wpAny M A t (fun v s' => Same s s' ∧ Fle s.heap.get? s'.heap.get? ∧ (Fle F s.heap.get?) ∧ Rd F d v) (fun _ _ => False) s) : wpAny M A t (Gives F s d) (fun _ _ => False) s :=
  wpAny_mono (wpAny_sz (Nat.le_refl _) h) (fun v s' hp1 => by obtain ⟨z, S, k, l, r⟩ := hp1; exact ⟨F, ⟨.refl _, fun _ _ e => .inl e, k, l.trans k, z⟩, S, r⟩) fun _ _ x => x.2
end Mine
end

section
open PySem PySem.Calls PyProof.Rows PySem.W
set_option maxRecDepth 100000
namespace Mine
noncomputable def Dead (g h : Heap) : Prop := g.objs.size ≤ h.objs.size ∧ ∀ a, a < g.objs.size → g.get? a = none → h.get? a = none
theorem Dead.push {g h : Heap} (d : Dead g h) (o : Obj) : Dead g (h.push o) := by
  refine ⟨by rw [Heap.size_push]; exact Nat.le_succ_of_le d.1, fun a ha hn => ?_⟩
  cases e : (h.push o).get? a with
  | none => rfl
  | some x =>
    obtain ⟨e1, e2⟩ := Heap.get?_some_iff.mp e
    have : h.get? a = some x := Heap.get?_some_iff.mpr ⟨by
      have hl : a < h.objs.size := Nat.lt_of_lt_of_le ha d.1
      obtain ⟨os⟩ := h
      simp only [Heap.push] at e1
      rwa [Array.getElem?_push_lt hl, ← Array.getElem?_eq_getElem] at e1, e2⟩
    rw [d.2 a ha hn] at this; cases this
theorem Dead.update {b : Addr} {g h : Heap} {f : Obj → Obj} (d : Dead g h) (hb : (h.get? b).isSome = true) : Dead g (h.update b f) := by
  refine ⟨by rw [Heap.size_after_update]; exact d.1, fun a ha hn => ?_⟩
  have hz := d.2 a ha hn
  have hne : a ≠ b := fun q => by rw [← q, hz] at hb; cases hb
  rw [Heap.get?_update_ne _ _ _ _ hne]; exact hz
theorem runs_dead {a : Heap} {M : Model} {Γ : Ctx} {p : Pos} {t : Sem Fin} {fs : List Frame} {s s' : Shared} {e : End} (h : Runs M Γ p t fs s e s') : Dead a s.heap → Dead a s'.heap := by
  induction h <;> (try simp only [Shared.setGen] at *) <;> intro d <;> (first | exact d | (apply_assumption; exact d) | (apply_assumption; exact d.push _) | (apply_assumption; exact d.update (by assumption)) | (apply_assumption; apply_assumption; exact d) | (apply_assumption; apply_assumption; apply_assumption; exact d))
theorem returns_dead {a : Heap} {M : Model} {Γ : Ctx} {p : Pos} {s s' : Shared} {r : Result} (h : Returns M Γ p s r s') : Dead a s.heap → Dead a s'.heap := runs_dead h
theorem wakes_dead {a : Heap} {M : Model} {Γ : Ctx} {p : Pos} {g : Nat} {r : Resume} {s s' : Shared} {res : GenResult} (h : Wakes M Γ p g r s res s') (d : Dead a s.heap) : Dead a s'.heap := by
  unfold Wakes at h
  split at h
  · exact h.elim
  · split at h
    · obtain ⟨e₁, s₁, hr, _, _, rfl⟩ := h; exact (runs_dead hr : Dead a (s.setGen g .running).heap → Dead a s₁.heap) d
    · rw [h.2]; exact d
    · rw [h.2]; exact d
  · obtain ⟨e₁, s₁, hr, _, _, rfl⟩ := h; exact (runs_dead hr : Dead a (s.setGen g .running).heap → Dead a s₁.heap) d
  · rw [h.2]; exact d
  · rw [h.2]; exact d
theorem wp_dead {a : Heap} {α : Type} (M : Model) (Γ : Ctx) (t : Sem α) : ∀ (Q : α → Pos → Shared → Prop) (E : Value → Pos → Shared → Prop) (p : Pos) (s : Shared), Dead a s.heap → Sem.wp M Γ t Q E p s →
    Sem.wp M Γ t (fun v p' s' => Dead a s'.heap ∧ Q v p' s') (fun e p' s' => Dead a s'.heap ∧ E e p' s') p s := by
  induction t with
  | pure a => intro Q E p s hn h; exact ⟨hn, h⟩
  | raise e => intro Q E p s hn h; exact ⟨hn, h⟩
  | unsupported _ => intro Q E p s _ h; exact h
  | finish _ => intro Q E p s _ h; exact h
  | rule _ k ih => intro Q E p s hn h; exact ih () Q E p s hn h
  | «at» p' k ih => intro Q E p s hn h; exact ih () Q E p' s hn h
  | load a _ k ih => intro Q E p s hn h; obtain ⟨o, ho, h⟩ := h; exact ⟨o, ho, ih o Q E p s hn h⟩
  | update a _ f k ih => intro Q E p s hn h; exact ⟨h.1, ih () Q E p _ (hn.update h.1) h.2⟩
  | loadIfAlive a k ih => intro Q E p s hn h; exact ih _ Q E p s hn h
  | point _ k ih => intro Q E p s hn h; exact ih () Q E p s hn h
  | register _ _ => intro Q E p s _ h; exact h
  | alloc o k ih => intro Q E p s hn h; exact ih _ Q E p _ (hn.push o) h
  | fresh k ih => intro Q E p s hn h; exact ih _ Q E p _ hn h
  | ask k ih => intro Q E p s hn h; exact ih _ Q E p s hn h
  | choose src m k ih => intro Q E p s hn h; exact ⟨h.1, ih _ Q E p _ hn h.2⟩
  | os q _ k ih => intro Q E p s hn h; exact ih _ Q E p _ hn h
  | call c hd _ _ k ih => intro Q E p s hn h; obtain ⟨r, s', hr, h⟩ := h; exact ⟨r, s', hr, ih r Q E p s' (returns_dead hr hn) h⟩
  | handled own k ih => intro Q E p s hn h; exact ih _ Q E p s hn h
  | genState g k ih => intro Q E p s hn h; obtain ⟨st, hs, h⟩ := h; exact ⟨st, hs, ih _ Q E p s hn h⟩
  | newGen c k ih => intro Q E p s hn h; exact ih _ Q E p _ hn h
  | resume g r _ k ih => intro Q E p s hn h; obtain ⟨res, s', hw, h⟩ := h; exact ⟨res, s', hw, ih res Q E p s' (wakes_dead hw hn) h⟩
  | yield _ _ _ _ => intro Q E p s _ h; exact h
  | stack k ih => intro Q E p s hn h; exact ih _ Q E p s hn h
  | fork _ _ => intro Q E p s _ h; exact h
  | thread k ih => intro Q E p s hn h; exact ih _ Q E p s hn h
  | await _ _ _ _ _ => intro Q E p s _ h; exact h
/-- what stands at the end of a run, and stood not at its beginning, is new -/
theorem wpAny_new {M : Model} {A : Around} {s : Shared} {t : Sem Value} {Q : Value → Shared → Prop} (h : wpAny M A t Q (fun _ _ => False) s) : wpAny M A t (fun v s' => (∀ a, s.heap.get? a = none → s'.heap.get? a ≠ none → s.heap.objs.size ≤ a) ∧ Q v s') (fun _ _ => False) s := fun Γ p hΓ => by
  refine Sem.wp_mono M Γ _ (fun v s' p' q => ⟨fun a h1 h2 => ?_, q.2⟩) (fun _ _ _ q => q.2) _ _ (wp_dead (a := s.heap) M Γ t _ _ p s ⟨Nat.le_refl _, fun _ _ e => e⟩ (h Γ p hΓ))
  by_cases hl : a < s.heap.objs.size
  · exact absurd (q.1.2 a hl h1) h2
  · exact Nat.le_of_not_lt hl
end Mine
end

section
open PySem PySem.Calls PyProof.Rows PySem.W
set_option maxRecDepth 100000
set_option linter.unusedVariables false
namespace Mine
variable {c : Cx} {n : Nat} {sc : Scope} {ρ : Vars}

/-- several, looked at -/
inductive RdL1 (h : Heap) (F : Fz) : List D → List Value → Prop
  | nil : RdL1 h F [] []
  | cons {d : D} {v : Value} {ds : List D} {vs : List Value} : Rd1 h F d v → RdL1 h F ds vs → RdL1 h F (d :: ds) (v :: vs)
variable (c n sc ρ) in
noncomputable def EvLR (es : List Expr) (ds : List D) : Prop :=
  ∀ A env pins F P s, Room n A → EnvOk env sc → St c env pins ρ F P s.heap → ∀ pos,
    wpAny (model c.prog c.w) A (spliced (backTo pos (starEach es env))) (fun vs s' => ∃ F', Grow F s.heap F' s'.heap ∧ Same s s' ∧ RdL1 s'.heap F' ds vs) (fun _ _ => False) s
theorem EvLR_nil : EvLR c n sc ρ [] [] := fun A env pins F P s R ok S pos => spliced_nil ⟨F, .refl S.le, .refl s, .nil⟩
theorem EvLR_cons {e : Expr} {es : List Expr} {d : D} {ds : List D} (h1 : EvR c n sc ρ e d) (h2 : EvLR c n sc ρ es ds) (hp : plainArg e = true := by rfl) : EvLR c n sc ρ (e :: es) (d :: ds) := fun A env pins F P s R ok S pos => by
  rw [starEach_plain hp]
  show wpAny _ _ (spliced ((false, eval e env) :: backTo pos (starEach es env))) _ _ _
  refine spliced_cons (wpAny_mono (h1 A env pins F P s R ok S) (fun v s₁ hp1 => ?_) fun _ _ x => x)
  obtain ⟨F₁, G₁, X₁, r₁⟩ := hp1
  refine wpAny_mono (h2 A env pins F₁ P s₁ R ok (S.grow G₁) pos) (fun vs s₂ hp2 => ?_) fun _ _ x => x
  obtain ⟨F₂, G₂, X₂, r₂⟩ := hp2
  exact ⟨F₂, G₁.trans G₂, X₁.trans X₂, .cons (r₁.mono G₂.keep G₂.fle) r₂⟩

/-- a name of the module or a built-in -/
noncomputable def Glb (c : Cx) (x : Str) (v : Value) : Prop := c.mg x = some v ∨ (c.mg x = none ∧ bootBuiltins x = some v ∧ x ≠ "__name__")
noncomputable def isGlb (sc : Scope) (x : Str) : Bool := sc.names.lookup x == some .globalImplicit && !(x == ("__debug__" : Str))
theorem load_glob {env : Env} {x : Str} {v : Value} {A : Around} {E : Value → Shared → Prop} {s : Shared} {pos : Pos} {Q : Value → Shared → Prop} (hc : c.Ok) (ok : EnvOk env sc) (hk : Fle c.hB.get? s.heap.get?) (hl : isGlb sc x = true) (hv : Glb c x v) (q : Q v s) :
    wpAny (model c.prog c.w) A (eval (.Name x pos) env) Q E s := by
  unfold isGlb at hl
  obtain ⟨h1, h2⟩ := Bool.and_eq_true_iff.mp hl
  have hkind : env.scope.kind = .function := by rw [ok.scope]; exact ok.kind
  have kx : env.kindOf x = some .globalImplicit := by unfold Env.kindOf; rw [ok.scope]; exact beq_iff_eq.mp h1
  have hd : (x == ("__debug__" : Str)) = false := by simpa using h2
  have T := hc.top.keeps hk
  rcases hv with e | ⟨e1, e2, e3⟩
  · exact Name_function_global hkind kx (loadGlobal_global (by rw [ok.globals]; exact T.g) e q) hd
  · exact Name_function_global hkind kx (loadGlobal_builtin (by rw [ok.globals]; exact T.g) e1 (by rw [ok.builtins]; exact T.b) ((T.builtins x e3).trans e2) q) hd
theorem St.keep {env : Env} {pins : Pins} {F : Fz} {P : Addr → Prop} {h : Heap} (S : St c env pins ρ F P h) : Fle c.hB.get? h.get? := S.base.trans S.le

theorem tail_bind {M : Model} {A : Around} {E : Value → Shared → Prop} {s : Shared} {t : Sem Value} {Q : Value → Shared → Prop} (ht : wpAny M A t Q E s) : wpAny M A (t >>= fun r => holding [r] point >>= fun _ => pure r) Q E s :=
  wpAny_bind (wpAny_mono ht (fun r s₂ hr => wpAny_bind (wpAny_holding (wpAny_point (wpAny_pure hr)))) fun _ _ x => x)
theorem starFalse {es : List Expr} {env : Env} {pos : Pos} (h : es.all plainArg = true) : (backTo pos (starEach es env)).any (·.1) = false := by
  induction es with
  | nil => rfl
  | cons e r ih =>
    simp only [List.all_cons, Bool.and_eq_true] at h
    rw [starEach_plain h.1]
    show ((false, _) :: backTo pos (starEach r env)).any (·.1) = false
    rw [List.any_cons, ih h.2]; rfl
theorem evalArgs_any {M : Model} {A : Around} {E : Value → Shared → Prop} {s : Shared} {f : Value} {args : List (Bool × Sem Value)} {Q : Args → Shared → Prop} (hp : args.any (·.1) = false)
    (h : wpAny M A (spliced args) (fun vs s' => Q ⟨vs, []⟩ s') E s) : wpAny M A (evalArgs f true args []) Q E s := by
  cases args with
  | nil =>
    unfold evalArgs
    show wpAny M A (spliced [] >>= _) Q E s
    refine wpAny_bind (wpAny_mono h (fun vs s' h' => ?_) fun _ _ x => x)
    refine wpAny_bind (wpAny_pure ?_)
    refine wpAny_holding ?_
    exact wpAny_bind (wpAny_pure (wpAny_bind (wpAny_pure (wpAny_pure h'))))
  | cons a r =>
    obtain ⟨b, x⟩ := a
    simp only [List.any_cons, Bool.or_eq_false_iff] at hp
    obtain ⟨rfl, _⟩ := hp
    exact evalArgs_plain h
theorem callWith_val {M : Model} {A : Around} {E : Value → Shared → Prop} {s : Shared} {pos : Pos} {f : Value} {first : List Value} {args : List (Bool × Sem Value)} {Q : Value → Shared → Prop} (hp : args.any (·.1) = false) (hf : ∀ a, f ≠ .ref a)
    (h : wpAny M A (spliced args) (fun vs s₁ => wpAny M A (call f (first ++ vs) []) Q E s₁) E s) : wpAny M A (callWith pos f first args []) Q E s := by
  unfold callWith
  refine wpAny_bind (wpAny_holding (evalArgs_any hp (wpAny_mono h (fun vs s₁ h₁ => wpAny_bind (wpAny_standAt ?_)) fun _ _ x => x)))
  simp only [hp, List.any_nil, Bool.or_false]
  have hk : keeperOf f = pure .machine := by
    unfold keeperOf
    cases f <;> first | rfl | exact absurd rfl (hf _)
  rw [hk]
  refine wpAny_bind (wpAny_pure ?_)
  exact tail_bind h₁
theorem callWith_fn {M : Model} {A : Around} {E : Value → Shared → Prop} {s : Shared} {pos : Pos} {a : Addr} {first : List Value} {args : List (Bool × Sem Value)} {Q : Value → Shared → Prop} (hp : args.any (·.1) = false)
    (h : wpAny M A (spliced args) (fun vs s₁ => (∃ o fd, s₁.heap.get? a = some o ∧ o.data = .func fd) ∧ wpAny M A (call (.ref a) (first ++ vs) []) Q E s₁) E s) : wpAny M A (callWith pos (.ref a) first args []) Q E s := by
  unfold callWith
  refine wpAny_bind (wpAny_holding (evalArgs_any hp (wpAny_mono h (fun vs s₁ h₁ => wpAny_bind (wpAny_standAt ?_)) fun _ _ x => x)))
  obtain ⟨⟨o, fd, ho, hd⟩, h₁⟩ := h₁
  simp only [hp, List.any_nil, Bool.or_false]
  refine wpAny_bind (m := keeperOf (.ref a)) ?_
  unfold keeperOf
  refine wpAny_bind (wpAny_load ho ?_)
  rw [hd]
  refine wpAny_pure ?_
  dsimp only
  split
  · exact tail_bind h₁
  · exact tail_bind (by unfold callMarked; exact wpAny_keep h₁)

/-- calls of built-ins that look at their arguments -/
noncomputable def CallR (c : Cx) (f : Value) (ds : List D) (d : D) : Prop := ∀ A F s vs, Room 0 A → Fle c.hB.get? F → Fle F s.heap.get? → RdL1 s.heap F ds vs → wpAny (model c.prog c.w) A (call f vs) (Gives F s d) (fun _ _ => False) s
theorem Ev_callB {f : Str} {p pos : Pos} {args : List Expr} {fv : Value} {ds : List D} {d : D} (hc : c.Ok) (hg : Glb c f fv) (hi : isGlb sc f = true) (hf : ∀ a, fv ≠ .ref a) (ha : EvLR c n sc ρ args ds) (hcall : CallR c fv ds d) (hp : args.all plainArg = true := by rfl) :
    Ev c n sc ρ (.Call (.Name f p) args [] pos) d := fun A env pins F P s R ok S => by
  refine wpAny_Call_Name_kw (load_glob hc ok S.keep hi hg ?_)
  show wpAny _ _ (callWith pos fv [] (backTo pos (starEach args env)) []) _ _ _
  refine callWith_val (starFalse hp) hf (wpAny_mono (ha A env pins F P s R ok S pos) (fun vs s₁ hp3 => ?_) fun _ _ x => x)
  obtain ⟨F₁, G₁, X₁, r₁⟩ := hp3
  exact wpAny_mono (hcall A F₁ s₁ vs (R.le (Nat.zero_le _)) (S.grow G₁).base G₁.le r₁) (fun z s₃ q => q.after G₁ X₁) fun _ _ x => x

theorem RdL1.one {h : Heap} {F : Fz} {d : D} {vs : List Value} (r : RdL1 h F [d] vs) : ∃ v, vs = [v] ∧ Rd1 h F d v := by
  cases r with | cons a r => cases r; exact ⟨_, rfl, a⟩
theorem RdL1.two {h : Heap} {F : Fz} {d e : D} {vs : List Value} (r : RdL1 h F [d, e] vs) : ∃ v w, vs = [v, w] ∧ Rd1 h F d v ∧ Rd1 h F e w := by
  cases r with | cons a r => obtain ⟨w, rfl, b⟩ := r.one; exact ⟨_, _, rfl, a, b⟩
theorem CallR.lenL {xs : List D} (hl : xs.length ≤ 100000) : CallR c (.builtin "len") [.lst xs] (.int xs.length) := fun A F s vs R hb l r => by
  obtain ⟨v, rfl, q⟩ := r.one
  obtain ⟨a, its, rfl, i, q⟩ := q.lst l
  have e : its.size = xs.length := by rw [← Array.length_toList]; exact q.length
  exact PyProof.Rows.len_list i (by rw [e]; omega) (by rw [e]; exact .flat l (.int _ _))
theorem CallR.range1 {b : Int} : CallR c (.type "range") [.int b] (.rng 0 b) := fun A F s vs R hb l r => by
  obtain ⟨v, rfl, q⟩ := r.one
  obtain ⟨t, rfl⟩ := q.int
  exact call_range_1 ⟨_, Grow.push l _ rfl, ⟨_, _, rfl⟩, .rng (Fz.ins_self _ _ _)⟩
theorem CallR.range2 {a b : Int} : CallR c (.type "range") [.int a, .int b] (.rng a b) := fun A F s vs R hb l r => by
  obtain ⟨v, w, rfl, q, q'⟩ := r.two
  obtain ⟨t, rfl⟩ := q.int; obtain ⟨t, rfl⟩ := q'.int
  exact call_range_2 ⟨_, Grow.push l _ rfl, ⟨_, _, rfl⟩, .rng (Fz.ins_self _ _ _)⟩
theorem CallR.max2 {a b : Int} : CallR c (.builtin "max") [.int a, .int b] (.int (if b > a then b else a)) := fun A F s vs R hb l r => by
  obtain ⟨v, w, rfl, q, q'⟩ := r.two
  obtain ⟨t, rfl⟩ := q.int; obtain ⟨u, rfl⟩ := q'.int
  refine gives_keep (max_two_ints R.1 fun h' tk k => ⟨⟨_, _, rfl⟩, k, l, ?_⟩)
  by_cases h : b > a
  · rw [if_pos h, if_pos h]; exact .int _ _
  · rw [if_neg h, if_neg h]; exact .int _ _
theorem CallR.min2 {a b : Int} : CallR c (.builtin "min") [.int a, .int b] (.int (if b < a then b else a)) := fun A F s vs R hb l r => by
  obtain ⟨v, w, rfl, q, q'⟩ := r.two
  obtain ⟨t, rfl⟩ := q.int; obtain ⟨u, rfl⟩ := q'.int
  refine gives_keep (min_two_ints R.1 fun h' tk k => ⟨⟨_, _, rfl⟩, k, l, ?_⟩)
  by_cases h : b < a
  · rw [if_pos h, if_pos h]; exact .int _ _
  · rw [if_neg h, if_neg h]; exact .int _ _
/-- an item -/
noncomputable def notSlice : Expr → Bool
  | .Slice .. => false
  | _ => true
theorem subscripted_not {slice : Expr} (h : notSlice slice = true) (o i : Value) : subscripted slice false o i = operate [o, i] (getItem o i) := by
  cases slice <;> first | rfl | cases h
noncomputable def Itm (c : Cx) (a i d : D) : Prop := ∀ A F s va vi value slice, Room 0 A → Fle c.hB.get? F → Fle F s.heap.get? → Rd1 s.heap F a va → Rd1 s.heap F i vi → notSlice slice = true → wpAny (model c.prog c.w) A (subscriptTail value slice va vi) (Gives F s d) (fun _ _ => False) s
theorem Ev_Sub {value slice : Expr} {pos : Pos} {a i d : D} (hv : EvR c n sc ρ value a) (hi : EvR c n sc ρ slice i) (h : Itm c a i d) (hs : notSlice slice = true := by rfl) : Ev c n sc ρ (.Subscript value slice pos) d := fun A env pins F P s R ok S => by
  refine Subscript_ (wpAny_mono (hv A env pins F P s R ok S) (fun v s₁ hp4 => ?_) fun _ _ x => x)
  obtain ⟨F₁, G₁, X₁, r₁⟩ := hp4
  have S₁ := S.grow G₁
  refine wpAny_mono (hi A env pins F₁ P s₁ R ok S₁) (fun w s₂ hp5 => ?_) fun _ _ x => x
  obtain ⟨F₂, G₂, X₂, r₂⟩ := hp5
  exact wpAny_mono (h A F₂ s₂ v w value slice (R.le (Nat.zero_le _)) (S₁.grow G₂).base G₂.le (r₁.mono G₂.keep G₂.fle) r₂ hs) (fun z s₃ q => (q.after G₂ X₂).after G₁ X₁) fun _ _ x => x
theorem Itm.lst {xs : List D} {i : Int} {d : D} (h0 : 0 ≤ i) (hx : xs[i.toNat]? = some d) (hi : i < 2 ^ 62) : Itm c (.lst xs) (.int i) d := fun A F s va vi value slice R hb l ra ri hs => by
  obtain ⟨a, its, rfl, il, q⟩ := ra.lst l
  obtain ⟨t, rfl⟩ := ri.int
  obtain ⟨v, e, r⟩ := q.get' hx
  exact tail_any il.typeIs slot_list_getitem.lookup (wpAny_getItem_list il h0 (by omega) (by rw [← Array.getElem?_toList]; exact e) (.now l r)) (subscripted_not hs _ _)
theorem Itm.tup {xs : List D} {i : Int} {d : D} (h0 : 0 ≤ i) (hx : xs[i.toNat]? = some d) (hi : i < 2 ^ 62) : Itm c (.tup xs) (.int i) d := fun A F s va vi value slice R hb l ra ri hs => by
  obtain ⟨a, o, its, k, rfl, e1, e2, e3, q⟩ := ra.tup l
  obtain ⟨t, rfl⟩ := ri.int
  obtain ⟨v, e, r⟩ := q.get' hx
  have it : IsTup s.heap a its := ⟨o, e1, e2, k, e3⟩
  have hlt : i.toNat < its.size := by
    have := List.getElem?_eq_some_iff.mp e
    rw [← Array.length_toList]; exact this.1
  refine tail_any it.typeIs slot_tuple_getitem.lookup (getItem_tuple it (by omega) (by omega) (j := i.toNat) ?_ (by rw [← Array.getElem?_toList]; exact e) (.now l r)) (subscripted_not hs _ _)
  unfold seqIndex?
  have h1 : ¬ i < 0 := by omega
  simp only [h1, if_false, h0, decide_true, Bool.true_and]
  rw [if_pos (by simp; omega)]
theorem Itm.str {x : Str} {i : Int} {k : Nat} {cp : Nat} (hk : seqIndex? i x.length = some k) (hx : x.cps[k]? = some cp) (h1 : -1000 ≤ i) (h2 : i ≤ 1000) : Itm c (.str x) (.int i) (.str ⟨#[cp]⟩) := fun A F s va vi value slice R hb l ra ri hs => by
  obtain ⟨t, rfl⟩ := ra.str
  obtain ⟨u, rfl⟩ := ri.int
  refine tail_any (typeIs_str _ _ _) PySem.F.slot_str_getitem.lookup (P.getItem_str ?_ (by rw [hk]; exact hx) (.flat l (.str _ _))) (subscripted_not hs _ _)
  simp; omega
end Mine
end

section
open PySem PySem.Calls PyProof.Rows PySem.W
set_option maxRecDepth 100000
set_option linter.unusedVariables false
namespace Mine

/-- how a run of statements ends -/
inductive Fl where
  | next | brk | cont
  | ret (d : D)
  | retF (d : D)
inductive FlR (F' : Fz) (P : Addr → Prop) (sz : Nat) : Fl → Flow → Prop
  | next : FlR F' P sz .next .next
  | brk : FlR F' P sz .brk .brk
  | cont : FlR F' P sz .cont .cont
  | ret {d : D} {v : Value} : Rd F' d v → FlR F' P sz (.ret d) (.ret v)
  | retF {d : D} {a : Addr} : Rd F' d (.ref a) → (P a ∨ sz ≤ a) → FlR F' P sz (.retF d) (.ret (.ref a))
theorem FlR.back {F' : Fz} {P P' : Addr → Prop} {sz sz' : Nat} {fl : Fl} {f : Flow} (x : FlR F' P' sz' fl f) (h : ∀ a, P' a → P a ∨ sz ≤ a) (hs : sz ≤ sz') : FlR F' P sz fl f := by
  cases x with
  | next => exact .next
  | brk => exact .brk
  | cont => exact .cont
  | ret r => exact .ret r
  | retF r q => exact .retF r (q.elim (h _) fun q => .inr (Nat.le_trans hs q))

noncomputable def StepTo (c : Cx) (env : Env) (pins : Pins) (F : Fz) (P : Addr → Prop) (s : Shared) (fl : Fl) (ρ' : Vars) : Flow → Shared → Prop :=
  fun f s' => ∃ F' P', Step F P s.heap F' P' s'.heap ∧ Same s s' ∧ St c env pins ρ' F' P' s'.heap ∧ FlR F' P s.heap.objs.size fl f
theorem StepTo.after {c : Cx} {env : Env} {pins : Pins} {F F₁ : Fz} {P P₁ : Addr → Prop} {s s₁ : Shared} {fl : Fl} {ρ' : Vars} {f : Flow} {s' : Shared} (T : Step F P s.heap F₁ P₁ s₁.heap) (X : Same s s₁) (q : StepTo c env pins F₁ P₁ s₁ fl ρ' f s') : StepTo c env pins F P s fl ρ' f s' := by
  obtain ⟨F', P', T', X', S', r⟩ := q
  exact ⟨F', P', T.trans T', X.trans X', S', r.back T.mem T.size⟩

variable (c : Cx)
noncomputable def ExS (n : Nat) (sc : Scope) (pn : List Str) (ρ : Vars) (st : Stmt) (fl : Fl) (ρ' : Vars) : Prop :=
  ∀ A env pins F P s, Room n A → EnvOk env sc → pins.map (·.1) = pn → St c env pins ρ F P s.heap → wpAny (model c.prog c.w) A (exec st env) (StepTo c env pins F P s fl ρ') (fun _ _ => False) s
noncomputable def Ex (n : Nat) (sc : Scope) (pn : List Str) (ρ : Vars) (sts : List Stmt) (fl : Fl) (ρ' : Vars) : Prop :=
  ∀ A env pins F P s, Room n A → EnvOk env sc → pins.map (·.1) = pn → St c env pins ρ F P s.heap → wpAny (model c.prog c.w) A (execs sts env) (StepTo c env pins F P s fl ρ') (fun _ _ => False) s
variable {c} {n : Nat} {sc : Scope} {pn : List Str} {ρ : Vars}

theorem Ex_nil : Ex c n sc pn ρ [] .next ρ := fun A env pins F P s R ok hp S => wpAny_execs_nil ⟨F, P, .refl, .refl s, S, .next⟩
theorem Ex_cons {st : Stmt} {r : List Stmt} {fl : Fl} {ρ₁ ρ' : Vars} (h1 : ExS c n sc pn ρ st .next ρ₁) (h2 : Ex c n sc pn ρ₁ r fl ρ') : Ex c n sc pn ρ (st :: r) fl ρ' := fun A env pins F P s R ok hp S => by
  refine wpAny_execs_cons (wpAny_mono (h1 A env pins F P s R ok hp S) (fun f s₁ hp1 => ?_) fun _ _ x => x)
  obtain ⟨F₁, P₁, T, X, S₁, q⟩ := hp1
  cases q
  exact wpAny_mono (h2 A env pins F₁ P₁ s₁ R ok hp S₁) (fun f s' q => q.after T X) fun _ _ x => x
noncomputable def Fl.stops : Fl → Bool
  | .next => false
  | _ => true
theorem Ex_stop {st : Stmt} {r : List Stmt} {fl : Fl} {ρ' : Vars} (h1 : ExS c n sc pn ρ st fl ρ') (hs : fl.stops = true := by rfl) : Ex c n sc pn ρ (st :: r) fl ρ' := fun A env pins F P s R ok hp S => by
  refine wpAny_execs_cons (wpAny_mono (h1 A env pins F P s R ok hp S) (fun f s₁ q => ?_) fun _ _ x => x)
  obtain ⟨F₁, P₁, T, X, S₁, q⟩ := q
  cases q with
  | next => cases hs
  | brk => exact ⟨F₁, P₁, T, X, S₁, .brk⟩
  | cont => exact ⟨F₁, P₁, T, X, S₁, .cont⟩
  | ret r => exact ⟨F₁, P₁, T, X, S₁, .ret r⟩
  | retF r z => exact ⟨F₁, P₁, T, X, S₁, .retF r z⟩
theorem ExS_if {test : Expr} {a b : List Stmt} {pos : Pos} {t : Bool} {fl : Fl} {ρ' : Vars} (ht : Te c n sc ρ test t) (ha : t = true → Ex c n sc pn ρ a fl ρ') (hb : t = false → Ex c n sc pn ρ b fl ρ') : ExS c n sc pn ρ (.If test a b pos) fl ρ' := fun A env pins F P s R ok hp S => by
  refine wpAny_If (wpAny_mono (ht A env pins F P s R ok S) (fun t' s₁ hp2 => ?_) fun _ _ x => x)
  obtain ⟨e, F₁, G₁, X₁⟩ := hp2
  subst e
  cases t' with
  | true => exact wpAny_mono (ha rfl A env pins F₁ P s₁ R ok hp (S.grow G₁)) (fun f s' q => q.after G₁.step X₁) fun _ _ x => x
  | false => exact wpAny_mono (hb rfl A env pins F₁ P s₁ R ok hp (S.grow G₁)) (fun f s' q => q.after G₁.step X₁) fun _ _ x => x
theorem ExS_return {e : Expr} {pos : Pos} {d : D} (h : Ev c n sc ρ e d) : ExS c n sc pn ρ (.Return (some e) pos) (.ret d) ρ := fun A env pins F P s R ok hp S =>
  wpAny_Return_some (wpAny_mono (h A env pins F P s R ok S) (fun v s₁ hp3 => by obtain ⟨F₁, G₁, X₁, r⟩ := hp3; exact ⟨F₁, P, G₁.step, X₁, S.grow G₁, .ret r⟩) fun _ _ x => x)
theorem ExS_break {pos : Pos} : ExS c n sc pn ρ (.Break pos) .brk ρ := fun A env pins F P s R ok hp S => by
  rw [arm_exec_Break]; exact wpAny_bind (wpAny_standAt (wpAny_pure ⟨F, P, .refl, .refl s, S, .brk⟩))
theorem ExS_continue {pos : Pos} : ExS c n sc pn ρ (.Continue pos) .cont ρ := fun A env pins F P s R ok hp S => by
  rw [arm_exec_Continue]; exact wpAny_bind (wpAny_standAt (wpAny_pure ⟨F, P, .refl, .refl s, S, .cont⟩))

/-- the variables, with one new or turned -/
noncomputable def Vars.put : Vars → Str → Slot → Vars
  | [], x, s => [(x, s)]
  | (y, t) :: r, x, s => if x == y then (y, s) :: r else (y, t) :: Vars.put r x s
theorem lookup_put : ∀ (ρ : Vars) (x : Str) (s : Slot) (y : Str), (Vars.put ρ x s).lookup y = if y = x then some s else ρ.lookup y
  | [], x, s, y => by
    unfold Vars.put
    rw [List.lookup_cons, List.lookup_nil]
    by_cases h : y = x
    · subst h; simp
    · have : (y == x) = false := by simpa using h
      rw [this, if_neg h]
  | (z, t) :: r, x, s, y => by
    unfold Vars.put
    by_cases hx : (x == z) = true
    · rw [if_pos hx]
      have hxz := beq_iff_eq.mp hx
      subst hxz
      rw [List.lookup_cons, List.lookup_cons]
      by_cases h : y = x
      · subst h; simp
      · have : (y == x) = false := by simpa using h
        rw [this, if_neg h]
    · rw [if_neg hx, List.lookup_cons, List.lookup_cons, lookup_put r x s y]
      have hne : ¬ x = z := by simpa using hx
      by_cases h : y = x
      · subst h
        have : (y == z) = false := by simpa using hne
        rw [this, if_pos rfl]
      · rw [if_neg h, if_neg h]

noncomputable def isSto (sc : Scope) (x : Str) : Bool := match sc.names.lookup x with
  | some .local | some .cell => true
  | _ => false
theorem store_var' {env : Env} {vm : Str → Option Value} {x : Str} {v : Value} {M : Model} {A : Around} {E : Value → Shared → Prop} {s : Shared} {Q : Unit → Shared → Prop} (ok : EnvOk env sc) (S : Stor env s.heap vm) (hl : isSto sc x = true)
    (q : ∀ h' tk, Stor env h' (fun y => if y = x then some v else vm y) → (∃ a ∈ stor env, Heap.SameBut a s.heap h' ∧ (a = env.locals ∨ env.cells.lookup x = some a)) → Q () { s with heap := h', toks := tk }) : wpAny M A (storeName env x v) Q E s := by
  have hk : env.scope.kind = .function := by rw [ok.scope]; exact ok.kind
  have kx : env.kindOf x = sc.names.lookup x := by unfold Env.kindOf; rw [ok.scope]
  have nd := List.nodup_cons.mp (show (env.locals :: env.cells.map (·.2)).Nodup from ok.nd)
  unfold isSto at hl
  split at hl
  · rename_i e
    obtain ⟨m, nm, em⟩ := S.loc
    refine wpAny_storeName_local (kx.trans e) nm (fun h' n' sb => q h' _ ⟨⟨_, n', fun y hy => ?_⟩, fun y hy => ?_⟩ ⟨env.locals, .head _, sb, .inl rfl⟩) (by rw [hk]; rfl)
    · by_cases h : y = x
      · subst h; simp
      · simp only [if_neg h]; exact em y hy
    · obtain ⟨cc, e1, e2⟩ := S.cel y hy
      have hne : y ≠ x := fun q => by subst q; rw [kx, e] at hy; rcases hy with hy | hy <;> cases hy
      refine ⟨cc, e1, ?_⟩
      simp only [if_neg hne]
      exact e2.sameBut sb fun q => nd.1 (q ▸ List.mem_map_of_mem (mem_of_lookup e1))
  · rename_i e
    obtain ⟨cc, e1, e2⟩ := S.cel x (.inl (kx.trans e))
    have hin : cc ∈ env.cells.map (·.2) := List.mem_map_of_mem (mem_of_lookup e1)
    refine wpAny_storeName_cell hk (kx.trans e) e1 e2 fun h' n' sb => q h' _ ⟨?_, fun y hy => ?_⟩ ⟨cc, .tail _ hin, sb, .inr e1⟩
    · obtain ⟨m, nm, em⟩ := S.loc
      refine ⟨m, nm.sameBut sb fun q => nd.1 (q ▸ hin), fun y hy => ?_⟩
      have hne : y ≠ x := fun q => by subst q; rw [kx, e] at hy; cases hy
      simp only [if_neg hne]
      exact em y hy
    · by_cases h : y = x
      · subst h
        exact ⟨cc, e1, by simpa using n'⟩
      · obtain ⟨c2, e3, e4⟩ := S.cel y hy
        refine ⟨c2, e3, ?_⟩
        simp only [if_neg h]
        refine e4.sameBut sb fun q => h ?_
        subst q
        have pw : env.cells.Pairwise fun a b => a.2 ≠ b.2 := List.pairwise_map.mp nd.2
        exact name_of_addr pw (mem_of_lookup e3) (mem_of_lookup e1)
  · cases hl

theorem store_var {env : Env} {vm : Str → Option Value} {x : Str} {v : Value} {M : Model} {A : Around} {E : Value → Shared → Prop} {s : Shared} {Q : Unit → Shared → Prop} (ok : EnvOk env sc) (S : Stor env s.heap vm) (hl : isSto sc x = true)
    (q : ∀ h' tk, Stor env h' (fun y => if y = x then some v else vm y) → (∃ a ∈ stor env, Heap.SameBut a s.heap h') → Q () { s with heap := h', toks := tk }) : wpAny M A (storeName env x v) Q E s :=
  store_var' ok S hl fun h' tk S' hp4 => by obtain ⟨a, h1, h2, _⟩ := hp4; exact q h' tk S' ⟨a, h1, h2⟩

/-- storing a value with its changeable addresses as -/
theorem StV.store {env : Env} {pins : Pins} {F : Fz} {P : Addr → Prop} {h h' : Heap} {vm : Str → Option Value} {fp : Str → List Addr} (S : StV c env pins ρ F P h vm fp) {x : Str} {sl : Slot} {v : Value} {as : List Addr}
    (O : Own h F sl v as) (hnd : as.Nodup) (hF : ∀ a ∈ as, F a = none) (hst : ∀ a ∈ as, a ∉ stor env) (hap : ∀ y t, ρ.lookup y = some t → y ≠ x → ∀ a ∈ as, a ∉ fp y) (hpin : x ∉ pins.map (·.1))
    (S' : Stor env h' (fun y => if y = x then some v else vm y)) (sb : ∃ a ∈ stor env, Heap.SameBut a h h') :
    ∃ P', St c env pins (Vars.put ρ x sl) F P' h' ∧ (∀ a, P' a → P a ∨ a ∈ as) ∧ (∀ a o, ¬ P a → h.get? a = some o → h'.get? a = some o) ∧ h'.objs.size = h.objs.size := by
  obtain ⟨b, hb, sb⟩ := sb
  have keep : ∀ a o, a ∉ stor env → h.get? a = some o → h'.get? a = some o := fun a o q e => (sb.2 a fun z => q (z ▸ hb)).trans e
  refine ⟨fun a => a ∈ stor env ∨ ∃ y t, (Vars.put ρ x sl).lookup y = some t ∧ a ∈ (if y = x then as else fp y), ⟨fun y => if y = x then some v else vm y, fun y => if y = x then as else fp y, ?_⟩, fun a q => ?_, fun a o q e => keep a o (fun z => q ((S.mem a).mpr (.inl z))) e, sb.1⟩
  · exact {
      base := S.base
      le := fun a o e => keep a o (fun z => by rw [S.out a ((S.mem a).mpr (.inl z))] at e; cases e) (S.le a o e)
      sto := S'
      own := fun y t e => by
        rw [lookup_put] at e
        by_cases hy : y = x
        · rw [if_pos hy] at e; cases e
          refine ⟨v, by simp only [if_pos hy], ?_⟩
          rw [if_pos hy]
          exact O.mono (fun a ha o e => keep a o (hst a ha) e) (.refl _)
        · rw [if_neg hy] at e
          obtain ⟨w, e1, o⟩ := S.own y t e
          refine ⟨w, by simp only [if_neg hy]; exact e1, ?_⟩
          rw [if_neg hy]
          exact o.mono (fun a ha o e' => keep a o (S.aparts y t e a ha) e') (.refl _)
      pin := fun q hq => by
        have : q.1 ≠ x := fun z => hpin (z ▸ List.mem_map_of_mem hq)
        simp only [if_neg this]; exact S.pin q hq
      mem := fun a => Iff.rfl
      lt := fun a q => by
        rw [sb.1]
        rcases q with q | ⟨y, t, e, q⟩
        · exact S.lt a ((S.mem a).mpr (.inl q))
        · by_cases hy : y = x
          · rw [if_pos hy] at q; exact O.lt a q
          · rw [if_neg hy] at q; rw [lookup_put, if_neg hy] at e
            exact S.lt a ((S.mem a).mpr (.inr ⟨y, t, e, q⟩))
      out := fun a q => by
        rcases q with q | ⟨y, t, e, q⟩
        · exact S.out a ((S.mem a).mpr (.inl q))
        · by_cases hy : y = x
          · rw [if_pos hy] at q; exact hF a q
          · rw [if_neg hy] at q; rw [lookup_put, if_neg hy] at e
            exact S.out a ((S.mem a).mpr (.inr ⟨y, t, e, q⟩))
      nd := fun y t e => by
        by_cases hy : y = x
        · simp only [if_pos hy]; exact hnd
        · simp only [if_neg hy]; rw [lookup_put, if_neg hy] at e; exact S.nd y t e
      apart := fun y t z u e e' hne a ha => by
        by_cases hy : y = x
        · have hz : z ≠ x := fun q => hne (hy.trans q.symm)
          simp only [if_pos hy] at ha; simp only [if_neg hz]
          rw [lookup_put, if_neg hz] at e'
          exact hap z u e' hz a ha
        · simp only [if_neg hy] at ha
          rw [lookup_put, if_neg hy] at e
          by_cases hz : z = x
          · simp only [if_pos hz]; exact fun q => hap y t e hy a q ha
          · simp only [if_neg hz]; rw [lookup_put, if_neg hz] at e'; exact S.apart y t z u e e' hne a ha
      aparts := fun y t e a ha => by
        by_cases hy : y = x
        · simp only [if_pos hy] at ha; exact hst a ha
        · simp only [if_neg hy] at ha; rw [lookup_put, if_neg hy] at e; exact S.aparts y t e a ha }
  · rcases q with q | ⟨y, t, e, q⟩
    · exact .inl ((S.mem a).mpr (.inl q))
    · by_cases hy : y = x
      · rw [if_pos hy] at q; exact .inr q
      · rw [if_neg hy] at q; rw [lookup_put, if_neg hy] at e
        exact .inl ((S.mem a).mpr (.inr ⟨y, t, e, q⟩))

/-- after an expression has grown F to F₁, its value is stored as a frozen datum -/
theorem store_val {env : Env} {pins : Pins} {F : Fz} {P : Addr → Prop} {A : Around} {s : Shared} {x : Str} {d : D} {v : Value} (ok : EnvOk env sc) (hp : pins.map (·.1) = pn) (S : St c env pins ρ F P s.heap) (hs : isSto sc x = true) (hx : x ∉ pn) (r : Rd F d v) {fl : Fl} {f : Flow} (hf : FlR F P s.heap.objs.size fl f) :
    wpAny (model c.prog c.w) A (storeName env x v) (fun _ => StepTo c env pins F P s fl (Vars.put ρ x (.val d)) f) (fun _ _ => False) s := by
  obtain ⟨vm, fp, S⟩ := S
  refine store_var ok S.sto hs fun h' tk S' sb => ?_
  obtain ⟨P', S'', hP, hk, hz⟩ := S.store (.val r) .nil (fun a q => nomatch q) (fun a q => nomatch q) (fun y t e hy a q => nomatch q) (hp ▸ hx) S' sb
  exact ⟨F, P', ⟨.refl _, fun a o e => .inl e, hk, fun a q => (hP a q).elim .inl fun q => (nomatch q), Nat.le_of_eq hz.symm⟩, ⟨_, _, rfl⟩, S'', hf⟩

noncomputable def plainVal : Expr → Bool
  | .ListComp .. | .SetComp .. | .DictComp .. => false
  | _ => true
theorem swaps_plain {v : Expr} {t : Option Expr} {l : Nat} {env : Env} (h : plainVal v = true) : swapsWith v t l env = pure false := by
  cases v <;> first | rfl | cases h
theorem ExS_assign {x : Str} {px pos : Pos} {value : Expr} {d : D} (h : Ev c n sc ρ value d) (hs : isSto sc x = true) (hx : x ∉ pn) (hv : plainVal value = true := by rfl) : ExS c n sc pn ρ (.Assign [.Name x px] value pos) .next (Vars.put ρ x (.val d)) := fun A env pins F P s R ok hp S => by
  refine wpAny_Assign_Name (wpAny_mono (h A env pins F P s R ok S) (fun v s₁ hp5 => ?_) fun _ _ x => x) (swaps_plain hv)
  obtain ⟨F₁, G₁, X₁, r⟩ := hp5
  exact wpAny_mono (store_val ok hp (S.grow G₁) hs hx r .next) (fun _ s' q => q.after G₁.step X₁) fun _ _ x => x

/-- a list that is new: its address stands nowhere else -/
noncomputable def EvNew (c : Cx) (n : Nat) (sc : Scope) (ρ : Vars) (e : Expr) (xs : List D) : Prop :=
  ∀ A env pins F P s, Room n A → EnvOk env sc → St c env pins ρ F P s.heap →
    wpAny (model c.prog c.w) A (eval e env) (fun v s' => ∃ F' a, Grow F s.heap F' s'.heap ∧ Same s s' ∧ v = .ref a ∧ s.heap.objs.size ≤ a ∧ F' a = none ∧ LstAt s'.heap F' xs a) (fun _ _ => False) s
theorem LstAt.lt {h : Heap} {F : Fz} {xs : List D} {a : Addr} (x : LstAt h F xs a) : a < h.objs.size := by
  obtain ⟨vs, ⟨n, p⟩, _⟩ := x; exact Heap.lt_size p
theorem LstAt.rd {h : Heap} {F : Fz} {xs : List D} {a : Addr} (x : LstAt h F xs a) (n : F a = none) : Rd (fun b => if b = a then h.get? b else F b) (.lst xs) (.ref a) := by
  obtain ⟨vs, ⟨k, p⟩, r⟩ := x
  refine .lst (by simp only [if_true]; exact p) rfl rfl (r.mono fun b o e => ?_)
  by_cases q : b = a
  · subst q; rw [n] at e; cases e
  · simp only [if_neg q]; exact e
theorem EvNew.ev {e : Expr} {xs : List D} (h : EvNew c n sc ρ e xs) : Ev c n sc ρ e (.lst xs) := fun A env pins F P s R ok S =>
  wpAny_mono (h A env pins F P s R ok S) (fun v s' hp6 => by
    obtain ⟨F', a, G, X, e1, e2, e3, l⟩ := hp6
    subst e1
    refine ⟨_, ⟨fun b o e => ?_, fun b o e => ?_, G.keep, fun b o e => ?_, G.size⟩, X, l.rd e3⟩
    · have := G.fle b o e
      have hne : b ≠ a := fun q => by subst q; rw [e3] at this; cases this
      simp only [if_neg hne]; exact this
    · by_cases q : b = a
      · subst q; exact .inr e2
      · simp only [if_neg q] at e; exact G.new b o e
    · by_cases q : b = a
      · subst q; simpa using e
      · simp only [if_neg q] at e; exact G.le b o e) fun _ _ x => x
theorem EvNew_List {es : List Expr} {pos : Pos} {ds : List D} (h : EvL c n sc ρ es ds) (hl : ds.length ≤ 1000) : EvNew c n sc ρ (.List es pos) ds := fun A env pins F P s R ok S => by
  refine List_ (wpAny_mono (h A env pins F P s R ok S pos) (fun vs s₁ hp7 => ?_) fun _ _ x => x)
  obtain ⟨F₁, G₁, X₁, r₁⟩ := hp7
  refine wpAny_newObj_type ⟨F₁, s₁.heap.objs.size, ⟨G₁.fle, G₁.new, fun a o e => Heap.get?_push_of_some _ (G₁.keep a o e), fun a o e => Heap.get?_push_of_some _ (G₁.le a o e), ?_⟩, X₁.trans ⟨_, _, rfl⟩, rfl, G₁.size, none_of_le G₁.le (Nat.le_refl _), ⟨_, ⟨0, Heap.get?_push_size _ rfl⟩, by simpa using r₁⟩⟩ ?_
  · show s.heap.objs.size ≤ (s₁.heap.push _).objs.size
    rw [Heap.size_push]; exact Nat.le_succ_of_le G₁.size
  · show vs.toArray.size ≤ sizeLine
    rw [List.size_toArray, r₁.length]; exact Nat.le_trans hl (by decide)
theorem ExS_assignNew {x : Str} {px pos : Pos} {value : Expr} {xs : List D} (h : EvNew c n sc ρ value xs) (hs : isSto sc x = true) (hx : x ∉ pn) (hv : plainVal value = true := by rfl) : ExS c n sc pn ρ (.Assign [.Name x px] value pos) .next (Vars.put ρ x (.lst xs)) := fun A env pins F P s R ok hp S => by
  refine wpAny_Assign_Name (wpAny_mono (h A env pins F P s R ok S) (fun v s₁ hp8 => ?_) fun _ _ x => x) (swaps_plain hv)
  obtain ⟨F₁, a, G₁, X₁, e1, e2, e3, l⟩ := hp8
  subst e1
  have hlt : ∀ b, P b → b < s.heap.objs.size := let ⟨_, _, S⟩ := S; S.lt
  obtain ⟨vm, fp, S₁⟩ := S.grow G₁
  have hPa : ¬ P a := fun q => Nat.not_lt.mpr e2 (hlt a q)
  refine store_var ok S₁.sto hs fun h' tk S' sb => ?_
  obtain ⟨P', S'', hP, hk, hz⟩ := S₁.store (.lst l) (by simp) (fun b q => by simp at q; subst q; exact e3) (fun b q z => by simp at q; subst q; exact hPa ((S₁.mem b).mpr (.inl z)))
    (fun y t e hy b q z => by simp at q; subst q; exact hPa ((S₁.mem b).mpr (.inr ⟨y, t, e, z⟩))) (hp ▸ hx) S' sb
  refine ⟨F₁, P', ⟨G₁.fle, fun b o e => (G₁.new b o e).imp id .inr, fun b o q e => hk b o q (G₁.keep b o e), fun b q => ?_, Nat.le_trans G₁.size (Nat.le_of_eq hz.symm)⟩, X₁.trans ⟨_, _, rfl⟩, S'', .next⟩
  rcases hP b q with q | q
  · exact .inl q
  · simp at q; subst q; exact .inr e2
end Mine
end

section
open PySem PySem.Calls PyProof.Rows PySem.W
set_option maxRecDepth 100000
set_option linter.unusedVariables false
namespace Mine
variable {c : Cx} {n : Nat} {sc : Scope} {pn : List Str} {ρ : Vars}

theorem mapSeq_plain (f : Array Value → Array Value) (its : Array Value) (k : Nat) : ∃ k', Obj.mapSeq f { cls := .type "list", data := .seq its k } = { cls := .type "list", data := .seq (f its) k' } := ⟨_, by simp [Obj.mapSeq]; rfl⟩

/-- an own object turns in its place -/
theorem StV.turn {env : Env} {pins : Pins} {F : Fz} {P : Addr → Prop} {h h' : Heap} {vm : Str → Option Value} {fp : Str → List Addr} (S : StV c env pins ρ F P h vm fp) {x : Str} {sl sl' : Slot} {v : Value}
    (hx : ρ.lookup x = some sl) (hv : vm x = some v) (O : Own h' F sl' v (fp x)) {b : Addr} (hb : b ∈ fp x) (sb : Heap.SameBut b h h') :
    StV c env pins (Vars.put ρ x sl') F P h' vm fp := by
  have ns : b ∉ stor env := S.aparts x sl hx b hb
  have keep : ∀ a o, a ≠ b → h.get? a = some o → h'.get? a = some o := fun a o q e => (sb.2 a q).trans e
  have dom : ∀ y t, (Vars.put ρ x sl').lookup y = some t → ∃ t', ρ.lookup y = some t' := fun y t e => by
    rw [lookup_put] at e
    by_cases hy : y = x
    · subst hy; exact ⟨_, hx⟩
    · rw [if_neg hy] at e; exact ⟨_, e⟩
  exact {
    base := S.base
    le := fun a o e => keep a o (fun z => by rw [z, S.out b ((S.mem b).mpr (.inr ⟨x, sl, hx, hb⟩))] at e; cases e) (S.le a o e)
    sto := ⟨let ⟨m, q, e⟩ := S.sto.loc; ⟨m, q.sameBut sb (fun z => ns (z ▸ .head _)), e⟩, fun y hy => let ⟨cc, e, i⟩ := S.sto.cel y hy; ⟨cc, e, i.sameBut sb fun z => ns (by rw [← z]; exact List.mem_cons_of_mem _ (List.mem_map_of_mem (f := (·.2)) (mem_of_lookup e)))⟩⟩
    own := fun y t e => by
      rw [lookup_put] at e
      by_cases hy : y = x
      · rw [if_pos hy] at e; cases e; subst hy; exact ⟨v, hv, O⟩
      · rw [if_neg hy] at e
        obtain ⟨w, e1, o⟩ := S.own y t e
        exact ⟨w, e1, o.mono (fun a ha o e' => keep a o (fun z => S.apart y t x sl e hx hy a ha (z ▸ hb)) e') (.refl _)⟩
    pin := S.pin
    mem := fun a => by
      rw [S.mem]
      constructor
      · rintro (q | ⟨y, t, e, q⟩)
        · exact .inl q
        · by_cases hy : y = x
          · exact .inr ⟨y, sl', by rw [lookup_put, if_pos hy], q⟩
          · exact .inr ⟨y, t, by rw [lookup_put, if_neg hy]; exact e, q⟩
      · rintro (q | ⟨y, t, e, q⟩)
        · exact .inl q
        · obtain ⟨t', e'⟩ := dom y t e; exact .inr ⟨y, t', e', q⟩
    lt := fun a q => by rw [sb.1]; exact S.lt a q
    out := S.out
    nd := fun y t e => let ⟨t', e'⟩ := dom y t e; S.nd y t' e'
    apart := fun y t z u e e' => let ⟨t', q⟩ := dom y t e; let ⟨u', q'⟩ := dom z u e'; S.apart y t' z u' q q'
    aparts := fun y t e => let ⟨t', e'⟩ := dom y t e; S.aparts y t' e' }
theorem StV.turnStep {env : Env} {pins : Pins} {F : Fz} {P : Addr → Prop} {h h' : Heap} {vm : Str → Option Value} {fp : Str → List Addr} (S : StV c env pins ρ F P h vm fp) {x : Str} {sl : Slot} (hx : ρ.lookup x = some sl) {b : Addr} (hb : b ∈ fp x) (sb : Heap.SameBut b h h') : Step F P h F P h' :=
  ⟨.refl _, fun _ _ e => .inl e, fun a o q e => (sb.2 a fun z => q ((S.mem a).mpr (.inr ⟨x, sl, hx, z ▸ hb⟩))).trans e, fun _ q => .inl q, Nat.le_of_eq sb.1.symm⟩
theorem StV.unpin {env : Env} {pins : Pins} {q : Str × Value} {F : Fz} {P : Addr → Prop} {h : Heap} {vm : Str → Option Value} {fp : Str → List Addr} (S : StV c env (q :: pins) ρ F P h vm fp) : StV c env pins ρ F P h vm fp :=
  { S with pin := fun r hr => S.pin r (.tail _ hr) }
theorem StV.lst {env : Env} {pins : Pins} {F : Fz} {P : Addr → Prop} {h : Heap} {vm : Str → Option Value} {fp : Str → List Addr} (S : StV c env pins ρ F P h vm fp) {x : Str} {xs : List D} (hx : ρ.lookup x = some (.lst xs)) : ∃ a, vm x = some (.ref a) ∧ fp x = [a] ∧ LstAt h F xs a := by
  obtain ⟨v, e, o⟩ := S.own x _ hx
  generalize hq : fp x = as at o
  cases o with
  | lst l => exact ⟨_, e, rfl, l⟩

variable (c) in
/-- an expression that turns own lists -/
noncomputable def EvX (n : Nat) (sc : Scope) (pn : List Str) (ρ : Vars) (e : Expr) (d : D) (ρ' : Vars) : Prop :=
  ∀ A env pins F P s, Room n A → EnvOk env sc → pins.map (·.1) = pn → St c env pins ρ F P s.heap →
    wpAny (model c.prog c.w) A (eval e env) (fun v s' => ∃ F' P', Step F P s.heap F' P' s'.heap ∧ Same s s' ∧ St c env pins ρ' F' P' s'.heap ∧ Rd F' d v) (fun _ _ => False) s
theorem EvX.of {e : Expr} {d : D} (h : Ev c n sc ρ e d) : EvX c n sc pn ρ e d ρ := fun A env pins F P s R ok hp S =>
  wpAny_mono (h A env pins F P s R ok S) (fun v s' hp1 => by obtain ⟨F', G, X, r⟩ := hp1; exact ⟨F', P, G.step, X, S.grow G, r⟩) fun _ _ x => x
theorem ExS_exprX {e : Expr} {pos : Pos} {ρ' : Vars} (h : EvX c n sc pn ρ e .none ρ') (hv : plainVal e = true := by rfl) (hi : sc.more.any (fun q => q.1 == ("interactive" : Str)) = false := by rfl) : ExS c n sc pn ρ (.Expr e pos) .next ρ' := fun A env pins F P s R ok hp S => by
  refine wpAny_Expr (wpAny_mono (h A env pins F P s R ok hp S) (fun v s' ⟨F', P', T, X, S', r⟩ => ?_) fun _ _ x => x) ?_ (swaps_plain hv)
  · cases r; exact ⟨F', P', T, X, S', .next⟩
  · unfold interactive; rw [ok.scope, ok.kind]; rfl
theorem ExS_assignX {x : Str} {px pos : Pos} {value : Expr} {d : D} {ρ₁ : Vars} (h : EvX c n sc pn ρ value d ρ₁) (hs : isSto sc x = true) (hx : x ∉ pn) (hv : plainVal value = true := by rfl) : ExS c n sc pn ρ (.Assign [.Name x px] value pos) .next (Vars.put ρ₁ x (.val d)) := fun A env pins F P s R ok hp S => by
  refine wpAny_Assign_Name (wpAny_mono (h A env pins F P s R ok hp S) (fun v s₁ hp3 => ?_) fun _ _ x => x) (swaps_plain hv)
  obtain ⟨F₁, P₁, T, X₁, S₁, r⟩ := hp3
  exact wpAny_mono (store_val ok hp S₁ hs hx r .next) (fun _ s' q => q.after T X₁) fun _ _ x => x
/-- the shape of a method's call -/
noncomputable def MethAt (o : Expr) (name : Str) (apos : Pos) (args : List Expr) (pos : Pos) : Prop :=
  ∀ env, ∃ pl, eval (.Call (.Attribute o name apos) args [] pos) env = (do
      let ov ← eval o env
      standAt apos.atName
      let (f, first) ← holding [ov] (getMethod ov name pl)
      callWith pos f first (backTo pos (starEach args env)) (backToKw pos (keywordEach [] env)))
theorem meth_open {M : Model} {A : Around} {E : Value → Shared → Prop} {s : Shared} {env : Env} {o : Expr} {name : Str} {apos pos : Pos} {args : List Expr} {Q : Value → Shared → Prop} (hm : MethAt o name apos args pos)
    (h : wpAny M A (eval o env) (fun ov s₁ => ∀ pl, wpAny M A (getMethod ov name pl) (fun fx s₂ => wpAny M A (callWith pos fx.1 fx.2 (backTo pos (starEach args env)) []) Q E s₂) E s₁) E s) :
    wpAny M A (eval (.Call (.Attribute o name apos) args [] pos) env) Q E s := by
  obtain ⟨pl, e⟩ := hm env
  exact methodCall_KW (pl := pl) (wpAny_mono h (fun ov s₁ h₁ => h₁ pl) fun _ _ x => x) e

theorem listMethod {M : Model} {A : Around} {E : Value → Shared → Prop} {s : Shared} {a : Addr} {its : Array Value} {name : Str} {id : String} {pl : Sem Bool} {Q : Value × List Value → Shared → Prop} (p : s.heap.PlainList a its) (slot : PySem.Slot "list" name id) (hty : typeOf (.builtin id) = pure (.type "method_descriptor")) (h : Q (.builtin id, [.ref a]) s) :
    wpAny M A (getMethod (.ref a) name pl) Q E s := by
  obtain ⟨k, e⟩ := p
  exact getMethod_builtin ⟨_, e, rfl⟩ PySem.F.plainAttrs_list slot hty (fun b q => by cases q; exact ⟨_, e, rfl⟩) h

theorem EvX_append {x : Str} {p apos pos : Pos} {e : Expr} {xs : List D} {d : D} {ρ₁ : Vars} (hx : ρ.lookup x = some (.lst xs)) (hl : isLoc sc x = true) (he : EvX c n sc (x :: pn) ρ e d ρ₁) (hx₁ : ρ₁.lookup x = some (.lst xs)) (hz : xs.length ≤ 100000) (hp : plainArg e = true := by rfl) (hm : MethAt (.Name x p) "append" apos [e] pos := by exact fun _ => ⟨_, rfl⟩) :
    EvX c n sc pn ρ (.Call (.Attribute (.Name x p) "append" apos) [e] [] pos) .none (Vars.put ρ₁ x (.lst (xs ++ [d]))) := fun A env pins F P s R ok hpn S => by
  have S0 := S
  obtain ⟨vm, fp, S⟩ := S
  obtain ⟨a, hv, hf, l⟩ := S.lst hx
  refine meth_open hm (load_var (h := s.heap) ok S.sto hl hv fun pl => ?_)
  obtain ⟨vs, pp, rr⟩ := l
  refine listMethod pp PySem.F.slot_list_append PySem.F.type_list_append ?_
  refine callWith_val (by rw [starEach_plain hp]; rfl) (fun b q => by cases q) ?_
  rw [starEach_plain hp]
  have pin' : ∀ q ∈ ((x, Value.ref a) :: pins : Pins), vm q.1 = some q.2 := fun q hq => by
    rcases List.mem_cons.mp hq with rfl | hq
    · exact hv
    · exact S.pin q hq
  have Sp : St c env ((x, .ref a) :: pins) ρ F P s.heap := ⟨vm, fp, { S with pin := pin' }⟩
  refine spliced_cons (wpAny_mono (he A env ((x, .ref a) :: pins) F P s R ok (by simp [hpn]) Sp) (fun v s₁ hp6 => ?_) fun _ _ x => x)
  obtain ⟨F₁, P₁, T₁, X₁, S₁, r₁⟩ := hp6
  refine spliced_nil ?_
  obtain ⟨vm₁, fp₁, S₁⟩ := S₁
  obtain ⟨a', hv₁, hf₁, vs₁, pp₁, rr₁⟩ := S₁.lst hx₁
  have : a' = a := by have e := S₁.pin (x, .ref a) (.head _); rw [hv₁] at e; cases e; rfl
  subst this
  show wpAny _ _ (call (.builtin "list.append") [.ref a', v]) _ _ _
  have hsz : vs₁.size ≤ sizeLine := by
    have e1 : vs₁.size = xs.length := by rw [← Array.length_toList]; exact rr₁.length
    have e2 : sizeLine = 16777216 := by decide
    omega
  refine wpAny_list_append_plain pp₁ (fun h' pl' sb => ?_) hsz
  have hm₁ : a' ∈ fp₁ x := by rw [hf₁]; exact .head _
  have O : Own h' F₁ (.lst (xs ++ [d])) (.ref a') (fp₁ x) := by rw [hf₁]; exact .lst ⟨_, pl', by rw [Array.toList_push]; exact rr₁.snoc r₁⟩
  have S₂ := S₁.turn hx₁ hv₁ O hm₁ sb
  exact ⟨F₁, P₁, T₁.trans (S₁.turnStep hx₁ hm₁ sb), X₁.trans ⟨_, _, rfl⟩, ⟨vm₁, fp₁, S₂.unpin⟩, .none⟩

theorem EvX_pop {x : Str} {p apos pos : Pos} {xs : List D} {d : D} (hx : ρ.lookup x = some (.lst (xs ++ [d]))) (hl : isLoc sc x = true) (hz : xs.length ≤ 100000) (hm : MethAt (.Name x p) "pop" apos [] pos := by exact fun _ => ⟨_, rfl⟩) :
    EvX c n sc pn ρ (.Call (.Attribute (.Name x p) "pop" apos) [] [] pos) d (Vars.put ρ x (.lst xs)) := fun A env pins F P s R ok hpn S => by
  obtain ⟨vm, fp, S⟩ := S
  obtain ⟨a, hv, hf, vs, ⟨k, pp⟩, rr⟩ := S.lst hx
  refine meth_open hm (load_var (h := s.heap) ok S.sto hl hv fun pl => ?_)
  refine listMethod ⟨k, pp⟩ PySem.F.slot_list_pop PySem.F.type_list_pop ?_
  have hlen : vs.toList.length = xs.length + 1 := by rw [rr.length]; simp
  have hsz : vs.size = xs.length + 1 := by rw [← Array.length_toList]; exact hlen
  obtain ⟨y, ey, ry⟩ := rr.get' (i := xs.length) (d := d) (by simp)
  have ey' : vs[vs.size - 1]? = some y := by rw [hsz, ← Array.getElem?_toList]; exact ey
  refine PySem.P.pop_list pp ey' ?_ ?_
  · have hm₁ : a ∈ fp x := by rw [hf]; exact .head _
    have sb : Heap.SameBut a s.heap (s.heap.update a (Obj.mapSeq fun xs => xs.eraseIdxIfInBounds (vs.size - 1))) := .update ..
    obtain ⟨k', ek⟩ := mapSeq_plain (fun xs => xs.eraseIdxIfInBounds (vs.size - 1)) vs k
    have hl' : (vs.eraseIdxIfInBounds (vs.size - 1)).toList = vs.toList.take xs.length := by
      have hb : vs.size - 1 < vs.size := by omega
      unfold Array.eraseIdxIfInBounds
      rw [dif_pos hb, Array.toList_eraseIdx]
      have e2 : vs.size - 1 = xs.length := by omega
      rw [e2, List.eraseIdx_eq_take_drop_succ]
      have : vs.toList.drop (xs.length + 1) = [] := List.drop_eq_nil_of_le (by omega)
      rw [this, List.append_nil]
    have O : Own (s.heap.update a (Obj.mapSeq fun xs => xs.eraseIdxIfInBounds (vs.size - 1))) F (.lst xs) (.ref a) (fp x) := by
      rw [hf]
      refine .lst ⟨vs.eraseIdxIfInBounds (vs.size - 1), ⟨k', ?_⟩, ?_⟩
      · rw [← ek]; exact Heap.get?_update_self _ pp (by rw [ek]; rfl)
      · rw [hl']
        have := rr.take xs.length
        simpa using this
    have S₂ := S.turn hx hv O hm₁ sb
    exact ⟨F, P, S.turnStep hx hm₁ sb, ⟨_, _, rfl⟩, ⟨vm, fp, S₂⟩, ry⟩
  · have e2 : sizeLine = 16777216 := by decide
    omega

theorem setItem_plain {A : Around} {E : Value → Shared → Prop} {s : Shared} {l : Addr} {items : Array Value} {k : Int} {t : Tok} {v : Value} {Q : Unit → Shared → Prop} (p : s.heap.PlainList l items)
    (h0 : 0 ≤ k) (hfit : k < 2 ^ 63) (hn : k < items.size)
    (hQ : ∀ h', h'.PlainList l (items.setIfInBounds k.toNat v) → Heap.SameBut l s.heap h' → Q () { s with heap := h' }) :
    wpAny (model c.prog c.w) A (setItem (.ref l) (.int k t) v) Q E s := by
  obtain ⟨ne, ho⟩ := p
  have hl : s.heap.IsList l items := ⟨_, ho, rfl, ne, rfl⟩
  unfold setItem
  try with_reducible refine wpAny_holding ?_
  first | refine wpAny_bind (wpAny_pure ?_) | skip
  refine wpAny_bind (wpAny_sequenceKey hl.typeIs (by decide) ?_)
  refine wpAny_bind (wpAny_callSpecial?_slot (name := Str.ofString "__setitem__") hl.typeIs slot_list_setitem
    (wpAny_call_entry slot_list_setitem hl.typeIs entry_list_setitem ?_ (args_list_setitem _ _ _)))
  show wpAny _ _ (Builtin.List.listSubscript? (.int k t) >>= _) _ _ s
  refine wpAny_bind (wpAny_listSubscript_int (fitsIndex_of h0 hfit) ?_)
  clear hfit
  obtain ⟨j, rfl⟩ := Int.eq_ofNat_of_zero_le h0
  have hj : j < items.size := by omega
  have hx' : items[j]? = some items[j] := Array.getElem?_eq_getElem hj
  show wpAny _ _ ((seqItemAt l j >>= fun r => pure (r.map (j, ·))) >>= _) _ _ s
  refine wpAny_bind (wpAny_bind (wpAny_seqItemAt ho rfl (wpAny_pure ?_)))
  rw [hx']
  show wpAny _ _ (setSeqItemAt l j v >>= _) _ _ s
  obtain ⟨n', hd'⟩ := mapSeq_plain (·.setIfInBounds j v) items ne
  have hfin : (s.heap.update l (Obj.mapSeq (·.setIfInBounds j v))).PlainList l (items.setIfInBounds j v) :=
    ⟨n', by rw [← hd']; exact Heap.get?_update_self _ ho (by rw [hd']; rfl)⟩
  refine wpAny_bind (wpAny_setSeqItemAt ho rfl ?_)
  first
    | exact wpAny_bind (wpAny_pure (wpAny_pure ⟨.none, rfl, wpAny_pure (hQ _ hfin (Heap.SameBut.update ..))⟩))
    | exact wpAny_pure ⟨.none, rfl, wpAny_pure (hQ _ hfin (Heap.SameBut.update ..))⟩

/-- x[i] = value -/
theorem ExS_setitem {x : Str} {p pos' pos : Pos} {ie value : Expr} {xs : List D} {i : Int} {d : D} (hx : ρ.lookup x = some (.lst xs)) (hl : isLoc sc x = true) (hv : Ev c n sc ρ value d) (hi : EvR c n sc ρ ie (.int i)) (h0 : 0 ≤ i) (h1 : i < xs.length) (hz : xs.length ≤ 100000) (hpl : plainVal value = true := by rfl) :
    ExS c n sc pn ρ (.Assign [.Subscript (.Name x p) ie pos'] value pos) .next (Vars.put ρ x (.lst (xs.set i.toNat d))) := fun A env pins F P s R ok hpn S => by
  refine wpAny_Assign_Subscript (wpAny_mono (hv A env pins F P s R ok S) (fun v s₁ hp7 => ?_) fun _ _ x => x) (swaps_plain hpl)
  obtain ⟨F₁, G₁, X₁, r₁⟩ := hp7
  obtain ⟨vm, fp, S₁⟩ := S.grow G₁
  obtain ⟨a, hva, hf, l⟩ := S₁.lst hx
  refine load_var (h := s₁.heap) ok S₁.sto hl hva ?_
  refine wpAny_mono (hi A env pins F₁ P s₁ R ok ⟨vm, fp, S₁⟩) (fun iv s₂ hp8 => ?_) fun _ _ x => x
  obtain ⟨F₂, G₂, X₂, r₂⟩ := hp8
  obtain ⟨t, rfl⟩ := r₂.int
  have l₂ := l.mono (G₂.keep a) G₂.fle
  obtain ⟨vs, pp, rr⟩ := l₂
  have e1 : vs.size = xs.length := by rw [← Array.length_toList]; exact rr.length
  have S₂ := S₁.grow G₂
  refine setItem_plain pp h0 (by omega) (by omega) fun h' pl' sb => ?_
  have hm₁ : a ∈ fp x := by rw [hf]; exact .head _
  have O : Own h' F₂ (.lst (xs.set i.toNat d)) (.ref a) (fp x) := by rw [hf]; exact .lst ⟨_, pl', by rw [Array.toList_setIfInBounds]; exact rr.set _ (r₁.mono G₂.fle)⟩
  exact ⟨F₂, P, (G₁.trans G₂).step.trans (S₂.turnStep hx hm₁ sb), X₁.trans (X₂.trans ⟨_, _, rfl⟩), ⟨vm, fp, S₂.turn hx hva O hm₁ sb⟩, .next⟩
end Mine
end

section
open PySem PySem.Calls PyProof.Rows PySem.W
set_option maxRecDepth 100000
set_option linter.unusedVariables false
namespace Mine
variable {c : Cx} {n : Nat} {sc : Scope} {pn : List Str} {ρ : Vars}

noncomputable def vmB : List (Str × Value) → (Str → Option Value) → Str → Option Value
  | [], f => f
  | (x, v) :: r, f => vmB r (fun y => if y = x then some v else f y)
theorem vmB_kinds (k : Str → Option NameKind) : ∀ (binds : List (Str × Value)) (m cm : Str → Option Value) (x : Str),
    (if k x = some .local then bindL k binds m x else bindC k binds cm x) = vmB binds (fun x => if k x = some .local then m x else cm x) x
  | [], m, cm, x => rfl
  | (y, v) :: r, m, cm, x => by
    unfold bindL bindC vmB
    rw [vmB_kinds k r]
    congr 1
    funext z
    by_cases hz : z = y
    · subst hz
      by_cases hk : k z = some .local
      · simp [hk]
      · simp [hk]
    · simp only [if_neg hz]
      by_cases hk : k y = some .local
      · simp [hk, hz]
      · simp [hk, hz]
theorem vmB_not : ∀ (binds : List (Str × Value)) (f : Str → Option Value) (x : Str), x ∉ binds.map (·.1) → vmB binds f x = f x
  | [], f, x, _ => rfl
  | (y, v) :: r, f, x, h => by
    unfold vmB
    rw [vmB_not r _ x fun q => h (.tail _ q), if_neg fun q => h (by rw [q]; exact .head _)]
theorem vmB_zip : ∀ (names : List Str) (vs : List Value) (f : Str → Option Value), names.Nodup → ∀ {x : Str} {v : Value}, (names.zip vs).lookup x = some v → vmB (names.zip vs) f x = some v
  | [], _, _, _, x, v, e => by simp at e
  | _ :: _, [], _, _, x, v, e => by simp at e
  | y :: r, w :: ws, f, nd, x, v, e => by
    obtain ⟨h1, h2⟩ := List.nodup_cons.mp nd
    simp only [List.zip_cons_cons] at e ⊢
    unfold vmB
    rw [List.lookup_cons] at e
    by_cases h : x = y
    · subst h
      simp only [beq_self_eq_true] at e
      cases e
      rw [vmB_not _ _ _ fun q => h1 ?_, if_pos rfl]
      obtain ⟨p, hp, e⟩ := List.mem_map.mp q
      rw [← e]; exact (List.of_mem_zip hp).1
    · have : (x == y) = false := by simpa using h
      rw [this] at e
      exact vmB_zip r ws _ h2 e

/-- a def as it stands in the heap under the call -/
structure IsFn (c : Cx) (fv : Value) (names : List Str) (body : List Stmt) (sc : Scope) : Prop where
  ex : ∃ fa o fd, fv = .ref fa ∧ c.hB.get? fa = some o ∧ o.data = .func fd ∧ fd.body = .stmts body ∧ fd.scope = sc ∧ fd.closure = [] ∧ fd.globals = mainGlobals ∧ fd.builtins = builtinsNs ∧
    c.hB.CodeRec fd.code fd.qualname ∧ ∀ vs : List Value, vs.length = names.length → bindArgs fd ⟨vs, []⟩ = pure (names.zip vs)
noncomputable def scOk (sc : Scope) (names : List Str) : Bool :=
  sc.kind == .function && !sc.isCoroutine && !sc.isGenerator && (names.all fun x => sc.names.lookup x == some .local || sc.names.lookup x == some .cell) && decide names.Nodup &&
    (sc.names.all fun q => !(q.2 == .free)) && decide ((cellsFrom 0 sc.names []).map (·.1)).Nodup

theorem cells_some {x : Str} {sc : Scope} {k : Nat} (h : sc.names.lookup x = some .cell) : ((cellsFrom k sc.names []).lookup x).isSome = true := cellsFrom_some _ _ _ (.inl h)
theorem enter_st {s s₁ : Shared} {env : Env} {binds : List (Str × Value)} {F : Fz} {ρ0 : Vars} {fp : Str → List Addr} {pins : Pins} (ok : EnvOk env sc)
    (X : InCallC s env.locals (bindL env.kindOf binds fun _ => none) env.cells (bindC env.kindOf binds fun _ => none) s₁) (hcells : ∀ x, sc.names.lookup x = some .cell → ∃ q, env.cells.lookup x = some q) (hnf : ∀ x, sc.names.lookup x ≠ some .free) (hcl : ∀ q ∈ env.cells, env.cells.lookup q.1 = some q.2)
    (hb : Fle c.hB.get? F) (l : Fle F s.heap.get?)
    (own : ∀ x sl, ρ0.lookup x = some sl → ∃ v, vmB binds (fun _ => none) x = some v ∧ Own s.heap F sl v (fp x)) (pin : ∀ q ∈ pins, vmB binds (fun _ => none) q.1 = some q.2)
    (out : ∀ x sl, ρ0.lookup x = some sl → ∀ a ∈ fp x, F a = none) (nd : ∀ x sl, ρ0.lookup x = some sl → (fp x).Nodup)
    (apart : ∀ x sl y t, ρ0.lookup x = some sl → ρ0.lookup y = some t → x ≠ y → ∀ a ∈ fp x, a ∉ fp y) :
    (∀ a ∈ stor env, s.heap.objs.size ≤ a) ∧ St c env pins ρ0 F (fun a => a ∈ stor env ∨ ∃ x sl, ρ0.lookup x = some sl ∧ a ∈ fp x) s₁.heap := by
  have kx : ∀ x, env.kindOf x = sc.names.lookup x := fun x => by unfold Env.kindOf; rw [ok.scope]
  have hst : ∀ a ∈ stor env, s.heap.objs.size ≤ a := fun a ha => by
    rcases List.mem_cons.mp ha with rfl | ha
    · exact X.toInCall.fresh
    · obtain ⟨q, hq, rfl⟩ := List.mem_map.mp ha
      exact Nat.le_of_lt (Nat.lt_of_le_of_lt X.toInCall.fresh (X.above q.1 q.2 hq))
  have lts : ∀ a ∈ stor env, a < s₁.heap.objs.size := fun a ha => by
    rcases List.mem_cons.mp ha with rfl | ha
    · exact X.toInCall.ns.lt
    · obtain ⟨q, hq, rfl⟩ := List.mem_map.mp ha
      exact (X.cell q.1 q.2 (hcl q hq)).lt
  have keep : Fle s.heap.get? s₁.heap.get? := X.toInCall.keep
  refine ⟨hst, fun x => if env.kindOf x = some .local then bindL env.kindOf binds (fun _ => none) x else bindC env.kindOf binds (fun _ => none) x, fp, ?_⟩
  have vmE : ∀ x, (if env.kindOf x = some .local then bindL env.kindOf binds (fun _ => none) x else bindC env.kindOf binds (fun _ => none) x) = vmB binds (fun _ => none) x := fun x => by
    rw [vmB_kinds]; congr 1; funext y; split <;> rfl
  exact {
    base := hb
    le := l.trans keep
    sto := ⟨⟨_, X.toInCall.ns, fun x hx => by simp only [if_pos hx]⟩, fun x hx => by
      rcases hx with hx | hx
      · obtain ⟨q, e⟩ := hcells x ((kx x).symm.trans hx)
        refine ⟨q, e, ?_⟩
        have hne : ¬ env.kindOf x = some .local := by rw [hx]; decide
        simp only [if_neg hne]
        exact X.cell x q e
      · exact absurd ((kx x).symm.trans hx) (hnf x)⟩
    own := fun x sl e => by
      obtain ⟨v, e1, o⟩ := own x sl e
      exact ⟨v, (vmE x).trans e1, o.mono (fun a _ => keep a) (.refl _)⟩
    pin := fun q hq => (vmE q.1).trans (pin q hq)
    mem := fun a => Iff.rfl
    lt := fun a q => by
      rcases q with q | ⟨x, sl, e, q⟩
      · exact lts a q
      · obtain ⟨v, _, o⟩ := own x sl e
        exact (o.mono (fun a _ => keep a) (.refl F)).lt a q
    out := fun a q => by
      rcases q with q | ⟨x, sl, e, q⟩
      · exact none_of_le l (hst a q)
      · exact out x sl e a q
    nd := nd
    apart := apart
    aparts := fun x sl e a ha q => by
      obtain ⟨v, _, o⟩ := own x sl e
      exact Nat.not_lt.mpr (hst a q) (o.lt a ha) }

noncomputable def Fl.res : Fl → D
  | .ret d | .retF d => d
  | _ => .none
variable (c) in
/-- a call that changes nothing old -/
noncomputable def FnP (n : Nat) (fv : Value) (ds : List D) (d : D) : Prop :=
  ∀ A F s vs, Room n A → Fle c.hB.get? F → Fle F s.heap.get? → RdL F ds vs → wpAny (model c.prog c.w) A (call fv vs []) (Gives F s d) (fun _ _ => False) s
variable (c) in
/-- .. whose value is a new list -/
noncomputable def FnF (n : Nat) (fv : Value) (ds : List D) (d : D) : Prop :=
  ∀ A F s vs, Room n A → Fle c.hB.get? F → Fle F s.heap.get? → RdL F ds vs → wpAny (model c.prog c.w) A (call fv vs []) (fun v s' => Gives F s d v s' ∧ ∃ a, v = .ref a ∧ s.heap.objs.size ≤ a) (fun _ _ => False) s
variable (c) in
/-- a call that turns its first argument, a list -/
noncomputable def FnM (n : Nat) (fv : Value) (xs : List D) (ds : List D) (xs' : List D) (d : D) : Prop :=
  ∀ A F s a vs, Room n A → Fle c.hB.get? F → Fle F s.heap.get? → F a = none → LstAt s.heap F xs a → RdL F ds vs →
    wpAny (model c.prog c.w) A (call fv (.ref a :: vs) []) (fun v s' => ∃ F', Fle F F' ∧ (∀ b o, F' b = some o → F b = some o ∨ s.heap.objs.size ≤ b) ∧ (∀ b o, b ≠ a → s.heap.get? b = some o → s'.heap.get? b = some o) ∧ Fle F' s'.heap.get? ∧ F' a = none ∧ LstAt s'.heap F' xs' a ∧ Same s s' ∧ s.heap.objs.size ≤ s'.heap.objs.size ∧ Rd F' d v) (fun _ _ => False) s
theorem FnM.le {m : Nat} {fv : Value} {xs ds xs' : List D} {d : D} (h : FnM c n fv xs ds xs' d) (hm : n ≤ m) : FnM c m fv xs ds xs' d := fun A F s a vs R => h A F s a vs (R.le hm)
theorem FnP.le {m : Nat} {fv : Value} {ds : List D} {d : D} (h : FnP c n fv ds d) (hm : n ≤ m) : FnP c m fv ds d := fun A F s vs R => h A F s vs (R.le hm)

theorem zip_own {F : Fz} {h : Heap} : ∀ {names : List Str} {ds : List D} {vs : List Value}, RdL F ds vs → ∀ {x : Str} {sl : Slot}, (names.zip (ds.map Slot.val)).lookup x = some sl → ∃ v, (names.zip vs).lookup x = some v ∧ Own h F sl v []
  | [], _, _, _, x, sl, e => by simp at e
  | _ :: _, _, _, .nil, x, sl, e => by simp at e
  | y :: r, d :: ds, v :: vs, .cons a q, x, sl, e => by
    simp only [List.map_cons, List.zip_cons_cons, List.lookup_cons] at e ⊢
    cases hx : x == y with
    | true => rw [hx] at e; cases e; exact ⟨v, rfl, .val a⟩
    | false => rw [hx] at e; exact zip_own q e

structure ScOk (sc : Scope) (names : List Str) : Prop where
  kind : sc.kind = .function
  co : sc.isCoroutine = false
  gen : sc.isGenerator = false
  par : ∀ x ∈ names, sc.names.lookup x = some .local ∨ sc.names.lookup x = some .cell
  nd : names.Nodup
  nofree : ∀ q ∈ sc.names, q.2 ≠ .free
  cells : ((cellsFrom 0 sc.names []).map (·.1)).Nodup
theorem scOk_of {names : List Str} (h : scOk sc names = true) : ScOk sc names := by
  unfold scOk at h
  simp only [Bool.and_eq_true, decide_eq_true_eq, List.all_eq_true, Bool.or_eq_true, beq_iff_eq, Bool.not_eq_true'] at h
  obtain ⟨⟨⟨⟨⟨⟨a, b⟩, d⟩, e⟩, f⟩, g⟩, k⟩ := h
  exact ⟨a, b, d, e, f, fun q hq => by have := g q hq; simpa using this, k⟩
/-- the call's frame, for any arguments -/
theorem call_open {A : Around} {s : Shared} {fv : Value} {names : List Str} {body : List Stmt} {vals : List Value} {Q : Value → Shared → Prop} (hc : c.Ok) (hf : IsFn c fv names body sc) (hs : scOk sc names = true) (R : Room n A) (hk : Fle c.hB.get? s.heap.get?) (hl : vals.length = names.length)
    (h : ∀ env s₁, EnvOk env sc → InCallC s env.locals (bindL env.kindOf (names.zip vals) fun _ => none) env.cells (bindC env.kindOf (names.zip vals) fun _ => none) s₁ →
      (∀ x, sc.names.lookup x = some .cell → ∃ q, env.cells.lookup x = some q) → (∀ q ∈ env.cells, env.cells.lookup q.1 = some q.2) →
      wpAny (model c.prog c.w) (A.deeper env) (execs body env) (fun f s' => Q (match f with | .ret v => v | _ => .none) s') (fun _ _ => False) s₁) :
    wpAny (model c.prog c.w) A (call fv vals []) Q (fun _ _ => False) s := by
  obtain ⟨fa, o, fd, rfl, ho, hd, hb, rfl, hcl, hg, hbn, hcd, hbind⟩ := hf.ex
  have sk := scOk_of hs
  refine wpAny_call (codeAny_call_cells R.depth (hk _ _ ho) hd (hc.top.nolimit.keeps hk) (hcd.keeps hk) hb (hbind vals hl) hcl (fun x hx => ?_) (fun s₁ X => ?_) sk.co sk.gen sk.kind)
  · have hx' := (List.of_mem_zip (show (x.1, x.2) ∈ names.zip vals from hx)).1
    exact (sk.par x.1 hx').imp id fun q => ⟨q, cells_some q⟩
  · have cellsE : (callEnvC fd s.heap.objs.size fa).cells = cellsFrom (s.heap.objs.size + 1) fd.scope.names [] := rfl
    have hnames : ((cellsFrom (s.heap.objs.size + 1) fd.scope.names []).map (·.1)).Nodup := cellsFrom_names fd.scope.names 0 (s.heap.objs.size + 1) [] [] rfl ▸ sk.cells
    refine wpAny_mono (h (callEnvC fd s.heap.objs.size fa) s₁ ⟨rfl, sk.kind, hg, hbn, ?_⟩ X (fun x hx => ?_) fun q hq => ?_) (fun f s' q => q) fun _ _ x => x.elim
    · refine List.nodup_cons.mpr ⟨fun q => ?_, List.pairwise_map.mpr X.apart⟩
      obtain ⟨r, hr, e⟩ := List.mem_map.mp q
      have := X.above r.1 r.2 hr
      rw [e] at this; exact Nat.lt_irrefl _ this
    · exact Option.isSome_iff_exists.mp (cells_some hx)
    · exact lookup_of_mem_nodup hnames hq

theorem FnP_intro {fv : Value} {names : List Str} {body : List Stmt} {ds : List D} {fl : Fl} {ρ' : Vars} (hc : c.Ok) (hf : IsFn c fv names body sc) (hs : scOk sc names = true) (hl : ds.length = names.length) (hfl : fl ≠ .brk ∧ fl ≠ .cont)
    (h : Ex c n sc [] (names.zip (ds.map Slot.val)) body fl ρ') : FnP c (n + 1) fv ds fl.res := fun A F s vs R hb l r => by
  have sk := scOk_of hs
  have hlen : vs.length = names.length := r.length.trans hl
  refine wpAny_mono (wpAny_sz (Nat.le_refl s.heap.objs.size) (Q := fun v s' => ∃ F', Fle F F' ∧ (∀ a o, F' a = some o → F a = some o ∨ s.heap.objs.size ≤ a) ∧ Fle s.heap.get? s'.heap.get? ∧ Fle F' s'.heap.get? ∧ Same s s' ∧ Rd F' fl.res v) ?_) (fun v s' hp1 => by obtain ⟨z, F', a, b, d, e, f, g⟩ := hp1; exact ⟨F', ⟨a, b, d, e, z⟩, f, g⟩) fun _ _ x => x.2
  refine call_open hc hf hs R (hb.trans l) hlen fun env s₁ ok X hce hcl => ?_
  obtain ⟨hst, S⟩ := enter_st (c := c) (pins := []) (ρ0 := names.zip (ds.map Slot.val)) (fp := fun _ => []) ok X hce (fun x q => (sk.nofree _ (mem_of_lookup q)) rfl) hcl hb l
    (fun x sl e => let ⟨v, e1, o⟩ := zip_own (h := s.heap) r e; ⟨v, vmB_zip _ _ _ sk.nd e1, o⟩) (fun q hq => nomatch hq) (fun _ _ _ _ q => nomatch q) (fun _ _ _ => .nil) (fun _ _ _ _ _ _ _ _ q => nomatch q)
  refine wpAny_mono (h (A.deeper env) env [] F _ s₁ R.deeper ok rfl S) (fun f s' hp2 => ?_) fun _ _ x => x
  obtain ⟨F', P', T, Y, S', q⟩ := hp2
  have hP : ∀ a, (a ∈ stor env ∨ ∃ x sl, (names.zip (ds.map Slot.val)).lookup x = some sl ∧ a ∈ ([] : List Addr)) → s.heap.objs.size ≤ a := fun a q => by
    rcases q with q | ⟨_, _, _, q⟩
    · exact hst a q
    · cases q
  have keep : Fle s.heap.get? s₁.heap.get? := X.toInCall.keep
  obtain ⟨h₁, tk, rfl, _⟩ := X.done
  have fin : ∀ v, Rd F' fl.res v → ∃ F', Fle F F' ∧ (∀ a o, F' a = some o → F a = some o ∨ s.heap.objs.size ≤ a) ∧ Fle s.heap.get? s'.heap.get? ∧ Fle F' s'.heap.get? ∧ Same s s' ∧ Rd F' fl.res v := fun v rv => by
    refine ⟨F', T.fle, fun a o e => ?_, fun a o e => ?_, S'.le, Same.trans ⟨_, _, rfl⟩ Y, rv⟩
    · rcases T.new a o e with q | q | q
      · exact .inl q
      · exact .inr (hP a q)
      · have g : env.locals < h₁.objs.size := X.toInCall.ns.lt
        have q' : h₁.objs.size ≤ a := q
        exact .inr (Nat.le_trans (Nat.le_trans X.toInCall.fresh (Nat.le_of_lt g)) q')
    · exact T.keep a o (fun q => Nat.not_lt.mpr (hP a q) (Heap.lt_size e)) (keep a o e)
  cases q with
  | next => exact fin _ .none
  | brk => exact absurd rfl hfl.1
  | cont => exact absurd rfl hfl.2
  | ret rv => exact fin _ rv
  | retF rv _ => exact fin _ rv
end Mine
end

section
open PySem PySem.Calls PyProof.Rows PySem.W
set_option maxRecDepth 100000
set_option linter.unusedVariables false
namespace Mine
variable {c : Cx} {n : Nat} {sc : Scope} {pn : List Str} {ρ : Vars}

theorem FnM_intro {fv : Value} {n0 : Str} {names : List Str} {body : List Stmt} {xs xs' ds : List D} {fl : Fl} {ρ' : Vars} (hc : c.Ok) (hf : IsFn c fv (n0 :: names) body sc) (hs : scOk sc (n0 :: names) = true) (hl : ds.length = names.length) (hfl : fl ≠ .brk ∧ fl ≠ .cont)
    (h : Ex c n sc [n0] ((n0, .lst xs) :: names.zip (ds.map Slot.val)) body fl ρ') (hx' : ρ'.lookup n0 = some (.lst xs')) : FnM c (n + 1) fv xs ds xs' fl.res := fun A F s a vs R hb l ha L r => by
  have sk := scOk_of hs
  have hnd := List.nodup_cons.mp sk.nd
  have hlen : (Value.ref a :: vs).length = (n0 :: names).length := by simp [r.length, hl]
  refine wpAny_mono (wpAny_sz (Nat.le_refl s.heap.objs.size) (Q := fun v s' => ∃ F', Fle F F' ∧ (∀ b o, F' b = some o → F b = some o ∨ s.heap.objs.size ≤ b) ∧ (∀ b o, b ≠ a → s.heap.get? b = some o → s'.heap.get? b = some o) ∧ Fle F' s'.heap.get? ∧ F' a = none ∧ LstAt s'.heap F' xs' a ∧ Same s s' ∧ Rd F' fl.res v) ?_)
    (fun v s' hp1 => by obtain ⟨z, F', x1, x2, x3, x4, x5, x6, x7, x8⟩ := hp1; exact ⟨F', x1, x2, x3, x4, x5, x6, x7, z, x8⟩) fun _ _ x => x.2
  refine call_open hc hf hs R (hb.trans l) hlen fun env s₁ ok X hce hcl => ?_
  have hbinds : (n0 :: names).zip (Value.ref a :: vs) = (n0, Value.ref a) :: names.zip vs := rfl
  have hlook : ∀ x sl, ((n0, Slot.lst xs) :: names.zip (ds.map Slot.val)).lookup x = some sl → ∃ v, vmB ((n0 :: names).zip (Value.ref a :: vs)) (fun _ => none) x = some v ∧ Own s.heap F sl v (if x = n0 then [a] else []) := fun x sl e => by
    rw [List.lookup_cons] at e
    by_cases hx : x = n0
    · subst hx
      simp only [beq_self_eq_true] at e
      cases e
      exact ⟨.ref a, vmB_zip _ _ _ sk.nd (by simp), by rw [if_pos rfl]; exact .lst L⟩
    · have hb' : (x == n0) = false := by simpa using hx
      rw [hb'] at e
      obtain ⟨v, e1, o⟩ := zip_own (h := s.heap) r e
      exact ⟨v, vmB_zip _ _ _ sk.nd (by rw [hbinds, List.lookup_cons, hb']; exact e1), by rw [if_neg hx]; exact o⟩
  obtain ⟨hst, S⟩ := enter_st (c := c) (pins := [(n0, .ref a)]) (ρ0 := (n0, .lst xs) :: names.zip (ds.map Slot.val)) (fp := fun x => if x = n0 then [a] else []) ok X hce (fun x q => (sk.nofree _ (mem_of_lookup q)) rfl) hcl hb l hlook
    (fun q hq => by
      rw [List.mem_singleton.mp hq]
      exact vmB_zip _ _ _ sk.nd (by simp))
    (fun x sl e b hb => by
      by_cases hx : x = n0
      · rw [if_pos hx] at hb; rw [List.mem_singleton.mp hb]; exact ha
      · rw [if_neg hx] at hb; cases hb)
    (fun x sl e => by split <;> simp)
    (fun x sl y t e e' hne b hb => by
      by_cases hx : x = n0
      · have hy : y ≠ n0 := fun q => hne (hx.trans q.symm)
        rw [if_neg hy]; exact fun q => nomatch q
      · rw [if_neg hx] at hb; cases hb)
  refine wpAny_mono (h (A.deeper env) env [(n0, .ref a)] F _ s₁ R.deeper ok rfl S) (fun f s' hp2 => ?_) fun _ _ x => x
  obtain ⟨F', P', T, Y, S', q⟩ := hp2
  have hP : ∀ b, (b ∈ stor env ∨ ∃ x sl, ((n0, Slot.lst xs) :: names.zip (ds.map Slot.val)).lookup x = some sl ∧ b ∈ (if x = n0 then [a] else [])) → b = a ∨ s.heap.objs.size ≤ b := fun b q => by
    rcases q with q | ⟨x, _, _, q⟩
    · exact .inr (hst b q)
    · by_cases hx : x = n0
      · rw [if_pos hx] at q; exact .inl (List.mem_singleton.mp q)
      · rw [if_neg hx] at q; cases q
  have keep : Fle s.heap.get? s₁.heap.get? := X.toInCall.keep
  obtain ⟨h₁, tk, rfl, _⟩ := X.done
  obtain ⟨vm', fp', S''⟩ := S'
  obtain ⟨a', e1, e2, L'⟩ := S''.lst hx'
  have haa : a' = a := by have e := S''.pin (n0, .ref a) (.head _); rw [e1] at e; cases e; rfl
  subst haa
  have ha' : F' a' = none := S''.out a' ((S''.mem a').mpr (.inr ⟨n0, _, hx', by rw [e2]; exact .head _⟩))
  have fin : ∀ v, Rd F' fl.res v → ∃ F', Fle F F' ∧ (∀ b o, F' b = some o → F b = some o ∨ s.heap.objs.size ≤ b) ∧ (∀ b o, b ≠ a' → s.heap.get? b = some o → s'.heap.get? b = some o) ∧ Fle F' s'.heap.get? ∧ F' a' = none ∧ LstAt s'.heap F' xs' a' ∧ Same s s' ∧ Rd F' fl.res v := fun v rv => by
    refine ⟨F', T.fle, fun b o e => ?_, fun b o hne e => ?_, S''.le, ha', L', Same.trans ⟨_, _, rfl⟩ Y, rv⟩
    · rcases T.new b o e with q | q | q
      · exact .inl q
      · rcases hP b q with rfl | q
        · rw [ha'] at e; cases e
        · exact .inr q
      · have g : env.locals < h₁.objs.size := X.toInCall.ns.lt
        have q' : h₁.objs.size ≤ b := q
        exact .inr (Nat.le_trans (Nat.le_trans X.toInCall.fresh (Nat.le_of_lt g)) q')
    · exact T.keep b o (fun q => (hP b q).elim hne fun q => Nat.not_lt.mpr q (Heap.lt_size e)) (keep b o e)
  cases q with
  | next => exact fin _ .none
  | brk => exact absurd rfl hfl.1
  | cont => exact absurd rfl hfl.2
  | ret rv => exact fin _ rv
  | retF rv _ => exact fin _ rv

/-- a def that is called by its name -/
structure Callee (c : Cx) (f : Str) (fv : Value) : Prop where
  glb : Glb c f fv
  fn : ∃ fa o fd, fv = .ref fa ∧ c.hB.get? fa = some o ∧ o.data = .func fd
theorem Ev_callP {f : Str} {p pos : Pos} {args : List Expr} {fv : Value} {ds : List D} {d : D} (hc : c.Ok) (hg : Callee c f fv) (h : FnP c n fv ds d) (hi : isGlb sc f = true) (ha : EvL c n sc ρ args ds) (hp : args.all plainArg = true := by rfl) :
    Ev c n sc ρ (.Call (.Name f p) args [] pos) d := fun A env pins F P s R ok S => by
  refine wpAny_Call_Name_kw (load_glob hc ok S.keep hi hg.glb ?_)
  obtain ⟨fa, o, fd, rfl, e2, e3⟩ := hg.fn
  show wpAny _ _ (callWith pos (.ref fa) [] (backTo pos (starEach args env)) []) _ _ _
  refine callWith_fn (starFalse hp) (wpAny_mono (ha A env pins F P s R ok S pos) (fun vs s₁ ⟨F₁, G₁, X₁, r₁⟩ => ⟨⟨o, fd, (S.grow G₁).keep _ _ e2, e3⟩, ?_⟩) fun _ _ x => x)
  exact wpAny_mono (h A F₁ s₁ vs R (S.grow G₁).base G₁.le r₁) (fun z s₃ q => q.after G₁ X₁) fun _ _ x => x
theorem EvX_callM {f x : Str} {p px pos : Pos} {args : List Expr} {fv : Value} {xs xs' ds : List D} {d : D} (hc : c.Ok) (hg : Callee c f fv) (h : FnM c n fv xs ds xs' d) (hi : isGlb sc f = true) (hx : ρ.lookup x = some (.lst xs)) (hl : isLoc sc x = true) (ha : EvL c n sc ρ args ds) (hp : args.all plainArg = true := by rfl) :
    EvX c n sc pn ρ (.Call (.Name f p) (.Name x px :: args) [] pos) d (Vars.put ρ x (.lst xs')) := fun A env pins F P s R ok hpn S => by
  refine wpAny_Call_Name_kw (load_glob hc ok S.keep hi hg.glb ?_)
  obtain ⟨fa, o, fd, rfl, e2, e3⟩ := hg.fn
  show wpAny _ _ (callWith pos (.ref fa) [] (backTo pos (starEach (.Name x px :: args) env)) []) _ _ _
  have S0 := S
  obtain ⟨vm, fp, S⟩ := S
  obtain ⟨a, hv, hf, L⟩ := S.lst hx
  refine callWith_fn (starFalse (by simp [plainArg, hp])) ?_
  refine spliced_cons (load_var (h := s.heap) ok S.sto hl hv ?_)
  refine wpAny_mono (ha A env pins F P s R ok S0 pos) (fun vs s₁ ⟨F₁, G₁, X₁, r₁⟩ => ⟨⟨o, fd, (S0.grow G₁).keep _ _ e2, e3⟩, ?_⟩) fun _ _ x => x
  have S₁ := S.grow G₁
  have hm : a ∈ fp x := by rw [hf]; exact .head _
  have hPa : P a := (S₁.mem a).mpr (.inr ⟨x, _, hx, hm⟩)
  refine wpAny_mono (h A F₁ s₁ a vs R S₁.base G₁.le (S₁.out a hPa) (L.mono (G₁.keep a) G₁.fle) r₁) (fun v s₂ hp5 => ?_) fun _ _ x => x
  obtain ⟨F₂, x1, x2, x3, x4, x5, x6, x7, x8, x9⟩ := hp5
  refine ⟨F₂, P, G₁.step.trans ⟨x1, fun b o e => (x2 b o e).imp id .inr, fun b o q e => x3 b o (fun z => q (z ▸ hPa)) e, fun _ q => .inl q, x8⟩, X₁.trans x7, ⟨vm, fp, ?_⟩, x9⟩
  have keepS : ∀ b o, b ∈ stor env → s₁.heap.get? b = some o → s₂.heap.get? b = some o := fun b o hb e => x3 b o (fun z => S.aparts x _ hx a hm (z ▸ hb)) e
  have dom : ∀ y t, (Vars.put ρ x (.lst xs')).lookup y = some t → ∃ t', ρ.lookup y = some t' := fun y t e => by
    rw [lookup_put] at e
    by_cases hy : y = x
    · subst hy; exact ⟨_, hx⟩
    · rw [if_neg hy] at e; exact ⟨_, e⟩
  exact {
    base := S₁.base.trans x1
    le := x4
    sto := ⟨let ⟨m, q, e⟩ := S₁.sto.loc; ⟨m, q.at fun o e => keepS _ o (.head _) e, e⟩, fun y hy => let ⟨cc, e, ⟨o, i, j⟩⟩ := S₁.sto.cel y hy; ⟨cc, e, ⟨o, keepS _ _ (List.mem_cons_of_mem _ (List.mem_map_of_mem (f := (·.2)) (mem_of_lookup e))) i, j⟩⟩⟩
    own := fun y t e => by
      rw [lookup_put] at e
      by_cases hy : y = x
      · rw [if_pos hy] at e; cases e; subst hy; exact ⟨_, hv, by rw [hf]; exact .lst x6⟩
      · rw [if_neg hy] at e
        obtain ⟨w, e1, o⟩ := S₁.own y t e
        exact ⟨w, e1, o.mono (fun b hb o e' => x3 b o (fun z => S.apart y t x _ e hx hy b hb (by rw [z]; exact hm)) e') x1⟩
    pin := S₁.pin
    mem := fun b => by
      rw [S₁.mem]
      constructor
      · rintro (q | ⟨y, t, e, q⟩)
        · exact .inl q
        · by_cases hy : y = x
          · exact .inr ⟨y, .lst xs', by rw [lookup_put, if_pos hy], q⟩
          · exact .inr ⟨y, t, by rw [lookup_put, if_neg hy]; exact e, q⟩
      · rintro (q | ⟨y, t, e, q⟩)
        · exact .inl q
        · obtain ⟨t', e'⟩ := dom y t e; exact .inr ⟨y, t', e', q⟩
    lt := fun b q => Nat.lt_of_lt_of_le (S₁.lt b q) x8
    out := fun b q => by
      cases e : F₂ b with
      | none => rfl
      | some o =>
        rcases x2 b o e with z | z
        · rw [S₁.out b q] at z; cases z
        · exact absurd (S₁.lt b q) (Nat.not_lt.mpr z)
    nd := fun y t e => let ⟨t', e'⟩ := dom y t e; S₁.nd y t' e'
    apart := fun y t z u e e' => let ⟨t', q⟩ := dom y t e; let ⟨u', q'⟩ := dom z u e'; S₁.apart y t' z u' q q'
    aparts := fun y t e => let ⟨t', e'⟩ := dom y t e; S₁.aparts y t' e' }

variable (c) in
inductive WhileR (n : Nat) (sc : Scope) (pn : List Str) (test : Expr) (body : List Stmt) : Nat → Vars → Fl → Vars → Prop
  | done {k : Nat} {ρ : Vars} : Te c n sc ρ test false → WhileR n sc pn test body (k + 1) ρ .next ρ
  | next {k : Nat} {ρ ρ₁ ρ' : Vars} {fl : Fl} : Te c n sc ρ test true → Ex c n sc pn ρ body .next ρ₁ → WhileR n sc pn test body k ρ₁ fl ρ' → WhileR n sc pn test body (k + 1) ρ fl ρ'
  | cont {k : Nat} {ρ ρ₁ ρ' : Vars} {fl : Fl} : Te c n sc ρ test true → Ex c n sc pn ρ body .cont ρ₁ → WhileR n sc pn test body k ρ₁ fl ρ' → WhileR n sc pn test body (k + 1) ρ fl ρ'
  | brk {k : Nat} {ρ ρ' : Vars} : Te c n sc ρ test true → Ex c n sc pn ρ body .brk ρ' → WhileR n sc pn test body (k + 1) ρ .next ρ'
  | ret {k : Nat} {ρ ρ' : Vars} {d : D} : Te c n sc ρ test true → Ex c n sc pn ρ body (.ret d) ρ' → WhileR n sc pn test body (k + 1) ρ (.ret d) ρ'
theorem ExS_while {test : Expr} {body : List Stmt} {pos : Pos} {k : Nat} {fl : Fl} {ρ' : Vars} (h : WhileR c n sc pn test body k ρ fl ρ') : ExS c n sc pn ρ (.While test body [] pos) fl ρ' := fun A env pins F P s R ok hp S => by
  refine wpAny_While (codeAny_whileLoop (fun k s' => ∃ ρ₁ F₁ P₁, Step F P s.heap F₁ P₁ s'.heap ∧ Same s s' ∧ St c env pins ρ₁ F₁ P₁ s'.heap ∧ WhileR c n sc pn test body k ρ₁ fl ρ') ?_ k ⟨ρ, F, P, .refl, .refl s, S, h⟩)
  rintro k s₁ ⟨ρ₁, F₁, P₁, T₁, X₁, S₁, W⟩
  cases W with
  | done ht =>
    refine wpAny_mono (ht A env pins F₁ P₁ s₁ R ok S₁) (fun b s₂ hp6 => ?_) fun _ _ x => x.elim
    obtain ⟨e, F₂, G₂, X₂⟩ := hp6
    subst e
    exact wpAny_execs_nil ⟨F₂, P₁, T₁.trans G₂.step, X₁.trans X₂, S₁.grow G₂, .next⟩
  | next ht hb W =>
    refine wpAny_mono (ht A env pins F₁ P₁ s₁ R ok S₁) (fun b s₂ hp7 => ?_) fun _ _ x => x.elim
    obtain ⟨e, F₂, G₂, X₂⟩ := hp7
    subst e
    refine wpAny_mono (hb A env pins F₂ P₁ s₂ R ok hp (S₁.grow G₂)) (fun f s₃ hp8 => ?_) fun _ _ x => x.elim
    obtain ⟨F₃, P₃, T₃, X₃, S₃, q⟩ := hp8
    cases q
    exact ⟨_, Nat.lt_succ_self _, _, F₃, P₃, T₁.trans (G₂.step.trans T₃), X₁.trans (X₂.trans X₃), S₃, W⟩
  | cont ht hb W =>
    refine wpAny_mono (ht A env pins F₁ P₁ s₁ R ok S₁) (fun b s₂ hp9 => ?_) fun _ _ x => x.elim
    obtain ⟨e, F₂, G₂, X₂⟩ := hp9
    subst e
    refine wpAny_mono (hb A env pins F₂ P₁ s₂ R ok hp (S₁.grow G₂)) (fun f s₃ hp10 => ?_) fun _ _ x => x.elim
    obtain ⟨F₃, P₃, T₃, X₃, S₃, q⟩ := hp10
    cases q
    exact ⟨_, Nat.lt_succ_self _, _, F₃, P₃, T₁.trans (G₂.step.trans T₃), X₁.trans (X₂.trans X₃), S₃, W⟩
  | brk ht hb =>
    refine wpAny_mono (ht A env pins F₁ P₁ s₁ R ok S₁) (fun b s₂ hp11 => ?_) fun _ _ x => x.elim
    obtain ⟨e, F₂, G₂, X₂⟩ := hp11
    subst e
    refine wpAny_mono (hb A env pins F₂ P₁ s₂ R ok hp (S₁.grow G₂)) (fun f s₃ hp12 => ?_) fun _ _ x => x.elim
    obtain ⟨F₃, P₃, T₃, X₃, S₃, q⟩ := hp12
    cases q
    exact ⟨F₃, P₃, T₁.trans (G₂.step.trans T₃), X₁.trans (X₂.trans X₃), S₃, .next⟩
  | ret ht hb =>
    refine wpAny_mono (ht A env pins F₁ P₁ s₁ R ok S₁) (fun b s₂ hp13 => ?_) fun _ _ x => x.elim
    obtain ⟨e, F₂, G₂, X₂⟩ := hp13
    subst e
    refine wpAny_mono (hb A env pins F₂ P₁ s₂ R ok hp (S₁.grow G₂)) (fun f s₃ hp14 => ?_) fun _ _ x => x.elim
    obtain ⟨F₃, P₃, T₃, X₃, S₃, q⟩ := hp14
    cases q with
    | ret q => exact ⟨F₃, P₃, T₁.trans (G₂.step.trans T₃), X₁.trans (X₂.trans X₃), S₃, .ret q⟩
end Mine
end

section
open PySem PySem.Calls PyProof.Rows PySem.W
set_option maxRecDepth 100000
set_option linter.unusedVariables false
namespace Mine
variable {c : Cx} {n : Nat} {sc : Scope} {pn : List Str} {ρ : Vars}

/-- what a loop draws from a datum -/
noncomputable def D.items : D → Option (List D)
  | .lst xs | .tup xs => some xs
  | .str x => some (x.cps.toList.map fun cp => .str ⟨#[cp]⟩)
  | .rng a b => some ((List.range (b - a).toNat).map fun i => .int (a + (i : Nat)))
  | _ => Option.none
/-- range's ends are small -/
noncomputable def D.small : D → Bool
  | .rng a b => decide (-1000000 ≤ a) && decide (a ≤ 1000000) && decide (-1000000 ≤ b) && decide (b ≤ 1000000)
  | _ => true

/-- an iterator at hand: I its address; what it leans on stays -/
structure IterAt (c : Cx) (F : Fz) (h : Heap) (I : Addr) (xs : List D) (W : Nat → Heap → Prop) (own : Addr → Prop) : Prop where
  next : ∃ P fp, (∀ A : Around, A.handled = none → Walks c.prog c.w A I fp [I] xs.length P W) ∧ (∀ b ∈ fp, b = I ∨ own b) ∧ ∀ i v, i < xs.length → P i v → ∃ d, xs[i]? = some d ∧ Rd F d v
  st : W 0 h
/-- a Tuple target upon a list -/
noncomputable def TupGo (c : Cx) (I : Addr) (W : Nat → Heap → Prop) : Prop :=
  ∀ (A' : Around) (E' : Value → Shared → Prop) (s' : Shared) (i : Nat) (elts : List Expr) (k : Nat) (p : Pos) (t : Addr) (Q' : Unit → Shared → Prop), W i s'.heap → Q' () s' → wpAny (model c.prog c.w) A' (letOwnedTupleGo (.Tuple elts k p) (.ref I) (.ref t)) Q' E' s'
noncomputable def D.isLst : D → Bool
  | .lst _ => true
  | _ => false

theorem iter_open {A : Around} {E : Value → Shared → Prop} {s : Shared} {F : Fz} {d : D} {v : Value} {xs : List D} {Q : Value → Shared → Prop} (l : Fle F s.heap.get?) (r : Rd1 s.heap F d v) (hx : d.items = some xs) (hs : d.small = true)
    (hQ : ∀ o W, IterAt c F (s.heap.push o) s.heap.objs.size xs W (fun a => v = .ref a) → (d.isLst = true → TupGo c s.heap.objs.size W) → Q (.ref s.heap.objs.size) { s with heap := s.heap.push o }) :
    wpAny (model c.prog c.w) A (pyIter v) Q E s := by
  cases d with
  | none => cases hx
  | bool b => cases hx
  | int i => cases hx
  | inst C fs => cases hx
  | opq a => cases hx
  | lst ys =>
    cases hx
    obtain ⟨a, vs, rfl, il, q⟩ := r.lst l
    have hlt : a ≠ s.heap.objs.size := by obtain ⟨o, ho, _⟩ := il; exact Nat.ne_of_lt (Heap.lt_size ho)
    have e1 : vs.size = xs.length := by rw [← Array.length_toList]; exact q.length
    refine wpAny_pyIter_list il (hQ _ (fun i h => h.IsListIter s.heap.objs.size a i ∧ h.IsList a vs) ⟨⟨fun i v => vs[i]? = some v, [s.heap.objs.size, a], fun A hA => e1 ▸ Walks.list hA _ a hlt vs, fun b hb => ?_, fun i v _ e => ?_⟩, ⟨⟨_, Heap.get?_push_size _ rfl, rfl, rfl⟩, il.push _⟩⟩ fun _ A' E' s' i elts k p t Q' hw hq => wpAny_letOwnedTupleGo_listiter hw.1 hq)
    · simp at hb; rcases hb with rfl | rfl
      · exact .inl rfl
      · exact .inr rfl
    · exact q.get (by rw [Array.getElem?_toList]; exact e)
  | tup ys =>
    cases hx
    obtain ⟨a, o, vs, k, rfl, g1, g2, g3, q⟩ := r.tup l
    have it : s.heap.IsTuple a vs := ⟨o, g1, g2, k, g3⟩
    have hlt : a ≠ s.heap.objs.size := Nat.ne_of_lt (Heap.lt_size g1)
    have e1 : vs.size = xs.length := by rw [← Array.length_toList]; exact q.length
    refine wpAny_pyIter_tuple it (hQ _ (fun i h => h.IsTupleIter s.heap.objs.size a i ∧ h.IsTuple a vs) ⟨⟨fun i v => vs[i]? = some v, [s.heap.objs.size, a], fun A hA => e1 ▸ Walks.tuple hA _ a hlt vs, fun b hb => ?_, fun i v _ e => ?_⟩, ⟨⟨_, Heap.get?_push_size _ rfl, rfl, rfl⟩, it.push _⟩⟩ fun q => nomatch q)
    · simp at hb; rcases hb with rfl | rfl
      · exact .inl rfl
      · exact .inr rfl
    · exact q.get (by rw [Array.getElem?_toList]; exact e)
  | str x =>
    cases hx
    obtain ⟨t, rfl⟩ := r.str
    have e1 : x.cps.size = (x.cps.toList.map fun cp => D.str ⟨#[cp]⟩).length := by simp
    refine wpAny_pyIter_str fun o W hW h0 => hQ o W ⟨⟨SignAt x, [s.heap.objs.size], fun A hA => e1 ▸ hW A hA, fun b hb => ?_, fun i v _ hv => ?_⟩, h0⟩ fun q => nomatch q
    · simp at hb; exact .inl hb
    · obtain ⟨cp, u, g1, rfl⟩ := hv
      exact ⟨.str ⟨#[cp]⟩, by rw [List.getElem?_map, Array.getElem?_toList, g1]; rfl, .str _ _⟩
  | rng a b =>
    cases hx
    cases r with
    | fz r =>
      cases r with
      | rng q =>
        have hr := l _ _ q
        unfold D.small at hs
        simp only [Bool.and_eq_true, decide_eq_true_eq] at hs
        have sm : Builtin.Range.small a b 1 = true := small_one (by omega) (by omega) (by omega) (by omega)
        have e0 : Builtin.Range.rangeSize a b 1 = (((b - a).toNat : Nat) : Int) := by rw [rangeSize_one]; split <;> omega
        have e1 : (b - a).toNat = ((List.range (b - a).toNat).map fun i => D.int (a + (i : Nat))).length := by simp
        refine wpAny_pyIter_range hr sm (hQ _ (fun i h => IsRangeIter h s.heap.objs.size (a + (i : Nat) * 1) (((b - a).toNat : Int) - (i : Nat)) 1) ⟨⟨fun i v => ∃ t, v = .int (a + i * 1) t, [s.heap.objs.size], fun A hA => e1 ▸ Walks.range hA _ a 1 _, fun b hb => ?_, fun i v hi hv => ?_⟩, ?_⟩ fun q => nomatch q)
        · simp at hb; exact .inl hb
        · obtain ⟨t, rfl⟩ := hv
          rw [← e1] at hi
          refine ⟨.int (a + (i : Nat)), by rw [List.getElem?_map, List.getElem?_range hi]; rfl, ?_⟩
          rw [Int.mul_one]; exact .int _ _
        · rw [e0]; show IsRangeIter _ _ _ _ _; simp only [Int.mul_one]; rw [show ((0 : Nat) : Int) = 0 from rfl, Int.add_zero, Int.sub_zero]; exact Heap.get?_push_size _ rfl

/-- a target takes a value -/
noncomputable def AsgT (c : Cx) (n : Nat) (sc : Scope) (pn : List Str) (ρ : Vars) (target : Expr) (d : D) (ρ' : Vars) : Prop :=
  ∀ A env pins F P s v, Room n A → EnvOk env sc → pins.map (·.1) = pn → St c env pins ρ F P s.heap → Rd F d v →
    wpAny (model c.prog c.w) A (assign target env v) (fun _ s' => ∃ P', Step F P s.heap F P' s'.heap ∧ Same s s' ∧ St c env pins ρ' F P' s'.heap) (fun _ _ => False) s
theorem AsgT_name {x : Str} {p : Pos} {d : D} (hs : isSto sc x = true) (hx : x ∉ pn) : AsgT c n sc pn ρ (.Name x p) d (Vars.put ρ x (.val d)) := fun A env pins F P s v R ok hp S r => by
  refine wpAny_assign_Name ?_
  obtain ⟨vm, fp, S⟩ := S
  refine store_var ok S.sto hs fun h' tk S' sb => ?_
  obtain ⟨P', S'', hP, hk, hz⟩ := S.store (.val r) .nil (fun a q => nomatch q) (fun a q => nomatch q) (fun y t e hy a q => nomatch q) (hp ▸ hx) S' sb
  exact ⟨P', ⟨.refl _, fun a o e => .inl e, hk, fun a q => (hP a q).elim .inl fun q => (nomatch q), Nat.le_of_eq hz.symm⟩, ⟨_, _, rfl⟩, S''⟩

/-- an iterator's step touches nothing else -/
theorem St.walk {env : Env} {pins : Pins} {F : Fz} {P : Addr → Prop} {h h' : Heap} {I : Addr} (S : St c env pins ρ F P h) (k : ∀ b o, b ∉ [I] → h.get? b = some o → h'.get? b = some o) (hF : F I = none) (hP : ¬ P I) (hz : h.objs.size ≤ h'.objs.size) : St c env pins ρ F P h' := by
  obtain ⟨vm, fp, S⟩ := S
  have k' : ∀ b o, b ≠ I → h.get? b = some o → h'.get? b = some o := fun b o q e => k b o (by simpa using q) e
  have neP : ∀ a, P a → a ≠ I := fun a q z => hP (z ▸ q)
  exact ⟨vm, fp, {
    base := S.base
    le := fun a o e => k' a o (fun z => by rw [z, hF] at e; cases e) (S.le a o e)
    sto := ⟨let ⟨m, q, e⟩ := S.sto.loc; ⟨m, q.at fun o e => k' _ o (neP _ ((S.mem _).mpr (.inl (.head _)))) e, e⟩, fun y hy => let ⟨cc, e, ⟨o, i, j⟩⟩ := S.sto.cel y hy; ⟨cc, e, ⟨o, k' _ _ (neP _ ((S.mem _).mpr (.inl (List.mem_cons_of_mem _ (List.mem_map_of_mem (f := (·.2)) (mem_of_lookup e)))))) i, j⟩⟩⟩
    own := fun x t e => let ⟨v, e1, o⟩ := S.own x t e; ⟨v, e1, o.mono (fun a ha o e => k' a o (neP a ((S.mem a).mpr (.inr ⟨x, t, by assumption, ha⟩))) e) (.refl _)⟩
    pin := S.pin
    mem := S.mem
    lt := fun a q => Nat.lt_of_lt_of_le (S.lt a q) hz
    out := S.out
    nd := S.nd
    apart := S.apart
    aparts := S.aparts }⟩

inductive LoopR (B : D → Vars → Fl → Vars → Prop) : List D → Vars → Fl → Vars → Prop
  | nil {ρ : Vars} : LoopR B [] ρ .next ρ
  | next {x : D} {xs : List D} {ρ ρ₁ ρ' : Vars} {fl : Fl} : B x ρ .next ρ₁ → LoopR B xs ρ₁ fl ρ' → LoopR B (x :: xs) ρ fl ρ'
  | cont {x : D} {xs : List D} {ρ ρ₁ ρ' : Vars} {fl : Fl} : B x ρ .cont ρ₁ → LoopR B xs ρ₁ fl ρ' → LoopR B (x :: xs) ρ fl ρ'
  | brk {x : D} {xs : List D} {ρ ρ' : Vars} : B x ρ .brk ρ' → LoopR B (x :: xs) ρ .next ρ'
  | ret {x : D} {xs : List D} {ρ ρ' : Vars} {d : D} : B x ρ (.ret d) ρ' → LoopR B (x :: xs) ρ (.ret d) ρ'
noncomputable def Turn (c : Cx) (n : Nat) (sc : Scope) (pn : List Str) (target : Expr) (body : List Stmt) (x : D) (ρ : Vars) (fl : Fl) (ρ' : Vars) : Prop :=
  ∃ ρ₁, AsgT c n sc pn ρ target x ρ₁ ∧ Ex c n sc pn ρ₁ body fl ρ'
noncomputable def isNameE : Expr → Bool
  | .Name .. => true
  | _ => false
noncomputable def isTupE : Expr → Bool
  | .Tuple .. => true
  | _ => false
theorem isNameE_of {e : Expr} (h : isNameE e = true) : ∃ x p, e = .Name x p := by
  unfold isNameE at h
  split at h
  · exact ⟨_, _, rfl⟩
  · cases h
theorem isTupE_of {e : Expr} (h : isTupE e = true) : ∃ x k p, e = .Tuple x k p := by
  unfold isTupE at h
  split at h
  · exact ⟨_, _, _, rfl⟩
  · cases h
noncomputable def D.isTup : D → Bool
  | .tup _ => true
  | _ => false

theorem Rd.tupGo {F : Fz} {d : D} {v : Value} (r : Rd F d v) (h : d.isTup = true) {p : Value → Prop} (hp : ∀ t, p (.ref t)) : p v := by
  cases r <;> first | exact hp _ | cases h
theorem Rd.back {F : Fz} {d : D} {b : Addr} (r : Rd F d (.ref b)) : F b ≠ Option.none := by
  cases r with
  | lst a _ _ _ => rw [a]; exact fun z => nomatch z
  | tup a _ _ _ => rw [a]; exact fun z => nomatch z
  | inst a _ _ _ _ => rw [a]; exact fun z => nomatch z
  | rng a => rw [a]; exact fun z => nomatch z
  | opq a => rw [a]; exact fun z => nomatch z
/-- the state between two turns -/
inductive ForInv (c : Cx) (n : Nat) (sc : Scope) (pn : List Str) (target : Expr) (body : List Stmt) (xs : List D) (fl : Fl) (ρ' : Vars) (env : Env) (pins : Pins) (F : Fz) (P : Addr → Prop) (s : Shared) (F₁ : Fz) (I : Addr) (W : Nat → Heap → Prop) (k : Nat) (s' : Shared) : Prop
  | mk (i : Nat) (ρ₁ : Vars) (F₂ : Fz) (P₂ : Addr → Prop) (hk : k = xs.length + 1 - i) (hi : i ≤ xs.length) (f : Fle F₁ F₂) (T : Step F P s.heap F₂ P₂ s'.heap) (X : Same s s') (S : St c env pins ρ₁ F₂ P₂ s'.heap) (L : LoopR (Turn c n sc pn target body) (xs.drop i) ρ₁ fl ρ') (w : W i s'.heap) (hF : F₂ I = none) (hP : ¬ P₂ I) (hI : I < s'.heap.objs.size) : ForInv c n sc pn target body xs fl ρ' env pins F P s F₁ I W k s'
theorem ExS_for {target iter : Expr} {body : List Stmt} {pos : Pos} {d : D} {xs : List D} {fl : Fl} {ρ' : Vars} (hi : Ev c n sc ρ iter d) (hx : d.items = some xs) (hs : d.small = true := by rfl)
    (h : LoopR (Turn c n sc pn target body) xs ρ fl ρ') (ht : isNameE target = true ∨ (isTupE target = true ∧ d.isLst = true ∧ ∀ x ∈ xs, x.isTup = true)) (hf : ∀ env x, foldedSetIterable iter env x = pure x := by intro _ _; rfl) :
    ExS c n sc pn ρ (.For target iter body [] pos) fl ρ' := fun A env pins F P s R ok hp S => by
  refine wpAny_For (wpAny_mono (hi A env pins F P s R ok S) (fun v s₁ hp1 => ?_) fun _ _ x => x) (hf env)
  obtain ⟨F₁, G₁, X₁, r₁⟩ := hp1
  have S₁ := S.grow G₁
  have lt₁ : ∀ a, P a → a < s₁.heap.objs.size := let ⟨_, _, S⟩ := S₁; S.lt
  have out₁ : ∀ a, P a → F₁ a = none := let ⟨_, _, S⟩ := S₁; S.out
  refine iter_open G₁.le (.fz r₁) hx hs fun o W It tg => ?_
  obtain ⟨⟨Pv, fp, hW, hfp, hPv⟩, st0⟩ := It
  have hval : ∀ b ∈ fp, b ≠ s₁.heap.objs.size → F₁ b ≠ none := fun b hb hne => by
    rcases hfp b hb with q | q
    · exact absurd q hne
    · subst q; exact r₁.back
  have Wk := hW A R.1
  have kp : ∀ b oo, b ∉ [s₁.heap.objs.size] → s₁.heap.get? b = some oo → (s₁.heap.push o).get? b = some oo := fun b oo _ e => Heap.get?_push_of_some _ e
  have S₂ : St c env pins ρ F₁ P (s₁.heap.push o) := S₁.walk kp (none_of_le G₁.le (Nat.le_refl _)) (fun q => Nat.lt_irrefl _ (lt₁ _ q)) (by rw [Heap.size_push]; exact Nat.le_succ _)
  have T₂ : Step F P s.heap F₁ P (s₁.heap.push o) := G₁.step.trans ⟨.refl _, fun _ _ e => .inl e, fun b oo _ e => Heap.get?_push_of_some _ e, fun _ q => .inl q, by rw [Heap.size_push]; exact Nat.le_succ _⟩
  refine codeAny_forLoop_any (ForInv c n sc pn target body xs fl ρ' env pins F P s F₁ s₁.heap.objs.size W) ?_ (xs.length + 1)
    ⟨0, ρ, F₁, P, rfl, Nat.zero_le _, .refl _, T₂, X₁.trans ⟨_, _, rfl⟩, S₂, h, st0, none_of_le G₁.le (Nat.le_refl _), (fun q => Nat.lt_irrefl _ (lt₁ _ q)), by show _ < (s₁.heap.push o).objs.size; rw [Heap.size_push]; exact Nat.lt_succ_self _⟩
  rintro k s₂ ⟨i, ρ₁, F₂, P₂, rfl, hile, f12, T, X, S, L, hw, hF, hP, hI⟩
  have stepI : ∀ {s₃ : Shared}, s₂.heap.objs.size ≤ s₃.heap.objs.size → (∀ b o, b ∉ [s₁.heap.objs.size] → s₂.heap.get? b = some o → s₃.heap.get? b = some o) → Step F P s.heap F₂ P₂ s₃.heap := fun hz hk =>
    ⟨T.fle, T.new, fun b oo q e => hk b oo (fun z => by
      have hb := Nat.lt_of_lt_of_le (Heap.lt_size e) G₁.size
      rw [List.mem_singleton.mp z] at hb; exact Nat.lt_irrefl _ hb) (T.keep b oo q e), T.mem, Nat.le_trans T.size hz⟩
  by_cases hlt : i < xs.length
  · refine wpAny_mono (wpAny_sz (Nat.le_refl s₂.heap.objs.size) (Wk.item i s₂ (fun r s' => match r with | some v => Pv i v ∧ W (i + 1) s'.heap ∧ (∀ b o, b ∉ [s₁.heap.objs.size] → s₂.heap.get? b = some o → s'.heap.get? b = some o) ∧ Same s₂ s' | none => False) (fun _ _ => False) hlt hw fun v h' tk hv hw' hk => ⟨hv, hw', hk, ⟨_, _, rfl⟩⟩)) (fun r s₃ hp2 => ?_) fun _ _ x => x.2.elim
    obtain ⟨hz, hr⟩ := hp2
    cases r with
    | none => exact hr.elim
    | some v' =>
      obtain ⟨hv, hw', hk, X₃⟩ := hr
      obtain ⟨dv, edv, rdv⟩ := hPv i v' hlt hv
      have S₃ := S.walk hk hF hP hz
      have T₃ := stepI hz hk
      have hI₃ : s₁.heap.objs.size < s₃.heap.objs.size := Nat.lt_of_lt_of_le hI hz
      have ed : xs.drop i = dv :: xs.drop (i + 1) := by rw [List.drop_eq_getElem_cons hlt]; congr 1; rw [List.getElem?_eq_getElem hlt] at edv; exact Option.some.inj edv
      rw [ed] at L
      have go : wpAny (model c.prog c.w) A (letOwnedTupleGo target (.ref s₁.heap.objs.size) v') (fun _ s' => s' = s₃) (fun _ _ => False) s₃ := by
        rcases ht with ht | ⟨ht, hl, hall⟩
        · obtain ⟨_, _, rfl⟩ := isNameE_of ht
          exact wpAny_pure rfl
        · obtain ⟨_, _, _, rfl⟩ := isTupE_of ht
          exact rdv.tupGo (p := fun v => wpAny (model c.prog c.w) A (letOwnedTupleGo _ (.ref s₁.heap.objs.size) v) _ _ s₃) (hall dv (List.mem_of_getElem? edv)) fun t => tg hl _ _ _ _ _ _ _ _ _ hw' rfl
      refine wpAny_mono go (fun _ s₄ e => ?_) fun _ _ x => x.elim
      subst e
      -- a turn keeps the iterator
      have turn : ∀ {fl₁ : Fl} {ρ₂ : Vars} {Q : Flow → Shared → Prop} {E : Value → Shared → Prop} {E' : Value → Shared → Prop}, Turn c n sc pn target body dv ρ₁ fl₁ ρ₂ →
          (∀ f s' F₄ P₄, Fle F₁ F₄ → Step F P s.heap F₄ P₄ s'.heap → Same s s' → St c env pins ρ₂ F₄ P₄ s'.heap → W (i + 1) s'.heap → F₄ s₁.heap.objs.size = none → ¬ P₄ s₁.heap.objs.size → s₁.heap.objs.size < s'.heap.objs.size → FlR F₄ P s.heap.objs.size fl₁ f → Q f s') →
          wpAny (model c.prog c.w) A (assign target env v') (fun _ s₂ => wpAny (model c.prog c.w) A (execs body env) Q E s₂) E' s₄ := fun {fl₁ ρ₂ Q E E'} hp3 hQ => by
        obtain ⟨ρ₃, ha, hb⟩ := hp3
        refine wpAny_mono (ha A env pins F₂ P₂ s₄ v' R ok hp S₃ (rdv.mono f12)) (fun _ s₅ hp4 => ?_) fun _ _ x => x.elim
        obtain ⟨P₅, T₅, X₅, S₅⟩ := hp4
        refine wpAny_mono (hb A env pins F₂ P₅ s₅ R ok hp S₅) (fun f s₆ hp5 => ?_) fun _ _ x => x.elim
        obtain ⟨F₆, P₆, T₆, X₆, S₆, q⟩ := hp5
        have T56 := T₅.trans T₆
        have hI5 : ¬ P₅ s₁.heap.objs.size := fun z => (T₅.mem _ z).elim hP fun z => Nat.lt_irrefl _ (Nat.lt_of_lt_of_le hI₃ z)
        refine hQ f s₆ F₆ P₆ (f12.trans T₆.fle) (T₃.trans T56) (X.trans (X₃.trans (X₅.trans X₆))) S₆ ?_ ?_ ?_ (Nat.lt_of_lt_of_le hI₃ T56.size) (q.back (fun a z => (T₃.trans T₅).mem a z) (T₃.trans T₅).size)
        · refine Wk.frame (i + 1) _ _ hw' fun b hb oo e => T56.keep b oo (fun z => ?_) e
          by_cases hbI : b = s₁.heap.objs.size
          · exact hP (hbI ▸ z)
          · have h1 := hval b hb hbI
            cases hq : F₁ b with
            | none => exact h1 hq
            | some o1 =>
              have h2 := f12 b o1 hq
              have h3 : F₂ b = none := let ⟨_, _, S⟩ := S; S.out b z
              rw [h3] at h2; cases h2
        · cases hq : F₆ s₁.heap.objs.size with
          | none => rfl
          | some o1 =>
            rcases T₆.new _ _ hq with z | z | z
            · rw [hF] at z; cases z
            · exact absurd z hI5
            · exact absurd (Nat.lt_of_lt_of_le hI₃ (Nat.le_trans T₅.size z)) (Nat.lt_irrefl _)
        · exact fun z => (T56.mem _ z).elim hP fun z => Nat.lt_irrefl _ (Nat.lt_of_lt_of_le hI₃ z)
      cases L with
      | next hB L =>
        refine turn hB fun f s' F₄ P₄ a1 a2 a3 a4 a5 a6 a7 a8 q => ?_
        cases q
        exact ⟨xs.length + 1 - (i + 1), by omega, i + 1, _, F₄, P₄, rfl, hlt, a1, a2, a3, a4, L, a5, a6, a7, a8⟩
      | cont hB L =>
        refine turn hB fun f s' F₄ P₄ a1 a2 a3 a4 a5 a6 a7 a8 q => ?_
        cases q
        exact ⟨xs.length + 1 - (i + 1), by omega, i + 1, _, F₄, P₄, rfl, hlt, a1, a2, a3, a4, L, a5, a6, a7, a8⟩
      | brk hB =>
        refine turn hB fun f s' F₄ P₄ a1 a2 a3 a4 a5 a6 a7 a8 q => ?_
        cases q
        exact ⟨F₄, P₄, a2, a3, a4, .next⟩
      | ret hB =>
        refine turn hB fun f s' F₄ P₄ a1 a2 a3 a4 a5 a6 a7 a8 q => ?_
        cases q with
        | ret q => exact ⟨F₄, P₄, a2, a3, a4, .ret q⟩
  · have hin : i = xs.length := by omega
    subst hin
    refine wpAny_mono (wpAny_sz (Nat.le_refl s₂.heap.objs.size) (Wk.done s₂ (fun r s' => r = none ∧ (∀ b o, b ∉ [s₁.heap.objs.size] → s₂.heap.get? b = some o → s'.heap.get? b = some o) ∧ Same s₂ s') (fun _ _ => False) hw fun h' tk hk => ⟨rfl, hk, ⟨_, _, rfl⟩⟩)) (fun r s₃ hp6 => ?_) fun _ _ x => x.2.elim
    obtain ⟨hz, hr⟩ := hp6
    obtain ⟨rfl, hk, X₃⟩ := hr
    rw [List.drop_length] at L
    cases L
    exact wpAny_execs_nil ⟨F₂, P₂, stepI hz hk, X.trans X₃, S.walk hk hF hP hz, .next⟩
end Mine
end

section
open PySem PySem.Calls PyProof.Rows PySem.W
set_option maxRecDepth 100000
set_option linter.unusedVariables false
namespace Mine
variable {c : Cx} {n : Nat} {sc : Scope} {pn : List Str} {ρ : Vars}

theorem cellsFrom_app : ∀ (names : List (Str × NameKind)) (k : Nat) (acc : List (Str × Addr)), cellsFrom k names acc = cellsFrom k names [] ++ acc
  | [], _, _ => rfl
  | (x, kd) :: r, k, acc => by
    unfold cellsFrom
    split
    · rw [cellsFrom_app r (k + 1) ((x, k) :: acc), cellsFrom_app r (k + 1) [(x, k)], List.append_assoc]; rfl
    · exact cellsFrom_app r k acc
theorem cellsFrom_kind : ∀ (names : List (Str × NameKind)) (k : Nat) (x : Str) (a : Addr), (x, a) ∈ cellsFrom k names [] → (x, NameKind.cell) ∈ names
  | [], _, _, _, h => nomatch h
  | (y, kd) :: r, k, x, a, h => by
    unfold cellsFrom at h
    split at h
    · rename_i hk
      rw [cellsFrom_app] at h
      rcases List.mem_append.mp h with h | h
      · exact .tail _ (cellsFrom_kind r _ x a h)
      · rw [List.mem_singleton] at h; cases h
        rw [beq_iff_eq.mp hk]; exact .head _
    · exact .tail _ (cellsFrom_kind r _ x a h)
theorem newEnvC {M : Model} {A : Around} {E : Value → Shared → Prop} {s : Shared} {scope : Scope} {globals : Addr} {cl : List (Str × Addr)} {qual : Str} {outer : Env} {Q : Env → Shared → Prop}
    (h : Q { scope, locals := s.heap.objs.size, globals, cells := cellsFrom (s.heap.objs.size + 1) scope.names [] ++ cl, qual, func := none, code := outer.code, frame := outer.frame, builtins := outer.builtins }
      { s with heap := pushCells (s.heap.push { cls := .type "dict", data := .dict #[] }) scope.names }) :
    wpAny M A (newFunctionEnv scope globals cl [] qual none .none (some outer)) Q E s := by
  unfold newFunctionEnv
  simp only [Option.isSome_some, if_true]
  refine wpAny_bind (wpAny_alloc ?_)
  refine wpAny_bind (wpAny_layCells _ (fun name kind cells => by cases hkc : kind == NameKind.cell <;> simp [hkc]) _ _ _ _ ?_)
  refine wpAny_bind (wpAny_pure ?_)
  refine wpAny_pure ?_
  rw [show ({ s with heap := s.heap.push { cls := .type "dict", data := .dict #[] } } : Shared).heap.objs.size = s.heap.objs.size + 1 from Heap.size_push .., cellsFrom_app]
  exact h

noncomputable def closL (env : Env) (names : List (Str × NameKind)) : List (Str × Addr) := ((names.filter (·.2 == .free)).map fun q => (q.1, (env.cells.lookup q.1).getD 0)).reverse
theorem closure_eq {env : Env} (f : Str × NameKind → List (Str × Addr) → Sem (ForInStep (List (Str × Addr))))
    (hf : ∀ name kind cs, f (name, kind) cs = if kind == .free then (do let a ← cellOf env name; pure (.yield ((name, a) :: cs))) else pure (.yield cs)) :
    ∀ (names : List (Str × NameKind)) (acc : List (Str × Addr)), (∀ q ∈ names, q.2 = .free → ∃ a, env.cells.lookup q.1 = some a) → forIn names acc f = pure (closL env names ++ acc)
  | [], acc, _ => rfl
  | (x, k) :: r, acc, h => by
    rw [List.forIn_cons, hf]
    have hr := fun q hq => h q (List.mem_cons_of_mem _ hq)
    by_cases hk : (k == NameKind.free) = true
    · rw [if_pos hk]
      obtain ⟨a, e⟩ := h (x, k) (.head _) (beq_iff_eq.mp hk)
      have e1 : cellOf env x = pure a := by unfold cellOf; rw [e]
      rw [e1]
      simp only [pure_bind]
      rw [closure_eq f hf r _ hr]
      have e2 : closL env ((x, k) :: r) = closL env r ++ [(x, a)] := by
        unfold closL
        rw [List.filter_cons, if_pos hk, List.map_cons, List.reverse_cons, e]; rfl
      rw [e2, List.append_assoc]; rfl
    · rw [if_neg hk]
      simp only [pure_bind]
      rw [closure_eq f hf r _ hr]
      have e2 : closL env ((x, k) :: r) = closL env r := by
        unfold closL
        rw [List.filter_cons, if_neg hk]
      rw [e2]
theorem closureFor_pure {scope : Scope} {env : Env} (h : ∀ q ∈ scope.names, q.2 = .free → ∃ a, env.cells.lookup q.1 = some a) : closureFor scope env = pure (closL env scope.names) := by
  simp only [closureFor]
  rw [closure_eq (env := env) _ (fun name kind cs => by cases hk : kind == NameKind.free <;> simp [hk]) scope.names [] h]
  simp

/-- a comprehension's names, as they stand within it -/
noncomputable def relS (csc sc : Scope) : Scope := { csc with names := csc.names.map fun (n, k) => if k == .free && sc.kind == .function && sc.names.lookup n == some .cell then (n, .cell) else (n, k) }
theorem relabel_eq (csc : Scope) (env : Env) : relabel csc env = relS csc env.scope := rfl
theorem lookup_map_snd (g : Str → NameKind → NameKind) (x : Str) : ∀ l : List (Str × NameKind), (l.map fun q => (q.1, g q.1 q.2)).lookup x = (l.lookup x).map (g x)
  | [] => rfl
  | q :: r => by
    rw [List.map_cons, List.lookup_cons, List.lookup_cons]
    by_cases hx : x = q.1
    · subst hx; simp
    · have hb : (x == q.1) = false := by simpa using hx
      simp only [hb]
      exact lookup_map_snd g x r
theorem relS_lookup {csc sc : Scope} (x : Str) : (relS csc sc).names.lookup x = (csc.names.lookup x).map fun k => if k == .free && sc.kind == .function && sc.names.lookup x == some .cell then .cell else k := by
  rw [← lookup_map_snd (fun y k => if k == .free && sc.kind == .function && sc.names.lookup y == some .cell then .cell else k) x csc.names]
  unfold relS
  dsimp only
  congr 1
  refine List.map_congr_left fun q _ => ?_
  obtain ⟨y, k⟩ := q
  dsimp only
  split <;> rfl

noncomputable def compOk (csc sc : Scope) (x : Str) : Bool :=
  csc.kind == .function && decide (csc.names.map (·.1)).Nodup && (csc.names.all fun q => !(q.2 == .free) || sc.names.lookup q.1 == some .cell || sc.names.lookup q.1 == some .free) && (csc.names.lookup x == some .local || csc.names.lookup x == some .cell)
structure CompOk (csc sc : Scope) (x : Str) : Prop where
  kind : csc.kind = .function
  nd : (csc.names.map (·.1)).Nodup
  free : ∀ q ∈ csc.names, q.2 = .free → sc.names.lookup q.1 = some .cell ∨ sc.names.lookup q.1 = some .free
  tgt : csc.names.lookup x = some .local ∨ csc.names.lookup x = some .cell
theorem compOk_of {csc sc : Scope} {x : Str} (h : compOk csc sc x = true) : CompOk csc sc x := by
  unfold compOk at h
  simp only [Bool.and_eq_true, decide_eq_true_eq, List.all_eq_true, Bool.or_eq_true, beq_iff_eq, Bool.not_eq_true'] at h
  obtain ⟨⟨⟨a, b⟩, d⟩, e⟩ := h
  refine ⟨a, b, fun q hq hk => ?_, e⟩
  have := d q hq
  rw [hk] at this
  simpa using this
theorem lookup_of_nd {α : Type} : ∀ {l : List (Str × α)}, (l.map (·.1)).Nodup → ∀ {q : Str × α}, q ∈ l → l.lookup q.1 = some q.2
  | p :: r, nd, q, h => by
    obtain ⟨h1, h2⟩ := List.nodup_cons.mp nd
    rw [List.lookup_cons]
    rcases List.mem_cons.mp h with rfl | h
    · simp
    · have hne : (q.1 == p.1) = false := by
        have : q.1 ≠ p.1 := fun e => h1 (show p.1 ∈ r.map (·.1) by rw [← e]; exact List.mem_map_of_mem (f := (·.1)) h)
        simpa using this
      rw [hne]; exact lookup_of_nd h2 h
theorem relS_sto {csc sc : Scope} {x : Str} (h : CompOk csc sc x) : isSto (relS csc sc) x = true := by
  unfold isSto
  rw [relS_lookup]
  rcases h.tgt with e | e <;> rw [e] <;> rfl

/-- the frame within -/
theorem comp_st {env : Env} {pins : Pins} {F : Fz} {P : Addr → Prop} {s : Shared} {csc : Scope} {x : Str} {ρc : Vars} (ok : EnvOk env sc) (S : St c env pins ρ F P s.heap) (hc : CompOk csc sc x)
    (hρ : ∀ y sl, ρc.lookup y = some sl → csc.names.lookup y = some .free ∧ ρ.lookup y = some sl) {cenv : Env}
    (he : cenv = { scope := relS csc sc, locals := s.heap.objs.size, globals := env.globals, cells := cellsFrom (s.heap.objs.size + 1) csc.names [] ++ closL env csc.names, qual := env.qual, func := none, code := env.code, frame := env.frame, builtins := env.builtins })
    {h' : Heap} (hh : h' = pushCells (s.heap.push { cls := .type "dict", data := .dict #[] }) csc.names) :
    EnvOk cenv (relS csc sc) ∧ (∃ P', St c cenv [] ρc F P' h' ∧ (∀ a, P' a → P a ∨ s.heap.objs.size ≤ a)) ∧ (∀ a ∈ stor cenv, s.heap.objs.size ≤ a ∨ a ∈ env.cells.map (·.2)) ∧ Fle s.heap.get? h'.get? ∧ s.heap.objs.size < h'.objs.size ∧ (∀ a, cenv.cells.lookup x = some a → s.heap.objs.size ≤ a) := by
  obtain ⟨vm, fp, S⟩ := S
  have kx : ∀ y, env.kindOf y = sc.names.lookup y := fun y => by unfold Env.kindOf; rw [ok.scope]
  have keep : Fle s.heap.get? h'.get? := fun a o e => by rw [hh]; exact pushCells_keeps _ _ a o (Heap.get?_push_of_some _ e)
  have cok : CellsOk h' (s.heap.objs.size + 1) (cellsFrom (s.heap.objs.size + 1) csc.names []) := by
    have := cellsFrom_ok csc.names (s.heap.push { cls := .type "dict", data := .dict #[] }) (s.heap.objs.size + 1) [] ⟨fun _ _ hm => (nomatch hm), List.Pairwise.nil⟩ (by rw [Heap.size_push]; exact Nat.le_refl _)
    rw [Heap.size_push] at this
    rw [hh]; exact this
  have envnd := List.nodup_cons.mp (show (env.locals :: env.cells.map (·.2)).Nodup from ok.nd)
  have hfree : ∀ q ∈ csc.names, q.2 = .free → ∃ a, env.cells.lookup q.1 = some a ∧ s.heap.IsCell a (vm q.1) := fun q hq hk => by
    obtain ⟨a, e, i⟩ := S.sto.cel q.1 ((hc.free q hq hk).imp (kx q.1).trans (kx q.1).trans)
    exact ⟨a, e, i⟩
  have clmem : ∀ p ∈ closL env csc.names, ∃ q ∈ csc.names, q.2 = .free ∧ p.1 = q.1 ∧ env.cells.lookup q.1 = some p.2 := fun p hp => by
    unfold closL at hp
    obtain ⟨q, hq, rfl⟩ := List.mem_map.mp (List.mem_reverse.mp hp)
    obtain ⟨h1, h2⟩ := List.mem_filter.mp hq
    obtain ⟨a, e, _⟩ := hfree q h1 (beq_iff_eq.mp h2)
    exact ⟨q, h1, beq_iff_eq.mp h2, rfl, by rw [e]; rfl⟩
  have clin : ∀ p ∈ closL env csc.names, p.2 ∈ env.cells.map (·.2) := fun p hp => let ⟨q, _, _, _, e⟩ := clmem p hp; List.mem_map_of_mem (f := (·.2)) (mem_of_lookup e)
  have ltc : ∀ a ∈ env.cells.map (·.2), a < s.heap.objs.size := fun a ha => S.lt a ((S.mem a).mpr (.inl (.tail _ ha)))
  have cllook : ∀ q ∈ csc.names, q.2 = .free → (closL env csc.names).lookup q.1 = env.cells.lookup q.1 := fun q hq hk => by
    obtain ⟨a, e, _⟩ := hfree q hq hk
    rw [e]
    have hin : (q.1, a) ∈ closL env csc.names := by
      unfold closL
      refine List.mem_reverse.mpr (List.mem_map.mpr ⟨q, List.mem_filter.mpr ⟨hq, by rw [hk]; rfl⟩, by rw [e]; rfl⟩)
    have hnd : ((closL env csc.names).map (·.1)).Nodup := by
      unfold closL
      rw [List.map_reverse, List.map_map]
      refine List.pairwise_reverse.mpr (List.Pairwise.imp Ne.symm ?_)
      exact (List.Sublist.map _ List.filter_sublist).nodup hc.nd
    exact lookup_of_nd hnd hin
  have cellsE : cenv.cells = cellsFrom (s.heap.objs.size + 1) csc.names [] ++ closL env csc.names := by rw [he]
  have locE : cenv.locals = s.heap.objs.size := by rw [he]
  have okc : EnvOk cenv (relS csc sc) := by
    refine ⟨by rw [he], hc.kind, by rw [he]; exact ok.globals, by rw [he]; exact ok.builtins, ?_⟩
    unfold stor
    rw [cellsE, locE, List.map_append]
    refine List.nodup_cons.mpr ⟨fun q => ?_, List.nodup_append.mpr ⟨List.pairwise_map.mpr cok.apart, ?_, fun a ha b hb e => ?_⟩⟩
    · rcases List.mem_append.mp q with q | q
      · obtain ⟨p, hp, e⟩ := List.mem_map.mp q
        have := (cok.empty p.1 p.2 hp).2
        rw [e] at this; exact Nat.lt_irrefl _ this
      · obtain ⟨p, hp, e⟩ := List.mem_map.mp q
        have := ltc _ (clin p hp)
        rw [e] at this; exact Nat.lt_irrefl _ this
    · unfold closL
      rw [List.map_reverse, List.map_map]
      refine List.pairwise_reverse.mpr (List.Pairwise.imp Ne.symm ?_)
      refine List.pairwise_map.mpr ?_
      have pw : (csc.names.filter (·.2 == .free)).Pairwise fun a b => a.1 ≠ b.1 := List.Pairwise.sublist List.filter_sublist (List.pairwise_map.mp hc.nd)
      refine List.Pairwise.imp_of_mem (fun {a b} ha hb hne e => hne ?_) pw
      obtain ⟨a1, a2⟩ := List.mem_filter.mp ha
      obtain ⟨b1, b2⟩ := List.mem_filter.mp hb
      obtain ⟨x1, e1, _⟩ := hfree a a1 (beq_iff_eq.mp a2)
      obtain ⟨x2, e2, _⟩ := hfree b b1 (beq_iff_eq.mp b2)
      have e' : x1 = x2 := by simpa [e1, e2] using e
      subst e'
      exact name_of_addr (List.pairwise_map.mp envnd.2) (mem_of_lookup e1) (mem_of_lookup e2)
    · obtain ⟨p, hp, e1⟩ := List.mem_map.mp ha
      obtain ⟨q, hq, e2⟩ := List.mem_map.mp hb
      have h1 := (cok.empty p.1 p.2 hp).2
      have h2 := ltc _ (clin q hq)
      rw [e1, e] at h1; rw [e2] at h2
      exact Nat.lt_irrefl _ (Nat.lt_trans h2 h1)
  have hstor : ∀ a ∈ stor cenv, s.heap.objs.size ≤ a ∨ a ∈ env.cells.map (·.2) := fun a ha => by
    unfold stor at ha
    rw [cellsE, locE, List.map_append] at ha
    rcases List.mem_cons.mp ha with rfl | ha
    · exact .inl (Nat.le_refl _)
    · rcases List.mem_append.mp ha with ha | ha
      · obtain ⟨p, hp, rfl⟩ := List.mem_map.mp ha
        exact .inl (Nat.le_of_succ_le (cok.empty p.1 p.2 hp).2)
      · obtain ⟨p, hp, rfl⟩ := List.mem_map.mp ha
        exact .inr (clin p hp)
  have hsz : s.heap.objs.size < h'.objs.size := by
    have : h'.get? s.heap.objs.size = some { cls := .type "dict", data := .dict #[] } := by rw [hh]; exact pushCells_keeps _ _ _ _ (Heap.get?_push_size _ rfl)
    exact Heap.lt_size this
  have ltS : ∀ a ∈ stor cenv, a < h'.objs.size := fun a ha => by
    unfold stor at ha
    rw [cellsE, locE, List.map_append] at ha
    rcases List.mem_cons.mp ha with rfl | ha
    · exact hsz
    · rcases List.mem_append.mp ha with ha | ha
      · obtain ⟨p, hp, rfl⟩ := List.mem_map.mp ha
        exact (cok.empty p.1 p.2 hp).1.lt
      · obtain ⟨p, hp, rfl⟩ := List.mem_map.mp ha
        exact Nat.lt_trans (ltc _ (clin p hp)) hsz
  have hown : ∀ a, cenv.cells.lookup x = some a → s.heap.objs.size ≤ a := fun a e => by
    rw [cellsE, List.lookup_append] at e
    cases q : (cellsFrom (s.heap.objs.size + 1) csc.names []).lookup x with
    | some b =>
      rw [q] at e; cases e
      exact Nat.le_of_succ_le (cok.empty x a (mem_of_lookup q)).2
    | none =>
      rw [q] at e
      obtain ⟨r, hr, hk, e1, _⟩ := clmem (x, a) (mem_of_lookup e)
      have h2 := lookup_of_nd hc.nd hr
      have e1' : x = r.1 := e1
      rw [← e1', hk] at h2
      rcases hc.tgt with h3 | h3 <;> rw [h2] at h3 <;> cases h3
  refine ⟨okc, ⟨fun a => a ∈ stor cenv ∨ ∃ y sl, ρc.lookup y = some sl ∧ a ∈ fp y, ⟨fun y => if csc.names.lookup y = some .free then vm y else none, fp, ?_⟩, fun a q => ?_⟩, hstor, keep, hsz, hown⟩
  · have kc : ∀ y, cenv.kindOf y = (csc.names.lookup y).map fun k => if k == .free && sc.kind == .function && sc.names.lookup y == some .cell then .cell else k := fun y => by
      have : cenv.kindOf y = (relS csc sc).names.lookup y := by unfold Env.kindOf; rw [okc.scope]
      rw [this, relS_lookup]
    exact {
      base := S.base
      le := S.le.trans keep
      sto := ⟨⟨fun _ => none, by rw [locE, hh]; exact (Heap.Ns.new s.heap (.type "dict")).keeps (pushCells_keeps _ _), fun y hy => by
          rw [kc] at hy
          have hne : csc.names.lookup y ≠ some .free := fun e => by rw [e] at hy; simp at hy; split at hy <;> cases hy
          simp only [if_neg hne]⟩, fun y hy => by
          rw [kc] at hy
          cases e : csc.names.lookup y with
          | none => rw [e] at hy; rcases hy with hy | hy <;> cases hy
          | some k =>
            rw [e] at hy
            by_cases hk : k = .free
            · subst hk
              have hm := mem_of_lookup e
              obtain ⟨a, e1, i⟩ := hfree _ hm rfl
              refine ⟨a, ?_, ?_⟩
              · rw [cellsE, List.lookup_append]
                have hno : (cellsFrom (s.heap.objs.size + 1) csc.names []).lookup y = none := by
                  cases q : (cellsFrom (s.heap.objs.size + 1) csc.names []).lookup y with
                  | none => rfl
                  | some b =>
                    have h1 := cellsFrom_kind _ _ _ _ (mem_of_lookup q)
                    have h2 := lookup_of_nd hc.nd h1
                    rw [e] at h2; cases h2
                rw [hno, cllook _ hm rfl, e1]; rfl
              · rw [if_pos rfl]; exact i.keeps keep
            · have hk2 : (k == NameKind.free) = false := by simpa using hk
              have hkc : k = .cell := by
                rcases hy with hy | hy <;> simp only [Option.map_some, hk2, Bool.false_and, Bool.false_eq_true, if_false, Option.some.injEq] at hy
                · exact hy
                · exact absurd hy hk
              subst hkc
              obtain ⟨a, ea⟩ := Option.isSome_iff_exists.mp (cells_some (k := s.heap.objs.size + 1) e)
              refine ⟨a, by rw [cellsE, List.lookup_append, ea]; rfl, ?_⟩
              rw [if_neg (by intro z; cases z)]
              exact (cok.empty y a (mem_of_lookup ea)).1⟩
      own := fun y sl e => by
        obtain ⟨h1, h2⟩ := hρ y sl e
        obtain ⟨v, e1, o⟩ := S.own y sl h2
        exact ⟨v, by rw [if_pos h1]; exact e1, o.mono (fun a _ => keep a) (.refl _)⟩
      pin := fun q hq => nomatch hq
      mem := fun a => Iff.rfl
      lt := fun a q => by
        rcases q with q | ⟨y, sl, e, q⟩
        · exact ltS a q
        · exact Nat.lt_trans (S.lt a ((S.mem a).mpr (.inr ⟨y, sl, (hρ y sl e).2, q⟩))) hsz
      out := fun a q => by
        rcases q with q | ⟨y, sl, e, q⟩
        · rcases hstor a q with q | q
          · exact none_of_le S.le q
          · exact S.out a ((S.mem a).mpr (.inl (.tail _ q)))
        · exact S.out a ((S.mem a).mpr (.inr ⟨y, sl, (hρ y sl e).2, q⟩))
      nd := fun y sl e => S.nd y sl (hρ y sl e).2
      apart := fun y sl z t e e' => S.apart y sl z t (hρ y sl e).2 (hρ z t e').2
      aparts := fun y sl e a ha q => by
        have h1 := (hρ y sl e).2
        rcases hstor a q with q | q
        · exact Nat.not_lt.mpr q (S.lt a ((S.mem a).mpr (.inr ⟨y, sl, h1, ha⟩)))
        · exact S.aparts y sl h1 a ha (.tail _ q) }
  · rcases q with q | ⟨y, sl, e, q⟩
    · rcases hstor a q with q | q
      · exact .inr q
      · exact .inl ((S.mem a).mpr (.inl (.tail _ q)))
    · exact .inl ((S.mem a).mpr (.inr ⟨y, sl, (hρ y sl e).2, q⟩))
end Mine
end

section
open PySem PySem.Calls PyProof.Rows PySem.W
set_option maxRecDepth 100000
set_option linter.unusedVariables false
namespace Mine
variable {c : Cx} {n : Nat} {sc : Scope} {pn : List Str} {ρ : Vars}

theorem put_put (ρ : Vars) (x : Str) (s t : Slot) : Vars.put (Vars.put ρ x s) x t = Vars.put ρ x t := by
  induction ρ with
  | nil => simp [Vars.put]
  | cons q r ih =>
    obtain ⟨y, u⟩ := q
    by_cases h : (x == y) = true
    · simp [Vars.put, h]
    · simp [Vars.put, h, ih]

/-- the tests of a clause -/
inductive Tests (c : Cx) (n : Nat) (sc : Scope) (ρ : Vars) : List Expr → Bool → Prop
  | nil : Tests c n sc ρ [] true
  | one {e : Expr} {b : Bool} : Te c n sc ρ e b → Tests c n sc ρ [e] b
inductive CompR (ts : D → Bool → Prop) (el : D → D → Prop) : List D → List D → Prop
  | nil : CompR ts el [] []
  | skip {x : D} {xs ys : List D} : ts x false → CompR ts el xs ys → CompR ts el (x :: xs) ys
  | take {x y : D} {xs ys : List D} : ts x true → el x y → CompR ts el xs ys → CompR ts el (x :: xs) (y :: ys)
/-- a new object on top, seen by a frame -/
theorem St.top {env : Env} {pins : Pins} {F : Fz} {P : Addr → Prop} {h h' : Heap} (S : St c env pins ρ F P h) (k : Fle h.get? h'.get?) (hz : h.objs.size ≤ h'.objs.size) : St c env pins ρ F P h' :=
  S.grow ⟨.refl _, fun _ _ e => .inl e, k, S.le.trans k, hz⟩
theorem St.lt {env : Env} {pins : Pins} {F : Fz} {P : Addr → Prop} {h : Heap} (S : St c env pins ρ F P h) {a : Addr} (q : P a) : a < h.objs.size := let ⟨_, _, S⟩ := S; S.lt a q
theorem St.out {env : Env} {pins : Pins} {F : Fz} {P : Addr → Prop} {h : Heap} (S : St c env pins ρ F P h) {a : Addr} (q : P a) : F a = none := let ⟨_, _, S⟩ := S; S.out a q
theorem St.stor {env : Env} {pins : Pins} {F : Fz} {P : Addr → Prop} {h : Heap} (S : St c env pins ρ F P h) {a : Addr} (q : a ∈ stor env) : P a := let ⟨_, _, S⟩ := S; (S.mem a).mpr (.inl q)

structure CompEnd (F : Fz) (s : Shared) (ys : List D) (D C : Addr) (s' : Shared) : Prop where
  ex : ∃ F', Grow F s.heap F' s'.heap ∧ F' D = none ∧ LstAt s'.heap F' ys D ∧ F' C = none
  same : Same s s'
  fresh : s.heap.objs.size ≤ D
  ns : ∃ m, s'.heap.Ns C m
  freshC : s.heap.objs.size ≤ C
  ne : D ≠ C

theorem ltA {a b : Nat} (h : a < b) : a < b := h
theorem leA {a b : Nat} (h : a ≤ b) : a ≤ b := h
theorem neA {a b : Nat} (h : a ≠ b) : a ≠ b := h
theorem eqA {a b : Nat} (h : a = b) : a = b := h
/-- the state between two turns -/
inductive CompInv (c : Cx) (n : Nat) (sc csc : Scope) (ifs : List Expr) (elt : Expr) (x : Str) (ρc : Vars) (xs ys : List D) (cenv : Env) (F : Fz) (P : Addr → Prop) (s₁ : Shared) (H2 H3 : Heap) (W : Nat → Heap → Prop) (k : Nat) (s' : Shared) : Prop
  | mk (i : Nat) (ρi : Vars) (F' : Fz) (P' : Addr → Prop) (zs : List D) (hk : k = xs.length + 1 - i) (hi : i ≤ xs.length) (hput : ∀ t, Vars.put ρi x t = Vars.put ρc x t) (f : Fle F F') (new : ∀ a oo, F' a = some oo → F a = some oo ∨ H3.objs.size ≤ a) (old : ∀ a oo, s₁.heap.get? a = some oo → s'.heap.get? a = some oo)
    (X : Same s₁ s') (S : St c cenv [] ρi F' P' s'.heap) (hP : ∀ a, P' a → P a ∨ H2.objs.size ≤ a) (w : W i s'.heap) (pl : ∃ vs, s'.heap.PlainList (s₁.heap.objs.size + 1) vs ∧ RdL F' zs vs.toList) (hz : zs.length ≤ i)
    (L : CompR (fun a b => Tests c n (relS csc sc) (Vars.put ρc x (.val a)) ifs b) (fun a y => Ev c n (relS csc sc) (Vars.put ρc x (.val a)) elt y) (xs.drop i) (ys.drop zs.length)) (ey : ys = zs ++ ys.drop zs.length) (h3 : H3.objs.size ≤ s'.heap.objs.size) :
    CompInv c n sc csc ifs elt x ρc xs ys cenv F P s₁ H2 H3 W k s'
theorem Rd1.lt {h : Heap} {F : Fz} {d : D} {a : Addr} (l : Fle F h.get?) (r : Rd1 h F d (.ref a)) : a < h.objs.size := by
  cases r with
  | fz r => cases r with
    | lst a _ _ _ => exact Heap.lt_size (l _ _ a)
    | tup a _ _ _ => exact Heap.lt_size (l _ _ a)
    | inst a _ _ _ _ => exact Heap.lt_size (l _ _ a)
    | rng a => exact Heap.lt_size (l _ _ a)
    | opq a => exact Heap.lt_size (l _ _ a)
  | own L => exact L.lt
/-- the loop within, from the iterator on -/
theorem comp_core {A : Around} {env : Env} {pins : Pins} {F : Fz} {P : Addr → Prop} {s₁ : Shared} {csc : Scope} {elt iter : Expr} {x : Str} {px pos : Pos} {ifs : List Expr} {ρc : Vars} {xs ys : List D} {d : D} {v : Value} {E : Value → Shared → Prop} {RR : Value → Addr → Result → Shared → Prop}
    (R : Room n A) (ok : EnvOk env sc) (S₁ : St c env pins ρ F P s₁.heap) (hc : CompOk csc sc x) (hρ : ∀ y sl, ρc.lookup y = some sl → csc.names.lookup y = some .free ∧ ρ.lookup y = some sl)
    (r₁ : Rd1 s₁.heap F d v) (hx : d.items = some xs) (hs : d.small = true) (hl : xs.length ≤ 100000)
    (h : CompR (fun a b => Tests c n (relS csc sc) (Vars.put ρc x (.val a)) ifs b) (fun a y => Ev c n (relS csc sc) (Vars.put ρc x (.val a)) elt y) xs ys)
    (hRR : ∀ D C s', CompEnd F s₁ ys D C s' → RR (.ref D) C (.ok .next) s') :
    wpAny (model c.prog c.w) A (pyIter v) (fun it s₂ => wpAny (model c.prog c.w) A (newList []) (fun acc s₃ =>
      wpAny (model c.prog c.w) A (newFunctionEnv csc env.globals (closL env csc.names) [] env.qual none .none (some env)) (fun cenv s₄ =>
        codeAny (model c.prog c.w) A (.compStart (.ListComp elt [⟨.Name x px, iter, ifs, 0⟩] csc pos) 0 it acc { cenv with scope := relabel csc env }) (RR acc cenv.locals) s₄) E s₃) E s₂) E s₁ := by
  have l₁ := S₁.le
  refine iter_open l₁ r₁ hx hs fun o W It _ => ?_
  obtain ⟨⟨Pv, fp, hW, hfp, hPv⟩, st0⟩ := It
  refine wpAny_newObj_type ?_ (by size_fits)
  generalize hH2 : (s₁.heap.push o).push { cls := .type "list", dict := none, data := .seq ([] : List Value).toArray } = H2
  have sH1 : (s₁.heap.push o).objs.size = s₁.heap.objs.size + 1 := Heap.size_push ..
  have sH2 : H2.objs.size = s₁.heap.objs.size + 2 := by rw [← hH2, Heap.size_push, sH1]
  have k12 : Fle s₁.heap.get? H2.get? := fun a oo e => by rw [← hH2]; exact Heap.get?_push_of_some _ (Heap.get?_push_of_some _ e)
  have S₂ : St c env pins ρ F P H2 := S₁.top k12 (by omega)
  refine newEnvC ?_
  dsimp only
  generalize hH3 : pushCells (H2.push { cls := .type "dict", data := .dict #[] }) csc.names = H3
  rw [relabel_eq, ok.scope]
  generalize hce : ({ scope := relS csc sc, locals := H2.objs.size, globals := env.globals, cells := cellsFrom (H2.objs.size + 1) csc.names [] ++ closL env csc.names, qual := env.qual, func := none, code := env.code, frame := env.frame, builtins := env.builtins } : Env) = cenv
  obtain ⟨okc, ⟨P₀, S₃, hP₀⟩, hstor, k23, sH3, hownc⟩ := comp_st (s := { s₁ with heap := H2 }) ok S₂ hc hρ hce.symm hH3.symm
  have hloc : cenv.locals = H2.objs.size := by rw [← hce]
  rw [← hloc]
  have sH3 : H2.objs.size < H3.objs.size := sH3
  -- addresses
  have hI : ∀ {Q : Addr → Prop}, (∀ a, Q a → P a ∨ H2.objs.size ≤ a) → ¬ Q s₁.heap.objs.size := fun hQ q => by
    rcases hQ _ q with q | q
    · exact Nat.lt_irrefl _ (S₁.lt q)
    · rw [sH2] at q; omega
  have hD : ∀ {Q : Addr → Prop}, (∀ a, Q a → P a ∨ H2.objs.size ≤ a) → ¬ Q (s₁.heap.objs.size + 1) := fun hQ q => by
    rcases hQ _ q with q | q
    · have := ltA (S₁.lt q); omega
    · rw [sH2] at q; omega
  have gD : H3.PlainList (s₁.heap.objs.size + 1) #[] := ⟨0, k23 _ _ (by show H2.get? _ = _; rw [← hH2, ← sH1]; exact Heap.get?_push_size _ rfl)⟩
  have Wk := hW A R.1
  have w0 : W 0 H3 := Wk.frame 0 _ _ st0 fun b hb oo e => k23 _ _ (by show H2.get? _ = _; rw [← hH2]; exact Heap.get?_push_of_some _ e)
  have fpne : ∀ b ∈ fp, b = s₁.heap.objs.size ∨ b < s₁.heap.objs.size := fun b hb => (hfp b hb).imp id fun q => by
    subst q; exact r₁.lt l₁
  have eD : (s₁.heap.push o).objs.size = s₁.heap.objs.size + 1 := sH1
  rw [eD]
  have loop : ∀ s₃ : Shared, s₃ = { s₁ with heap := H3 } → codeAny (model c.prog c.w) A (.compLoop (.ListComp elt [⟨.Name x px, iter, ifs, 0⟩] csc pos) 0 (.ref s₁.heap.objs.size) (.ref (s₁.heap.objs.size + 1)) cenv) (RR (.ref (s₁.heap.objs.size + 1)) cenv.locals) s₃ := by
    rintro s₃ rfl
    refine codeAny_compLoop_tests (CompInv c n sc csc ifs elt x ρc xs ys cenv F P s₁ H2 H3 W) ?_ (xs.length + 1)
      ⟨0, ρc, F, P₀, [], rfl, Nat.zero_le _, fun _ => rfl, .refl _, fun a oo e => .inl e, fun a oo e => k23 _ _ (k12 a oo e), ⟨_, _, rfl⟩, S₃, hP₀, w0, ⟨#[], gD, .nil⟩, Nat.le_refl _, h, rfl, Nat.le_refl _⟩
    rintro k s₂ ⟨i, ρi, F₂, P₂, zs, rfl, hile, hput, f12, new12, old, X, S, hP₂, hw, ⟨vs, pl, rz⟩, hzi, L, eys, hz3⟩
    have nI : ¬ P₂ s₁.heap.objs.size := hI hP₂
    have nD : ¬ P₂ (s₁.heap.objs.size + 1) := hD hP₂
    have fI : F₂ s₁.heap.objs.size = none := by
      cases q : F₂ s₁.heap.objs.size with
      | none => rfl
      | some o1 =>
        rcases new12 _ _ q with z | z
        · exact absurd (Heap.lt_size (l₁ _ _ z)) (Nat.lt_irrefl _)
        · omega
    have fD : F₂ (s₁.heap.objs.size + 1) = none := by
      cases q : F₂ (s₁.heap.objs.size + 1) with
      | none => rfl
      | some o1 =>
        rcases new12 _ _ q with z | z
        · have := ltA (Heap.lt_size (l₁ _ _ z)); omega
        · omega
    generalize hq : ys.drop zs.length = q at L eys
    by_cases hlt : i < xs.length
    · refine wpAny_mono (wpAny_sz (Nat.le_refl s₂.heap.objs.size) (Wk.item i s₂ (fun r s' => match r with | some v => Pv i v ∧ W (i + 1) s'.heap ∧ (∀ b o, b ∉ [s₁.heap.objs.size] → s₂.heap.get? b = some o → s'.heap.get? b = some o) ∧ Same s₂ s' | none => False) (fun _ _ => False) hlt hw fun v h' tk hv hw' hk => ⟨hv, hw', hk, ⟨_, _, rfl⟩⟩)) (fun r s₃ hp1 => ?_) fun _ _ x => x.2.elim
      obtain ⟨hz, hr⟩ := hp1
      cases r with
      | none => exact hr.elim
      | some v' =>
        obtain ⟨hv, hw', hk, X₃⟩ := hr
        obtain ⟨dv, edv, rdv⟩ := hPv i v' hlt hv
        have hk' : ∀ b oo, b ≠ s₁.heap.objs.size → s₂.heap.get? b = some oo → s₃.heap.get? b = some oo := fun b oo q e => hk b oo (by simpa using q) e
        have S₃ := S.walk hk fI nI hz
        have ed : xs.drop i = dv :: xs.drop (i + 1) := by rw [List.drop_eq_getElem_cons hlt]; congr 1; rw [List.getElem?_eq_getElem hlt] at edv; exact Option.some.inj edv
        rw [ed] at L
        obtain ⟨vm, fpv, SV⟩ := S₃
        refine wpAny_assign_Name (store_var' okc SV.sto (relS_sto hc) fun h₄ tk₄ S₄ sb => ?_)
        obtain ⟨bS, hbS, sbS, hbw⟩ := sb
        obtain ⟨P₄, St₄, hP₄, hk₄, hz₄⟩ := SV.store (.val (rdv.mono f12)) .nil (fun a q => nomatch q) (fun a q => nomatch q) (fun y t e hy a q => nomatch q) (fun q => nomatch q) S₄ ⟨bS, hbS, sbS⟩
        rw [hput] at St₄
        have bSge : H2.objs.size ≤ bS := by
          rcases hbw with q | q
          · rw [q, hloc]; exact Nat.le_refl _
          · exact hownc bS q
        have k34 : ∀ b oo, b < H2.objs.size → s₃.heap.get? b = some oo → h₄.get? b = some oo := fun b oo hb e => (sbS.2 b (neA (by have h1 := ltA hb; have h2 := leA bSge; omega))).trans e
        have hP₄' : ∀ a, P₄ a → P a ∨ H2.objs.size ≤ a := fun a q => (hP₄ a q).elim (hP₂ a) fun q => nomatch q
        have sz4 : H3.objs.size ≤ h₄.objs.size := by rw [hz₄]; exact Nat.le_trans hz3 hz
        -- what holds behind the element or the refused test
        have back : ∀ (s₆ : Shared) (F₆ : Fz), Grow F₂ h₄ F₆ s₆.heap → Same s₃ s₆ → ∀ (h₇ : Heap) (zs' : List D) (vs' : Array Value) (q' : List D), (∀ b oo, b ≠ s₁.heap.objs.size + 1 → s₆.heap.get? b = some oo → h₇.get? b = some oo) → s₆.heap.objs.size ≤ h₇.objs.size → h₇.PlainList (s₁.heap.objs.size + 1) vs' → RdL F₆ zs' vs'.toList → zs'.length ≤ i + 1 →
            ys.drop zs'.length = q' → CompR (fun a b => Tests c n (relS csc sc) (Vars.put ρc x (.val a)) ifs b) (fun a y => Ev c n (relS csc sc) (Vars.put ρc x (.val a)) elt y) (xs.drop (i + 1)) q' → ys = zs' ++ q' →
            ∃ m, m < xs.length + 1 - i ∧ CompInv c n sc csc ifs elt x ρc xs ys cenv F P s₁ H2 H3 W m { s₆ with heap := h₇ } := fun s₆ F₆ G X₆ h₇ zs' vs' q' k7 z7 pl' rz' hzl eq' L' ey' => by
          refine ⟨xs.length + 1 - (i + 1), by omega, i + 1, Vars.put ρc x (.val dv), F₆, P₄, zs', rfl, hlt, fun t => put_put _ _ _ _, f12.trans G.fle, fun a oo e => ?_, fun a oo e => ?_, X.trans (X₃.trans (X₆.trans ⟨_, _, rfl⟩)), ?_, hP₄', ?_, ⟨vs', pl', rz'⟩, hzl, by rw [eq']; exact L', by rw [eq']; exact ey', Nat.le_trans sz4 (Nat.le_trans G.size z7)⟩
          · rcases G.new a oo e with z | z
            · exact new12 a oo z
            · exact .inr (Nat.le_trans sz4 z)
          · have ha := ltA (Heap.lt_size e)
            refine k7 a oo (neA (by omega)) (G.keep a oo (k34 a oo (ltA (by omega)) (hk' a oo (neA (by omega)) (old a oo e))))
          · refine (St₄.grow G).walk (I := s₁.heap.objs.size + 1) (fun b oo hb e => k7 b oo (by simpa using hb) e) ?_ (hD hP₄') z7
            cases q : F₆ (s₁.heap.objs.size + 1) with
            | none => rfl
            | some o1 =>
              rcases G.new _ _ q with z | z
              · rw [fD] at z; cases z
              · omega
          · refine Wk.frame (i + 1) _ _ hw' fun b hb oo e => ?_
            have hb' : b ≠ s₁.heap.objs.size + 1 ∧ b < H2.objs.size := by
              rcases fpne b hb with q | q
              · have q := eqA q; exact ⟨neA (by omega), ltA (by omega)⟩
              · have q := ltA q; exact ⟨neA (by omega), ltA (by omega)⟩
            exact k7 b oo hb'.1 (G.keep b oo (k34 b oo hb'.2 e))
        have testsRun : ∀ {b : Bool}, Tests c n (relS csc sc) (Vars.put ρc x (.val dv)) ifs b → wpAny (model c.prog c.w) A (forIn ifs true fun c r => if r = true then do let ok ← PySem.isTrue c cenv (eval c cenv); pure (ForInStep.yield ok) else pure (ForInStep.yield r)) (GivesB F₂ { s₃ with heap := h₄, toks := tk₄ } b) (fun _ _ => False) { s₃ with heap := h₄, toks := tk₄ } := fun ht => by
          cases ht with
          | nil => exact wpAny_tests_nil ⟨rfl, F₂, .refl St₄.le, .refl _⟩
          | one ht => exact wpAny_tests_one (ht A cenv [] F₂ P₄ { s₃ with heap := h₄, toks := tk₄ } R okc St₄)
        have plD : ∀ {s₆ : Shared}, Fle h₄.get? s₆.heap.get? → s₆.heap.PlainList (s₁.heap.objs.size + 1) vs := fun k46 => pl.at fun oo e => k46 _ _ (k34 _ _ (ltA (by omega)) (hk' _ _ (neA (by omega)) e))
        cases L with
        | skip ht L' =>
          refine wpAny_mono (testsRun ht) (fun b s₅ hp2 => ?_) fun _ _ x => x.elim
          obtain ⟨e, F₅, G₅, X₅⟩ := hp2
          subst e
          simp only [Bool.false_eq_true, if_false]
          exact back s₅ F₅ G₅ (Same.trans ⟨_, _, rfl⟩ X₅) s₅.heap zs vs _ (fun _ _ _ e => e) (Nat.le_refl _) (plD G₅.keep) (rz.mono G₅.fle) (Nat.le_succ_of_le hzi) hq L' eys
        | @take _ yd _ ys' ht he L' =>
          refine wpAny_mono (testsRun ht) (fun b s₅ hp3 => ?_) fun _ _ x => x.elim
          obtain ⟨e, F₅, G₅, X₅⟩ := hp3
          subst e
          simp only [if_true]
          refine wpAny_mono (he A cenv [] F₅ P₄ s₅ R okc (St₄.grow G₅)) (fun yv s₆ hp4 => ?_) fun _ _ x => x.elim
          obtain ⟨F₆, G₆, X₆, ry⟩ := hp4
          have G56 := G₅.trans G₆
          have hvs : vs.size ≤ sizeLine := by
            have e1 : vs.size = zs.length := by rw [← Array.length_toList]; exact rz.length
            have e2 : sizeLine = 16777216 := by decide
            omega
          refine wpAny_list_append_plain (plD G56.keep) (fun h₇ pl₇ sb₇ => ?_) hvs
          refine back s₆ F₆ G56 (Same.trans ⟨_, _, rfl⟩ (X₅.trans X₆)) h₇ (zs ++ [yd]) (vs.push yv) ys' (fun b oo hb e => (sb₇.2 b hb).trans e) (Nat.le_of_eq sb₇.1.symm) pl₇ (by rw [Array.toList_push]; exact (rz.mono G56.fle).snoc ry) (by simp; omega) ?_ L' (by rw [eys]; simp)
          rw [List.length_append, List.length_singleton, ← List.drop_drop, hq]; rfl
    · have hin : i = xs.length := by omega
      subst hin
      refine wpAny_mono (wpAny_sz (Nat.le_refl s₂.heap.objs.size) (Wk.done s₂ (fun r s' => r = none ∧ (∀ b o, b ∉ [s₁.heap.objs.size] → s₂.heap.get? b = some o → s'.heap.get? b = some o) ∧ Same s₂ s') (fun _ _ => False) hw fun h' tk hk => ⟨rfl, hk, ⟨_, _, rfl⟩⟩)) (fun r s₃ hp5 => ?_) fun _ _ x => x.2.elim
      obtain ⟨hz, hr⟩ := hp5
      obtain ⟨rfl, hk, X₃⟩ := hr
      rw [List.drop_length] at L
      cases L
      have ezs : ys = zs := by rw [eys]; simp
      subst ezs
      have S₃ := S.walk hk fI nI hz
      have hk' : ∀ b oo, b ≠ s₁.heap.objs.size → s₂.heap.get? b = some oo → s₃.heap.get? b = some oo := fun b oo q e => hk b oo (by simpa using q) e
      refine hRR _ _ _ ⟨⟨F₂, ⟨f12, fun a oo e => (new12 a oo e).imp id fun z => leA (by have := leA z; omega), fun a oo e => hk' a oo (neA (by have := ltA (Heap.lt_size e); omega)) (old a oo e), S₃.le, by omega⟩, fD, ⟨vs, pl.at fun oo e => hk' _ _ (neA (by omega)) e, rz⟩, S.out (S.stor (.head _))⟩, X.trans X₃, leA (by omega), ?_, leA (by rw [hloc]; omega), neA (by rw [hloc]; omega)⟩
      obtain ⟨vm, fpv, SV⟩ := S₃
      obtain ⟨m, hm, _⟩ := SV.sto.loc
      exact ⟨m, hm⟩
  refine codeAny_compStart_list (loop _ rfl) (Wk.self 0 _ _ _ w0 (loop _ rfl))
end Mine
end

section
open PySem PySem.Calls PyProof.Rows PySem.W
set_option maxRecDepth 100000
set_option linter.unusedVariables false
namespace Mine
variable {c : Cx} {n : Nat} {sc : Scope} {pn : List Str} {ρ : Vars}

theorem CompEnd.sameBut {F : Fz} {s s' : Shared} {ys : List D} {D C : Addr} (x : CompEnd F s ys D C s') {h' : Heap} (sb : Heap.SameBut C s'.heap h') : ∃ F', Grow F s.heap F' h' ∧ F' D = none ∧ LstAt h' F' ys D ∧ F' C = none := by
  obtain ⟨F', G, a, l, b⟩ := x.ex
  refine ⟨F', ⟨G.fle, G.new, fun q o e => (sb.2 q fun z => ?_).trans (G.keep q o e), fun q o e => (sb.2 q fun z => ?_).trans (G.le q o e), by rw [sb.1]; exact G.size⟩, a, l.mono (fun o e => (sb.2 D x.ne).trans e) (.refl _), b⟩
  · exact Nat.not_lt.mpr x.freshC (z ▸ Heap.lt_size e)
  · rw [z, b] at e; cases e
theorem comp_names {csc : Scope} {x : Str} (hc : CompOk csc sc x) : ∀ y ∈ csc.names, y.2 = .local → csc.names.lookup y.1 = some .local := fun y hy hl => by rw [lookup_of_nd hc.nd hy, hl]
theorem comp_clos {env : Env} {pins : Pins} {F : Fz} {P : Addr → Prop} {h : Heap} {csc : Scope} {x : Str} (ok : EnvOk env sc) (S : St c env pins ρ F P h) (hc : CompOk csc sc x) : closureFor csc env = pure (closL env csc.names) := by
  obtain ⟨vm, fp, S⟩ := S
  refine closureFor_pure fun q hq hk => ?_
  have kx : env.kindOf q.1 = sc.names.lookup q.1 := by unfold Env.kindOf; rw [ok.scope]
  obtain ⟨a, e, _⟩ := S.sto.cel q.1 ((hc.free q hq hk).imp kx.trans kx.trans)
  exact ⟨a, e⟩

variable (c n sc ρ) in
/-- a comprehension of one clause gives ys -/
structure CompOf (elt iter : Expr) (x : Str) (ifs : List Expr) (csc : Scope) (ρc : Vars) (ys : List D) : Prop where
  ok : compOk csc sc x = true
  free : ∀ y sl, ρc.lookup y = some sl → csc.names.lookup y = some .free ∧ ρ.lookup y = some sl
  fold : ∀ env v, foldedSetIterable iter env v = pure v
  run : ∃ d xs, EvR c n sc ρ iter d ∧ d.items = some xs ∧ d.small = true ∧ xs.length ≤ 100000 ∧
    CompR (fun a b => Tests c n (relS csc sc) (Vars.put ρc x (.val a)) ifs b) (fun a y => Ev c n (relS csc sc) (Vars.put ρc x (.val a)) elt y) xs ys

theorem EvNew_comp {elt iter : Expr} {x : Str} {px pos : Pos} {ifs : List Expr} {csc : Scope} {ρc : Vars} {ys : List D} (h : CompOf c n sc ρ elt iter x ifs csc ρc ys) :
    EvNew c n sc ρ (.ListComp elt [⟨.Name x px, iter, ifs, 0⟩] csc pos) ys := fun A env pins F P s R ok S => by
  have hc := compOk_of h.ok
  obtain ⟨d, xs, hi, hx, hs, hl, hr⟩ := h.run
  rw [eval_ListComp]
  refine wpAny_comprehension_free (use := none) rfl (h.fold env) (comp_clos ok S hc) hc.kind (comp_names hc) ?_
  refine wpAny_mono (hi A env pins F P s R ok S) (fun v s₁ hp1 => ?_) fun _ _ x => x
  obtain ⟨F₁, G₁, X₁, r₁⟩ := hp1
  refine comp_core (RR := fun acc C => compPost (model c.prog c.w) A (fun _ _ => False) none _ acc C) R ok (S.grow G₁) hc h.free r₁ hx hs hl hr fun D C s' ce => ?_
  obtain ⟨m, hm⟩ := ce.ns
  refine ⟨m, hm, fun h' sb => ?_⟩
  obtain ⟨F', G, a, l, b⟩ := ce.sameBut sb
  exact ⟨F', D, G₁.trans G, X₁.trans (ce.same.trans ⟨_, _, rfl⟩), rfl, Nat.le_trans G₁.size ce.fresh, a, l⟩

noncomputable def swapB (sc csc : Scope) (t : Str) (tpos vpos : Pos) : Bool := sc.names.lookup t == some .local && tpos.line == vpos.line && !(csc.names.any fun (n, k) => n == t && (k == .local || k == .cell))
theorem swaps_comp {env : Env} {elt : Expr} {gens : List Comprehension} {csc : Scope} {t : Str} {tpos vpos : Pos} {line : Nat} (ok : EnvOk env sc) : swapsWith (.ListComp elt gens csc vpos) (some (.Name t tpos)) line env = pure (swapB sc csc t tpos vpos) := by
  have e1 : swapsWith (.ListComp elt gens csc vpos) (some (.Name t tpos)) line env = pure (env.blockKind == .function && env.kindOf t == some .local && tpos.line == vpos.line && !(csc.names.any fun (n, k) => n == t && (k == .local || k == .cell))) := rfl
  rw [e1]
  have e2 : env.blockKind = .function := by unfold Env.blockKind; rw [ok.scope, ok.kind]; rfl
  have e3 : env.kindOf t = sc.names.lookup t := by unfold Env.kindOf; rw [ok.scope]
  rw [e2, e3]; rfl

/-- x = [..], kept frozen -/
theorem ExS_comp {elt iter : Expr} {x y : Str} {px py pos spos : Pos} {ifs : List Expr} {csc : Scope} {ρc : Vars} {ys : List D} (h : CompOf c n sc ρ elt iter x ifs csc ρc ys) (hy : isSto sc y = true) (hyp : y ∉ pn) :
    ExS c n sc pn ρ (.Assign [.Name y py] (.ListComp elt [⟨.Name x px, iter, ifs, 0⟩] csc pos) spos) .next (Vars.put ρ y (.val (.lst ys))) := fun A env pins F P s R ok hp S => by
  cases hb : swapB sc csc y py pos with
  | false =>
    refine wpAny_Assign_Name (wpAny_mono ((EvNew_comp h).ev A env pins F P s R ok S) (fun v s₁ hp2 => ?_) fun _ _ x => x) (by rw [swaps_comp ok, hb])
    obtain ⟨F₁, G₁, X₁, r⟩ := hp2
    exact wpAny_mono (store_val ok hp (S.grow G₁) hy hyp r .next) (fun _ s' q => q.after G₁.step X₁) fun _ _ x => x
  | true =>
    have hc := compOk_of h.ok
    obtain ⟨d, xs, hi, hx, hs, hl, hr⟩ := h.run
    rw [exec_Assign_Name_used _ _ _ _ (by rw [swaps_comp ok, hb])]
    refine wpAny_bind (wpAny_standAt (wpAny_bind ?_))
    show wpAny _ A (do let _ ← comprehension (.ListComp elt [⟨.Name x px, iter, ifs, 0⟩] csc pos) csc env _ (newList []) false (eval iter env) (some (assign (.Name y py) env))) _ _ s
    refine wpAny_bind (wpAny_mono (wpAny_comprehension_free (use := some (assign (.Name y py) env)) (Q := fun _ s' => StepTo c env pins F P s .next (Vars.put ρ y (.val (.lst ys))) .next s') rfl (h.fold env) (comp_clos ok S hc) hc.kind (comp_names hc) ?_) (fun _ s' q => wpAny_pure (wpAny_pure q)) fun _ _ x => x)
    refine wpAny_mono (hi A env pins F P s R ok S) (fun v s₁ hp3 => ?_) fun _ _ x => x
    obtain ⟨F₁, G₁, X₁, r₁⟩ := hp3
    refine comp_core (RR := fun acc C => compPost (model c.prog c.w) A (fun _ _ => False) (some (assign (.Name y py) env)) _ acc C) R ok (S.grow G₁) hc h.free r₁ hx hs hl hr fun D C s' ce => ?_
    obtain ⟨F', G, a, l, b⟩ := ce.ex
    have G' : Grow F₁ s₁.heap (fun q => if q = D then s'.heap.get? q else F' q) s'.heap := by
      refine ⟨fun q o e => ?_, fun q o e => ?_, G.keep, fun q o e => ?_, G.size⟩
      · have := G.fle q o e
        have hne : q ≠ D := fun z => by rw [z, a] at this; cases this
        simp only [if_neg hne]; exact this
      · by_cases hq : q = D
        · rw [hq]; exact .inr ce.fresh
        · simp only [if_neg hq] at e; exact G.new q o e
      · by_cases hq : q = D
        · simp only [if_pos hq] at e; exact e
        · simp only [if_neg hq] at e; exact G.le q o e
    have Sg := (S.grow G₁).grow G'
    show wpAny _ A (assign (.Name y py) env (.ref D)) _ _ _
    refine wpAny_assign_Name (wpAny_mono (store_val ok hp Sg hy hyp (l.rd a) (fl := .next) (f := .next) .next) (fun _ s₃ q => ?_) fun _ _ x => x)
    obtain ⟨F₃, P₃, T₃, X₃, S₃, _⟩ := q
    obtain ⟨m, hm⟩ := ce.ns
    have ltP : ∀ q, P q → q < s₁.heap.objs.size := fun q hq => (S.grow G₁).lt hq
    have hCP : ¬ P C := fun q => Nat.not_lt.mpr ce.freshC (ltP C q)
    have hmC := hm
    obtain ⟨oC, esC, epC, hoC, rC⟩ := hm
    have hC₃ : s₃.heap.Ns C m := ⟨oC, esC, epC, T₃.keep C oC hCP hoC, rC⟩
    have hCs' : C < s'.heap.objs.size := Heap.lt_size hoC
    have hCF : F₃ C = none := by
      cases q : F₃ C with
      | none => rfl
      | some o1 =>
        rcases T₃.new C o1 q with z | z | z
        · simp only [if_neg (Ne.symm ce.ne)] at z; rw [b] at z; cases z
        · exact absurd z hCP
        · exact absurd hCs' (Nat.not_lt.mpr z)
    have hCP₃ : ¬ P₃ C := fun q => (T₃.mem C q).elim hCP fun z => Nat.not_lt.mpr z hCs'
    refine ⟨m, hC₃, fun h' sb => ?_⟩
    have Tall := (G₁.trans G').step (P := P) |>.trans T₃
    refine ⟨F₃, P₃, ⟨Tall.fle, Tall.new, fun q o hq e => (sb.2 q fun z => ?_).trans (Tall.keep q o hq e), Tall.mem, by show _ ≤ h'.objs.size; rw [sb.1]; exact Tall.size⟩, X₁.trans (ce.same.trans (X₃.trans ⟨_, _, rfl⟩)), S₃.walk (I := C) (fun q o hq e => (sb.2 q (by simpa using hq)).trans e) hCF hCP₃ (Nat.le_of_eq sb.1.symm), .next⟩
    have := Heap.lt_size e
    rw [z] at this
    exact Nat.not_lt.mpr (Nat.le_trans G₁.size ce.freshC) this
end Mine
end

section
open PySem PySem.Calls PyProof.Rows PySem.W
set_option maxRecDepth 100000
set_option linter.unusedVariables false
namespace Mine
variable {c : Cx} {n : Nat} {sc : Scope} {pn : List Str} {ρ : Vars}

/-- fewer variables -/
noncomputable def VSub (ρ : Vars) : Vars → Prop
  | [] => True
  | (x, s) :: r => ρ.lookup x = some s ∧ VSub ρ r
theorem VSub.get {ρ : Vars} : ∀ {ρ' : Vars}, VSub ρ ρ' → ∀ {x : Str} {s : Slot}, ρ'.lookup x = some s → ρ.lookup x = some s
  | [], _, x, s, e => by cases e
  | (y, t) :: r, h, x, s, e => by
    rw [List.lookup_cons] at e
    by_cases hx : x = y
    · subst hx; simp only [beq_self_eq_true] at e; cases e; exact h.1
    · have hb : (x == y) = false := by simpa using hx
      rw [hb] at e; exact VSub.get h.2 e
theorem St.less {env : Env} {pins : Pins} {F : Fz} {P : Addr → Prop} {h : Heap} {ρ' : Vars} (S : St c env pins ρ F P h) (hs : VSub ρ ρ') : ∃ P', St c env pins ρ' F P' h ∧ ∀ a, P' a → P a := by
  obtain ⟨vm, fp, S⟩ := S
  refine ⟨fun a => a ∈ Mine.stor env ∨ ∃ x s, ρ'.lookup x = some s ∧ a ∈ fp x, ⟨vm, fp, ?_⟩, fun a q => (S.mem a).mpr (q.imp id fun hp1 => by obtain ⟨x, s, e, q⟩ := hp1; exact ⟨x, s, hs.get e, q⟩)⟩
  exact {
    base := S.base
    le := S.le
    sto := S.sto
    own := fun x s e => S.own x s (hs.get e)
    pin := S.pin
    mem := fun a => Iff.rfl
    lt := fun a q => S.lt a ((S.mem a).mpr (q.imp id fun hp2 => by obtain ⟨x, s, e, q⟩ := hp2; exact ⟨x, s, hs.get e, q⟩))
    out := fun a q => S.out a ((S.mem a).mpr (q.imp id fun hp3 => by obtain ⟨x, s, e, q⟩ := hp3; exact ⟨x, s, hs.get e, q⟩))
    nd := fun x s e => S.nd x s (hs.get e)
    apart := fun x s y t e e' => S.apart x s y t (hs.get e) (hs.get e')
    aparts := fun x s e => S.aparts x s (hs.get e) }
theorem StepTo.less {env : Env} {pins : Pins} {F : Fz} {P : Addr → Prop} {s : Shared} {fl : Fl} {ρ' : Vars} {f : Flow} {s' : Shared} (q : StepTo c env pins F P s fl ρ f s') (hs : VSub ρ ρ') : StepTo c env pins F P s fl ρ' f s' := by
  obtain ⟨F', P', T, X, S, r⟩ := q
  obtain ⟨P'', S', hP⟩ := S.less hs
  exact ⟨F', P'', ⟨T.fle, T.new, T.keep, fun a q => T.mem a (hP a q), T.size⟩, X, S', r⟩
theorem Ex.less {sts : List Stmt} {fl : Fl} {ρ₁ ρ' : Vars} (h : Ex c n sc pn ρ sts fl ρ₁) (hs : VSub ρ₁ ρ') : Ex c n sc pn ρ sts fl ρ' := fun A env pins F P s R ok hp S => wpAny_mono (h A env pins F P s R ok hp S) (fun _ _ q => q.less hs) fun _ _ x => x
theorem ExS.less {st : Stmt} {fl : Fl} {ρ₁ ρ' : Vars} (h : ExS c n sc pn ρ st fl ρ₁) (hs : VSub ρ₁ ρ') : ExS c n sc pn ρ st fl ρ' := fun A env pins F P s R ok hp S => wpAny_mono (h A env pins F P s R ok hp S) (fun _ _ q => q.less hs) fun _ _ x => x
/-- .. and before -/
theorem Ex.pre {sts : List Stmt} {fl : Fl} {ρ₀ ρ' : Vars} (h : Ex c n sc pn ρ₀ sts fl ρ') (hs : VSub ρ ρ₀) : Ex c n sc pn ρ sts fl ρ' := fun A env pins F P s R ok hp S => by
  obtain ⟨P', S', hP⟩ := S.less hs
  refine wpAny_mono (h A env pins F P' s R ok hp S') (fun f s' hp4 => ?_) fun _ _ x => x
  obtain ⟨F₁, P₁, T, X, S₁, q⟩ := hp4
  exact ⟨F₁, P₁, ⟨T.fle, fun a o e => (T.new a o e).imp id (.imp (hP a) id), fun a o q e => T.keep a o (fun z => q (hP a z)) e, fun a q => (T.mem a q).imp (hP a) id, T.size⟩, X, S₁, q.back (fun a z => .inl (hP a z)) (Nat.le_refl _)⟩
theorem Te.conv {e : Expr} {b b' : Bool} (h : Te c n sc ρ e b) (hb : b = b') : Te c n sc ρ e b' := hb ▸ h
theorem Ev.conv {e : Expr} {d d' : D} (h : Ev c n sc ρ e d) (hb : d = d') : Ev c n sc ρ e d' := hb ▸ h
theorem EvR_name {x : Str} {pos : Pos} {d : D} (e : ρ.lookup x = some (.val d)) (hl : isLoc sc x = true) : EvR c n sc ρ (.Name x pos) d := .of (Ev_name e hl)
theorem EvR_int {i : Int} {k : Nat} {pos : Pos} : EvR c n sc ρ (.Constant (.int i) k pos) (.int i) := .of Ev_int
theorem EvR_str {x : Str} {k : Nat} {pos : Pos} : EvR c n sc ρ (.Constant (.str x) k pos) (.str x) := .of Ev_str
theorem EvR_none {k : Nat} {pos : Pos} : EvR c n sc ρ (.Constant .none k pos) .none := .of Ev_none
end Mine
end

section
open PySem PySem.Calls PyProof.Rows PySem.W
set_option maxRecDepth 100000
set_option linter.unusedVariables false
namespace Mine
variable {c : Cx} {n : Nat} {sc : Scope} {pn : List Str} {ρ : Vars}

/-- a def as it stands, without its signature -/
structure DefAt (c : Cx) (fa : Addr) (fd : FuncData) (body : List Stmt) (sc : Scope) : Prop where
  at_ : ∃ o, c.hB.get? fa = some o ∧ o.data = .func fd
  body : fd.body = .stmts body
  scope : fd.scope = sc
  clo : fd.closure = []
  glob : fd.globals = mainGlobals
  blt : fd.builtins = builtinsNs
  code : c.hB.CodeRec fd.code fd.qualname

theorem zip_self : ∀ l : List (Str × Value), (l.map (·.1)).zip (l.map (·.2)) = l
  | [] => rfl
  | a :: r => by simp only [List.map_cons, List.zip_cons_cons, zip_self r]
theorem vmB_lookup {binds : List (Str × Value)} (nd : (binds.map (·.1)).Nodup) {x : Str} {v : Value} (e : binds.lookup x = some v) : vmB binds (fun _ => none) x = some v := by
  have := vmB_zip (binds.map (·.1)) (binds.map (·.2)) (fun _ => none) nd (x := x) (v := v) (by rw [zip_self]; exact e)
  rwa [zip_self] at this

noncomputable def Ret (Q : Value → Shared → Prop) : Result → Shared → Prop := fun r s' => match r with
  | .ok (.ret v) => Q v s'
  | .ok _ => False
  | .error _ => False
theorem codeRet_mono {M : Model} {A : Around} {cd : Code} {s : Shared} {Q Q' : Value → Shared → Prop} (h : codeAny M A cd (Ret Q) s) (k : ∀ v s', Q v s' → Q' v s') : codeAny M A cd (Ret Q') s :=
  codeAny_mono h fun r s' z => by rcases r with e | (v | _ | _ | _) <;> first | exact k _ _ z | exact z.elim
theorem Ret.wp {M : Model} {A : Around} {s : Shared} {f : Value} {vs : List Value} {kw : List (Str × Value)} {Q : Value → Shared → Prop} (h : codeAny M A (.call f ⟨vs, kw⟩) (Ret Q) s) : wpAny M A (call f vs kw) Q (fun _ _ => False) s :=
  wpAny_call (codeAny_mono h fun r s' z => by rcases r with e | (v | _ | _ | _) <;> first | exact z | exact z.elim)

theorem call_openG {A : Around} {s s' : Shared} {fa : Addr} {fd : FuncData} {body : List Stmt} {args : Args} {binds : List (Str × Value)} {Q : Value → Shared → Prop} (hc : c.Ok) (D : DefAt c fa fd body sc) (hs : scOk sc (binds.map (·.1)) = true) (R : Room n A) (hk : Fle c.hB.get? s.heap.get?) (hk' : Fle s.heap.get? s'.heap.get?)
    (hbind : ∀ (A' : Around) (E : Value → Shared → Prop) (Q : List (Str × Value) → Shared → Prop), Q binds s' → wpAny (model c.prog c.w) A' (bindArgs fd args) Q E s)
    (h : ∀ env s₁, EnvOk env sc → InCallC s' env.locals (bindL env.kindOf binds fun _ => none) env.cells (bindC env.kindOf binds fun _ => none) s₁ →
      (∀ x, sc.names.lookup x = some .cell → ∃ q, env.cells.lookup x = some q) → (∀ q ∈ env.cells, env.cells.lookup q.1 = some q.2) →
      wpAny (model c.prog c.w) (A.deeper env) (execs body env) (fun f s' => Q (match f with | .ret v => v | _ => .none) s') (fun _ _ => False) s₁) :
    codeAny (model c.prog c.w) A (.call (.ref fa) args) (Ret Q) s := by
  obtain ⟨⟨o, ho, hd⟩, hb, rfl, hcl, hg, hbn, hcd⟩ := D
  have sk := scOk_of hs
  refine codeAny_call_function R.depth (hk _ _ ho) hd sk.co sk.gen hb (hcd.keeps hk) (hbind _ _ _ ?_)
  rw [hcl]
  have hkind : ∀ x ∈ binds, fd.scope.names.lookup x.1 = some .local ∨ (fd.scope.names.lookup x.1 = some .cell ∧ ((cellsFrom (s'.heap.objs.size + 1) fd.scope.names []).lookup x.1).isSome = true) := fun x hx =>
    (sk.par x.1 (List.mem_map_of_mem (f := (·.1)) hx)).imp id fun q => ⟨q, cells_some q⟩
  refine wpAny_newFunctionEnv_cells sk.kind hkind fun env he s₁ X => ?_
  subst he
  refine ⟨(hc.top.nolimit.keeps hk).keeps (fun b o e => X.toInCall.keep b o (hk' b o e)), ?_⟩
  have hnames : ((cellsFrom (s'.heap.objs.size + 1) fd.scope.names []).map (·.1)).Nodup := cellsFrom_names fd.scope.names 0 (s'.heap.objs.size + 1) [] [] rfl ▸ sk.cells
  refine codeAny_func (wpAny_mono (h _ s₁ ⟨rfl, sk.kind, hg, hbn, ?_⟩ X (fun x hx => ?_) fun q hq => ?_) (fun f s' q => q) fun _ _ x => x.elim)
  · refine List.nodup_cons.mpr ⟨fun q => ?_, List.pairwise_map.mpr X.apart⟩
    obtain ⟨r, hr, e⟩ := List.mem_map.mp q
    have := X.above r.1 r.2 hr
    rw [e] at this; exact Nat.lt_irrefl _ this
  · exact Option.isSome_iff_exists.mp (cells_some hx)
  · exact lookup_of_mem_nodup hnames hq

/-- the run of a body, from its first state to its last -/
theorem run_fn {A : Around} {s s' : Shared} {fa : Addr} {fd : FuncData} {body : List Stmt} {args : Args} {binds : List (Str × Value)} {ρ0 ρ' : Vars} {fl : Fl} {fp : Str → List Addr} {pins : Pins} {F : Fz} (hc : c.Ok) (D : DefAt c fa fd body sc) (hs : scOk sc (binds.map (·.1)) = true) (R : Room (n + 1) A) (hb : Fle c.hB.get? F) (l : Fle F s.heap.get?) (hk' : Fle s.heap.get? s'.heap.get?) (X' : Same s s')
    (hbind : ∀ (A' : Around) (E : Value → Shared → Prop) (Q : List (Str × Value) → Shared → Prop), Q binds s' → wpAny (model c.prog c.w) A' (bindArgs fd args) Q E s)
    (own : ∀ x sl, ρ0.lookup x = some sl → ∃ v, binds.lookup x = some v ∧ Own s'.heap F sl v (fp x)) (pin : ∀ q ∈ pins, binds.lookup q.1 = some q.2)
    (out : ∀ x sl, ρ0.lookup x = some sl → ∀ a ∈ fp x, F a = none) (nd : ∀ x sl, ρ0.lookup x = some sl → (fp x).Nodup)
    (apart : ∀ x sl y t, ρ0.lookup x = some sl → ρ0.lookup y = some t → x ≠ y → ∀ a ∈ fp x, a ∉ fp y) (hfl : fl ≠ .brk ∧ fl ≠ .cont)
    (h : Ex c n sc (pins.map (·.1)) ρ0 body fl ρ') :
    codeAny (model c.prog c.w) A (.call (.ref fa) args) (Ret (fun v s₂ => ∃ F', Fle F F' ∧ (∀ b o, F' b = some o → F b = some o ∨ (∃ x sl, ρ0.lookup x = some sl ∧ b ∈ fp x) ∨ s'.heap.objs.size ≤ b) ∧
      (∀ b o, ¬ (∃ x sl, ρ0.lookup x = some sl ∧ b ∈ fp x) → s'.heap.get? b = some o → s₂.heap.get? b = some o) ∧ Same s s₂ ∧ s'.heap.objs.size ≤ s₂.heap.objs.size ∧ Rd F' fl.res v ∧ (∃ env P', St c env pins ρ' F' P' s₂.heap ∧ ∀ b, P' b → (∃ x sl, ρ0.lookup x = some sl ∧ b ∈ fp x) ∨ s'.heap.objs.size ≤ b) ∧
      (∀ d, fl = .retF d → ∃ a, v = .ref a ∧ ((∃ x sl, ρ0.lookup x = some sl ∧ a ∈ fp x) ∨ s'.heap.objs.size ≤ a)))) s := by
  have sk := scOk_of hs
  have l' : Fle F s'.heap.get? := l.trans hk'
  refine call_openG hc D hs R (hb.trans l) hk' hbind fun env s₁ ok X hce hcl => ?_
  obtain ⟨hst, S⟩ := enter_st (c := c) (pins := pins) (ρ0 := ρ0) (fp := fp) ok X hce (fun x q => (sk.nofree _ (mem_of_lookup q)) rfl) hcl hb l'
    (fun x sl e => let ⟨v, e1, o⟩ := own x sl e; ⟨v, vmB_lookup sk.nd e1, o⟩) (fun q hq => vmB_lookup sk.nd (pin q hq)) out nd apart
  have kp : Fle s'.heap.get? s₁.heap.get? := X.toInCall.keep
  have lt₁ : env.locals < s₁.heap.objs.size := X.toInCall.ns.lt
  have sz₁ : s'.heap.objs.size ≤ s₁.heap.objs.size := Nat.le_trans X.toInCall.fresh (Nat.le_of_lt lt₁)
  have X₁ : Same s' s₁ := by obtain ⟨h₁, tk, rfl, _⟩ := X.done; exact ⟨_, _, rfl⟩
  refine wpAny_mono (h (A.deeper env) env pins F _ s₁ R.deeper ok rfl S) (fun f s₂ hp1 => ?_) fun _ _ x => x
  obtain ⟨F', P', T, Y, S', q⟩ := hp1
  have hP : ∀ b, (b ∈ stor env ∨ ∃ x sl, ρ0.lookup x = some sl ∧ b ∈ fp x) → (∃ x sl, ρ0.lookup x = some sl ∧ b ∈ fp x) ∨ s'.heap.objs.size ≤ b := fun b q => q.elim (fun q => .inr (hst b q)) .inl
  have fin : ∀ v, Rd F' fl.res v → (∀ d, fl = .retF d → ∃ a, v = .ref a ∧ ((∃ x sl, ρ0.lookup x = some sl ∧ a ∈ fp x) ∨ s'.heap.objs.size ≤ a)) → ∃ F', Fle F F' ∧ (∀ b o, F' b = some o → F b = some o ∨ (∃ x sl, ρ0.lookup x = some sl ∧ b ∈ fp x) ∨ s'.heap.objs.size ≤ b) ∧
      (∀ b o, ¬ (∃ x sl, ρ0.lookup x = some sl ∧ b ∈ fp x) → s'.heap.get? b = some o → s₂.heap.get? b = some o) ∧ Same s s₂ ∧ s'.heap.objs.size ≤ s₂.heap.objs.size ∧ Rd F' fl.res v ∧ (∃ env P', St c env pins ρ' F' P' s₂.heap ∧ ∀ b, P' b → (∃ x sl, ρ0.lookup x = some sl ∧ b ∈ fp x) ∨ s'.heap.objs.size ≤ b) ∧
      (∀ d, fl = .retF d → ∃ a, v = .ref a ∧ ((∃ x sl, ρ0.lookup x = some sl ∧ a ∈ fp x) ∨ s'.heap.objs.size ≤ a)) := fun v rv z =>
    ⟨F', T.fle, fun b o e => (T.new b o e).imp id fun q => q.elim (hP b) fun q => .inr (Nat.le_trans sz₁ q),
      fun b o hne e => T.keep b o (fun q => (hP b q).elim hne fun q => Nat.not_lt.mpr q (Heap.lt_size e)) (kp b o e), X'.trans (X₁.trans Y), Nat.le_trans sz₁ T.size, rv, ⟨env, P', S', fun b q => (T.mem b q).elim (hP b) fun q => .inr (Nat.le_trans sz₁ q)⟩, z⟩
  cases q with
  | next => exact fin _ .none fun _ e => nomatch e
  | brk => exact absurd rfl hfl.1
  | cont => exact absurd rfl hfl.2
  | ret rv => exact fin _ rv fun _ e => nomatch e
  | retF rv q => exact fin _ rv fun d _ => ⟨_, rfl, q.elim (hP _) fun q => .inr (Nat.le_trans sz₁ q)⟩
end Mine
end

section
open PySem PySem.Calls PyProof.Rows PySem.W
set_option maxRecDepth 100000
set_option linter.unusedVariables false
namespace Mine
variable {c : Cx} {n : Nat} {sc : Scope} {pn : List Str} {ρ : Vars}

/-- a class of the program whose instances are plain -/
structure ClsK (c : Cx) (C : Addr) : Prop where
  ga : findIn c.K (.ref C) "__getattribute__" = some (some (.builtin "object.__getattribute__"))
  ge : findIn c.K (.ref C) "__getattr__" = some none
  sa : findIn c.K (.ref C) "__setattr__" = some (some (.builtin "object.__setattr__"))
  over : plainOver c.K C = true
  dict : hasDictIn c.K C = true

theorem RdF.find {F : Fz} {es : Array DictEntry} {fs : List (Str × D)} (r : RdF F fs es) : ∀ {x : Str} {d : D}, fs.lookup x = some d → ∃ v, nsFind es x = some v ∧ Rd F d v :=
  RdF.ind (P := fun fs es => ∀ {x : Str} {d : D}, fs.lookup x = some d → ∃ v, nsFind es x = some v ∧ Rd F d v) (fun e => nomatch e) (@fun y d' v r _ e1 e2 _ ih x d e => by
    rw [List.lookup_cons] at e
    by_cases h : x = y
    · subst h; simp only [beq_self_eq_true] at e; cases e; exact ⟨v, e1, e2⟩
    · have : (x == y) = false := by simpa using h
      rw [this] at e; exact ih e) r
theorem Rd.handed {F : Fz} {d : D} {v : Value} (r : Rd F d v) : handedIn v = true := by cases r <;> rfl
theorem lookIn_some {o : Obj} {es : Array DictEntry} {k : Nat} (hd : o.data = .dict es k) {x : Str} {v : Value} (e : nsFind es x = some v) : lookIn x o = some (some v) := by
  unfold lookIn; rw [hd]; dsimp only
  unfold nsFind findBy at e
  rw [← Array.find?_toList] at e
  obtain ⟨q, h1, h2⟩ := Option.map_eq_some_iff.mp e
  rw [h1]; dsimp only; rw [h2]
theorem lookIn_none {o : Obj} {es : Array DictEntry} {k : Nat} (hd : o.data = .dict es k) (hk : StrKeys es) {x : Str} (e : nsFind es x = none) : lookIn x o = some none := by
  unfold lookIn; rw [hd]; dsimp only
  unfold nsFind findBy at e
  rw [← Array.find?_toList, Option.map_eq_none_iff] at e
  rw [e]; dsimp only
  rw [if_neg]
  rw [Bool.not_eq_true, List.any_eq_false]
  intro q hq
  obtain ⟨m, t, h⟩ := hk q (Array.mem_def.mpr hq)
  simp [DictEntry.refKey, h]
theorem Cx.Ok.at_ {h : Heap} (hc : c.Ok) (hk : Fle c.hB.get? h.get?) : c.K.In h := hc.inK.keeps hk

noncomputable def AtrAt (value : Expr) (attr : Str) (pos : Pos) : Prop := ∀ env, eval (.Attribute value attr pos) env = (do
      let o ← eval value env
      standAt pos.atName
      let r ← holding [o] (getAttr o attr true)
      letTemporaryGo value o r
      pure r)

theorem get_field {A : Around} {s : Shared} {x dx C : Addr} {od : Obj} {es : Array DictEntry} {k : Nat} {name : Str} {v : Value} {expr : Bool} {E : Value → Shared → Prop} {Q : Value → Shared → Prop} (X : c.K.In s.heap) (hC : ClsK c C) (hx : s.heap.get? x = some (instObj C dx)) (ho : s.heap.get? dx = some od) (hd : od.data = .dict es k)
    (hn : findIn c.K (.ref C) name = some none) (hv : nsFind es name = some v) (hh : handedIn v = true) (q : Q v { s with toks := s.toks + 1 }) : wpAny (model c.prog c.w) A (getAttr (.ref x) name expr) Q E s :=
  get_value X ⟨hx, rfl, rfl, ho⟩ hC.ga (findObj_own hC.dict hn rfl (lookIn_some hd hv)) hh q

theorem Ev_attr {e : Expr} {name : Str} {pos : Pos} {C : Addr} {fs : List (Str × D)} {d : D} (hc : c.Ok) (hC : ClsK c C) (hn : findIn c.K (.ref C) name = some none) (he : Ev c n sc ρ e (.inst C fs)) (hf : fs.lookup name = some d) (hm : AtrAt e name pos := by exact fun _ => rfl) : Ev c n sc ρ (.Attribute e name pos) d := fun A env pins F P s R ok S => by
  refine Attribute_any_ (wpAny_mono (he A env pins F P s R ok S) (fun v s₁ hp1 => ?_) fun _ _ x => x) (hm env)
  obtain ⟨F₁, G₁, X₁, r₁⟩ := hp1
  cases r₁ with
  | inst a b e' k r z =>
    obtain ⟨v, h1, h2⟩ := r.find hf
    exact get_field (hc.at_ (S.grow G₁).keep) hC (G₁.le _ _ a) (G₁.le _ _ b) e' hn h1 h2.handed ⟨F₁, ⟨G₁.fle, G₁.new, G₁.keep, G₁.le, G₁.size⟩, X₁.trans ⟨_, _, rfl⟩, h2⟩

theorem StV.self {env : Env} {pins : Pins} {F : Fz} {P : Addr → Prop} {h : Heap} {vm : Str → Option Value} {fp : Str → List Addr} (S : StV c env pins ρ F P h vm fp) {x : Str} {C : Addr} {fs : List (Str × D)} (hx : ρ.lookup x = some (.self C fs)) :
    ∃ a dx es, vm x = some (.ref a) ∧ fp x = [a, dx] ∧ h.get? a = some (instObj C dx) ∧ DictAt h dx es ∧ es.size ≤ fs.length ∧ RdF F fs es ∧ NoMore fs es := by
  obtain ⟨v, e, o⟩ := S.own x _ hx
  generalize hq : fp x = as at o
  cases o with
  | self a b z r q => exact ⟨_, _, _, e, rfl, a, b, z, r, q⟩
theorem Ev_attrSelf {x : Str} {p pos : Pos} {name : Str} {C : Addr} {fs : List (Str × D)} {d : D} (hc : c.Ok) (hC : ClsK c C) (hn : findIn c.K (.ref C) name = some none) (hx : ρ.lookup x = some (.self C fs)) (hl : isLoc sc x = true) (hf : fs.lookup name = some d) (hm : AtrAt (.Name x p) name pos := by exact fun _ => rfl) : Ev c n sc ρ (.Attribute (.Name x p) name pos) d := fun A env pins F P s R ok S => by
  have S0 := S
  obtain ⟨vm, fp, S⟩ := S
  obtain ⟨a, dx, es, hv, hfp, ha, ⟨o, k, hd, rfl, hk⟩, z, r, q⟩ := S.self hx
  obtain ⟨v, h1, h2⟩ := r.find hf
  refine Attribute_any_ (load_var (h := s.heap) ok S.sto hl hv ?_) (hm env)
  exact get_field (hc.at_ S0.keep) hC ha hd rfl hn h1 h2.handed (.flat S.le h2)

theorem put_facts (es : Array DictEntry) (ep : Nat) (name : Str) (hash : Int) (tok : Tok) (v : Value) (hk : StrKeys es) : ∃ es' ep', Obj.putName name hash (.str name tok) v { cls := .type "dict", data := .dict es ep } = { cls := .type "dict", data := .dict es' ep' } ∧ StrKeys es' ∧ es'.size ≤ es.size + 1 ∧ ∀ x, nsFind es' x = if x = name then some v else nsFind es x := by
  cases hi : es.findIdx? (·.key.isStr name) with
  | some i =>
    refine ⟨_, ep, by simp only [Obj.putName_eq, Obj.putNameByArray, hi]; rfl, hk.modify _ _, by simp, fun x => ?_⟩
    exact findBy_modify (fun n v => v.isStr n) Value.isStr_inj es name x v i hi
  | none =>
    refine ⟨_, ep + 1, by simp only [Obj.putName_eq, Obj.putNameByArray, hi]; rfl, hk.push _ _ _ _, by simp, fun x => ?_⟩
    exact findBy_push (fun n v => v.isStr n) es name x hash (.str name tok) v (fun y => by
      show (name == y) = decide (y = name)
      by_cases h : y = name
      · subst h; simp
      · have h' : name ≠ y := fun q => h q.symm
        simp [h, h']) hi

/-- storing in the own dict -/
theorem set_field {A : Around} {s : Shared} {x dx C : Addr} {es : Array DictEntry} {k : Nat} {name : Str} {v : Value} {E : Value → Shared → Prop} {Q : Unit → Shared → Prop} (X : c.K.In s.heap) (hC : ClsK c C) (hx : s.heap.get? x = some (instObj C dx)) (ho : s.heap.get? dx = some { cls := .type "dict", data := .dict es k }) (hk : StrKeys es) (hz : es.size ≤ 1000)
    (hn : findIn c.K (.ref C) name = some none) (q : ∀ h' tk es' k', h'.get? dx = some { cls := .type "dict", data := .dict es' k' } → StrKeys es' → es'.size ≤ es.size + 1 → (∀ y, nsFind es' y = if y = name then some v else nsFind es y) → Heap.SameBut dx s.heap h' → Q () { s with heap := h', toks := tk }) : wpAny (model c.prog c.w) A (setAttr (.ref x) name v) Q E s := by
  obtain ⟨hh, g, d, t, os⟩ := s
  have I : InstAt hh x (instObj C dx) C (some { cls := .type "dict", data := .dict es k }) := ⟨hx, rfl, rfl, ho⟩
  refine set_plain X I hC.sa ?_
  refine osa_open (s := ⟨hh, g, d, t + 1, os⟩) X I hC.over (by unfold takerIn; rw [hn]; rfl) (r := none) fun b => ?_
  obtain ⟨cd, hcd, hd'⟩ := any_some hC.dict
  obtain ⟨es', k', e1, e2, e3, e4⟩ := put_facts es k name (PyData.keyHash c.w.params name) (t + 1) v hk
  have D' : (hh.update dx (Obj.putName name (PyData.keyHash c.w.params name) (.str name (t + 1)) v)).get? dx = some { cls := .type "dict", data := .dict es' k' } := by
    rw [← e1]; exact Heap.get?_update_self _ ho (by rw [e1]; rfl)
  have Lc := looks_clsIn (M := model c.prog c.w) X hcd
  dsimp only at hx ho Lc
  refine wpAny_bind (wpAny_pure (wpAny_bind (wpAny_bind (wpAny_loadPart hx (wpAny_bind (Lc.here ?_))))))
  rw [hd']
  refine wpAny_pure (a := some dx) (wpAny_bind (wpAny_pure (wpAny_bind ?_)))
  unfold nsSet
  refine wpAny_bind (wpAny_bind (wpAny_askSetting (wpAny_pure (wpAny_bind (wpAny_mkText (wpAny_bind (wpAny_loadPart ho ?_)))))))
  dsimp only
  have hany : es.any (·.refKey) = false := by
    rw [Array.any_eq_false']; intro e he; obtain ⟨n, t, h⟩ := hk e he; simp [DictEntry.refKey, h]
  rw [aRefKeyMayBeTheName_eq, aRefKeyMayBeTheNameByArray, hany, Bool.and_false]
  refine wpAny_updatePart ho ?_
  refine wpAny_bind (wpAny_lookBehind D' (pastItsLine_dict (by rw [sizeLine_eq]; omega)) ?_)
  exact wpAny_pure (q _ _ es' k' D' e2 e3 e4 (Heap.SameBut.update ..))
theorem RdF.put {F : Fz} {es es' : Array DictEntry} {name : Str} {d : D} {v : Value} (hq : ∀ y, nsFind es' y = if y = name then some v else nsFind es y) (hd : Rd F d v) {fs : List (Str × D)} (r : RdF F fs es) (hn : fs.lookup name = none) : RdF F (fs ++ [(name, d)]) es' :=
  RdF.ind (P := fun fs es => (∀ y, nsFind es' y = if y = name then some v else nsFind es y) → fs.lookup name = none → RdF F (fs ++ [(name, d)]) es') (fun hq _ => .cons (by rw [hq, if_pos rfl]) hd .nil) (@fun y d' w r _ e1 e2 _ ih hq e => by
    rw [List.lookup_cons] at e
    by_cases h : name = y
    · subst h; simp only [beq_self_eq_true] at e; cases e
    · have hb : (name == y) = false := by simpa using h
      rw [hb] at e
      exact .cons (by rw [hq, if_neg (Ne.symm h)]; exact e1) e2 (ih hq e)) r hq hn
theorem lookup_snoc {α : Type} : ∀ {l : List (Str × α)} {x y : Str} {v : α}, (l ++ [(x, v)]).lookup y = none → l.lookup y = none ∧ y ≠ x
  | [], x, y, v, e => by
    rw [List.nil_append, List.lookup_cons] at e
    by_cases h : y = x
    · subst h; simp at e
    · exact ⟨rfl, h⟩
  | (z, w) :: r, x, y, v, e => by
    rw [List.cons_append, List.lookup_cons] at e
    cases h : y == z with
    | true => rw [h] at e; cases e
    | false => rw [h] at e; rw [List.lookup_cons, h]; exact lookup_snoc e

theorem ExS_setattr {x attr : Str} {p pos' pos : Pos} {value : Expr} {C : Addr} {fs : List (Str × D)} {d : D} (hc : c.Ok) (hC : ClsK c C) (hx : ρ.lookup x = some (.self C fs)) (hl : isLoc sc x = true) (hv : Ev c n sc ρ value d) (hn : findIn c.K (.ref C) attr = some none) (hnew : fs.lookup attr = none) (hz : fs.length ≤ 900) (hpl : plainVal value = true := by rfl) :
    ExS c n sc pn ρ (.Assign [.Attribute (.Name x p) attr pos'] value pos) .next (Vars.put ρ x (.self C (fs ++ [(attr, d)]))) := fun A env pins F P s R ok hpn S => by
  refine plainObj_wpAny_Assign_Attribute (wpAny_mono (hv A env pins F P s R ok S) (fun v s₁ hp2 => ?_) fun _ _ x => x) (swaps_plain hpl)
  obtain ⟨F₁, G₁, X₁, r₁⟩ := hp2
  have S₁ := S.grow G₁
  have K₁ := S₁.keep
  obtain ⟨vm, fp, S₁⟩ := S₁
  obtain ⟨a, dx, es, hv, hfp, ha, ⟨o, k, hd, rfl, hk⟩, z, r, q⟩ := S₁.self hx
  refine load_var (h := s₁.heap) ok S₁.sto hl hv ?_
  have nd := S₁.nd x _ hx
  rw [hfp] at nd
  have hne : a ≠ dx := fun e => (List.nodup_cons.mp nd).1 (by rw [e]; exact .head _)
  refine set_field (hc.at_ K₁) hC ha hd hk (by omega) hn fun h' tk es' k' hd' hk' hz' hq sb => ?_
  have hm : dx ∈ fp x := by rw [hfp]; simp
  have O : Own h' F₁ (.self C (fs ++ [(attr, d)])) (.ref a) (fp x) := by
    rw [hfp]
    exact .self ((sb.2 a hne).trans ha) ⟨_, k', hd', rfl, hk'⟩ (by simp; omega) (r.put hq r₁ hnew) fun y hy => by
      obtain ⟨h1, h2⟩ := lookup_snoc hy
      rw [hq, if_neg h2]; exact q y h1
  exact ⟨F₁, P, G₁.step.trans (S₁.turnStep hx hm sb), X₁.trans ⟨_, _, rfl⟩, ⟨vm, fp, S₁.turn hx hv O hm sb⟩, .next⟩
end Mine
end

section
open PySem PySem.Calls PyProof.Rows PySem.W
set_option maxRecDepth 100000
set_option linter.unusedVariables false
namespace Mine
variable {c : Cx} {n : Nat} {sc : Scope} {pn : List Str} {ρ : Vars}

variable (c n sc ρ) in
/-- e is an object of the class C, own or not, without a field of that name -/
noncomputable def EvI (e : Expr) (C : Addr) (name : Str) (d : Option D) : Prop :=
  ∀ A env pins F P s, Room n A → EnvOk env sc → St c env pins ρ F P s.heap → wpAny (model c.prog c.w) A (eval e env)
    (fun v s' => ∃ F', Grow F s.heap F' s'.heap ∧ Same s s' ∧ ∃ x dx od es k, v = .ref x ∧ s'.heap.get? x = some (instObj C dx) ∧ s'.heap.get? dx = some od ∧ od.data = .dict es k ∧ StrKeys es ∧ nsFind es name = none ∧ ∀ d', d = some d' → Rd F' d' v) (fun _ _ => False) s
theorem EvI_ev {e : Expr} {C : Addr} {name : Str} {fs : List (Str × D)} (h : Ev c n sc ρ e (.inst C fs)) (hn : fs.lookup name = none) : EvI c n sc ρ e C name (some (.inst C fs)) := fun A env pins F P s R ok S =>
  wpAny_mono (h A env pins F P s R ok S) (fun v s' hp1 => by
    obtain ⟨F', G, X, r⟩ := hp1
    refine ⟨F', G, X, ?_⟩
    have r0 := r
    cases r with
    | inst a b e' k r z => exact ⟨_, _, _, _, _, rfl, G.le _ _ a, G.le _ _ b, e', k, z _ hn, fun d' e => by cases e; exact r0⟩) fun _ _ x => x
theorem StV.hdr {env : Env} {pins : Pins} {F : Fz} {P : Addr → Prop} {h : Heap} {vm : Str → Option Value} {fp : Str → List Addr} (S : StV c env pins ρ F P h vm fp) {x : Str} {C : Addr} {xs : List D} (hx : ρ.lookup x = some (.hdr C xs)) :
    ∃ a dx l od es k, vm x = some (.ref a) ∧ fp x = [l] ∧ F a = some (instObj C dx) ∧ F dx = some od ∧ od.data = .dict es k ∧ StrKeys es ∧ nsFind es "_headers" = some (.ref l) ∧ (∀ y : Str, y ≠ "_headers" → nsFind es y = none) ∧ LstAt h F xs l := by
  obtain ⟨v, e, o⟩ := S.own x _ hx
  generalize hq : fp x = as at o
  cases o with
  | hdr a b z r q t u => exact ⟨_, _, _, _, _, _, e, rfl, a, b, z, r, q, t, u⟩
theorem EvI_hdr {x : Str} {p : Pos} {C : Addr} {name : Str} {xs : List D} (hx : ρ.lookup x = some (.hdr C xs)) (hl : isLoc sc x = true) (hn : name ≠ "_headers") : EvI c n sc ρ (.Name x p) C name none := fun A env pins F P s R ok S => by
  obtain ⟨vm, fp, S⟩ := S
  obtain ⟨a, dx, l, od, es, k, hv, hfp, ha, hd, hdd, hk, z, r, q⟩ := S.hdr hx
  exact load_var (h := s.heap) ok S.sto hl hv ⟨F, .refl S.le, .refl s, _, _, _, _, _, rfl, S.le _ _ ha, S.le _ _ hd, hdd, hk, r _ hn, fun _ e => nomatch e⟩

/-- a function among the class's own -/
structure MethK (c : Cx) (C : Addr) (name : Str) (f : Addr) : Prop where
  cls : ClsK c C
  find : findIn c.K (.ref C) name = some (some (.ref f))
  ty : typeIn c.K (.ref f) = some (.type "function")
  keep : keepIn c.K (.ref f) = true

theorem get_meth {A : Around} {s : Shared} {x dx C f : Addr} {od : Obj} {es : Array DictEntry} {k : Nat} {name : Str} {E : Value → Shared → Prop} {pl : Sem Bool} {Q : Value × List Value → Shared → Prop} (X : c.K.In s.heap) (hM : MethK c C name f) (hx : s.heap.get? x = some (instObj C dx)) (ho : s.heap.get? dx = some od) (hd : od.data = .dict es k) (hk : StrKeys es)
    (hn : nsFind es name = none) (q : Q (.ref f, [.ref x]) s) : wpAny (model c.prog c.w) A (getMethod (.ref x) name pl) Q E s :=
  method_fn (od := some od) X ⟨hx, rfl, rfl, ho⟩ hM.cls.ga hM.cls.ge hM.find hM.ty (by show (lookIn name od).map (·.isSome) = _; rw [lookIn_none hd hk hn]; rfl) q

/-- a call with a keyword or none, over any first value -/
noncomputable def FnK (c : Cx) (n : Nat) (fv : Value) (kw : List (Str × Value)) (ds : List D) (d : D) : Prop :=
  ∀ A F s v0 vs, Room n A → Fle c.hB.get? F → Fle F s.heap.get? → RdL F ds vs → wpAny (model c.prog c.w) A (call fv (v0 :: vs) kw) (Gives F s d) (fun _ _ => False) s

noncomputable def MethAtK (o : Expr) (name : Str) (apos : Pos) (args : List Expr) (kws : List Keyword) (pos : Pos) : Prop :=
  ∀ env, ∃ pl, eval (.Call (.Attribute o name apos) args kws pos) env = (do
      let ov ← eval o env
      standAt apos.atName
      let (f, first) ← holding [ov] (getMethod ov name pl)
      callWith pos f first (backTo pos (starEach args env)) (backToKw pos (keywordEach kws env)))

/-- o.name(args), o frozen and handed on -/
theorem Ev_meth {o : Expr} {name : Str} {apos pos : Pos} {args : List Expr} {C f : Addr} {fs : List (Str × D)} {ds : List D} {d : D} (hc : c.Ok) (hM : MethK c C name f) (ho : Ev c n sc ρ o (.inst C fs)) (hnf : fs.lookup name = none) (ha : EvL c n sc ρ args ds) (h : FnP c n (.ref f) (.inst C fs :: ds) d) (hp : args.all plainArg = true := by rfl) (hm : MethAt o name apos args pos := by exact fun _ => ⟨_, rfl⟩) :
    Ev c n sc ρ (.Call (.Attribute o name apos) args [] pos) d := fun A env pins F P s R ok S => by
  refine meth_open hm (wpAny_mono (EvI_ev ho hnf A env pins F P s R ok S) (fun v s₁ hp2 pl => ?_) fun _ _ x => x)
  obtain ⟨F₁, G₁, X₁, x, dx, od, es, k, hv, h1, h2, h3, h4, h5, h6⟩ := hp2
  subst hv
  have S₁ := S.grow G₁
  refine get_meth (hc.at_ S₁.keep) hM h1 h2 h3 h4 h5 ?_
  refine callWith_of (P := c.K.In) (by rw [Bool.or_eq_false_iff]; exact ⟨starFalse hp, rfl⟩) (keeps_K hM.keep) (evalArgs_any (starFalse hp) (wpAny_mono (ha A env pins F₁ P s₁ R ok S₁ pos) (fun vs s₂ hp3 => ?_) fun _ _ x => x))
  obtain ⟨F₂, G₂, X₂, r₂⟩ := hp3
  refine ⟨hc.at_ (S₁.grow G₂).keep, ?_⟩
  exact wpAny_mono (h A F₂ s₂ (.ref x :: vs) R (S₁.grow G₂).base G₂.le (.cons ((h6 _ rfl).mono G₂.fle) r₂)) (fun z s₃ q => q.after (G₁.trans G₂) (X₁.trans X₂)) fun _ _ x => x

/-- o.name(a, key=v) -/
theorem Ev_methK {o a : Expr} {name key : Str} {apos pos kp : Pos} {kb : Bool} {ki : Nat} {kpos : Pos} {C f : Addr} {od : Option D} {da d : D} (hc : c.Ok) (hM : MethK c C name f) (ho : EvI c n sc ρ o C name od) (ha : Ev c n sc ρ a da) (h : FnK c n (.ref f) [(key, .bool kb)] [da] d) (hp : plainArg a = true := by rfl) (hm : MethAtK o name apos [a] [⟨some key, .Constant (.bool kb) ki kpos, kp⟩] pos := by exact fun _ => ⟨_, rfl⟩) :
    Ev c n sc ρ (.Call (.Attribute o name apos) [a] [⟨some key, .Constant (.bool kb) ki kpos, kp⟩] pos) d := fun A env pins F P s R ok S => by
  obtain ⟨pl, he⟩ := hm env
  refine methodCall_KW (pl := pl) (wpAny_mono (ho A env pins F P s R ok S) (fun v s₁ hp4 => ?_) fun _ _ x => x) he
  obtain ⟨F₁, G₁, X₁, x, dx, od, es, k, hv, h1, h2, h3, h4, h5, h6⟩ := hp4
  subst hv
  have S₁ := S.grow G₁
  refine get_meth (hc.at_ S₁.keep) hM h1 h2 h3 h4 h5 ?_
  refine callWith_KW (hc.inK) hM.keep rfl ?_ (by rw [Bool.or_eq_false_iff]; exact ⟨starFalse (by simp [hp]), rfl⟩) (starEach_plain hp)
  rw [starEach_plain hp]
  refine spliced_cons (wpAny_mono (ha A env pins F₁ P s₁ R ok S₁) (fun va s₂ hp5 => ?_) fun _ _ x => x)
  obtain ⟨F₂, G₂, X₂, r₂⟩ := hp5
  refine spliced_nil ?_
  refine kwAll_cons (Constant_bool (kwAll_nil ?_))
  refine ⟨hc.at_ (S₁.grow G₂).keep, ?_⟩
  exact wpAny_mono (h A F₂ s₂ (.ref x) [va] R (S₁.grow G₂).base G₂.le (.cons r₂ .nil)) (fun z s₃ q => q.after (G₁.trans G₂) (X₁.trans X₂)) fun _ _ x => x
end Mine
end

section
open PySem PySem.Calls PyProof.Rows PySem.W
set_option maxRecDepth 100000
set_option linter.unusedVariables false
namespace Mine
variable {c : Cx} {n : Nat} {sc : Scope} {pn : List Str} {ρ : Vars}

/-- an __init__ that lays the fields fs -/
noncomputable def FnI (c : Cx) (n : Nat) (fi : Value) (C : Addr) (ds : List D) (fs : List (Str × D)) : Prop := ∀ A F s x dx vs, Room n A → Fle c.hB.get? F → Fle F s.heap.get? → x ≠ dx → s.heap.get? x = some (instObj C dx) → s.heap.get? dx = some emptyDict → F x = none → F dx = none → RdL F ds vs →
  codeAny (model c.prog c.w) A (.call fi ⟨.ref x :: vs, []⟩) (Ret fun v s' => v = .none ∧ ∃ F', Fle F F' ∧ (∀ b o, F' b = some o → F b = some o ∨ (b = x ∨ b = dx) ∨ s.heap.objs.size ≤ b) ∧ (∀ b o, b ≠ x → b ≠ dx → s.heap.get? b = some o → s'.heap.get? b = some o) ∧ Same s s' ∧ s.heap.objs.size ≤ s'.heap.objs.size ∧ Fle F' s'.heap.get? ∧
    ∃ dx', F' x = none ∧ F' dx' = none ∧ (dx' = x ∨ dx' = dx ∨ s.heap.objs.size ≤ dx') ∧ x ≠ dx' ∧ Own s'.heap F' (.self C fs) (.ref x) [x, dx']) s

theorem FnI_intro {fa : Addr} {fd : FuncData} {n0 : Str} {names : List Str} {body : List Stmt} {C : Addr} {ds : List D} {fs : List (Str × D)} {fl : Fl} {ρ' : Vars} (hc : c.Ok) (D0 : DefAt c fa fd body sc)  (hb : ∀ v0 (vs : List Value), vs.length = names.length → ∀ s : Shared, Fle c.hB.get? s.heap.get? → BindsTo s fd ⟨v0 :: vs, []⟩ ((n0, v0) :: names.zip vs)) (hs : scOk sc (n0 :: names) = true) (hl : ds.length = names.length) (hfl : fl = .next)
    (h : Ex c n sc [n0] ((n0, .self C []) :: names.zip (ds.map Slot.val)) body fl ρ') (hx' : ρ'.lookup n0 = some (.self C fs)) : FnI c (n + 1) (.ref fa) C ds fs := fun A F s x dx vs R hB l hne hx hdx fx fdx r => by
  subst hfl
  have sk := scOk_of hs
  have hnd := List.nodup_cons.mp sk.nd
  have hlen : vs.length = names.length := r.length.trans hl
  have hzip : ((n0, Value.ref x) :: names.zip vs).map (·.1) = n0 :: names := by
    rw [List.map_cons]; congr 1; exact List.map_fst_zip (Nat.le_of_eq hlen.symm)
  have hown : ∀ b, (∃ y sl, ((n0, Slot.self C []) :: names.zip (ds.map Slot.val)).lookup y = some sl ∧ b ∈ (if y = n0 then [x, dx] else [])) ↔ (b = x ∨ b = dx) := fun b => by
    constructor
    · rintro ⟨y, sl, e, q⟩
      by_cases hy : y = n0
      · rw [if_pos hy] at q; simpa using q
      · rw [if_neg hy] at q; cases q
    · intro q
      exact ⟨n0, .self C [], by rw [List.lookup_cons]; simp, by rw [if_pos rfl]; simpa using q⟩
  refine codeRet_mono (run_fn (fl := .next) (args := ⟨.ref x :: vs, []⟩) (binds := (n0, .ref x) :: names.zip vs) (pins := [(n0, .ref x)]) (ρ0 := (n0, .self C []) :: names.zip (ds.map Slot.val)) (fp := fun y => if y = n0 then [x, dx] else []) (s' := s) hc D0 (by rw [hzip]; exact hs) R hB l (.refl _) (.refl s)
    (fun A' E Q q => hb _ vs hlen s (hB.trans l) _ _ _ _ q) (fun y sl e => ?_) (fun q hq => ?_) (fun y sl e b hb => ?_) (fun y sl e => ?_) (fun y sl z t e e' hyz b hb => ?_) ⟨nofun, nofun⟩ h) (fun v s₂ hpz => ?_)
  · rw [List.lookup_cons] at e
    by_cases hy : y = n0
    · subst hy
      simp only [beq_self_eq_true] at e
      cases e
      refine ⟨.ref x, by simp, ?_⟩
      rw [if_pos rfl]
      exact .self hx ⟨_, _, hdx, rfl, fun e he => by simp at he⟩ (Nat.le_refl _) .nil fun _ _ => rfl
    · have hb' : (y == n0) = false := by simpa using hy
      rw [hb'] at e
      obtain ⟨v, e1, o⟩ := zip_own (h := s.heap) r e
      exact ⟨v, by rw [List.lookup_cons, hb']; exact e1, by rw [if_neg hy]; exact o⟩
  · rw [List.mem_singleton.mp hq]; simp
  · by_cases hy : y = n0
    · rw [if_pos hy] at hb; simp at hb; rcases hb with rfl | rfl <;> assumption
    · rw [if_neg hy] at hb; cases hb
  · split
    · simp [hne]
    · simp
  · by_cases hy : y = n0
    · rw [if_neg fun q => hyz (hy.trans q.symm)]; exact fun q => nomatch q
    · rw [if_neg hy] at hb; cases hb
  · obtain ⟨F', z1, z2, z3, z4, z5, z6, ⟨env, P', S', z7⟩, z8⟩ := hpz
    have hv : v = .none := by cases z6; rfl
    obtain ⟨vm', fp', S''⟩ := S'
    obtain ⟨a, dx', es, e1, e2, e3, e4, e5, e6, e7⟩ := S''.self hx'
    have ha : a = x := by have e := S''.pin (n0, .ref x) (.head _); rw [e1] at e; cases e; rfl
    subst ha
    have mP : ∀ b ∈ fp' n0, P' b := fun b hb => (S''.mem b).mpr (.inr ⟨n0, _, hx', hb⟩)
    have nd := S''.nd n0 _ hx'
    rw [e2] at nd
    refine ⟨hv, F', z1, fun b o e => (z2 b o e).imp id fun q => q.imp (hown b).mp id, fun b o h1 h2 e => z3 b o (fun q => ((hown b).mp q).elim h1 h2) e, z4, z5, S''.le, dx', S''.out a (mP a (by rw [e2]; simp)), S''.out dx' (mP dx' (by rw [e2]; simp)), ?_, fun q => (List.nodup_cons.mp nd).1 (by rw [q]; exact .head _), .self e3 e4 e5 e6 e7⟩
    rcases z7 dx' (mP dx' (by rw [e2]; simp)) with q | q
    · exact ((hown dx').mp q).imp id .inl
    · exact .inr (.inr q)

/-- a class that makes plain instances -/
structure NewK (c : Cx) (C f : Addr) : Prop where
  makes : makesIn c.K C = true
  init : findIn c.K (.ref C) "__init__" = some (some (.ref f))
  ty : typeIn c.K (.ref f) = some (.type "function")
  keep : keepIn c.K (.ref C) = true

theorem Room.under {A : Around} {C : Addr} {rest : List Value} (r : Room (n + 1) A) : Room n (A.under (.builtin "type.__call__" ⟨.ref C :: rest, []⟩)) := by
  obtain ⟨h1, h2, h3⟩ := r
  refine ⟨h1, ?_, ?_⟩
  · have e : (A.under (.builtin "type.__call__" ⟨.ref C :: rest, []⟩)).depth = A.depth + 1 := depth_under_kw A C rest []
    omega
  · have e : (A.under (.builtin "type.__call__" ⟨.ref C :: rest, []⟩)).units ≤ A.units + 3 := by
      show A.units + _ ≤ _
      refine Nat.add_le_add_left ?_ _
      show 1 + 3 * 0 ≤ 3
      exact Nat.le_succ_of_le (Nat.le_succ 1)
    omega

theorem new_call {A : Around} {F : Fz} {s : Shared} {C f : Addr} {ds : List D} {fs : List (Str × D)} {vs : List Value} (hc : c.Ok) (hN : NewK c C f) (h : FnI c n (.ref f) C ds fs) (R : Room (n + 1) A) (hb : Fle c.hB.get? F) (l : Fle F s.heap.get?) (r : RdL F ds vs) :
    wpAny (model c.prog c.w) A (call (.ref C) vs []) (fun v s' => ∃ F' x dx, v = .ref x ∧ Fle F F' ∧ (∀ b o, F' b = some o → F b = some o ∨ s.heap.objs.size ≤ b) ∧ Fle s.heap.get? s'.heap.get? ∧ Same s s' ∧ s.heap.objs.size ≤ s'.heap.objs.size ∧ Fle F' s'.heap.get? ∧ F' x = none ∧ F' dx = none ∧ s.heap.objs.size ≤ x ∧ s.heap.objs.size ≤ dx ∧ x ≠ dx ∧ Own s'.heap F' (.self C fs) (.ref x) [x, dx]) (fun _ _ => False) s := by
  obtain ⟨hh, g, d, t, os⟩ := s
  have X := hc.at_ (hb.trans l)
  refine wpAny_call (make_core (makes_of X hN.makes) (looks_findIn X hN.init) (fun self => bind_fn X self hN.ty) (.inl rfl) ?_)
  have k1 : Fle hh.get? ((hh.push emptyDict).push (instObj C hh.objs.size)).get? := fun b o e => Heap.get?_push_of_some _ (Heap.get?_push_of_some _ e)
  have sz : ((hh.push emptyDict).push (instObj C hh.objs.size)).objs.size = hh.objs.size + 2 := by rw [Heap.size_push, Heap.size_push]
  have hx : ((hh.push emptyDict).push (instObj C hh.objs.size)).get? (hh.objs.size + 1) = some (instObj C hh.objs.size) := by
    have := Heap.get?_push_size (hh.push emptyDict) (o := instObj C hh.objs.size) rfl
    rwa [Heap.size_push] at this
  have hd : ((hh.push emptyDict).push (instObj C hh.objs.size)).get? hh.objs.size = some emptyDict := Heap.get?_push_of_some _ (Heap.get?_push_size hh (o := emptyDict) rfl)
  have W := h (A.under (.builtin "type.__call__" ⟨.ref C :: vs, []⟩)) F ⟨(hh.push emptyDict).push (instObj C hh.objs.size), g, d, t, os⟩ (hh.objs.size + 1) hh.objs.size vs R.under hb (l.trans k1) (Nat.succ_ne_self _) hx hd (none_of_le l (Nat.le_succ _)) (none_of_le l (Nat.le_refl _)) r
  refine codeAny_mono W fun r s' z => ?_
  rcases r with e | (v | _ | _ | _) <;> try exact z.elim
  obtain ⟨hv, F', y1, y2, y3, y4, y5, y6, dx', f1, f2, f3, f4, O⟩ := z
  dsimp only at y2 y3 y5 f3
  rw [sz] at y2 y5 f3
  refine ⟨hv, F', hh.objs.size + 1, dx', rfl, y1, fun b o e => (y2 b o e).imp id fun q => ?_, fun b o e => ?_, Same.trans ⟨_, _, rfl⟩ y4, Nat.le_trans (Nat.le_add_right _ 2) y5, y6, f1, f2, Nat.le_succ _, ?_, f4, O⟩
  · show hh.objs.size ≤ b
    rcases q with (q | q) | q
    · rw [eqA q]; exact Nat.le_succ _
    · rw [eqA q]; exact Nat.le_refl _
    · exact Nat.le_trans (Nat.le_add_right _ 2) q
  · have hb' : b < hh.objs.size := Heap.lt_size e
    exact y3 b o (fun q => by rw [q] at hb'; exact absurd hb' (Nat.not_lt.mpr (Nat.le_succ _))) (fun q => by rw [q] at hb'; exact Nat.lt_irrefl _ hb') (k1 b o e)
  · show hh.objs.size ≤ dx'
    rcases f3 with q | q | q
    · exact absurd q.symm f4
    · rw [eqA q]; exact Nat.le_refl _
    · exact Nat.le_trans (Nat.le_add_right _ 2) q

/-- C(args), frozen -/
theorem Ev_new {x : Str} {p pos : Pos} {args : List Expr} {C f : Addr} {ds : List D} {fs : List (Str × D)} (hc : c.Ok) (hg : Glb c x (.ref C)) (hN : NewK c C f) (h : FnI c n (.ref f) C ds fs) (hi : isGlb sc x = true) (ha : EvL c (n + 1) sc ρ args ds) (hp : args.all plainArg = true := by rfl) :
    Ev c (n + 1) sc ρ (.Call (.Name x p) args [] pos) (.inst C fs) := fun A env pins F P s R ok S => by
  refine wpAny_Call_Name_kw (load_glob hc ok S.keep hi hg ?_)
  refine callWith_of (P := c.K.In) (by rw [Bool.or_eq_false_iff]; exact ⟨starFalse hp, rfl⟩) (keeps_K hN.keep) (evalArgs_any (starFalse hp) (wpAny_mono (ha A env pins F P s R ok S pos) (fun vs s₁ hp2 => ?_) fun _ _ x => x))
  obtain ⟨F₁, G₁, X₁, r₁⟩ := hp2
  refine ⟨hc.at_ (S.grow G₁).keep, ?_⟩
  refine wpAny_mono (new_call hc hN h R (S.grow G₁).base G₁.le r₁) (fun v s₂ hp3 => ?_) fun _ _ x => x
  obtain ⟨F', x, dx, hv, y1, y2, y3, y4, y5, y6, f1, f2, f3, f4, f5, O⟩ := hp3
  subst hv
  cases O with
  | self a b z r q =>
    obtain ⟨o, k, hd, ho, hk⟩ := b
    have g1 : Fle F' (F'.ins x (instObj C dx)) := Fz.ins_le f1
    have f2' : (F'.ins x (instObj C dx)) dx = none := by unfold Fz.ins; rw [if_neg (Ne.symm f5)]; exact f2
    have g2 := Fz.ins_le (o := o) f2'
    refine ⟨_, ⟨G₁.fle.trans (y1.trans (g1.trans g2)), fun b o e => ?_, G₁.keep.trans y3, fun b o e => ?_, Nat.le_trans G₁.size y5⟩, X₁.trans y4, (.inst (k := k) (g2 _ _ (Fz.ins_self _ _ _)) (Fz.ins_self _ dx o) (by rw [ho]) hk (r.mono (g1.trans g2)) q)⟩
    · unfold Fz.ins at e
      by_cases h1 : b = dx
      · subst h1; exact .inr (Nat.le_trans G₁.size f4)
      · rw [if_neg h1] at e
        by_cases h2 : b = x
        · subst h2; exact .inr (Nat.le_trans G₁.size f3)
        · rw [if_neg h2] at e
          rcases y2 b o e with z | z
          · exact G₁.new b o z
          · exact .inr (Nat.le_trans G₁.size z)
    · unfold Fz.ins at e
      by_cases h1 : b = dx
      · subst h1; rw [if_pos rfl] at e; cases e; exact hd
      · rw [if_neg h1] at e
        by_cases h2 : b = x
        · subst h2; rw [if_pos rfl] at e; cases e; exact a
        · rw [if_neg h2] at e; exact y6 b o e
end Mine
end

section
open PySem PySem.Calls PyProof.Rows PySem.W
set_option maxRecDepth 100000
set_option linter.unusedVariables false
namespace Mine
variable {c : Cx} {n : Nat} {sc : Scope} {pn : List Str} {ρ : Vars}

/-! targets -/
variable (c n sc pn) in
inductive AsgL : Vars → List Expr → List D → Vars → Prop
  | nil {ρ : Vars} : AsgL ρ [] [] ρ
  | cons {ρ ρ₁ ρ' : Vars} {x : Str} {p : Pos} {es : List Expr} {d : D} {ds : List D} : AsgT c n sc pn ρ (.Name x p) d ρ₁ → AsgL ρ₁ es ds ρ' → AsgL ρ (.Name x p :: es) (d :: ds) ρ'
theorem AsgL.len {ρ ρ' : Vars} {es : List Expr} {ds : List D} (h : AsgL c n sc pn ρ es ds ρ') (env : Env) : (assignEach es env).length = ds.length := by
  induction h with
  | nil => rfl
  | cons a b ih => show (_ :: assignEach _ env).length = _; rw [List.length_cons, ih]; rfl
theorem AsgL.star {ρ ρ' : Vars} {es : List Expr} {ds : List D} (h : AsgL c n sc pn ρ es ds ρ') (env : Env) : (assignEach es env).findIdx? (·.1) = none := by
  induction h with
  | nil => rfl
  | cons a b ih => show List.findIdx? _ ((false, _) :: assignEach _ env) = none; rw [List.findIdx?_cons]; simp [ih]
theorem AsgL.run {ρ ρ' : Vars} {es : List Expr} {ds : List D} (h : AsgL c n sc pn ρ es ds ρ') : ∀ A env pins F P s vs, Room n A → EnvOk env sc → pins.map (·.1) = pn → St c env pins ρ F P s.heap → RdL F ds vs →
    wpAny (model c.prog c.w) A (assignInOrder ((assignEach es env).map (·.2)) vs) (fun _ s' => ∃ P', Step F P s.heap F P' s'.heap ∧ Same s s' ∧ St c env pins ρ' F P' s'.heap) (fun _ _ => False) s := by
  induction h with
  | nil => exact fun A env pins F P s vs R ok hp S r => by cases r; exact assignInOrder_nil ⟨P, .refl, .refl s, S⟩
  | cons a b ih =>
    intro A env pins F P s vs R ok hp S r
    cases r with
    | cons r1 r2 =>
      show wpAny _ _ (assignInOrder (assign _ env :: (assignEach _ env).map (·.2)) _) _ _ _
      refine assignInOrder_cons (wpAny_mono (a A env pins F P s _ R ok hp S r1) (fun _ s₁ hp1 => ?_) fun _ _ x => x)
      obtain ⟨P₁, T₁, X₁, S₁⟩ := hp1
      exact wpAny_mono (ih A env pins F P₁ s₁ _ R ok hp S₁ r2) (fun _ s₂ hp2 => by obtain ⟨P₂, T₂, X₂, S₂⟩ := hp2; exact ⟨P₂, T₁.trans T₂, X₁.trans X₂, S₂⟩) fun _ _ x => x
theorem Step.ofKeep {F : Fz} {P : Addr → Prop} {h h' : Heap} (k : Fle h.get? h'.get?) (z : h.objs.size ≤ h'.objs.size) : Step F P h F P h' := ⟨.refl _, fun _ _ e => .inl e, fun a o _ e => k a o e, fun _ q => .inl q, z⟩
theorem AsgT_tup {es : List Expr} {k : Nat} {p : Pos} {ds : List D} {ρ' : Vars} (h : AsgL c n sc pn ρ es ds ρ') : AsgT c n sc pn ρ (.Tuple es k p) (.tup ds) ρ' := fun A env pins F P s v R ok hp S r => by
  cases r with
  | @tup a o vs m _ h1 h2 h3 h4 =>
    have ht : IsTup s.heap a vs := ⟨o, S.le _ _ h1, h2, _, h3⟩
    have hlen : vs.size = ds.length := by rw [← Array.length_toList]; exact h4.length
    rw [assign_Tuple]
    refine wpAny_bind (wpAny_standAt ?_)
    unfold unpack
    rw [h.len env, h.star env, ← hlen]
    refine wpAny_bind (wpAny_holding (wpAny_mono (wpAny_sz (Nat.le_refl s.heap.objs.size) (unpackItems_tuple (Q := fun items s' => items = vs.toList ∧ Same s s' ∧ Fle s.heap.get? s'.heap.get?) (E := fun _ _ => False) R.1 ht fun h' hk => ⟨rfl, ⟨_, _, rfl⟩, fun b o e => hk b o (Nat.ne_of_lt (Heap.lt_size e)) e⟩)) (fun items s₁ hp3 => ?_) fun _ _ x => x.2))
    obtain ⟨z, e, X₁, k₁⟩ := hp3
    subst e
    exact wpAny_mono (h.run A env pins F P s₁ _ R ok hp (S.top k₁ z) h4) (fun _ s₂ hp4 => by obtain ⟨P₂, T₂, X₂, S₂⟩ := hp4; exact ⟨P₂, (Step.ofKeep k₁ z).trans T₂, X₁.trans X₂, S₂⟩) fun _ _ x => x

/-- x, y = e -/
theorem ExS_assignTup {es : List Expr} {k : Nat} {p pos : Pos} {value : Expr} {ds : List D} {ρ' : Vars} (h : Ev c n sc ρ value (.tup ds)) (ha : AsgL c n sc pn ρ es ds ρ') (hw : ∀ env, swappedStores [.Tuple es k p] value env = pure none := by exact fun _ => rfl) (hv : plainVal value = true := by rfl) :
    ExS c n sc pn ρ (.Assign [.Tuple es k p] value pos) .next ρ' := fun A env pins F P s R ok hp S => by
  refine Assign_Tuple (wpAny_mono (h A env pins F P s R ok S) (fun v s₁ ⟨F₁, G₁, X₁, r₁⟩ => ?_) fun _ _ x => x) (by unfold swapsWithSole; exact swaps_plain hv) (hw env)
  exact wpAny_mono (AsgT_tup ha A env pins F₁ P s₁ v R ok hp (S.grow G₁) r₁) (fun _ s₂ hp6 => by obtain ⟨P₂, T₂, X₂, S₂⟩ := hp6; exact ⟨F₁, P₂, G₁.step.trans T₂, X₁.trans X₂, S₂, .next⟩) fun _ _ x => x
/-- x, y = e, f as it is laid swapped -/
theorem ExS_swap2 {x y : Str} {px py p pos : Pos} {k : Nat} {value : Expr} {d e : D} (h : Ev c n sc ρ value (.tup [d, e])) (hx : isSto sc x = true) (hy : isSto sc y = true) (nx : x ∉ pn) (ny : y ∉ pn) (hw : ∀ env, EnvOk env sc → swappedStores [.Tuple [.Name x px, .Name y py] k p] value env = pure (some [x, y])) (hv : plainVal value = true := by rfl) :
    ExS c n sc pn ρ (.Assign [.Tuple [.Name x px, .Name y py] k p] value pos) .next (Vars.put (Vars.put ρ y (.val e)) x (.val d)) := fun A env pins F P s R ok hp S => by
  refine Assign_Tuple_swapped (wpAny_mono (h A env pins F P s R ok S) (fun v s₁ ⟨F₁, G₁, X₁, r₁⟩ => ?_) fun _ _ x => x) (by unfold swapsWithSole; exact swaps_plain hv) (hw env ok)
  have S₁ := S.grow G₁
  cases r₁ with
  | @tup a o vs m _ h1 h2 h3 h4 =>
    have ht : IsTup s₁.heap a vs := ⟨o, S₁.le _ _ h1, h2, _, h3⟩
    have hlen : vs.size = 2 := by rw [← Array.length_toList]; exact h4.length
    show wpAny _ _ (unpackItems (.ref a) 2 none) _ _ _
    rw [← hlen]
    refine wpAny_mono (wpAny_sz (Nat.le_refl s₁.heap.objs.size) (unpackItems_tuple (Q := fun items s' => items = vs.toList ∧ Same s₁ s' ∧ Fle s₁.heap.get? s'.heap.get?) (E := fun _ _ => False) R.1 ht fun h' hk => ⟨rfl, ⟨_, _, rfl⟩, fun b o e => hk b o (Nat.ne_of_lt (Heap.lt_size e)) e⟩)) (fun items s₂ hp8 => ?_) fun _ _ x => x.2
    obtain ⟨z, e, X₂, k₂⟩ := hp8
    subst e
    have S₂ := S₁.top k₂ z
    generalize vs.toList = l at h4
    cases h4 with
    | cons r1 h4 =>
      cases h4 with
      | cons r2 h4 =>
        cases h4
        show wpAny _ _ (assignInOrder [bindName env y, bindName env x] [_, _]) _ _ _
        refine assignInOrder_cons (bindName_ (wpAny_mono (store_val ok hp S₂ hy ny r2 .next) (fun _ s₃ hp9 => ?_) fun _ _ x => x))
        obtain ⟨F₃, P₃, T₃, X₃, S₃, q⟩ := hp9
        refine assignInOrder_cons (bindName_ (wpAny_mono (store_val ok hp S₃ hx nx (r1.mono T₃.fle) .next) (fun _ s₄ hp10 => ?_) fun _ _ x => x))
        obtain ⟨F₄, P₄, T₄, X₄, S₄, q⟩ := hp10
        refine assignInOrder_nil ?_
        exact ⟨F₄, P₄, G₁.step.trans ((Step.ofKeep k₂ z).trans (T₃.trans T₄)), X₁.trans (X₂.trans (X₃.trans X₄)), S₄, .next⟩
/-- x = y = z = e -/
theorem ExS_assign3 {x y z : Str} {px py pz pos : Pos} {value : Expr} {d : D} (h : Ev c n sc ρ value d) (hx : isSto sc x = true) (hy : isSto sc y = true) (hz : isSto sc z = true) (nx : x ∉ pn) (ny : y ∉ pn) (nz : z ∉ pn) (hw : ∀ env, swappedStores [.Name x px, .Name y py, .Name z pz] value env = pure none := by exact fun _ => rfl) :
    ExS c n sc pn ρ (.Assign [.Name x px, .Name y py, .Name z pz] value pos) .next (Vars.put (Vars.put (Vars.put ρ x (.val d)) y (.val d)) z (.val d)) := fun A env pins F P s R ok hp S => by
  refine wpAny_Assign_three (wpAny_mono (h A env pins F P s R ok S) (fun v s₁ hp11 => ?_) fun _ _ x => x) rfl (hw env)
  obtain ⟨F₁, G₁, X₁, r₁⟩ := hp11
  refine wpAny_mono (AsgT_name hx nx A env pins F₁ P s₁ v R ok hp (S.grow G₁) r₁) (fun _ s₂ hp12 => ?_) fun _ _ x => x
  obtain ⟨P₂, T₂, X₂, S₂⟩ := hp12
  refine wpAny_mono (AsgT_name hy ny A env pins F₁ P₂ s₂ v R ok hp S₂ r₁) (fun _ s₃ hp13 => ?_) fun _ _ x => x
  obtain ⟨P₃, T₃, X₃, S₃⟩ := hp13
  refine wpAny_mono (AsgT_name hz nz A env pins F₁ P₃ s₃ v R ok hp S₃ r₁) (fun _ s₄ hp14 => ?_) fun _ _ x => x
  obtain ⟨P₄, T₄, X₄, S₄⟩ := hp14
  exact ⟨F₁, P₄, G₁.step.trans (T₂.trans (T₃.trans T₄)), X₁.trans (X₂.trans (X₃.trans X₄)), S₄, .next⟩

/-! lists -/
theorem fold_one (v : Value) : ∀ (k : Nat) (acc : Array Value), (List.foldl (fun x1 x2 => x1 ++ x2) acc (List.replicate k #[v])).toList = acc.toList ++ List.replicate k v
  | 0, acc => by simp
  | k + 1, acc => by rw [List.replicate_succ, List.foldl_cons, fold_one v k, Array.toList_append, List.replicate_succ]; simp
theorem RdL.rep {F : Fz} {d : D} {v : Value} (r : Rd F d v) : ∀ k, RdL F (List.replicate k d) (List.replicate k v)
  | 0 => .nil
  | k + 1 => .cons r (RdL.rep r k)
theorem mul_any {A : Around} {s : Shared} {a : Addr} {items : Array Value} {m : Nat} {x : Int} {t : Tok} {E : Value → Shared → Prop} {Q : Value → Shared → Prop} (p : s.heap.get? a = some { cls := .type "list", dict := none, data := .seq items m, slots := #[] })
    (hlo : -(2 ^ 63 : Int) ≤ x) (hhi : x < 2 ^ 63) (hsz : items.size * x.toNat ≤ 2 ^ 24) (q : Q (.ref s.heap.objs.size) { s with heap := s.heap.push { cls := .type "list", data := .seq (List.foldl (fun x1 x2 => x1 ++ x2) #[] (List.replicate (if items.isEmpty = true then 0 else x.toNat) items)) } }) :
    wpAny (model c.prog c.w) A (binaryOp .Mult (.ref a) (.int x t)) Q E s :=
  wpAny_binaryOp_repeat_ref (T := "list") (U := "int") (by decide) ⟨_, p, rfl⟩ (fun s' => typeIs_int s' x t) noFill_list_mul PySem.F.fills_int_mul PySem.F.slot_int_rmul repeat_list PySem.F.slot_int_index.lookup
    (call_meets PySem.F.slot_int_rmul (typeIs_int s x t) PySem.F.entry_int_rmul (PySem.F.args_int_rmul_2 _ _) (int___rmul___int_list x t a items m)
      ⟨p, rfl, ⟨_, p, rfl⟩, call_meets PySem.F.slot_list_mul ⟨_, p, rfl⟩ PySem.F.entry_list_mul (PySem.F.args_list_mul_2 _ _)
        (AutoListH.list___mul___list_int_3 a items m x t (by simp [Builtin.List.listFitsIndex]; omega) (by omega) (by simp [Builtin.List.listTooLong, sizeLine]; omega))
        ⟨p, q⟩⟩)
/-- [d] * k -/
theorem Ev_mulNew {l r : Expr} {pos : Pos} {d : D} {k : Nat} (hl : EvNew c n sc ρ l [d]) (hr : EvR c n sc ρ r (.int k)) (hk : k ≤ 100000) : Ev c n sc ρ (.BinOp l .Mult r pos) (.lst (List.replicate k d)) := fun A env pins F P s R ok S => by
  refine wpAny_BinOp (wpAny_mono (hl A env pins F P s R ok S) (fun v s₁ hp15 => ?_) fun _ _ x => x)
  obtain ⟨F₁, a, G₁, X₁, e1, e2, e3, L₁⟩ := hp15
  subst e1
  refine wpAny_mono (hr A env pins F₁ P s₁ R ok (S.grow G₁)) (fun w s₂ hp16 => ?_) fun _ _ x => x
  obtain ⟨F₂, G₂, X₂, r₂⟩ := hp16
  obtain ⟨t, rfl⟩ := r₂.int
  obtain ⟨vs, ⟨m, p⟩, rr⟩ := L₁
  have p₂ := G₂.keep _ _ p
  obtain ⟨vl⟩ := vs
  simp only at rr
  cases rr with
  | @cons _ v0 _ _ r0 rr =>
    cases rr
    have hz : (#[v0] : Array Value).size * ((k : Int)).toNat ≤ 100000 := by simp; exact hk
    refine mul_any p₂ (by omega) (by omega) (Nat.le_trans hz (by decide)) ?_
    have L₂ := (S.grow G₁).grow G₂
    refine Gives.after (G₁.trans G₂) (X₁.trans X₂) (Gives.newList (k := s₂.toks) L₂.le ?_)
    have : (if (#[v0] : Array Value).isEmpty = true then 0 else ((k : Int)).toNat) = k := by simp
    rw [this, fold_one]
    exact RdL.rep (r0.mono G₂.fle) k
/-- a + b, a new list -/
theorem EvNew_addL {l r : Expr} {pos : Pos} {xs ys : List D} (hl : EvR c n sc ρ l (.lst xs)) (hr : EvR c n sc ρ r (.lst ys)) (hz : xs.length + ys.length ≤ 100000) : EvNew c n sc ρ (.BinOp l .Add r pos) (xs ++ ys) := fun A env pins F P s R ok S => by
  refine wpAny_BinOp (wpAny_mono (hl A env pins F P s R ok S) (fun v s₁ hp17 => ?_) fun _ _ x => x)
  obtain ⟨F₁, G₁, X₁, ra⟩ := hp17
  refine wpAny_mono (hr A env pins F₁ P s₁ R ok (S.grow G₁)) (fun w s₂ hp18 => ?_) fun _ _ x => x
  obtain ⟨F₂, G₂, X₂, rb⟩ := hp18
  have S₂ := (S.grow G₁).grow G₂
  obtain ⟨a, vs, rfl, ⟨⟨cls, dd, data, sl⟩, ho, hc, k, hd⟩, r⟩ := (ra.mono G₂.keep G₂.fle).lst S₂.le
  obtain ⟨b, ws, rfl, ⟨⟨cls2, dd2, data2, sl2⟩, ho2, hc2, k2, hd2⟩, r2⟩ := rb.lst S₂.le
  simp only at hc hd hc2 hd2
  subst hc hd hc2 hd2
  have e1 : vs.size = xs.length := by rw [← Array.length_toList]; exact r.length
  have e2 : ws.size = ys.length := by rw [← Array.length_toList]; exact r2.length
  have hz : vs.size + ws.size ≤ sizeLine := by
    have e : sizeLine = 16777216 := by decide
    omega
  refine concat_meets (T := "list") (id := "list.__add__") ⟨_, ho, rfl⟩ ⟨_, ho2, rfl⟩ noFill_list_add seq_list_add PySem.F.slot_list_add PySem.F.entry_list_add (PySem.F.args_list_add_2 _ _) (list_addW a b vs ws k k2 dd dd2 sl sl2 hz) ⟨ho, ho2, ?_⟩
  have G := G₁.trans G₂
  refine ⟨F₂, s₂.heap.objs.size, ⟨G.fle, G.new, fun a o e => Heap.get?_push_of_some _ (G.keep a o e), fun a o e => Heap.get?_push_of_some _ (G.le a o e), ?_⟩, X₁.trans (X₂.trans ⟨_, _, rfl⟩), rfl, G.size, none_of_le G.le (Nat.le_refl _), ⟨_, ⟨0, Heap.get?_push_size _ rfl⟩, by rw [Array.toList_append]; exact r.append r2⟩⟩
  show s.heap.objs.size ≤ (s₂.heap.push _).objs.size
  rw [Heap.size_push]; exact Nat.le_succ_of_le G.size
/-- tuple(list) -/
theorem CallR.tupL {xs : List D} (hl : xs.length ≤ 100000) : CallR c (.type "tuple") [.lst xs] (.tup xs) := fun A F s vs R hb l r => by
  obtain ⟨v, e, q⟩ := r.one
  subst e
  obtain ⟨a, ws, rfl, ho, rr⟩ := q.lst l
  have e1 : ws.size = xs.length := by rw [← Array.length_toList]; exact rr.length
  have W := wpAny_new (wpAny_mono (wpAny_sz (Nat.le_refl s.heap.objs.size) (call_tuple_list (prog := c.prog) (w := c.w) (A := A) (Q := fun v s' => ∃ h' : Heap, Fle s.heap.get? h'.get? ∧ v = .ref h'.objs.size ∧ s' = { s with heap := h'.push { cls := .type "tuple", data := .seq ws } }) (E := fun _ _ => False) ho (fun h' hk => ⟨h', hk, rfl, rfl⟩) (by
    have e : sizeLine = 16777216 := by decide
    omega))) (fun _ _ q => q) fun _ _ x => x.2)
  refine wpAny_mono W (fun v s' hp19 => ?_) fun _ _ x => x
  obtain ⟨nw, z, h', hk, e, e'⟩ := hp19
  subst e e'
  have k2 : Fle s.heap.get? (h'.push { cls := .type "tuple", data := .seq ws }).get? := fun b o e => Heap.get?_push_of_some _ (hk b o e)
  have hat : (h'.push { cls := .type "tuple", data := .seq ws }).get? h'.objs.size = some { cls := .type "tuple", data := .seq ws } := Heap.get?_push_size h' rfl
  have hn : s.heap.get? h'.objs.size = none := by
    cases e : s.heap.get? h'.objs.size with
    | none => rfl
    | some o => exact absurd (Heap.lt_size (hk _ _ e)) (Nat.lt_irrefl _)
  have hsz := nw h'.objs.size hn (by rw [hat]; exact fun z => nomatch z)
  have hF : F h'.objs.size = none := none_of_le l hsz
  refine ⟨F.ins h'.objs.size { cls := .type "tuple", data := .seq ws }, ⟨Fz.ins_le hF, fun b o e => ?_, k2, fun b o e => ?_, z⟩, ⟨_, _, rfl⟩, .tup (Fz.ins_self _ _ _) rfl rfl (rr.mono (Fz.ins_le hF))⟩
  · unfold Fz.ins at e
    by_cases q : b = h'.objs.size
    · subst q; exact .inr hsz
    · rw [if_neg q] at e; exact .inl e
  · unfold Fz.ins at e
    by_cases q : b = h'.objs.size
    · rw [if_pos q] at e; cases e; rw [q]; exact hat
    · rw [if_neg q] at e; exact k2 b o (l b o e)
end Mine
end

section
open PySem PySem.Calls PyProof.Rows PySem.W
set_option maxRecDepth 100000
set_option linter.unusedVariables false
namespace Mine
variable {c : Cx} {n : Nat} {sc : Scope} {pn : List Str} {ρ : Vars}
theorem slot_search : PySem.Slot "re.Pattern" "search" "re.Pattern.search" :=
  .of (owner := "re.Pattern") (n := "search") (by rw [typeLookup_type, builtinLookup_eq_fast]; kernel_rfl) (by decide +kernel) (by decide +kernel) (by decide +kernel)
    (by first | exact .inl (by decide +kernel) | exact .inr (by decide +kernel)) (by rw [isSubtype_type]; kernel_rfl)
theorem type_search : typeOf (.builtin "re.Pattern.search") = pure (.type "method_descriptor") := by show builtinType _ = _; rw [builtinType_eq_fast]; kernel_rfl
theorem entry_search : entryFor table "re.Pattern.search" = some Builtin.«re.Pattern.search» := entryFor_of_tree (by kernel_rfl)
theorem args_search (a b : Value) : argsOk "re.Pattern.search" ⟨[a, b], []⟩ := by
  unfold argsOk; kernel_rfl
theorem plain_re : PlainAttrs "re.Pattern" :=
  ⟨⟨"object.__getattribute__", by rw [typeLookup_type, builtinLookup_eq_fast]; kernel_rfl, by decide +kernel⟩, by rw [typeLookup_type, builtinLookup_eq_fast]; kernel_rfl⟩

/-- a pattern's code, as its object holds it -/
noncomputable def codeOf (items : Array Value) : Array Nat := (items.map Builtin.Re.reRawOf).map (·.toNat)
/-- the pattern is nowhere in x -/
noncomputable def missB (code : Array Nat) (x : Str) : Bool := match (Sre.M.runFor Builtin.Re.reTurnSteps (Sre.forSearch code x.cps 0 0 x.cps.size false)).outcome with
  | some .failed => true
  | _ => false
/-- a pattern that stands in the heap -/
structure PatAt (h : Heap) (P : Addr) (code : Array Nat) : Prop where
  ex : ∃ o fs T oT items m, h.get? P = some o ∧ o.cls = .type "re.Pattern" ∧ o.dict = none ∧ o.data = .fields fs ∧ Builtin.Re.reRawNat (fs.getD 6 .none) = 0 ∧ Builtin.Re.reRawNat (fs.getD 2 .none) = 0 ∧ fs.getD 5 .none = .ref T ∧ h.get? T = some oT ∧ oT.data = .seq items m ∧ code = codeOf items
theorem PatAt.keeps {h h' : Heap} {P : Addr} {code : Array Nat} (x : PatAt h P code) (k : Fle h.get? h'.get?) : PatAt h' P code := by
  obtain ⟨o, fs, T, oT, items, m, e1, e2, e3, e4, e5, e6, e7, e8, e9⟩ := x
  exact ⟨o, fs, T, oT, items, m, k _ _ e1, e2, e3, e4, e5, e6, e7, k _ _ e8, e9⟩

section
variable {prog : Program} {w : World} {A : Around} {E : Value → Shared → Prop} {s : Shared}
theorem rules_loop (p : Nat → Bool) (f : Nat → String) : ∀ (l : List Nat) {Q : PUnit → Shared → Prop}, Q ⟨⟩ s → wpAny (model prog w) A (forIn l PUnit.unit (fun i _ => (do
    if p i = true then
      rule (f i)
    pure (ForInStep.yield PUnit.unit) : Sem (ForInStep PUnit)))) Q E s
  | [], Q, h => wpAny_pure h
  | i :: r, Q, h => by
    rw [List.forIn_cons]
    refine wpAny_bind ?_
    cases p i with
    | true => exact wpAny_bind (wpAny_rule (wpAny_pure (rules_loop p f r h)))
    | false => exact wpAny_pure (rules_loop p f r h)
theorem run_miss {code : Array Nat} {x : Str} {Q : Option Sre.M → Shared → Prop} (hm : missB code x = true) (q : Q none s) : wpAny (model prog w) A (Builtin.Re.reRunToEnd (Sre.forSearch code x.cps 0 0 x.cps.size false)) Q E s := by
  unfold Builtin.Re.reRunToEnd
  obtain ⟨t, ht⟩ : ∃ t, 2 ^ 64 = t + 1 := ⟨2 ^ 64 - 1, by decide⟩
  rw [ht]
  unfold missB at hm
  unfold Builtin.Re.reDrive
  generalize Sre.M.runFor Builtin.Re.reTurnSteps (Sre.forSearch code x.cps 0 0 x.cps.size false) = m at hm
  dsimp only
  have ho : m.outcome = some .failed := by
    revert hm
    cases m.outcome with
    | none => exact fun z => nomatch z
    | some o => cases o <;> first | exact fun _ => rfl | exact fun z => nomatch z
  rw [ho]
  refine wpAny_bind (wpAny_pure (wpAny_bind (rules_loop _ _ _ ?_)))
  rw [ho]
  exact wpAny_pure q
theorem call_search {P : Addr} {code : Array Nat} {x : Str} {t : Tok} {Q : Value → Shared → Prop} (hP : PatAt s.heap P code) (hm : missB code x = true) (hz : x.cps.size ≤ 1000) (q : Q .none s) : wpAny (model prog w) A (call (.builtin "re.Pattern.search") [.ref P, .str x t]) Q E s := by
  obtain ⟨o, fs, T, oT, items, m, e1, e2, e3, e4, e5, e6, e7, e8, e9, e10⟩ := hP
  refine wpAny_call_entry slot_search ⟨_, e1, e2⟩ entry_search ?_ (args_search _ _)
  unfold Builtin.«re.Pattern.search» Builtin.Re.reTarget
  refine wpAny_bind ?_
  dsimp only
  refine wpAny_bind (m := Builtin.Re.reNamed "re.Pattern.search" "search" ["string", "pos", "endpos"] 1 [.str x t] []) (wpAny_of_eq (show _ = pure [some (.str x t), none, none] from by kernel_rfl) ?_)
  dsimp only
  refine wpAny_bind (wpAny_pure (wpAny_bind (wpAny_pure (wpAny_bind (wpAny_fieldsOf e1 e4 ?_)))))
  refine wpAny_bind (m := Builtin.Re.reTextOf (.str x t)) (wpAny_pure ?_)
  rw [e5, e6, e7, if_neg (by simp), if_neg (by simp)]
  refine wpAny_bind (m := Builtin.Re.reNoCollectionInside (.str x t) 0) (wpAny_pure ?_)
  refine wpAny_bind (m := Builtin.Re.reRawItems (.ref T)) ?_
  unfold Builtin.Re.reRawItems
  refine wpAny_bind (wpAny_seqItems e8 e9 (wpAny_pure (wpAny_pure ?_)))
  have hl : min ((2 ^ 63 - 1 : Int)).toNat x.cps.size = x.cps.size := Nat.min_eq_right (by omega)
  unfold Builtin.Re.reAnswer
  dsimp only
  rw [hl]
  subst e10
  exact wpAny_bind (run_miss hm (wpAny_pure ⟨_, rfl, q⟩))
end
/-- pat.search(x) is None, for a test -/
theorem Te_search {r a : Expr} {apos pos : Pos} {P : Addr} {code : Array Nat} {x : Str} (hc : c.Ok) (hr : ∀ A env pins F P' s, Room n A → EnvOk env sc → St c env pins ρ F P' s.heap → wpAny (model c.prog c.w) A (eval r env) (fun v s' => v = .ref P ∧ Fle s.heap.get? s'.heap.get? ∧ ∃ F', Grow F s.heap F' s'.heap ∧ Same s s') (fun _ _ => False) s) (hP : PatAt c.hB P code) (ha : Ev c n sc ρ a (.str x)) (hm : missB code x = true) (hz : x.cps.size ≤ 1000) (hp : plainArg a = true := by rfl) (hM : MethAt r "search" apos [a] pos := by exact fun _ => ⟨_, rfl⟩) :
    Ev c n sc ρ (.Call (.Attribute r "search" apos) [a] [] pos) .none := fun A env pins F P' s R ok S => by
  refine meth_open hM (wpAny_mono (hr A env pins F P' s R ok S) (fun v s₁ hp1 pl => ?_) fun _ _ x => x)
  obtain ⟨e, k₁, F₁, G₁, X₁⟩ := hp1
  subst e
  have S₁ := S.grow G₁
  obtain ⟨o, fs, T, oT, items, m, e1, e2, e3, e4, er⟩ := hP.keeps S₁.keep
  refine getMethod_builtin ⟨_, e1, e2⟩ plain_re slot_search type_search (fun b q => by cases q; exact ⟨_, e1, e3⟩) ?_
  refine callWith_val (starFalse (by simp [hp])) (fun b q => by cases q) ?_
  rw [starEach_plain hp]
  refine spliced_cons (wpAny_mono (ha A env pins F₁ P' s₁ R ok S₁) (fun va s₂ hp2 => ?_) fun _ _ x => x)
  obtain ⟨F₂, G₂, X₂, r₂⟩ := hp2
  refine spliced_nil ?_
  cases r₂ with
  | str _ t => exact call_search (hP.keeps (S₁.grow G₂).keep) hm hz ⟨F₂, G₁.trans G₂, X₁.trans X₂, .none⟩
end Mine
end

section
open PySem PySem.Calls PyProof.Rows PySem.W
set_option maxRecDepth 100000
set_option linter.unusedVariables false
namespace Mine
variable {c : Cx} {n : Nat} {sc : Scope} {pn : List Str} {ρ : Vars}

/-! values that are no data -/
variable (c n sc ρ) in
noncomputable def EvV (e : Expr) (v0 : Value) : Prop := ∀ A env pins F P s, Room n A → EnvOk env sc → St c env pins ρ F P s.heap → wpAny (model c.prog c.w) A (eval e env) (fun v s' => v = v0 ∧ ∃ F', Grow F s.heap F' s'.heap ∧ Same s s') (fun _ _ => False) s
theorem EvV_glob {x : Str} {p : Pos} {v : Value} (hc : c.Ok) (hg : Glb c x v) (hi : isGlb sc x = true) : EvV c n sc ρ (.Name x p) v := fun A env pins F P s R ok S =>
  load_glob hc ok S.keep hi hg ⟨rfl, F, .refl S.le, .refl s⟩
/-- a datum's type -/
noncomputable def D.ty : D → Option String
  | .str _ => some "str"
  | .lst _ => some "list"
  | _ => Option.none
theorem Rd1.ty {s : Shared} {F : Fz} {d : D} {v : Value} {T : String} (r : Rd1 s.heap F d v) (l : Fle F s.heap.get?) (h : d.ty = some T) : s.TypeIs v T := by
  cases d with
  | str x => cases h; obtain ⟨t, rfl⟩ := r.str; exact typeIs_str s x t
  | lst xs => cases h; obtain ⟨a, vs, rfl, i, _⟩ := r.lst l; exact i.typeIs
  | _ => cases h
theorem EvV_type {e : Expr} {p pos : Pos} {d : D} {T : String} (hc : c.Ok) (hg : Glb c "type" (.type "type")) (hi : isGlb sc "type" = true) (he : EvR c n sc ρ e d) (ht : d.ty = some T) (hp : plainArg e = true := by rfl) : EvV c n sc ρ (.Call (.Name "type" p) [e] [] pos) (.type T) := fun A env pins F P s R ok S => by
  refine wpAny_Call_Name_kw (load_glob hc ok S.keep hi hg ?_)
  show wpAny _ _ (callWith pos (.type "type") [] (backTo pos (starEach [e] env)) []) _ _ _
  refine callWith_val (starFalse (by simp [hp])) nofun ?_
  rw [starEach_plain hp]
  refine spliced_cons (wpAny_mono (he A env pins F P s R ok S) (fun v s₁ hp1 => ?_) fun _ _ x => x)
  obtain ⟨F₁, G₁, X₁, r₁⟩ := hp1
  refine spliced_nil ?_
  refine call_type_of (r₁.ty G₁.le ht) ?_ ⟨rfl, F₁, G₁, X₁⟩
  cases d with
  | str x => cases ht; decide
  | lst xs => cases ht; decide
  | _ => cases ht
theorem Te_is {l r : Expr} {pos : Pos} {a b : Value} (hl : EvV c n sc ρ l a) (hr : EvV c n sc ρ r b) (hpl : PySem.plainIs a b = true) (hm : behindInMarks .Is r = false := by rfl) : Te c n sc ρ (.Compare l [.Is] [r] pos) (a == b) := fun A env pins F P s R ok S => by
  refine wpAny_isTrue_Compare1 (wpAny_mono (hl A env pins F P s R ok S) (fun v s₁ hp2 => ?_) fun _ _ x => x) hm
  obtain ⟨e, F₁, G₁, X₁⟩ := hp2
  subst e
  refine wpAny_mono (hr A env pins F₁ P s₁ R ok (S.grow G₁)) (fun w s₂ hp3 => ?_) fun _ _ x => x
  obtain ⟨e, F₂, G₂, X₂⟩ := hp3
  subst e
  exact wpAny_is_plain hpl (wpAny_truthy_bool ⟨rfl, F₂, G₁.trans G₂, X₁.trans X₂⟩)
theorem Te_isNot {l r : Expr} {pos : Pos} {a b : Value} (hl : EvV c n sc ρ l a) (hr : EvV c n sc ρ r b) (hpl : PySem.plainIs a b = true) (hm : behindInMarks .IsNot r = false := by rfl) : Te c n sc ρ (.Compare l [.IsNot] [r] pos) (!(a == b)) := fun A env pins F P s R ok S => by
  refine wpAny_isTrue_Compare1 (wpAny_mono (hl A env pins F P s R ok S) (fun v s₁ hp4 => ?_) fun _ _ x => x) hm
  obtain ⟨e, F₁, G₁, X₁⟩ := hp4
  subst e
  refine wpAny_mono (hr A env pins F₁ P s₁ R ok (S.grow G₁)) (fun w s₂ hp5 => ?_) fun _ _ x => x
  obtain ⟨e, F₂, G₂, X₂⟩ := hp5
  subst e
  exact wpAny_isNot_plain hpl (wpAny_truthy_bool ⟨rfl, F₂, G₁.trans G₂, X₁.trans X₂⟩)
/-- a global object of the program's own, as a value -/
theorem Ev_opq {x : Str} {p : Pos} {a : Addr} {o : Obj} (hc : c.Ok) (hg : Glb c x (.ref a)) (hi : isGlb sc x = true) (ho : c.hB.get? a = some o) : Ev c n sc ρ (.Name x p) (.opq a) := fun A env pins F P s R ok S =>
  load_glob hc ok S.keep hi hg (.now S.le (.opq (S.base _ _ ho)))
theorem EvV_opq {x : Str} {p : Pos} {a : Addr} (hx : ρ.lookup x = some (.val (.opq a))) (hl : isLoc sc x = true) : EvV c n sc ρ (.Name x p) (.ref a) := fun A env pins F P s R ok S =>
  wpAny_mono (Ev_name hx hl A env pins F P s R ok S) (fun v s' hp6 => by obtain ⟨F', G, X, r⟩ := hp6; cases r; exact ⟨rfl, F', G, X⟩) fun _ _ x => x
theorem Ev_search {r a : Expr} {apos pos : Pos} {P : Addr} {code : Array Nat} {x : Str} (hc : c.Ok) (hr : EvV c n sc ρ r (.ref P)) (hP : PatAt c.hB P code) (ha : Ev c n sc ρ a (.str x)) (hm : missB code x = true) (hz : x.cps.size ≤ 1000) (hp : plainArg a = true := by rfl) (hM : MethAt r "search" apos [a] pos := by exact fun _ => ⟨_, rfl⟩) :
    Ev c n sc ρ (.Call (.Attribute r "search" apos) [a] [] pos) .none :=
  Te_search hc (fun A env pins F P' s R ok S => wpAny_mono (hr A env pins F P' s R ok S) (fun v s' hp7 => by obtain ⟨e, F', G, X⟩ := hp7; exact ⟨e, G.keep, F', G, X⟩) fun _ _ x => x) hP ha hm hz hp hM
theorem Tru.none : Tru c .none false := fun A F s va R hb l ra => by
  have := ra.none; subst this
  exact truthy_none ⟨rfl, F, .refl l, .refl s⟩

/-- a run whose slots are all data -/
theorem run_val {A : Around} {s : Shared} {fa : Addr} {fd : FuncData} {body : List Stmt} {args : Args} {binds : List (Str × Value)} {ρ0 ρ' : Vars} {fl : Fl} {F : Fz} (hc : c.Ok) (D : DefAt c fa fd body sc) (hs : scOk sc (binds.map (·.1)) = true) (R : Room (n + 1) A) (hb : Fle c.hB.get? F) (l : Fle F s.heap.get?)
    (hbind : ∀ (A' : Around) (E : Value → Shared → Prop) (Q : List (Str × Value) → Shared → Prop), Q binds s → wpAny (model c.prog c.w) A' (bindArgs fd args) Q E s)
    (own : ∀ x sl, ρ0.lookup x = some sl → ∃ v, binds.lookup x = some v ∧ Own s.heap F sl v []) (hfl : fl ≠ .brk ∧ fl ≠ .cont)
    (h : Ex c n sc [] ρ0 body fl ρ') : codeAny (model c.prog c.w) A (.call (.ref fa) args) (Ret fun v s₂ => Gives F s fl.res v s₂ ∧ ∀ d, fl = .retF d → ∃ a, v = .ref a ∧ s.heap.objs.size ≤ a) s :=
  codeRet_mono (run_fn (pins := []) (fp := fun _ => []) hc D hs R hb l (.refl _) (.refl s) hbind own (fun _ q => nomatch q) (fun _ _ _ _ q => nomatch q) (fun _ _ _ => .nil) (fun _ _ _ _ _ _ _ _ q => nomatch q) hfl h)
    fun v s₂ hp => by
      obtain ⟨F', z1, z2, z3, z4, z5, z6, ⟨env, P', S', z7⟩, z8⟩ := hp
      exact ⟨⟨F', ⟨z1, fun b o e => (z2 b o e).imp id fun q => q.elim (fun hp9 => by obtain ⟨_, _, _, q⟩ := hp9; exact nomatch q) id, fun b o e => z3 b o (fun hp10 => by obtain ⟨_, _, _, q⟩ := hp10; exact nomatch q) e, S'.le, z5⟩, z4, z6⟩, fun d e => by obtain ⟨a, e1, e2⟩ := z8 d e; exact ⟨a, e1, e2.elim (fun hp11 => by obtain ⟨_, _, _, q⟩ := hp11; exact nomatch q) id⟩⟩
/-! methods of texts -/
theorem StrM_open {o : Expr} {name : Str} {apos pos : Pos} {x y : Str} {id : String} (ho : Ev c n sc ρ o (.str x)) (slot : PySem.Slot "str" name id) (hty : typeOf (.builtin id) = pure (.type "method_descriptor"))
    (hcall : ∀ (A : Around) (s : Shared) (t : Tok) (Q : Value → Shared → Prop), (∀ t' k, Q (.str y t') { s with toks := k }) → wpAny (model c.prog c.w) A (call (.builtin id) [.str x t]) Q (fun _ _ => False) s) (hm : MethAt o name apos [] pos := by exact fun _ => ⟨_, rfl⟩) :
    Ev c n sc ρ (.Call (.Attribute o name apos) [] [] pos) (.str y) := fun A env pins F P s R ok S => by
  refine meth_open hm (wpAny_mono (ho A env pins F P s R ok S) (fun v s₁ hp12 pl => ?_) fun _ _ x => x)
  obtain ⟨F₁, G₁, X₁, r₁⟩ := hp12
  cases r₁ with
  | str _ t =>
    refine getMethod_builtin (typeIs_str s₁ x t) PySem.F.plainAttrs_str slot hty (fun b q => nomatch q) ?_
    refine callWith_val (starFalse rfl) nofun ?_
    refine spliced_nil ?_
    exact hcall A s₁ t _ fun t' k => ⟨F₁, ⟨G₁.fle, G₁.new, G₁.keep, G₁.le, G₁.size⟩, X₁.trans ⟨_, _, rfl⟩, .str y t'⟩
theorem Ev_lower {o : Expr} {apos pos : Pos} {x : Str} (ho : Ev c n sc ρ o (.str x)) (hz : x.length ≤ 1000) (hm : MethAt o "lower" apos [] pos := by exact fun _ => ⟨_, rfl⟩) : Ev c n sc ρ (.Call (.Attribute o "lower" apos) [] [] pos) (.str (Txt.lower x)) :=
  StrM_open ho PySem.F.slot_str_lower PySem.F.type_str_lower (fun A s t Q q => SCL.lower (Nat.le_trans hz (by decide)) fun _ => q _ _) hm
theorem Ev_upper {o : Expr} {apos pos : Pos} {x : Str} (ho : Ev c n sc ρ o (.str x)) (hz : x.length ≤ 1000) (hm : MethAt o "upper" apos [] pos := by exact fun _ => ⟨_, rfl⟩) : Ev c n sc ρ (.Call (.Attribute o "upper" apos) [] [] pos) (.str (Txt.upper x)) :=
  StrM_open ho PySem.F.slot_str_upper PySem.F.type_str_upper (fun A s t Q q => SCL.upper (Nat.le_trans hz (by decide)) fun _ => q _ _) hm
/-- '; '.join(parts), one part -/
theorem Ev_join1 {o a : Expr} {apos pos : Pos} {x y : Str} (ho : Ev c n sc ρ o (.str x)) (ha : EvR c n sc ρ a (.lst [.str y])) (hz : y.length ≤ 1000) (hx : x.length ≤ 1000) (hp : plainArg a = true := by rfl) (hm : MethAt o "join" apos [a] pos := by exact fun _ => ⟨_, rfl⟩) : Ev c n sc ρ (.Call (.Attribute o "join" apos) [a] [] pos) (.str y) := fun A env pins F P s R ok S => by
  refine meth_open hm (wpAny_mono (ho A env pins F P s R ok S) (fun v s₁ hp13 pl => ?_) fun _ _ x => x)
  obtain ⟨F₁, G₁, X₁, r₁⟩ := hp13
  cases r₁ with
  | str _ t =>
    refine getMethod_builtin (typeIs_str s₁ x t) PySem.F.plainAttrs_str PySem.F.slot_str_join PySem.F.type_str_join (fun b q => nomatch q) ?_
    refine callWith_val (starFalse (by simp [hp])) nofun ?_
    rw [starEach_plain hp]
    refine spliced_cons (wpAny_mono (ha A env pins F₁ P s₁ R ok (S.grow G₁)) (fun va s₂ hp14 => ?_) fun _ _ x => x)
    obtain ⟨F₂, G₂, X₂, r₂⟩ := hp14
    refine spliced_nil ?_
    obtain ⟨b, vs, rfl, i, rr⟩ := r₂.lst G₂.le
    have hi : StrsAre vs.toList [y] := by
      generalize vs.toList = l at rr
      cases rr with
      | cons r0 rr => cases rr; cases r0 with | str _ u => exact .cons _ _ .nil
    refine join_list i hi (by simp; omega) fun t' k => ?_
    have G := G₁.trans G₂
    exact ⟨F₂, ⟨G.fle, G.new, G.keep, G.le, G.size⟩, X₁.trans (X₂.trans ⟨_, _, rfl⟩), .str y t'⟩

/-! own header tables -/
noncomputable def D.flat : D → Bool
  | .none | .bool _ | .int _ | .str _ => true
  | _ => false
theorem Rd.flat {F G : Fz} {d : D} {v : Value} (r : Rd F d v) (h : d.flat = true) : Rd G d v := by
  cases r <;> first | cases h | skip
  · exact .none
  · exact .bool _
  · exact .int _ _
  · exact .str _ _
theorem RdL.flat {F G : Fz} {ds : List D} {vs : List Value} (r : RdL F ds vs) : (∀ d ∈ ds, d.flat = true) → RdL G ds vs :=
  RdL.ind (P := fun ds vs => (∀ d ∈ ds, d.flat = true) → RdL G ds vs) (fun _ => .nil) (fun a _ ih h => .cons (a.flat (h _ (.head _))) (ih fun d hd => h d (.tail _ hd))) r
noncomputable def hdrF (xs : List D) : List (Str × D) := [("_headers", .lst xs)]
/-- return a new list -/
theorem ExS_returnNew {e : Expr} {pos : Pos} {xs : List D} (h : EvNew c n sc ρ e xs) : ExS c n sc pn ρ (.Return (some e) pos) (.retF (.lst xs)) ρ := fun A env pins F P s R ok hp S =>
  wpAny_Return_some (wpAny_mono (h A env pins F P s R ok S) (fun v s' hp19 => by
    obtain ⟨F', a, G, X, e1, e2, e3, l⟩ := hp19
    subst e1
    have hPa : ¬ P a := fun q => Nat.not_lt.mpr e2 (S.lt q)
    obtain ⟨vs, ⟨m, hl⟩, q⟩ := l
    have g := Fz.ins_le (o := { cls := .type "list", data := .seq vs m }) e3
    have G' : Grow F s.heap (F'.ins a { cls := .type "list", data := .seq vs m }) s'.heap := ⟨G.fle.trans g, fun b o e => by
      unfold Fz.ins at e
      by_cases h1 : b = a
      · subst h1; exact .inr e2
      · rw [if_neg h1] at e; exact G.new b o e, G.keep, fun b o e => by
      unfold Fz.ins at e
      by_cases h1 : b = a
      · subst h1; rw [if_pos rfl] at e; cases e; exact hl
      · rw [if_neg h1] at e; exact G.le b o e, G.size⟩
    exact ⟨_, P, G'.step, X, S.grow G', .retF (.lst (Fz.ins_self _ _ _) rfl rfl (q.mono g)) (.inr e2)⟩) fun _ _ x => x)
end Mine
end

section
open PySem PySem.Calls PyProof.Rows PySem.W
set_option maxRecDepth 100000
set_option linter.unusedVariables false
namespace Mine
variable {c : Cx} {n : Nat} {sc : Scope} {pn : List Str} {ρ : Vars}

/-- self._headers.append(e) -/
theorem EvX_hdrAppend {x : Str} {p ap apos pos : Pos} {e : Expr} {C : Addr} {xs : List D} {d : D} (hc : c.Ok) (hC : ClsK c C) (hn : findIn c.K (.ref C) "_headers" = some none) (hx : ρ.lookup x = some (.hdr C xs)) (hl : isLoc sc x = true) (he : Ev c n sc ρ e d) (hz : xs.length ≤ 100000) (hp : plainArg e = true := by rfl) (hm : MethAt (.Attribute (.Name x p) "_headers" ap) "append" apos [e] pos := by exact fun _ => ⟨_, rfl⟩) (hma : AtrAt (.Name x p) "_headers" ap := by exact fun _ => rfl) :
    EvX c n sc pn ρ (.Call (.Attribute (.Attribute (.Name x p) "_headers" ap) "append" apos) [e] [] pos) .none (Vars.put ρ x (.hdr C (xs ++ [d]))) := fun A env pins F P s R ok hpn S => by
  have S0 := S
  obtain ⟨vm, fp, S⟩ := S
  obtain ⟨a, dx, l, od, es, k, hv, hfp, h1, h2, hdd, hk, z, r, q⟩ := S.hdr hx
  refine meth_open hm (Attribute_any_ (load_var (h := s.heap) ok S.sto hl hv ?_) (hma env))
  refine get_field (hc.at_ S0.keep) hC (S.le _ _ h1) (S.le _ _ h2) hdd hn z rfl fun pl => ?_
  obtain ⟨vs, pp, rr⟩ := q
  refine listMethod (s := { s with toks := s.toks + 1 }) pp PySem.F.slot_list_append PySem.F.type_list_append ?_
  refine callWith_val (by rw [starEach_plain hp]; rfl) (fun b q => by cases q) ?_
  rw [starEach_plain hp]
  refine spliced_cons (wpAny_mono (he A env pins F P { s with toks := s.toks + 1 } R ok S0) (fun v s₁ hp1 => ?_) fun _ _ x => x)
  obtain ⟨F₁, G₁, X₁, r₁⟩ := hp1
  refine spliced_nil ?_
  have S₁ := S.grow G₁
  have pp₁ : s₁.heap.PlainList l vs := pp.at (G₁.keep l)
  show wpAny _ _ (call (.builtin "list.append") [.ref l, v]) _ _ _
  have hsz : vs.size ≤ sizeLine := by
    have e1 : vs.size = xs.length := by rw [← Array.length_toList]; exact rr.length
    have e2 : sizeLine = 16777216 := by decide
    omega
  refine wpAny_list_append_plain pp₁ (fun h' pl' sb => ?_) hsz
  have hm₁ : l ∈ fp x := by rw [hfp]; exact .head _
  have O : Own h' F₁ (.hdr C (xs ++ [d])) (.ref a) (fp x) := by
    rw [hfp]; exact .hdr (G₁.fle _ _ h1) (G₁.fle _ _ h2) hdd hk z r ⟨_, pl', by rw [Array.toList_push]; exact (rr.mono G₁.fle).snoc r₁⟩
  have X₁' : Same s s₁ := Same.trans ⟨_, _, rfl⟩ X₁
  exact ⟨F₁, P, G₁.step.trans (S₁.turnStep hx hm₁ sb), X₁'.trans ⟨_, _, rfl⟩, ⟨vm, fp, S₁.turn hx hv O hm₁ sb⟩, .none⟩

/-- a call that lengthens a table -/
noncomputable def FnH (c : Cx) (n : Nat) (fv : Value) (C : Addr) (xs ds xs' : List D) : Prop := ∀ A F s x l vs, Room n A → Fle c.hB.get? F → Fle F s.heap.get? → Own s.heap F (.hdr C xs) (.ref x) [l] → F l = none → RdL F ds vs →
  wpAny (model c.prog c.w) A (call fv (.ref x :: vs) []) (fun v s' => v = .none ∧ ∃ F', Fle F F' ∧ (∀ b o, F' b = some o → F b = some o ∨ s.heap.objs.size ≤ b) ∧ (∀ b o, b ≠ l → s.heap.get? b = some o → s'.heap.get? b = some o) ∧ Fle F' s'.heap.get? ∧ F' l = none ∧ Own s'.heap F' (.hdr C xs') (.ref x) [l] ∧ Same s s' ∧ s.heap.objs.size ≤ s'.heap.objs.size) (fun _ _ => False) s
theorem EvX_callHdr {x name : Str} {p apos pos : Pos} {args : List Expr} {C f : Addr} {xs xs' ds : List D} (hc : c.Ok) (hM : MethK c C name f) (h : FnH c n (.ref f) C xs ds xs') (hnn : name ≠ "_headers") (hx : ρ.lookup x = some (.hdr C xs)) (hl : isLoc sc x = true) (ha : EvL c n sc ρ args ds) (hp : args.all plainArg = true := by rfl) (hm : MethAt (.Name x p) name apos args pos := by exact fun _ => ⟨_, rfl⟩) :
    EvX c n sc pn ρ (.Call (.Attribute (.Name x p) name apos) args [] pos) .none (Vars.put ρ x (.hdr C xs')) := fun A env pins F P s R ok hpn S => by
  have S0 := S
  obtain ⟨vm, fp, S⟩ := S
  obtain ⟨a, dx, l, od, es, k, hv, hf, h1, h2, hdd, hk, z, r, q⟩ := S.hdr hx
  refine meth_open hm (load_var (h := s.heap) ok S.sto hl hv fun pl => ?_)
  refine get_meth (hc.at_ S0.keep) hM (S.le _ _ h1) (S.le _ _ h2) hdd hk (r _ hnn) ?_
  refine callWith_of (P := c.K.In) (by rw [Bool.or_eq_false_iff]; exact ⟨starFalse hp, rfl⟩) (keeps_K hM.keep) (evalArgs_any (starFalse hp) (wpAny_mono (ha A env pins F P s R ok S0 pos) (fun vs s₁ hp2 => ?_) fun _ _ x => x))
  obtain ⟨F₁, G₁, X₁, r₁⟩ := hp2
  have S₁ := S.grow G₁
  refine ⟨hc.at_ (S0.grow G₁).keep, ?_⟩
  have hmm : l ∈ fp x := by rw [hf]; exact .head _
  have hPa : P l := (S₁.mem l).mpr (.inr ⟨x, _, hx, hmm⟩)
  have O₁ : Own s₁.heap F₁ (.hdr C xs) (.ref a) [l] := .hdr (G₁.fle _ _ h1) (G₁.fle _ _ h2) hdd hk z r (q.mono (G₁.keep l) G₁.fle)
  refine wpAny_mono (h A F₁ s₁ a l vs R S₁.base G₁.le O₁ (S₁.out l hPa) r₁) (fun v s₂ hp3 => ?_) fun _ _ x => x
  obtain ⟨hvn, F₂, x1, x2, x3, x4, x5, x6, x7, x8⟩ := hp3
  refine ⟨F₂, P, G₁.step.trans ⟨x1, fun b o e => (x2 b o e).imp id .inr, fun b o q e => x3 b o (fun z => q (z ▸ hPa)) e, fun _ q => .inl q, x8⟩, X₁.trans x7, ⟨vm, fp, ?_⟩, by rw [hvn]; exact .none⟩
  have keepS : ∀ b o, b ∈ stor env → s₁.heap.get? b = some o → s₂.heap.get? b = some o := fun b o hb e => x3 b o (fun z => S.aparts x _ hx l hmm (z ▸ hb)) e
  have dom : ∀ y t, (Vars.put ρ x (.hdr C xs')).lookup y = some t → ∃ t', ρ.lookup y = some t' := fun y t e => by
    rw [lookup_put] at e
    by_cases hy : y = x
    · subst hy; exact ⟨_, hx⟩
    · rw [if_neg hy] at e; exact ⟨_, e⟩
  exact {
    base := S₁.base.trans x1
    le := x4
    sto := ⟨let ⟨m, q, e⟩ := S₁.sto.loc; ⟨m, q.at fun o e => keepS _ o (.head _) e, e⟩, fun y hy => let ⟨cc, e, ⟨o, i, j⟩⟩ := S₁.sto.cel y hy; ⟨cc, e, ⟨o, keepS _ _ (List.mem_cons_of_mem _ (List.mem_map_of_mem (f := (·.2)) (mem_of_lookup e))) i, j⟩⟩⟩
    own := fun y t e => by
      rw [lookup_put] at e
      by_cases hy : y = x
      · rw [if_pos hy] at e; cases e; subst hy; exact ⟨_, hv, by rw [hf]; exact x6⟩
      · rw [if_neg hy] at e
        obtain ⟨w, e1, o⟩ := S₁.own y t e
        exact ⟨w, e1, o.mono (fun b hb o e' => x3 b o (fun z => S.apart y t x _ e hx hy b hb (by rw [z]; exact hmm)) e') x1⟩
    pin := S₁.pin
    mem := fun b => by
      rw [S₁.mem]
      constructor
      · rintro (q | ⟨y, t, e, q⟩)
        · exact .inl q
        · by_cases hy : y = x
          · exact .inr ⟨y, .hdr C xs', by rw [lookup_put, if_pos hy], q⟩
          · exact .inr ⟨y, t, by rw [lookup_put, if_neg hy]; exact e, q⟩
      · rintro (q | ⟨y, t, e, q⟩)
        · exact .inl q
        · obtain ⟨t', e'⟩ := dom y t e; exact .inr ⟨y, t', e', q⟩
    lt := fun b q => Nat.lt_of_lt_of_le (S₁.lt b q) x8
    out := fun b q => by
      cases e : F₂ b with
      | none => rfl
      | some o =>
        rcases x2 b o e with z | z
        · rw [S₁.out b q] at z; cases z
        · exact absurd (S₁.lt b q) (Nat.not_lt.mpr z)
    nd := fun y t e => let ⟨t', e'⟩ := dom y t e; S₁.nd y t' e'
    apart := fun y t z u e e' => let ⟨t', q⟩ := dom y t e; let ⟨u', q'⟩ := dom z u e'; S₁.apart y t' z u' q q'
    aparts := fun y t e => let ⟨t', e'⟩ := dom y t e; S₁.aparts y t' e' }

/-- for k, v in params.items(), none there -/
theorem StV.dict0 {env : Env} {pins : Pins} {F : Fz} {P : Addr → Prop} {h : Heap} {vm : Str → Option Value} {fp : Str → List Addr} (S : StV c env pins ρ F P h vm fp) {x : Str} (hx : ρ.lookup x = some (.dict [])) : ∃ a, vm x = some (.ref a) ∧ fp x = [a] ∧ h.get? a = some emptyDict ∧ (a == sysModules) = false := by
  obtain ⟨v, e, o⟩ := S.own x _ hx
  generalize hq : fp x = as at o
  cases o with
  | dict0 a z => exact ⟨_, e, rfl, a, z⟩
theorem ExS_forItems0 {x : Str} {target : Expr} {p apos cpos pos : Pos} {body : List Stmt} (hx : ρ.lookup x = some (.dict [])) (hl : isLoc sc x = true) (hm : MethAt (.Name x p) "items" apos [] cpos := by exact fun _ => ⟨_, rfl⟩) (hf : ∀ env v, foldedSetIterable (.Call (.Attribute (.Name x p) "items" apos) [] [] cpos) env v = pure v := by intro _ _; rfl) :
    ExS c n sc pn ρ (.For target (.Call (.Attribute (.Name x p) "items" apos) [] [] cpos) body [] pos) .next ρ := fun A env pins F P s R ok hp S => by
  have S0 := S
  obtain ⟨vm, fp, S⟩ := S
  obtain ⟨a, hv, hfp, ha, hsys⟩ := S.dict0 hx
  have hat : s.heap.DictAt (PySem.strKind c.prog c.w) a ([] : List (Str × Value)) 0 := ⟨_, #[], ha, ⟨rfl, rfl, rfl⟩, rfl, fun e he => by simp at he, .nil, .nil⟩
  have halt : a < s.heap.objs.size := Heap.lt_size ha
  refine wpAny_For (meth_open hm (load_var (h := s.heap) ok S.sto hl hv fun pl => ?_)) (hf env)
  refine getMethod_builtin ⟨_, ha, rfl⟩ PySem.F.plainAttrs_dict PySem.F.slot_dict_items PySem.F.type_dict_items (fun b q => by cases q; exact ⟨_, ha, rfl⟩) ?_
  refine callWith_val (starFalse rfl) (fun b q => nomatch q) (spliced_nil ?_)
  have hof : s.heap.DictOf (PySem.strKind c.prog c.w) a ([] : List (Str × Value)) := ⟨_, #[], 0, ha, ⟨rfl, rfl, rfl⟩, rfl, fun e he => by simp at he, .nil, .nil⟩
  refine call_meetsIn PySem.F.slot_dict_items ⟨_, ha, rfl⟩ PySem.F.entry_dict_items (PySem.F.args_dict_items_1 _) (meets_dict_items (PySem.strKind c.prog c.w) a hsys) ⟨⟨[], hof⟩, ?_⟩
  have hv₁ : (s.heap.push { cls := .type "dict_items", data := .fields #[.ref a] }).IsItemsView s.heap.objs.size a := ⟨_, Heap.get?_push_size _ rfl, rfl, rfl⟩
  have ha₁ : (s.heap.push { cls := .type "dict_items", data := .fields #[.ref a] }).get? a = some emptyDict := Heap.get?_push_of_some _ ha
  have hat₁ : (s.heap.push { cls := .type "dict_items", data := .fields #[.ref a] }).DictAt (PySem.strKind c.prog c.w) a ([] : List (Str × Value)) 0 := ⟨_, #[], ha₁, ⟨rfl, rfl, rfl⟩, rfl, fun e he => by simp at he, .nil, .nil⟩
  refine wpAny_pyIter_items (s := { s with heap := s.heap.push { cls := .type "dict_items", data := .fields #[.ref a] } }) hv₁ hat₁ ?_
  have sz₁ : (s.heap.push { cls := .type "dict_items", data := .fields #[.ref a] }).objs.size = s.heap.objs.size + 1 := Heap.size_push ..
  generalize hs₂ : ({ s with heap := (s.heap.push { cls := .type "dict_items", data := .fields #[.ref a] }).push { cls := .type "dict_itemiterator", data := .fields #[.none, .bool false, .ref a, .int 0 0, .int ([] : List (Str × Value)).length 0, .int (0 : Nat) 0, .none, .none] } } : Shared) = s₂
  have k₂ : Fle s.heap.get? s₂.heap.get? := fun b o e => by subst hs₂; exact Heap.get?_push_of_some _ (Heap.get?_push_of_some _ e)
  have z₂ : s.heap.objs.size ≤ s₂.heap.objs.size := by subst hs₂; show _ ≤ ((s.heap.push _).push _).objs.size; rw [Heap.size_push, Heap.size_push]; omega
  have hit : IsItemIter s₂.heap (s.heap.objs.size + 1) a 0 ([] : List (Str × Value)).length 0 .none .none := by
    subst hs₂; rw [← sz₁]; exact Heap.get?_push_size _ rfl
  have hat₂ : s₂.heap.DictAt (PySem.strKind c.prog c.w) a ([] : List (Str × Value)) 0 := ⟨_, #[], k₂ _ _ ha, ⟨rfl, rfl, rfl⟩, rfl, fun e he => by simp at he, .nil, .nil⟩
  have X₂ : Same s s₂ := by subst hs₂; exact ⟨_, _, rfl⟩
  rw [sz₁]
  refine codeAny_forLoop_any (fun k s' => s' = s₂) ?_ 0 rfl
  rintro k s' e
  subst e
  refine wpAny_mono (wpAny_sz (Nat.le_refl s'.heap.objs.size) (wpAny_pyNext_items_end (Q := fun r t => r = Option.none ∧ Same s' t ∧ ∀ b o, b ≠ s.heap.objs.size + 1 → s'.heap.get? b = some o → t.heap.get? b = some o) (E := fun _ _ => False) R.1 hit hat₂ rfl fun h' hk => ⟨rfl, ⟨_, _, rfl⟩, hk⟩)) (fun r t hp4 => ?_) fun _ _ x => x.2.elim
  obtain ⟨z, e, X₃, k₃⟩ := hp4
  subst e
  have k₄ : Fle s.heap.get? t.heap.get? := fun b o e => k₃ b o (fun q => by have := Heap.lt_size e; rw [eqA q] at this; exact absurd this (Nat.not_lt.mpr (Nat.le_succ _))) (k₂ b o e)
  exact wpAny_execs_nil ⟨F, P, Step.ofKeep k₄ (Nat.le_trans z₂ z), X₂.trans X₃, S0.top k₄ (Nat.le_trans z₂ z), .next⟩
end Mine
end

section
open PySem PySem.Calls PyProof.Rows PySem.W
set_option maxRecDepth 100000
set_option linter.unusedVariables false
namespace Mine
variable {c : Cx} {n : Nat} {sc : Scope} {pn : List Str} {ρ : Vars}

theorem EvNew_IfExp {t a b : Expr} {pos : Pos} {x : Bool} {xs : List D} (ht : Te c n sc ρ t x) (ha : x = true → EvNew c n sc ρ a xs) (hb : x = false → EvNew c n sc ρ b xs) : EvNew c n sc ρ (.IfExp t a b pos) xs := fun A env pins F P s R ok S => by
  refine IfExp_ (wpAny_mono (ht A env pins F P s R ok S) (fun t s₁ hp1 => ?_) fun _ _ x => x)
  obtain ⟨e, F₁, G₁, X₁⟩ := hp1
  subst e
  have S₁ := S.grow G₁
  have fin : ∀ (v : Value) (s₂ : Shared), (∃ F' a, Grow F₁ s₁.heap F' s₂.heap ∧ Same s₁ s₂ ∧ v = .ref a ∧ s₁.heap.objs.size ≤ a ∧ F' a = none ∧ LstAt s₂.heap F' xs a) → ∃ F' a, Grow F s.heap F' s₂.heap ∧ Same s s₂ ∧ v = .ref a ∧ s.heap.objs.size ≤ a ∧ F' a = none ∧ LstAt s₂.heap F' xs a :=
    fun v s₂ hp2 => by obtain ⟨F₂, a, G₂, X₂, e1, e2, e3, l⟩ := hp2; exact ⟨F₂, a, G₁.trans G₂, X₁.trans X₂, e1, Nat.le_trans G₁.size e2, e3, l⟩
  cases t with
  | true => exact wpAny_mono (ha rfl A env pins F₁ P s₁ R ok S₁) fin fun _ _ x => x
  | false => exact wpAny_mono (hb rfl A env pins F₁ P s₁ R ok S₁) fin fun _ _ x => x
/-- a loop over an own list, empty -/
theorem ExS_forOwn0 {x : Str} {target : Expr} {p pos : Pos} {body : List Stmt} (hx : ρ.lookup x = some (.lst [])) (hl : isLoc sc x = true) (hf : ∀ env v, foldedSetIterable (.Name x p) env v = pure v := by intro _ _; rfl) :
    ExS c n sc pn ρ (.For target (.Name x p) body [] pos) .next ρ := fun A env pins F P s R ok hp S => by
  have S0 := S
  obtain ⟨vm, fp, S⟩ := S
  obtain ⟨a, hv, hfp, L⟩ := S.lst hx
  refine wpAny_For (load_var (h := s.heap) ok S.sto hl hv ?_) (hf env)
  refine iter_open (c := c) (d := .lst []) S.le (.own L) rfl rfl fun o W It tg => ?_
  obtain ⟨⟨Pv, fpi, hW, hfpi, hPv⟩, st0⟩ := It
  have kp : Fle s.heap.get? (s.heap.push o).get? := fun b oo e => Heap.get?_push_of_some _ e
  have sz : s.heap.objs.size ≤ (s.heap.push o).objs.size := by rw [Heap.size_push]; exact Nat.le_succ _
  have Wk := hW A R.1
  refine codeAny_forLoop_any (fun k s' => s' = { s with heap := s.heap.push o }) ?_ 0 rfl
  rintro k s' e
  refine wpAny_mono (wpAny_sz (Nat.le_refl s'.heap.objs.size) (Wk.done s' (fun r t => r = Option.none ∧ (∀ b o, b ∉ [s.heap.objs.size] → s'.heap.get? b = some o → t.heap.get? b = some o) ∧ Same s' t) (fun _ _ => False) (by subst e; exact st0) fun h' tk hk => ⟨rfl, hk, ⟨_, _, rfl⟩⟩)) (fun r t hp3 => ?_) fun _ _ x => x.2.elim
  obtain ⟨z, e', k₃, X₃⟩ := hp3
  subst e'
  subst e
  have k₄ : Fle s.heap.get? t.heap.get? := fun b o e => k₃ b o (fun q => by have := Heap.lt_size e; rw [List.mem_singleton.mp q] at this; exact Nat.lt_irrefl _ this) (kp b o e)
  exact wpAny_execs_nil ⟨F, P, Step.ofKeep k₄ (Nat.le_trans sz z), Same.trans ⟨_, _, rfl⟩ X₃, S0.top k₄ (Nat.le_trans sz z), .next⟩

/-- an __init__ that lays an own empty list under _headers -/
noncomputable def FnHI (c : Cx) (n : Nat) (fi : Value) (C : Addr) : Prop := ∀ A F s x dx, Room n A → Fle c.hB.get? F → Fle F s.heap.get? → x ≠ dx → s.heap.get? x = some (instObj C dx) → s.heap.get? dx = some emptyDict → F x = none → F dx = none →
  codeAny (model c.prog c.w) A (.call fi ⟨[.ref x], []⟩) (Ret fun v s' => v = .none ∧ ∃ l es k, (∀ b o, b ≠ dx → s.heap.get? b = some o → s'.heap.get? b = some o) ∧ Same s s' ∧ s.heap.objs.size ≤ s'.heap.objs.size ∧ s.heap.objs.size ≤ l ∧ s'.heap.get? dx = some { cls := .type "dict", data := .dict es k } ∧ StrKeys es ∧ nsFind es "_headers" = some (.ref l) ∧ (∀ y : Str, y ≠ "_headers" → nsFind es y = none) ∧ s'.heap.PlainList l #[]) s
/-- x = Headers() -/
theorem ExS_assignHdr {x k : Str} {px p pos' pos : Pos} {C f : Addr} (hc : c.Ok) (hg : Glb c k (.ref C)) (hN : NewK c C f) (h : FnHI c n (.ref f) C) (hi : isGlb sc k = true) (hs : isSto sc x = true) (hx : x ∉ pn) : ExS c (n + 1) sc pn ρ (.Assign [.Name x px] (.Call (.Name k p) [] [] pos') pos) .next (Vars.put ρ x (.hdr C [])) := fun A env pins F P s R ok hp S => by
  refine wpAny_Assign_Name (load_glob hc ok S.keep hi hg ?_ |> wpAny_Call_Name_kw) (swaps_plain rfl)
  refine callWith_of (P := c.K.In) rfl (keeps_K hN.keep) (evalArgs_any rfl (spliced_nil ⟨hc.at_ S.keep, ?_⟩))
  have l := S.le
  have hb := S.base
  have lt₀ : ∀ b, P b → b < s.heap.objs.size := fun b q => S.lt q
  obtain ⟨hh, g, d, t, os⟩ := s
  have X := hc.at_ S.keep
  refine wpAny_call (make_core (makes_of X hN.makes) (looks_findIn X hN.init) (fun self => bind_fn X self hN.ty) (.inl rfl) ?_)
  have k1 : Fle hh.get? ((hh.push emptyDict).push (instObj C hh.objs.size)).get? := fun b o e => Heap.get?_push_of_some _ (Heap.get?_push_of_some _ e)
  have sz : ((hh.push emptyDict).push (instObj C hh.objs.size)).objs.size = hh.objs.size + 2 := by rw [Heap.size_push, Heap.size_push]
  have hx' : ((hh.push emptyDict).push (instObj C hh.objs.size)).get? (hh.objs.size + 1) = some (instObj C hh.objs.size) := by
    have := Heap.get?_push_size (hh.push emptyDict) (o := instObj C hh.objs.size) rfl
    rwa [Heap.size_push] at this
  have hd' : ((hh.push emptyDict).push (instObj C hh.objs.size)).get? hh.objs.size = some emptyDict := Heap.get?_push_of_some _ (Heap.get?_push_size hh (o := emptyDict) rfl)
  have W := h (A.under (.builtin "type.__call__" ⟨.ref C :: [], []⟩)) F ⟨(hh.push emptyDict).push (instObj C hh.objs.size), g, d, t, os⟩ (hh.objs.size + 1) hh.objs.size R.under hb (l.trans k1) (Nat.succ_ne_self _) hx' hd' (none_of_le l (Nat.le_succ _)) (none_of_le l (Nat.le_refl _))
  refine codeAny_mono W fun r s' z => ?_
  rcases r with e | (v | _ | _ | _) <;> try exact z.elim
  obtain ⟨hv, a, es, k', y1, y2, y3, y4, y5, y6, y7, y8, y9⟩ := z
  dsimp only at y1 y3 y4
  rw [sz] at y3 y4
  refine ⟨hv, ?_⟩
  have k2 : Fle hh.get? s'.heap.get? := fun b o e => y1 b o (fun q => by have := Heap.lt_size e; rw [eqA q] at this; exact Nat.lt_irrefl _ this) (k1 b o e)
  have hxs : s'.heap.get? (hh.objs.size + 1) = some (instObj C hh.objs.size) := y1 _ _ (Nat.succ_ne_self _) hx'
  -- the instance and its dict are frozen
  have f1 : F hh.objs.size = none := none_of_le l (Nat.le_refl _)
  have g1 := Fz.ins_le (o := { cls := .type "dict", data := .dict es k' }) f1
  have f2 : (F.ins hh.objs.size { cls := .type "dict", data := .dict es k' }) (hh.objs.size + 1) = none := by unfold Fz.ins; rw [if_neg (Nat.succ_ne_self _)]; exact none_of_le l (Nat.le_succ _)
  have g2 := Fz.ins_le (o := instObj C hh.objs.size) f2
  generalize hF₁ : (F.ins hh.objs.size { cls := .type "dict", data := .dict es k' }).ins (hh.objs.size + 1) (instObj C hh.objs.size) = F₁ at g2
  have cases₁ : ∀ b o, F₁ b = some o → F b = some o ∨ (b = hh.objs.size + 1 ∧ o = instObj C hh.objs.size) ∨ (b = hh.objs.size ∧ o = { cls := .type "dict", data := .dict es k' }) := fun b o e => by
    subst hF₁
    unfold Fz.ins at e
    by_cases h1 : b = hh.objs.size + 1
    · rw [if_pos h1] at e; cases e; exact .inr (.inl ⟨h1, rfl⟩)
    · rw [if_neg h1] at e
      by_cases h2 : b = hh.objs.size
      · rw [if_pos h2] at e; cases e; exact .inr (.inr ⟨h2, rfl⟩)
      · rw [if_neg h2] at e; exact .inl e
  have G₁ : Grow F hh F₁ s'.heap := ⟨g1.trans g2, fun b o e => (cases₁ b o e).imp id fun q => by
      rcases q with ⟨q, _⟩ | ⟨q, _⟩
      · rw [eqA q]; exact Nat.le_succ _
      · rw [eqA q]; exact Nat.le_refl _, k2, fun b o e => by
      rcases cases₁ b o e with q | ⟨q, q'⟩ | ⟨q, q'⟩
      · exact k2 b o (l b o q)
      · rw [q, q']; exact hxs
      · rw [q, q']; exact y5, Nat.le_trans (Nat.le_add_right _ 2) y3⟩
  have hFx : F₁ (hh.objs.size + 1) = some (instObj C hh.objs.size) := by rw [← hF₁]; exact Fz.ins_self _ _ _
  have hFd : F₁ hh.objs.size = some { cls := .type "dict", data := .dict es k' } := g2 _ _ (Fz.ins_self _ _ _)
  have hFa : F₁ a = none := by
    cases e : F₁ a with
    | none => rfl
    | some o =>
      rcases cases₁ a o e with q | ⟨q, _⟩ | ⟨q, _⟩
      · exact absurd (Heap.lt_size (l a o q)) (Nat.not_lt.mpr (Nat.le_trans (Nat.le_add_right _ 2) y4))
      · have y4' : hh.objs.size + 2 ≤ a := y4; rw [eqA q] at y4'; omega
      · have y4' : hh.objs.size + 2 ≤ a := y4; rw [eqA q] at y4'; omega
  have hPa : ¬ P a := fun q => by have := lt₀ a q; have y4' : hh.objs.size + 2 ≤ a := y4; have this' : a < hh.objs.size := this; omega
  obtain ⟨vm, fp, S₁⟩ := S.grow (h' := s'.heap) G₁
  refine store_var ok S₁.sto hs fun h' tk S' sb => ?_
  obtain ⟨P', S'', hP, hk, hz⟩ := S₁.store (sl := .hdr C []) (v := .ref (hh.objs.size + 1)) (as := [a]) (.hdr hFx hFd rfl y6 y7 y8 ⟨#[], y9, .nil⟩) (by simp) (fun b q => by simp at q; subst q; exact hFa) (fun b q z => by simp at q; subst q; exact hPa ((S₁.mem b).mpr (.inl z)))
    (fun y t e hy b q z => by simp at q; subst q; exact hPa ((S₁.mem b).mpr (.inr ⟨y, t, e, z⟩))) (hp ▸ hx) S' sb
  refine ⟨F₁, P', ⟨G₁.fle, fun b o e => (G₁.new b o e).imp id .inr, fun b o q e => hk b o q (G₁.keep b o e), fun b q => ?_, Nat.le_trans G₁.size (Nat.le_of_eq hz.symm)⟩, Same.trans (Same.trans ⟨_, _, rfl⟩ y2) ⟨_, _, rfl⟩, S'', .next⟩
  rcases hP b q with q | q
  · exact .inl q
  · simp at q; subst q; exact .inr (Nat.le_trans (Nat.le_add_right _ 2) y4)
end Mine
end

section
open PySem PySem.Calls PyProof.Rows PySem.W
set_option maxRecDepth 100000
set_option linter.unusedVariables false
namespace Mine
variable {c : Cx} {n : Nat} {sc : Scope} {pn : List Str} {ρ : Vars}

/-- a < b, whatever is around -/
noncomputable def LtU (c : Cx) (u : Nat) (a b : D) (r : Bool) : Prop := ∀ A F s va vb, A.handled = none → A.units + u < cLine → Fle F s.heap.get? → Rd F a va → Rd F b vb → wpAny (model c.prog c.w) A (richCompare .Lt va vb) (Gives F s (.bool r)) (fun _ _ => False) s
inductive LtL (c : Cx) (u : Nat) : List D → List D → Bool → Prop
  | nil : LtL c u [] [] false
  | left {y : D} {ys : List D} : LtL c u [] (y :: ys) true
  | right {x : D} {xs : List D} : LtL c u (x :: xs) [] false
  | eq {x y : D} {xs ys : List D} {r : Bool} : okEq x = true → okEq y = true → PyData.eqv x.py y.py = true → LtL c u xs ys r → LtL c u (x :: xs) (y :: ys) r
  | ne {x y : D} {xs ys : List D} {r : Bool} : okEq x = true → okEq y = true → PyData.eqv x.py y.py = false → LtU c u x y r → LtL c u (x :: xs) (y :: ys) r
theorem eqBool_D {A : Around} {s : Shared} {F : Fz} {x y : D} {vx vy : Value} {Q : Bool → Shared → Prop} {E : Value → Shared → Prop} (hx : okEq x = true) (hy : okEq y = true) (hu : A.units + 64 < cLine) (l : Fle F s.heap.get?) (rx : Rd F x vx) (ry : Rd F y vy) (q : Q (PyData.eqv x.py y.py) s) : wpAny (model c.prog c.w) A (eqBool vx vy) Q E s := by
  unfold okEq at hx hy
  simp only [Bool.and_eq_true, decide_eq_true_eq] at hx hy
  obtain ⟨as, qa⟩ := rx.reads l hx.1.1
  obtain ⟨bs, qb⟩ := ry.reads l hy.1.1
  exact SeqAt.eqBoolOverData _ _ A E s _ _ _ _ _ _ Q qa qb hx.1.2 hy.1.2 (by have := Nat.min_le_left x.py.depth y.py.depth; omega) q
theorem lt_tree {A : Around} {s : Shared} {F : Fz} {u : Nat} {xs ys : List D} {r : Bool} {a b : Addr} {oa ob : Obj} {us vs : Array Value} {na nb : Nat} (hh : A.handled = none) (hu : A.units + (u + 70) < cLine) (l : Fle F s.heap.get?) (h : LtL c u xs ys r)
    (h1 : F a = some oa) (h2 : oa.cls = .type "tuple") (h3 : oa.data = .seq us na) (h4 : RdL F xs us.toList) (g1 : F b = some ob) (g2 : ob.cls = .type "tuple") (g3 : ob.data = .seq vs nb) (g4 : RdL F ys vs.toList) :
    wpAny (model c.prog c.w) A (Builtin.«tuple.__lt__» ⟨[.ref a, .ref b], []⟩) (fun fin s' => ∃ v, fin = .done (.ret v) ∧ v ≠ .notImplemented ∧ Gives F s (.bool r) v s') (fun _ _ => False) s := by
  have hTb : s.TypeIs (.ref b) "tuple" := ⟨_, l _ _ g1, g2⟩
  show wpAny _ _ (isInstance (.ref b) (.type "tuple") >>= _) _ _ s
  refine wpAny_bind (wpAny_isInstance hTb isSubtype_tuple_tuple ?_)
  simp only [Bool.not_true, Bool.false_eq_true, if_false]
  refine wpAny_bind (wpAny_tupleItemsOf (l _ _ h1) h3 ?_)
  refine wpAny_bind (wpAny_tupleItemsOf (l _ _ g1) g3 ?_)
  refine wpAny_bind ?_
  refine wpAny_forIn_list _
    (fun rest q s' => q.1 = none ∧ s' = s ∧ ∃ x' y' xs' ys', rest = List.zip xs' ys' ∧ RdL F x' xs' ∧ RdL F y' ys' ∧ LtL c u x' y' r ∧ decide (us.size < vs.size) = decide (xs'.length < ys'.length))
    _ ?_ ?_ _ _ ⟨rfl, rfl, xs, ys, us.toList, vs.toList, rfl, h4, g4, h, by simp⟩
  · rintro ⟨p, q⟩ rest w s' ⟨hr, rfl, x', y', xs', ys', hz, hx', hy', hl, hlen⟩
    cases hx' with
    | nil => simp at hz
    | @cons d1 u' x'' xs'' r1 hx'' =>
      cases hy' with
      | nil => simp at hz
      | @cons d2 v' y'' ys'' r2 hy'' =>
        simp only [List.zip_cons_cons, List.cons.injEq, Prod.mk.injEq] at hz
        obtain ⟨⟨rfl, rfl⟩, rfl⟩ := hz
        cases hl with
        | eq o1 o2 e hl =>
          refine wpAny_bind (eqBool_D o1 o2 (by omega) l r1 r2 ?_)
          rw [e]
          simp only [Bool.not_true, Bool.false_eq_true, if_false]
          exact wpAny_pure ⟨rfl, rfl, x'', y'', xs'', ys'', rfl, hx'', hy'', hl, by rw [hlen]; simp⟩
        | ne o1 o2 e hl =>
          refine wpAny_bind (eqBool_D o1 o2 (by omega) l r1 r2 ?_)
          rw [e]
          simp only [Bool.not_false, if_true]
          refine wpAny_bind (wpAny_rule ?_)
          refine wpAny_bind (wpAny_mono (hl A F s' _ _ hh (by omega) l r1 r2) (fun v s₁ g => ?_) fun _ _ x => x.elim)
          refine wpAny_bind (wpAny_pure (wpAny_pure (wpAny_pure ⟨v, rfl, ?_, g⟩)))
          obtain ⟨_, _, _, rv⟩ := g
          cases rv; exact fun z => nomatch z
  · rintro ⟨q1, q2⟩ s' ⟨hr, rfl, x', y', xs', ys', hz, hx', hy', hl, hlen⟩
    simp only at hr
    subst hr
    refine wpAny_pure ?_
    have hb : decide (xs'.length < ys'.length) = r := by
      cases hl with
      | nil => cases hx'; cases hy'; rfl
      | left => cases hx'; cases hy'; simp
      | right => cases hx'; cases hy'; simp
      | eq _ _ _ _ => cases hx'; cases hy'; simp at hz
      | ne _ _ _ _ => cases hx'; cases hy'; simp at hz
    refine ⟨.bool (decide (us.size < vs.size)), rfl, (fun z => nomatch z), ?_⟩
    rw [hlen, hb]
    exact .now l (.bool r)
theorem LtU.tup {u : Nat} {xs ys : List D} {r : Bool} (h : LtL c u xs ys r) : LtU c (u + 80) (.tup xs) (.tup ys) r := fun A F s va vb hh hu l ra rb => by
  cases ra with
  | tup h1 h2 h3 h4 =>
    cases rb with
    | tup g1 g2 g3 g4 =>
      refine wpAny_richCompare_same_or ⟨_, l _ _ h1, h2⟩ ⟨_, l _ _ g1, g2⟩ PySem.F.slot_tuple_lt ?_ (.inr (by omega))
      exact wpAny_call_entry PySem.F.slot_tuple_lt ⟨_, l _ _ h1, h2⟩ PySem.F.entry_tuple_lt (lt_tree (A := A.in1) hh (by show A.units + 1 + _ < _; omega) l h h1 h2 h3 h4 g1 g2 g3 g4) (PySem.F.args_tuple_lt_2 _ _)
theorem LtU.int {u : Nat} {a b : Int} : LtU c u (.int a) (.int b) (decide (a < b)) := fun A F s va vb hh hu l ra rb => by
  cases ra; cases rb
  exact PyProof.Rows.lt_int (.now l (.bool _))
theorem Cmp.ofLt {u : Nat} {xs ys : List D} {r : Bool} (h : LtU c u (.tup xs) (.tup ys) r) (hu : u ≤ 200) : Cmp c .Lt (.tup xs) (.tup ys) r := fun A F s va vb R hb l ra rb => by
  cases ra with
  | fz ra =>
    cases rb with
    | fz rb => exact h A F s va vb R.1 (by have := R.units; omega) l ra rb
end Mine
end

section
open PySem PySem.Calls PyProof.Rows PySem.W
set_option maxRecDepth 100000
set_option linter.unusedVariables false
namespace Mine
variable {c : Cx} {n : Nat} {sc : Scope} {pn : List Str} {ρ : Vars}

/-- return of an own list -/
theorem ExS_returnOwn {x : Str} {p pos : Pos} {xs : List D} (hx : ρ.lookup x = some (.lst xs)) (hl : isLoc sc x = true) : ExS c n sc pn ρ (.Return (some (.Name x p)) pos) (.retF (.lst xs)) [] := fun A env pins F P s R ok hp S => by
  obtain ⟨vm, fp, S⟩ := S
  obtain ⟨a, hv, hfp, vs, ⟨m, pl⟩, q⟩ := S.lst hx
  refine wpAny_Return_some (load_var (h := s.heap) ok S.sto hl hv ?_)
  have hm : a ∈ fp x := by rw [hfp]; exact .head _
  have hPa : P a := (S.mem a).mpr (.inr ⟨x, _, hx, hm⟩)
  have hn := S.out a hPa
  have g := Fz.ins_le (o := { cls := .type "list", data := .seq vs m }) hn
  have le' : Fle (F.ins a { cls := .type "list", data := .seq vs m }) s.heap.get? := fun b o e => by
    unfold Fz.ins at e
    by_cases h1 : b = a
    · subst h1; rw [if_pos rfl] at e; cases e; exact pl
    · rw [if_neg h1] at e; exact S.le b o e
  refine ⟨F.ins a { cls := .type "list", data := .seq vs m }, fun b => b ∈ Mine.stor env, ⟨g, fun b o e => ?_, fun b o _ e => e, fun b q => .inl ((S.mem b).mpr (.inl q)), Nat.le_refl _⟩, .refl s, ⟨vm, fp, ?_⟩, .retF (.lst (Fz.ins_self _ _ _) rfl rfl (q.mono g)) (.inl hPa)⟩
  · unfold Fz.ins at e
    by_cases h1 : b = a
    · subst h1; exact .inr (.inl hPa)
    · rw [if_neg h1] at e; exact .inl e
  · exact {
      base := S.base.trans g
      le := le'
      sto := S.sto
      own := fun _ _ e => nomatch e
      pin := S.pin
      mem := fun b => ⟨.inl, fun q => q.elim id fun hp1 => by obtain ⟨_, _, e, _⟩ := hp1; exact nomatch e⟩
      lt := fun b q => S.lt b ((S.mem b).mpr (.inl q))
      out := fun b q => by
        unfold Fz.ins
        rw [if_neg (fun z => S.aparts x _ hx a hm (by rw [← z]; exact q))]
        exact S.out b ((S.mem b).mpr (.inl q))
      nd := fun _ _ e => nomatch e
      apart := fun _ _ _ _ e => nomatch e
      aparts := fun _ _ e => nomatch e }

/-! slices of lists -/
inductive Part (c : Cx) (n : Nat) (sc : Scope) (ρ : Vars) : Option Expr → Option Int → Prop
  | none : Part c n sc ρ none none
  | int {e : Expr} {i : Int} : EvR c n sc ρ e (.int i) → Part c n sc ρ (some e) (some i)
theorem part_run {oe : Option Expr} {oi : Option Int} (h : Part c n sc ρ oe oi) {A : Around} {env : Env} {pins : Pins} {F : Fz} {P : Addr → Prop} {s : Shared} (R : Room n A) (ok : EnvOk env sc) (S : St c env pins ρ F P s.heap) : wpAny (model c.prog c.w) A (valueOrNone (evalOpt oe env)) (fun v s' => IsPart v oi ∧ ∃ F', Grow F s.heap F' s'.heap ∧ Same s s') (fun _ _ => False) s := by
  cases h with
  | none => exact wpAny_pure ⟨.none, F, .refl S.le, .refl s⟩
  | int h =>
    show wpAny _ _ (eval _ env) _ _ _
    exact wpAny_mono (h A env pins F P s R ok S) (fun v s' hp2 => by obtain ⟨F', G, X, r⟩ := hp2; obtain ⟨t, rfl⟩ := r.int; exact ⟨.int _ _, F', G, X⟩) fun _ _ x => x
noncomputable def cutD (xs : List D) : Option Int → Option Int → Option (List D)
  | none, some j => if 0 ≤ j then some (xs.take j.toNat) else Option.none
  | some i, none => if 0 ≤ i then some (xs.drop i.toNat) else Option.none
  | some i, some j => if 0 ≤ i ∧ i ≤ j ∧ j ≤ xs.length then some ((xs.drop i.toNat).take (j.toNat - i.toNat)) else Option.none
  | none, none => some xs
theorem pick_upto (vs : Array Value) (b : Nat) : slicePick vs none (some b) none = (vs.toList.take b).toArray := by
  by_cases h : b ≤ vs.size
  · exact slicePick_upto vs b h
  · have e : sliceBounds none (some (b : Int)) none vs.size = sliceBounds none (some (vs.size : Int)) none vs.size := by
      simp only [sliceBounds, Option.getD_none]
      have h2 : ¬ ((b : Int) < 0) := by omega
      have h3 : ¬ ((vs.size : Int) < 0) := by omega
      simp only [h2, h3, if_false]
      congr 2
      omega
    have e2 : slicePick vs none (some (b : Int)) none = slicePick vs none (some (vs.size : Int)) none := by unfold slicePick; rw [e]
    rw [e2, slicePick_upto vs vs.size (Nat.le_refl _), List.take_of_length_le (by simp), List.take_of_length_le (by simp; omega)]
theorem pick_from (vs : Array Value) (a : Nat) : slicePick vs (some a) none none = (vs.toList.drop a).toArray := by
  by_cases h : a ≤ vs.size
  · exact slicePick_from vs a h
  · have e : sliceBounds (some (a : Int)) none none vs.size = sliceBounds (some (vs.size : Int)) none none vs.size := by
      simp only [sliceBounds, Option.getD_none]
      have h2 : ¬ ((a : Int) < 0) := by omega
      have h3 : ¬ ((vs.size : Int) < 0) := by omega
      simp only [h2, h3, if_false]
      congr 1
      omega
    have e2 : slicePick vs (some (a : Int)) none none = slicePick vs (some (vs.size : Int)) none none := by unfold slicePick; rw [e]
    rw [e2, slicePick_from vs vs.size (Nat.le_refl _), List.drop_eq_nil_of_le (by simp), List.drop_eq_nil_of_le (by simp; omega)]
theorem pick_rd {F : Fz} {vs : Array Value} {xs ys : List D} {lo hi : Option Int} (r : RdL F xs vs.toList) (h : cutD xs lo hi = some ys) (hl : lo ≠ none ∨ hi ≠ none) : RdL F ys (slicePick vs lo hi none).toList := by
  have hlen : vs.size = xs.length := by rw [← Array.length_toList]; exact r.length
  unfold cutD at h
  split at h
  · rename_i j
    split at h
    · rename_i hj
      cases h
      obtain ⟨b, rfl⟩ := Int.eq_ofNat_of_zero_le hj
      rw [pick_upto]
      simpa using r.take b
    · cases h
  · rename_i i
    split at h
    · rename_i hi'
      cases h
      obtain ⟨a, rfl⟩ := Int.eq_ofNat_of_zero_le hi'
      rw [pick_from]
      simpa using r.drop a
    · cases h
  · rename_i i j
    split at h
    · rename_i hij
      cases h
      obtain ⟨a, rfl⟩ := Int.eq_ofNat_of_zero_le hij.1
      obtain ⟨b, rfl⟩ := Int.eq_ofNat_of_zero_le (Int.le_trans hij.1 hij.2.1)
      rw [slicePick_run vs a b (by rw [hlen]; have := hij.2.2; omega) (by have := hij.2.1; omega)]
      simpa using (r.drop a).take (b - a)
    · cases h
  · rcases hl with q | q <;> exact absurd rfl q
/-- e[lo:hi] of a list -/
theorem Ev_sliceL {value : Expr} {lo hi : Option Expr} {sp pos : Pos} {xs ys : List D} {i j : Option Int} (hv : EvR c n sc ρ value (.lst xs)) (h1 : Part c n sc ρ lo i) (h2 : Part c n sc ρ hi j) (hc : cutD xs i j = some ys) (hne : i ≠ none ∨ j ≠ none) (hz : xs.length ≤ 100000) :
    Ev c n sc ρ (.Subscript value (.Slice lo hi none sp) pos) (.lst ys) := fun A env pins F P s R ok S => by
  refine Subscript_ (wpAny_mono (hv A env pins F P s R ok S) (fun v s₁ hp3 => ?_) fun _ _ x => x)
  obtain ⟨F₁, G₁, X₁, r₁⟩ := hp3
  have S₁ := S.grow G₁
  rw [arm_eval_Slice]
  refine wpAny_bind (wpAny_mono (part_run h1 R ok S₁) (fun vl s₂ hp4 => ?_) fun _ _ x => x)
  obtain ⟨p1, F₂, G₂, X₂⟩ := hp4
  have S₂ := S₁.grow G₂
  refine wpAny_bind (wpAny_holding (wpAny_mono (part_run h2 R ok S₂) (fun vu s₃ hp5 => ?_) fun _ _ x => x))
  obtain ⟨p2, F₃, G₃, X₃⟩ := hp5
  have S₃ := S₂.grow G₃
  refine wpAny_bind (wpAny_holding (wpAny_pure ?_))
  obtain ⟨a, vs, rfl, il, rr⟩ := ((r₁.mono G₂.keep G₂.fle).mono G₃.keep G₃.fle).lst S₃.le
  have hz' : vs.size ≤ sizeLine := by
    have e1 : vs.size = xs.length := by rw [← Array.length_toList]; exact rr.length
    have e2 : sizeLine = 16777216 := by decide
    omega
  refine wpAny_newObj_type ?_ ?_
  · have il' := il.push { cls := .type "slice", data := .fields #[vl, vu, .none] }
    refine tail_any (s := { s₃ with heap := s₃.heap.push { cls := .type "slice", data := .fields #[vl, vu, .none] } }) il'.typeIs slot_list_getitem.lookup (wpAny_getItem_list_slice il' (Heap.IsSliceOf.new ..) p1 p2 .none (by simp) ?_ hz') rfl
    have G := (G₁.trans G₂).trans G₃
    have k1 : Grow F₃ s₃.heap F₃ (s₃.heap.push { cls := .type "slice", data := .fields #[vl, vu, .none] }) := ⟨.refl _, fun _ _ e => .inl e, fun b o e => Heap.get?_push_of_some _ e, fun b o e => Heap.get?_push_of_some _ (S₃.le b o e), by rw [Heap.size_push]; exact Nat.le_succ _⟩
    exact Gives.after (s₁ := { s₃ with heap := s₃.heap.push { cls := .type "slice", data := .fields #[vl, vu, .none] } }) (G.trans k1) ((X₁.trans X₂).trans (X₃.trans ⟨_, _, rfl⟩)) (Gives.newList (k := s₃.toks) k1.le (pick_rd rr hc hne))
  · simp only [sizeOk, List.size_toArray, List.length_cons, List.length_nil, sizeLine_eq]; omega
end Mine
end

section
open PySem PySem.Calls PyProof.Rows PySem.W
set_option maxRecDepth 100000
set_option linter.unusedVariables false
namespace Mine
variable {c : Cx} {n : Nat} {sc : Scope} {pn : List Str} {ρ : Vars}
end Mine
end

section
set_option maxRecDepth 100000
namespace Mine
end Mine
end

section
open PySem PySem.Calls PyProof.Rows PySem.W
set_option maxRecDepth 100000
set_option linter.unusedVariables false
namespace Mine
variable {c : Cx} {n : Nat} {sc : Scope} {pn : List Str} {ρ : Vars}
theorem RdL.ofInts {F : Fz} : ∀ {ns : List Int} {vs : List Value}, IntsAre vs ns → RdL F (ns.map .int) vs
  | _, _, .nil => .nil
  | _, _, .cons a t h => .cons (.int a t) (RdL.ofInts h)
end Mine
end

section
open PySem PySem.Calls PyProof.Rows PySem.W
set_option maxRecDepth 100000
set_option linter.unusedVariables false
namespace Mine
variable {c : Cx} {n : Nat} {sc : Scope} {pn : List Str} {ρ : Vars}
end Mine
end

section
open PySem PySem.Calls PyProof.Rows PySem.W
set_option maxRecDepth 100000
set_option linter.unusedVariables false
namespace Mine
variable {c : Cx} {n : Nat}
noncomputable def lexLt : List Int → List Int → Bool
  | [], [] => false
  | [], _ :: _ => true
  | _ :: _, [] => false
  | a :: r, b :: s => if a = b then lexLt r s else decide (a < b)
theorem ltL_ints {u : Nat} : ∀ xs ys : List Int, LtL c u (xs.map .int) (ys.map .int) (lexLt xs ys)
  | [], [] => .nil
  | [], _ :: _ => .left
  | _ :: _, [] => .right
  | a :: r, b :: s => by
    have ih := ltL_ints (u := u) r s
    unfold lexLt
    by_cases h : a = b
    · rw [if_pos h]; exact .eq rfl rfl (by show (a == b) = true; simpa using h) ih
    · rw [if_neg h]; exact .ne rfl rfl (by show (a == b) = false; simpa using h) LtU.int
/-- tuples of ints, as a heap holds them -/
theorem Cmp.ltInts (xs ys : List Int) : Cmp c .Lt (.tup (xs.map .int)) (.tup (ys.map .int)) (lexLt xs ys) := Cmp.ofLt (LtU.tup (u := 0) (ltL_ints xs ys)) (by decide)
end Mine
end

section
open PySem PySem.Calls PyProof.Rows PySem.W
set_option maxRecDepth 100000
set_option linter.unusedVariables false
namespace Mine
noncomputable def findDef (n : Str) : List Stmt → Option (Arguments × List Stmt × Scope)
  | [] => none
  | .FunctionDef name args body _ _ _ scope _ _ _ :: r => if name == n then some (args, body, scope) else findDef n r
  | _ :: r => findDef n r
noncomputable def defBody (p : Program) (n : Str) : List Stmt := match findDef n p.main.body with
  | some (_, b, _) => b
  | none => []
noncomputable def defScope (p : Program) (n : Str) : Scope := match findDef n p.main.body with
  | some (_, _, s) => s
  | none => default
noncomputable abbrev pw := PySem.Challenge.pw_pg0319_02
noncomputable def wTest (b : List Stmt) (i : Nat) : Expr := match b[i]? with
  | some (.While t _ _ _) => t
  | _ => default
noncomputable def wBody (b : List Stmt) (i : Nat) : List Stmt := match b[i]? with
  | some (.While _ t _ _) => t
  | _ => []
noncomputable def fBody (b : List Stmt) (i : Nat) : List Stmt := match b[i]? with
  | some (.For _ _ t _ _) => t
  | _ => []

theorem par_lt {p : Nat} (h : p ≠ 0) : (p - 1) / 2 < p := by omega
theorem par_le (p : Nat) : (p - 1) / 2 ≤ p := by omega
theorem par_fdiv {p : Nat} (h : p ≠ 0) : ((p : Int) - 1).fdiv 2 = (((p - 1) / 2 : Nat) : Int) := by
  rw [Int.fdiv_eq_ediv_of_nonneg _ (by decide)]; omega
noncomputable def sdGo (lt : D → D → Bool) (x : D) : Nat → List D → Nat → List D × Nat
  | 0, h, p => (h, p)
  | f + 1, h, p => if p = 0 then (h, p) else if lt x (h.getD ((p - 1) / 2) .none) then sdGo lt x f (h.set p (h.getD ((p - 1) / 2) .none)) ((p - 1) / 2) else (h, p)
noncomputable def sd (lt : D → D → Bool) (h : List D) (p : Nat) : List D := let r := sdGo lt (h.getD p .none) p h p; r.1.set r.2 (h.getD p .none)
theorem sdGo_len (lt : D → D → Bool) (x : D) : ∀ (f : Nat) (h : List D) (p : Nat), (sdGo lt x f h p).1.length = h.length
  | 0, _, _ => rfl
  | f + 1, h, p => by
    unfold sdGo
    split
    · rfl
    · split
      · rw [sdGo_len lt x f]; simp
      · rfl
theorem sdGo_lt (lt : D → D → Bool) (x : D) : ∀ (f : Nat) (h : List D) (p : Nat), (sdGo lt x f h p).2 ≤ p
  | 0, _, _ => Nat.le_refl _
  | f + 1, h, p => by
    unfold sdGo
    split
    · exact Nat.le_refl _
    · split
      · exact Nat.le_trans (sdGo_lt lt x f _ _) (par_le _)
      · exact Nat.le_refl _

variable {c : Cx} {n : Nat}
theorem Cmp.ltN {a b : Nat} : Cmp c .Lt (.int (a : Nat)) (.int (b : Nat)) (decide (a < b)) := by
  have h := @Cmp.lt c a b
  have e : decide ((a : Int) < (b : Int)) = decide (a < b) := decide_eq_decide.mpr Int.ofNat_lt
  rw [e] at h; exact h
theorem Cmp.geN {a b : Nat} : Cmp c .GtE (.int (a : Nat)) (.int (b : Nat)) (decide (b ≤ a)) := by
  have h := @Cmp.ge c a b
  have e : decide ((a : Int) ≥ (b : Int)) = decide (b ≤ a) := decide_eq_decide.mpr Int.ofNat_le
  rw [e] at h; exact h
theorem getD_some {h : List D} {p : Nat} (hp : p < h.length) : h[p]? = some (h.getD p .none) := by
  rw [List.getD_eq_getElem?_getD, List.getElem?_eq_getElem hp]; rfl

noncomputable abbrev sdρ (h : List D) (p : Nat) (x : D) : Vars := [("heap", .lst h), ("startpos", .val (.int 0)), ("pos", .val (.int p)), ("newitem", .val x)]
noncomputable abbrev sdB := defBody pw "_siftdown"
noncomputable abbrev sdS := defScope pw "_siftdown"
theorem all_set {ok : D → Prop} {h : List D} {i : Nat} {d : D} (hok : ∀ d ∈ h, ok d) (hd : ok d) : ∀ e ∈ h.set i d, ok e := fun e he => by
  rcases List.mem_or_eq_of_mem_set he with q | rfl
  · exact hok e q
  · exact hd
theorem all_get {ok : D → Prop} {h : List D} {i : Nat} (hok : ∀ d ∈ h, ok d) (hi : i < h.length) : ok (h.getD i .none) := hok _ (List.mem_of_getElem? (getD_some hi))
theorem sd_while {lt : D → D → Bool} {ok : D → Prop} (hlt : ∀ a b, ok a → ok b → Cmp c .Lt a b (lt a b)) (x : D) (hx : ok x) : ∀ (f : Nat) (h : List D) (p : Nat), p ≤ f → p < h.length → (∀ d ∈ h, ok d) → h.length ≤ 1000 →
    WhileR c n sdS ["heap"] (wTest sdB 1) (wBody sdB 1) (f + 1) (sdρ h p x) .next (sdρ (sdGo lt x f h p).1 (sdGo lt x f h p).2 x) := by
  intro f
  induction f with
  | zero =>
    intro h p hp hl hok hz
    have : p = 0 := Nat.le_zero.mp hp
    subst this
    exact .done ((Te_Compare (EvR_name rfl rfl) (EvR_name rfl rfl) Cmp.gt).conv (by decide))
  | succ f ih =>
    intro h p hp hl hok hz
    unfold sdGo
    by_cases h0 : p = 0
    · subst h0
      exact .done ((Te_Compare (EvR_name rfl rfl) (EvR_name rfl rfl) Cmp.gt).conv (by decide))
    · rw [if_neg h0]
      have hq : (p - 1) / 2 < h.length := Nat.lt_trans (par_lt h0) hl
      have hqi : (((p : Int) - 1).fdiv (2 ^ (1 : Int).toNat)) = (((p - 1) / 2 : Nat) : Int) := par_fdiv h0
      have hy : ok (h.getD ((p - 1) / 2) .none) := all_get hok hq
      have st : ∀ {r fl ρ'}, Ex c n sdS ["heap"] (Vars.put (Vars.put (sdρ h p x) "parentpos" (.val (.int (((p - 1) / 2 : Nat) : Int)))) "parent" (.val (h.getD ((p - 1) / 2) .none))) r fl ρ' → r = (wBody sdB 1).drop 2 →
          Ex c n sdS ["heap"] (sdρ h p x) (wBody sdB 1) fl ρ' := fun {r fl ρ'} hr e => by
        subst e
        exact Ex_cons (ExS_assign ((Ev_BinOp (.of (Ev_BinOp (EvR_name rfl rfl) EvR_int Bin.sub)) EvR_int (Bin.shr (by decide))).conv (by rw [hqi])) rfl (by decide))
          (Ex_cons (ExS_assign (Ev_Sub (EvR_own rfl rfl) (EvR_name rfl rfl) (Itm.lst (Int.natCast_nonneg _) (by rw [Int.toNat_natCast]; exact getD_some hq) (by omega))) rfl (by decide)) hr)
      have tst : Te c n sdS (sdρ h p x) (wTest sdB 1) true := (Te_Compare (EvR_name rfl rfl) (EvR_name rfl rfl) Cmp.gt).conv (by simpa using Nat.pos_of_ne_zero h0)
      by_cases hc : lt x (h.getD ((p - 1) / 2) .none) = true
      · rw [if_pos hc]
        refine .cont tst (st (Ex_stop (ExS_if ((Te_Compare (EvR_name rfl rfl) (EvR_name rfl rfl) (hlt _ _ hx hy)).conv hc) (fun _ => Ex_cons (ExS_setitem rfl rfl (Ev_name rfl rfl) (EvR_name rfl rfl) (Int.natCast_nonneg _) (Int.ofNat_lt.mpr hl) (Nat.le_trans hz (by decide))) (Ex_cons (ExS_assign (Ev_name rfl rfl) rfl (by decide)) (Ex_stop (ExS_continue.less (ρ' := sdρ (h.set p (h.getD ((p - 1) / 2) .none)) ((p - 1) / 2) x) ⟨rfl, rfl, rfl, rfl, trivial⟩)))) (fun e => nomatch e))) rfl) ?_
        exact ih (h.set p (h.getD ((p - 1) / 2) .none)) ((p - 1) / 2) (Nat.le_of_lt_succ (Nat.lt_of_lt_of_le (par_lt h0) hp)) (by simpa using hq) (all_set hok hy) (by simpa using hz)
      · rw [if_neg hc]
        refine .brk tst (st (Ex_cons (ExS_if ((Te_Compare (EvR_name rfl rfl) (EvR_name rfl rfl) (hlt _ _ hx hy)).conv (Bool.eq_false_iff.mpr hc)) (fun e => nomatch e) (fun _ => Ex_nil)) (Ex_stop (ExS_break.less ⟨rfl, rfl, rfl, rfl, trivial⟩))) rfl)
theorem siftdown_fn {fv : Value} (hc : c.Ok) (hf : IsFn c fv ["heap", "startpos", "pos"] sdB sdS) {lt : D → D → Bool} {ok : D → Prop} (hlt : ∀ a b, ok a → ok b → Cmp c .Lt a b (lt a b)) {h : List D} {p : Nat} (hp : p < h.length) (hok : ∀ d ∈ h, ok d) (hz : h.length ≤ 1000) : FnM c 1 fv h [.int 0, .int p] (sd lt h p) .none := by
  have hx : ok (h.getD p .none) := all_get hok hp
  refine FnM_intro (fl := .next) hc hf (by decide) rfl ⟨nofun, nofun⟩ (ρ' := Vars.put (sdρ (sdGo lt (h.getD p .none) p h p).1 (sdGo lt (h.getD p .none) p h p).2 (h.getD p .none)) "heap" (.lst (sd lt h p))) ?_ rfl
  refine Ex_cons (ExS_assign (d := h.getD p .none) (Ev_Sub (EvR_own rfl rfl) (EvR_name rfl rfl) (Itm.lst (Int.natCast_nonneg _) (by rw [Int.toNat_natCast]; exact getD_some hp) (by omega))) rfl (by decide)) ?_
  refine Ex_cons (ExS_while (sd_while hlt _ hx p h p (Nat.le_refl _) hp hok hz)) ?_
  have hl := sdGo_lt lt (h.getD p .none) p h p
  have hl2 := sdGo_len lt (h.getD p .none) p h p
  exact Ex_cons (ExS_setitem rfl rfl (Ev_name rfl rfl) (EvR_name rfl rfl) (Int.natCast_nonneg _) (by rw [hl2]; omega) (by rw [hl2]; omega)) Ex_nil

noncomputable def suGo (lt : D → D → Bool) : Nat → List D → Nat → List D × Nat
  | 0, h, p => (h, p)
  | f + 1, h, p => if 2 * p + 1 < h.length then
      let q := if decide (2 * p + 2 < h.length) && !(lt (h.getD (2 * p + 1) .none) (h.getD (2 * p + 2) .none)) then 2 * p + 2 else 2 * p + 1
      suGo lt f (h.set p (h.getD q .none)) q
    else (h, p)
noncomputable def su (lt : D → D → Bool) (h : List D) : List D := let r := suGo lt h.length h 0; sd lt (r.1.set r.2 (h.getD 0 .none)) r.2
theorem suGo_len (lt : D → D → Bool) : ∀ (f : Nat) (h : List D) (p : Nat), (suGo lt f h p).1.length = h.length
  | 0, _, _ => rfl
  | f + 1, h, p => by
    unfold suGo
    split
    · rw [suGo_len lt f]; simp
    · rfl
theorem suGo_lt (lt : D → D → Bool) : ∀ (f : Nat) (h : List D) (p : Nat), p < h.length → (suGo lt f h p).2 < h.length
  | 0, _, _, h => h
  | f + 1, h, p, hp => by
    unfold suGo
    split
    next hq =>
      dsimp only
      split
      next he =>
        rw [Bool.and_eq_true, decide_eq_true_eq] at he
        have := suGo_lt lt f (h.set p (h.getD (2 * p + 2) .none)) (2 * p + 2) (by simpa using he.1)
        simpa using this
      next =>
        have := suGo_lt lt f (h.set p (h.getD (2 * p + 1) .none)) (2 * p + 1) (by simpa using hq)
        simpa using this
    · exact hp
theorem suGo_all {ok : D → Prop} (lt : D → D → Bool) : ∀ (f : Nat) (h : List D) (p : Nat), (∀ d ∈ h, ok d) → ∀ d ∈ (suGo lt f h p).1, ok d
  | 0, _, _, h => h
  | f + 1, h, p, hok => by
    unfold suGo
    split
    next hq =>
      refine suGo_all lt f _ _ (all_set hok ?_)
      split
      next he =>
        rw [Bool.and_eq_true, decide_eq_true_eq] at he
        exact all_get hok he.1
      next => exact all_get hok hq
    · exact hok
theorem sdGo_all {ok : D → Prop} (lt : D → D → Bool) (x : D) : ∀ (f : Nat) (h : List D) (p : Nat), p < h.length → (∀ d ∈ h, ok d) → ∀ d ∈ (sdGo lt x f h p).1, ok d
  | 0, _, _, _, h => h
  | f + 1, h, p, hp, hok => by
    unfold sdGo
    split
    · exact hok
    · split
      · exact sdGo_all lt x f _ _ (by simp; omega) (all_set hok (all_get hok (by omega)))
      · exact hok
theorem sd_all {ok : D → Prop} (lt : D → D → Bool) (h : List D) (p : Nat) (hp : p < h.length) (hok : ∀ d ∈ h, ok d) : ∀ d ∈ sd lt h p, ok d := all_set (sdGo_all lt _ p h p hp hok) (all_get hok hp)
theorem sd_len (lt : D → D → Bool) (h : List D) (p : Nat) : (sd lt h p).length = h.length := by simp [sd, sdGo_len]
theorem su_all {ok : D → Prop} (lt : D → D → Bool) (h : List D) (hp : 0 < h.length) (hok : ∀ d ∈ h, ok d) : ∀ d ∈ su lt h, ok d :=
  sd_all lt _ _ (by rw [List.length_set, suGo_len]; exact suGo_lt lt _ h 0 hp) (all_set (suGo_all lt _ h 0 hok) (all_get hok hp))
theorem su_len (lt : D → D → Bool) (h : List D) : (su lt h).length = h.length := by simp [su, sd_len, suGo_len]
noncomputable abbrev suB := defBody pw "_siftup"
noncomputable abbrev suS := defScope pw "_siftup"
noncomputable abbrev suρ (h : List D) (p : Nat) (x : D) : Vars := [("heap", .lst h), ("pos", .val (.int p)), ("endpos", .val (.int h.length)), ("startpos", .val (.int 0)), ("newitem", .val x), ("childpos", .val (.int (2 * p + 1 : Nat)))]
theorem su_while {lt : D → D → Bool} {ok : D → Prop} (hlt : ∀ a b, ok a → ok b → Cmp c .Lt a b (lt a b)) (x : D) : ∀ (f : Nat) (h : List D) (p : Nat), h.length ≤ f + p → p < h.length → (∀ d ∈ h, ok d) → h.length ≤ 1000 →
    WhileR c n suS ["heap"] (wTest suB 4) (wBody suB 4) (f + 1) (suρ h p x) .next (suρ (suGo lt f h p).1 (suGo lt f h p).2 x) := by
  intro f
  induction f with
  | zero => intro h p hp hl hok hz; omega
  | succ f ih =>
    intro h p hp hl hok hz
    unfold suGo
    by_cases h0 : 2 * p + 1 < h.length
    · rw [if_pos h0]
      have tst : Te c n suS (suρ h p x) (wTest suB 4) true := (Te_Compare (EvR_name rfl rfl) (EvR_name rfl rfl) Cmp.lt).conv (by simp; omega)
      have ha : ok (h.getD (2 * p + 1) .none) := all_get hok h0
      generalize hq : (if (decide (2 * p + 2 < h.length) && !(lt (h.getD (2 * p + 1) .none) (h.getD (2 * p + 2) .none))) = true then 2 * p + 2 else 2 * p + 1) = q
      have hql : q < h.length ∧ f + 1 + p ≤ f + q := by
        subst hq; split
        next he => rw [Bool.and_eq_true, decide_eq_true_eq] at he; exact ⟨he.1, by omega⟩
        next => exact ⟨h0, by omega⟩
      dsimp only
      refine .next (ρ₁ := suρ (h.set p (h.getD q .none)) q x) tst ?_ (ih (h.set p (h.getD q .none)) q (by rw [List.length_set]; omega) (by simpa using hql.1) (all_set hok (all_get hok hql.1)) (by simpa using hz))
      refine Ex_cons (ρ₁ := Vars.put (suρ h p x) "rightpos" (.val (.int (2 * p + 2 : Nat)))) (ExS_assign ((Ev_BinOp (EvR_name rfl rfl) EvR_int Bin.add).conv rfl) rfl (by decide)) ?_
      have itm : ∀ {i : Nat} {ρ : Vars} {e e' : Expr}, i < h.length → EvR c n suS ρ e (.lst h) → EvR c n suS ρ e' (.int i) → (hs : notSlice e' = true) → ∀ {pos}, EvR c n suS ρ (.Subscript e e' pos) (h.getD i .none) := fun {i ρ e e'} hi h1 h2 hs {pos} => .of (Ev_Sub h1 h2 (Itm.lst (Int.natCast_nonneg _) (by rw [Int.toNat_natCast]; exact getD_some hi) (by omega)) hs)
      refine Ex_cons (ρ₁ := Vars.put (Vars.put (suρ h p x) "rightpos" (.val (.int (2 * p + 2 : Nat)))) "childpos" (.val (.int q))) (ExS_if (t := decide (2 * p + 2 < h.length) && (!(lt (h.getD (2 * p + 1) .none) (h.getD (2 * p + 2) .none)) && true)) (Te_and (Te_Compare (EvR_name rfl rfl) (EvR_name rfl rfl) Cmp.ltN) fun hr => Te_and (Te_not (Te_Compare (itm h0 (EvR_own rfl rfl) (EvR_name rfl rfl) rfl) (itm (of_decide_eq_true hr) (EvR_own rfl rfl) (EvR_name rfl rfl) rfl) (hlt _ _ ha (all_get hok (of_decide_eq_true hr))))) fun _ => Te_and_nil) (fun ht => ?_) (fun ht => ?_)) ?_
      · rw [Bool.and_true] at ht; rw [if_pos ht] at hq
        exact hq ▸ Ex_cons (ExS_assign (Ev_name rfl rfl) rfl (by decide)) Ex_nil
      · rw [Bool.and_true] at ht; rw [if_neg (by rw [ht]; decide)] at hq
        exact hq ▸ Ex_nil
      · refine Ex_cons (ExS_setitem rfl rfl (Ev_Sub (EvR_own rfl rfl) (EvR_name rfl rfl) (Itm.lst (Int.natCast_nonneg _) (by rw [Int.toNat_natCast]; exact getD_some hql.1) (by omega))) (EvR_name rfl rfl) (Int.natCast_nonneg _) (by omega) (by omega)) ?_
        refine Ex_cons (ExS_assign (Ev_name rfl rfl) rfl (by decide)) ?_
        refine (Ex_cons (ExS_assign (d := .int (2 * q + 1 : Nat)) ((Ev_BinOp (.of (Ev_BinOp EvR_int (EvR_name rfl rfl) (Bin.mul (by decide)))) EvR_int Bin.add).conv rfl) rfl (by decide)) Ex_nil).less ?_
        exact ⟨rfl, rfl, by rw [List.length_set]; rfl, rfl, rfl, rfl, trivial⟩
    · rw [if_neg h0]
      exact .done ((Te_Compare (EvR_name rfl rfl) (EvR_name rfl rfl) Cmp.lt).conv (by simp; omega))
theorem siftup_fn {fv fd : Value} (hc : c.Ok) (hf : IsFn c fv ["heap", "pos"] suB suS) (gl : Glb c "len" (.builtin "len")) (gd : Callee c "_siftdown" fd) (hd : IsFn c fd ["heap", "startpos", "pos"] sdB sdS) {lt : D → D → Bool} {ok : D → Prop} (hlt : ∀ a b, ok a → ok b → Cmp c .Lt a b (lt a b)) {h : List D} (hp : 0 < h.length) (hok : ∀ d ∈ h, ok d) (hz : h.length ≤ 1000) : FnM c 2 fv h [.int 0] (su lt h) .none := by
  have hl := suGo_lt lt h.length h 0 hp
  have hl2 := suGo_len lt h.length h 0
  have hx : ok (h.getD 0 .none) := all_get hok hp
  refine FnM_intro (fl := .next) hc hf (by decide) rfl ⟨nofun, nofun⟩ (ρ' := Vars.put (Vars.put (suρ (suGo lt h.length h 0).1 (suGo lt h.length h 0).2 (h.getD 0 .none)) "heap" (.lst ((suGo lt h.length h 0).1.set (suGo lt h.length h 0).2 (h.getD 0 .none)))) "heap" (.lst (su lt h))) ?_ rfl
  refine Ex_cons (ExS_assign (Ev_callB hc gl rfl nofun (EvLR_cons (EvR_own rfl rfl) EvLR_nil) (CallR.lenL (by omega))) rfl (by decide)) ?_
  refine Ex_cons (ExS_assign (Ev_name rfl rfl) rfl (by decide)) ?_
  refine Ex_cons (ExS_assign (d := h.getD 0 .none) (Ev_Sub (EvR_own rfl rfl) (EvR_name rfl rfl) (Itm.lst (i := 0) (by decide) (getD_some hp) (by decide))) rfl (by decide)) ?_
  refine Ex_cons (ExS_assign (d := .int 1) ((Ev_BinOp (.of (Ev_BinOp EvR_int (EvR_name rfl rfl) (Bin.mul (by decide)))) EvR_int Bin.add).conv rfl) rfl (by decide)) ?_
  refine Ex_cons (ExS_while (((su_while hlt (h.getD 0 .none) h.length h 0 (by omega) hp hok hz)))) ?_
  refine Ex_cons (ExS_setitem rfl rfl (Ev_name rfl rfl) (EvR_name rfl rfl) (Int.natCast_nonneg _) (by rw [hl2]; omega) (by rw [hl2]; omega)) ?_
  exact Ex_cons (ExS_exprX (EvX_callM hc gd (siftdown_fn hc hd hlt (by rw [List.length_set, hl2]; exact hl) (all_set (suGo_all lt _ h 0 hok) hx) (by rw [List.length_set, hl2]; exact hz)) rfl rfl rfl (EvL_cons (Ev_name rfl rfl) (EvL_cons (Ev_name rfl rfl) EvL_nil)))) Ex_nil
noncomputable def hpush (lt : D → D → Bool) (h : List D) (x : D) : List D := sd lt (h ++ [x]) h.length
theorem hpush_all {ok : D → Prop} (lt : D → D → Bool) {h : List D} {x : D} (hok : ∀ d ∈ h, ok d) (hx : ok x) : ∀ d ∈ hpush lt h x, ok d := sd_all lt _ _ (by simp) (fun d hd => by
  rcases List.mem_append.mp hd with q | q
  · exact hok d q
  · rw [List.mem_singleton.mp q]; exact hx)
noncomputable abbrev hpuB := defBody pw "heappush"
noncomputable abbrev hpuS := defScope pw "heappush"
noncomputable abbrev hpoB := defBody pw "heappop"
noncomputable abbrev hpoS := defScope pw "heappop"
theorem heappush_fn {fv fd : Value} (hc : c.Ok) (hf : IsFn c fv ["heap", "item"] hpuB hpuS) (gl : Glb c "len" (.builtin "len")) (gd : Callee c "_siftdown" fd) (hd : IsFn c fd ["heap", "startpos", "pos"] sdB sdS) {lt : D → D → Bool} {ok : D → Prop} (hlt : ∀ a b, ok a → ok b → Cmp c .Lt a b (lt a b)) {h : List D} {x : D} (hok : ∀ d ∈ h, ok d) (hx : ok x) (hz : h.length < 1000) : FnM c 2 fv h [x] (hpush lt h x) .none := by
  refine FnM_intro (fl := .next) hc hf (by decide) rfl ⟨nofun, nofun⟩ (ρ' := [("heap", .lst (hpush lt h x)), ("item", .val x)]) ?_ rfl
  refine Ex_cons (ExS_exprX (EvX_append rfl rfl (EvX.of (Ev_name rfl rfl)) rfl (by omega))) ?_
  refine Ex_cons (ExS_exprX (EvX_callM hc gd (siftdown_fn hc hd hlt (h := h ++ [x]) (p := h.length) (by simp) (fun d hd => by
    rcases List.mem_append.mp hd with q | q
    · exact hok d q
    · rw [List.mem_singleton.mp q]; exact hx) (by simp; omega)) rfl rfl rfl (EvL_cons Ev_int (EvL_cons ((Ev_BinOp (.of (Ev_callB hc gl rfl nofun (EvLR_cons (EvR_own rfl rfl) EvLR_nil) (CallR.lenL (by simp; omega)))) EvR_int Bin.sub).conv (by congr 1; simp)) EvL_nil)))) Ex_nil
/-- what comes off, and what is left -/
noncomputable def hpop (lt : D → D → Bool) (h : List D) : D × List D := match h.dropLast with
  | [] => (h.getLastD .none, [])
  | y :: ys => (y, su lt (h.getLastD .none :: ys))
theorem heappop_fn {fv fu fd : Value} (hc : c.Ok) (hf : IsFn c fv ["heap"] hpoB hpoS) (gl : Glb c "len" (.builtin "len")) (gu : Callee c "_siftup" fu) (hu : IsFn c fu ["heap", "pos"] suB suS) (gd : Callee c "_siftdown" fd) (hd : IsFn c fd ["heap", "startpos", "pos"] sdB sdS) {lt : D → D → Bool} {ok : D → Prop} (hlt : ∀ a b, ok a → ok b → Cmp c .Lt a b (lt a b)) {h : List D} (hne : h ≠ []) (hok : ∀ d ∈ h, ok d) (hz : h.length ≤ 1000) : FnM c 3 fv h [] (hpop lt h).2 (hpop lt h).1 := by
  have e : h = h.dropLast ++ [h.getLastD .none] := by
    rw [List.getLastD_eq_getLast?, List.getLast?_eq_some_getLast hne]; exact (List.dropLast_concat_getLast hne).symm
  unfold hpop
  generalize h.getLastD .none = d at e ⊢
  generalize h.dropLast = ys at e ⊢
  subst e
  simp only [List.length_append, List.length_singleton] at hz
  have hd' : ok d := hok d (by simp)
  cases ys with
  | nil =>
    refine FnM_intro (fl := .ret d) hc hf (by decide) rfl ⟨nofun, nofun⟩ (ρ' := [("heap", .lst []), ("lastelt", .val d)]) ?_ rfl
    refine Ex_cons (ExS_assignX (EvX_pop (xs := []) rfl rfl (by simp)) rfl (by decide)) ?_
    refine Ex_cons (ExS_if (Te_plain (EvR_own rfl rfl) (Tru.lst (by simp))) (fun e => nomatch e) (fun _ => Ex_nil)) ?_
    exact Ex_stop (ExS_return (Ev_name rfl rfl))
  | cons y ys =>
    refine FnM_intro (fl := .ret y) hc hf (by decide) rfl ⟨nofun, nofun⟩ (ρ' := [("heap", .lst (su lt (d :: ys))), ("lastelt", .val d), ("returnitem", .val y)]) ?_ rfl
    refine Ex_cons (ExS_assignX (EvX_pop (xs := y :: ys) rfl rfl (by simp at hz ⊢; omega)) rfl (by decide)) ?_
    refine Ex_stop (ExS_if (Te_plain (EvR_own rfl rfl) (Tru.lst (by simp at hz ⊢; omega))) (fun _ => ?_) (fun e => nomatch e))
    refine Ex_cons (ExS_assign (d := y) (Ev_Sub (EvR_own rfl rfl) EvR_int (Itm.lst (i := 0) (by decide) rfl (by decide))) rfl (by decide)) ?_
    refine Ex_cons (ExS_setitem rfl rfl (Ev_name rfl rfl) EvR_int (by decide) (by simp) (by simp at hz ⊢; omega)) ?_
    refine Ex_cons (ExS_exprX (EvX_callM hc gu (siftup_fn hc hu gl gd hd hlt (h := d :: ys) (by simp) (fun e he => by
      rcases List.mem_cons.mp he with rfl | q
      · exact hd'
      · exact hok e (by simp [q])) (by simp at hz ⊢; omega)) rfl rfl rfl (EvL_cons Ev_int EvL_nil))) ?_
    exact Ex_stop (ExS_return (Ev_name rfl rfl))
end Mine
end

section
open PySem PySem.Calls PyProof.Rows PySem.W
set_option maxRecDepth 100000
set_option linter.unusedVariables false
namespace Mine
noncomputable def cBody (n : Str) : List Stmt → List Stmt
  | [] => []
  | .ClassDef name _ _ body _ _ _ _ _ _ _ :: r => if name == n then body else cBody n r
  | _ :: r => cBody n r
noncomputable def mBody (p : Program) (k n : Str) : List Stmt := match findDef n (cBody k p.main.body) with
  | some (_, b, _) => b
  | none => []
noncomputable def mScope (p : Program) (k n : Str) : Scope := match findDef n (cBody k p.main.body) with
  | some (_, _, s) => s
  | none => default
variable {c : Cx} {n : Nat}

/-- a class's constant text -/
theorem Ev_clsStr {sc : Scope} {ρ : Vars} {k name : Str} {p pos : Pos} {C : Addr} {mc : Value} {x : Str} {t : Tok} (hc : c.Ok) (hg : Glb c k (.ref C)) (hi : isGlb sc k = true) (hr : readsIn c.K C mc = true) (e : findCls c.K (.ref C) mc name = some (.val (.str x t))) (hm : AtrAt (.Name k p) name pos := by exact fun _ => rfl) : Ev c n sc ρ (.Attribute (.Name k p) name pos) (.str x) := fun A env pins F P s R ok S =>
  Attribute_any_ (load_glob hc ok S.keep hi hg (cls_value (hc.at_ S.keep) hr e rfl (.flat S.le (.str x t)))) (hm env)

structure WS where
  count : List Nat
  b : Nat
  n : Nat
  nt : Nat
noncomputable def wsStep (w : WS) (ch : Str) : Option WS :=
  if ch = " " then some { w with b := w.b + 1, n := w.n + 1 }
  else if ch = "\t" then
    let ct := if w.count.length ≤ w.b then w.count ++ List.replicate (w.b - w.count.length + 1) 0 else w.count
    some { count := ct.set w.b (ct.getD w.b 0 + 1), b := 0, n := w.n + 1, nt := w.nt + 1 }
  else none
noncomputable def wsGo : List Str → WS → WS
  | [], w => w
  | ch :: r, w => match wsStep w ch with
    | some w' => wsGo r w'
    | none => w
noncomputable def dN (k : Nat) : D := .int (k : Int)
noncomputable abbrev wρ (C : Addr) (s : Str) (w : WS) : Vars := [("self", .self C [("raw", .str s)]), ("ws", .val (.str s)), ("T", .val (.str "\t")), ("S", .val (.str " ")), ("count", .lst (w.count.map dN)), ("b", .val (.int w.b)), ("n", .val (.int w.n)), ("nt", .val (.int w.nt))]
noncomputable abbrev wB := mBody pw "Whitespace" "__init__"
noncomputable abbrev wS := mScope pw "Whitespace" "__init__"
noncomputable def fTarget (b : List Stmt) (i : Nat) : Expr := match b[i]? with
  | some (.For t _ _ _ _) => t
  | _ => default
theorem map_getD (l : List Nat) (i : Nat) (h : i < l.length) : (l.map dN)[i]? = some (dN (l.getD i 0)) := by
  rw [List.getElem?_map, List.getElem?_eq_getElem h, List.getD_eq_getElem?_getD, List.getElem?_eq_getElem h]; rfl
theorem ws_turn (C : Addr) (s : Str) (w : WS) (ch : Str) (hb : w.b ≤ 500) (hl : w.count.length ≤ 600) (gl : Glb c "len" (.builtin "len")) (hc : c.Ok) :
    match wsStep w ch with
    | some w' => Turn c n wS ["self"] (fTarget wB 4) (fBody wB 4) (.str ch) (wρ C s w) .next (wρ C s w')
    | none => Turn c n wS ["self"] (fTarget wB 4) (fBody wB 4) (.str ch) (wρ C s w) .brk (wρ C s w) := by
  unfold wsStep
  by_cases h1 : ch = " "
  · rw [if_pos h1]
    refine ⟨_, AsgT_name rfl (by decide), ?_⟩
    refine (Ex_cons (ExS_if ((Te_Compare (EvR_name rfl rfl) (EvR_name rfl rfl) Cmp.eqS).conv (b' := true) (by rw [h1]; rfl)) (fun _ => ?_) (fun e => nomatch e)) Ex_nil).less (ρ₁ := Vars.put (Vars.put (Vars.put (wρ C s w) "ch" (.val (.str ch))) "n" (.val (.int (w.n + 1 : Nat)))) "b" (.val (.int (w.b + 1 : Nat)))) ⟨rfl, rfl, rfl, rfl, rfl, rfl, rfl, rfl, trivial⟩
    refine Ex_cons (ExS_assign (d := .int (w.n + 1 : Nat)) ((Ev_BinOp (EvR_name rfl rfl) EvR_int Bin.add).conv rfl) rfl (by decide)) ?_
    exact Ex_cons (ExS_assign (d := .int (w.b + 1 : Nat)) ((Ev_BinOp (EvR_name rfl rfl) EvR_int Bin.add).conv rfl) rfl (by decide)) Ex_nil
  · rw [if_neg h1]
    by_cases h2 : ch = "\t"
    · rw [if_pos h2]
      dsimp only
      generalize hct : (if w.count.length ≤ w.b then w.count ++ List.replicate (w.b - w.count.length + 1) 0 else w.count) = ct
      have hlt : w.b < ct.length := by
        subst hct; split
        · simp; omega
        · omega
      have hlen : ct.length ≤ 1200 := by
        subst hct; split
        · simp; omega
        · omega
      refine ⟨_, AsgT_name rfl (by decide), ?_⟩
      refine Ex.less (ρ₁ := Vars.put (Vars.put (Vars.put (Vars.put (Vars.put (Vars.put (wρ C s w) "ch" (.val (.str ch))) "n" (.val (.int (w.n + 1 : Nat)))) "nt" (.val (.int (w.nt + 1 : Nat)))) "count" (.lst (ct.map dN))) "count" (.lst ((ct.map dN).set w.b (dN (ct.getD w.b 0 + 1))))) "b" (.val (.int 0))) ?_ ⟨rfl, rfl, rfl, rfl, by rw [List.map_set]; rfl, rfl, rfl, rfl, trivial⟩
      refine Ex_cons (ExS_if ((Te_Compare (EvR_name rfl rfl) (EvR_name rfl rfl) Cmp.eqS).conv (b' := false) (by simpa using h1)) (fun e => nomatch e) (fun _ => ?_)) Ex_nil
      refine Ex_cons (ExS_if ((Te_Compare (EvR_name rfl rfl) (EvR_name rfl rfl) Cmp.eqS).conv (b' := true) (by rw [h2]; rfl)) (fun _ => ?_) (fun e => nomatch e)) Ex_nil
      refine Ex_cons (ExS_assign (d := .int (w.n + 1 : Nat)) ((Ev_BinOp (EvR_name rfl rfl) EvR_int Bin.add).conv rfl) rfl (by decide)) ?_
      refine Ex_cons (ExS_assign (d := .int (w.nt + 1 : Nat)) ((Ev_BinOp (EvR_name rfl rfl) EvR_int Bin.add).conv rfl) rfl (by decide)) ?_
      refine Ex_cons (ρ₁ := Vars.put (Vars.put (Vars.put (Vars.put (wρ C s w) "ch" (.val (.str ch))) "n" (.val (.int (w.n + 1 : Nat)))) "nt" (.val (.int (w.nt + 1 : Nat)))) "count" (.lst (ct.map dN)))
        (ExS_if (t := decide (w.count.length ≤ w.b)) ((Te_Compare (EvR_name rfl rfl) (EvR.of (Ev_callB hc gl rfl nofun (EvLR_cons (EvR_own rfl rfl) EvLR_nil) (CallR.lenL (by simp; omega)))) Cmp.geN).conv (by rw [List.length_map])) (fun ht => ?_) (fun ht => ?_)) ?_
      · have ht := of_decide_eq_true ht
        rw [if_pos ht] at hct
        subst hct
        refine Ex_cons (ExS_assignNew (xs := (w.count ++ List.replicate (w.b - w.count.length + 1) 0).map dN) ?_ rfl (by decide)) Ex_nil
        rw [List.map_append, List.map_replicate]
        refine EvNew_addL (EvR_own rfl rfl) (.of (Ev_mulNew (EvNew_List (EvL_cons Ev_int EvL_nil) (by decide)) (.of ((Ev_BinOp (.of (Ev_BinOp (EvR_name rfl rfl) (.of (Ev_callB hc gl rfl nofun (EvLR_cons (EvR_own rfl rfl) EvLR_nil) (CallR.lenL (by simp; omega)))) Bin.sub)) EvR_int Bin.add).conv (by congr 1; rw [List.length_map]; omega))) (by omega))) (by simp; omega)
      · have ht := of_decide_eq_false ht
        rw [if_neg ht] at hct
        subst hct
        exact Ex_nil.less ⟨rfl, rfl, rfl, rfl, rfl, rfl, rfl, rfl, rfl, trivial⟩
      · refine Ex_cons (ExS_setitem rfl rfl ((Ev_BinOp (d := dN (ct.getD w.b 0 + 1)) (EvR.of (Ev_Sub (EvR_own rfl rfl) (EvR_name rfl rfl) (Itm.lst (Int.natCast_nonneg _) (by rw [Int.toNat_natCast]; exact map_getD ct w.b hlt) (by omega)))) EvR_int Bin.add).conv rfl) (EvR_name rfl rfl) (Int.natCast_nonneg _) (by rw [List.length_map]; omega) (by rw [List.length_map]; omega)) ?_
        exact Ex_cons (ExS_assign (d := .int 0) Ev_int rfl (by decide)) Ex_nil
    · rw [if_neg h2]
      refine ⟨_, AsgT_name rfl (by decide), ?_⟩
      refine Ex_stop (ExS_if ((Te_Compare (EvR_name rfl rfl) (EvR_name rfl rfl) Cmp.eqS).conv (b' := false) (by simpa using h1)) (fun e => nomatch e) (fun _ => ?_))
      refine Ex_stop (ExS_if ((Te_Compare (EvR_name rfl rfl) (EvR_name rfl rfl) Cmp.eqS).conv (b' := false) (by simpa using h2)) (fun e => nomatch e) (fun _ => ?_))
      exact Ex_stop (ExS_break.less ⟨rfl, rfl, rfl, rfl, rfl, rfl, rfl, rfl, trivial⟩)
theorem wsStep_le {w w' : WS} {ch : Str} (h : wsStep w ch = some w') : w'.b ≤ w.b + 1 ∧ w'.count.length ≤ max w.count.length (w.b + 1) := by
  unfold wsStep at h
  split at h
  · cases h; exact ⟨Nat.le_refl _, Nat.le_max_left ..⟩
  · split at h
    · cases h
      refine ⟨Nat.zero_le _, ?_⟩
      simp only [List.length_set]
      split
      · simp; omega
      · omega
    · cases h
theorem ws_loop (C : Addr) (s : Str) (gl : Glb c "len" (.builtin "len")) (hc : c.Ok) : ∀ (l : List Str) (w : WS), w.b + l.length ≤ 500 → w.count.length ≤ 501 →
    LoopR (Turn c n wS ["self"] (fTarget wB 4) (fBody wB 4)) (l.map .str) (wρ C s w) .next (wρ C s (wsGo l w))
  | [], w, _, _ => .nil
  | ch :: r, w, h1, h2 => by
    have t := ws_turn (n := n) C s w ch (by simp at h1; omega) (by omega) gl hc
    unfold wsGo
    cases e : wsStep w ch with
    | none => rw [e] at t; exact .brk t
    | some w' =>
      rw [e] at t
      have q := wsStep_le e
      simp at h1
      exact .next t (ws_loop C s gl hc r w' (by omega) (by omega))
noncomputable def signsOf (s : Str) : List Str := s.cps.toList.map fun cp => ⟨#[cp]⟩
noncomputable def wsOf (s : Str) : WS := wsGo (signsOf s) ⟨[], 0, 0, 0⟩
/-- the fields that Whitespace lays -/
noncomputable def wsF (s : Str) (w : WS) : List (Str × D) := [("raw", .str s), ("n", .int w.n), ("nt", .int w.nt), ("norm", .tup [.tup (w.count.map dN), .int w.b]), ("is_simple", .bool (decide (w.count.length ≤ 1)))]
theorem wsGo_le : ∀ (l : List Str) (w : WS), (wsGo l w).b ≤ w.b + l.length ∧ (wsGo l w).count.length ≤ max w.count.length (w.b + l.length)
  | [], w => ⟨Nat.le_refl _, Nat.le_max_left ..⟩
  | ch :: r, w => by
    unfold wsGo
    cases e : wsStep w ch with
    | none => exact ⟨Nat.le_add_right .., Nat.le_max_left ..⟩
    | some w' =>
      have q := wsStep_le e
      have ih := wsGo_le r w'
      simp only [List.length_cons]
      constructor
      · have := ih.1; show (wsGo r w').b ≤ _; omega
      · have := ih.2; show (wsGo r w').count.length ≤ _; omega
structure WsK (c : Cx) (C : Addr) : Prop where
  cls : ClsK c C
  raw : findIn c.K (.ref C) "raw" = some none
  n : findIn c.K (.ref C) "n" = some none
  nt : findIn c.K (.ref C) "nt" = some none
  norm : findIn c.K (.ref C) "norm" = some none
  simple : findIn c.K (.ref C) "is_simple" = some none
  glb : Glb c "Whitespace" (.ref C)
  blank : ∃ mc t, readsIn c.K C mc = true ∧ findCls c.K (.ref C) mc "S" = some (.val (.str " " t))
  tab : ∃ mc t, readsIn c.K C mc = true ∧ findCls c.K (.ref C) mc "T" = some (.val (.str "\t" t))
theorem ws_init {C fa : Addr} {fd : FuncData} {s : Str} (hc : c.Ok) (K : WsK c C) (gl : Glb c "len" (.builtin "len")) (gt : Glb c "tuple" (.type "tuple")) (D0 : DefAt c fa fd wB wS) (hb : ∀ v0 (vs : List Value), vs.length = 1 → ∀ s : Shared, Fle c.hB.get? s.heap.get? → BindsTo s fd ⟨v0 :: vs, []⟩ (("self", v0) :: (["ws"] : List Str).zip vs)) (hs : s.length ≤ 400) : FnI c 1 (.ref fa) C [.str s] (wsF s (wsOf s)) := by
  have hsl : (signsOf s).length ≤ 400 := by unfold signsOf; rw [List.length_map]; exact hs
  have hle := wsGo_le (signsOf s) ⟨[], 0, 0, 0⟩
  have hcl : (wsOf s).count.length ≤ 400 := by have := hle.2; simp at this; unfold wsOf; omega
  obtain ⟨mc, t, hr, hS⟩ := K.blank
  obtain ⟨mc', t', hr', hT⟩ := K.tab
  refine FnI_intro (n0 := "self") (names := ["ws"]) (ρ' := [("self", .self C (wsF s (wsOf s)))]) hc D0 hb (by decide) rfl rfl ?_ rfl
  refine Ex_cons (ExS_setattr hc K.cls rfl rfl (Ev_name rfl rfl) K.raw rfl (by decide)) ?_
  refine Ex_cons (ExS_swap2 (d := .str " ") (e := .str "\t") (Ev_Tuple (EvL_cons (Ev_clsStr hc K.glb rfl hr hS) (EvL_cons (Ev_clsStr hc K.glb rfl hr' hT) EvL_nil)) (by decide)) rfl rfl (by decide) (by decide) (fun env ok => ?_)) ?_
  · obtain ⟨⟩ := env
    have e := ok.scope
    dsimp only at e
    subst e
    rfl
  refine Ex_cons (ExS_assignNew (EvNew_List EvL_nil (by decide)) rfl (by decide)) ?_
  refine Ex_cons (ExS_assign3 (d := .int 0) Ev_int rfl rfl rfl (by decide) (by decide) (by decide)) ?_
  refine Ex_cons (ρ₁ := wρ C s (wsOf s)) (ExS_for (d := .str s) (xs := (signsOf s).map .str) (Ev_attrSelf hc K.cls K.raw rfl rfl rfl) (by unfold signsOf; rw [List.map_map]; rfl) rfl (ws_loop C s gl hc (signsOf s) ⟨[], 0, 0, 0⟩ (by simp; omega) (by decide)) (.inl rfl)) ?_
  refine Ex_cons (ExS_setattr hc K.cls rfl rfl (Ev_name rfl rfl) K.n rfl (by simp)) ?_
  refine Ex_cons (ExS_setattr hc K.cls rfl rfl (Ev_name rfl rfl) K.nt rfl (by simp)) ?_
  refine Ex_cons (ExS_setattr hc K.cls rfl rfl (Ev_Tuple (EvL_cons (Ev_callB hc gt rfl nofun (EvLR_cons (EvR_own rfl rfl) EvLR_nil) (CallR.tupL (by simp; omega))) (EvL_cons (Ev_name rfl rfl) EvL_nil)) (by simp)) K.norm rfl (by simp)) ?_
  refine (Ex_cons (ExS_setattr (d := .bool (decide ((wsOf s).count.length ≤ 1))) hc K.cls rfl rfl ((Ev_Compare (.of (Ev_callB hc gl rfl nofun (EvLR_cons (EvR_own rfl rfl) EvLR_nil) (CallR.lenL (by simp; omega)))) EvR_int Cmp.le).conv (by congr 1; simp; omega)) K.simple rfl (by simp)) Ex_nil).less ⟨rfl, trivial⟩
end Mine
end

section
open PySem PySem.Calls PyProof.Rows PySem.W
set_option maxRecDepth 100000
set_option linter.unusedVariables false
set_option maxHeartbeats 8000000
namespace Mine
noncomputable def defArgs (p : Program) (n : Str) : Arguments := match findDef n p.main.body with
  | some (a, _, _) => a
  | none => default
noncomputable def mArgs (p : Program) (k n : Str) : Arguments := match findDef n (cBody k p.main.body) with
  | some (a, _, _) => a
  | none => default
noncomputable def KK (P : Params) : Frag := [
  (2, { cls := Value.none, data := Data.dict #[{ hash := PyData.keyHash P (Str.ofString "im" ++ Str.ofString "port.loaded._sre"), key := Value.str (Str.ofString "im" ++ Str.ofString "port.loaded._sre") 183, val := Value.bool true }, { hash := PyData.keyHash P (Str.ofString "class._frozen_importlib.BuiltinImporter"), key := Value.str (Str.ofString "class._frozen_importlib.BuiltinImporter") 185, val := Value.ref 14 }, { hash := PyData.keyHash P (Str.ofString "watched.im" ++ Str.ofString "port"), key := Value.str (Str.ofString "watched.im" ++ Str.ofString "port") 206, val := Value.ref 18 }, { hash := PyData.keyHash P (Str.ofString "class._frozen_importlib.ModuleSpec"), key := Value.str (Str.ofString "class._frozen_importlib.ModuleSpec") 216, val := Value.ref 22 }, { hash := PyData.keyHash P (Str.ofString "sys.modules.booked-epoch"), key := Value.str (Str.ofString "sys.modules.booked-epoch") 245, val := Value.int 3 0 }, { hash := PyData.keyHash P (Str.ofString "im" ++ Str.ofString "port.later-laid._sre"), key := Value.str (Str.ofString "im" ++ Str.ofString "port.later-laid._sre") 270, val := Value.bool true }, { hash := PyData.keyHash P (Str.ofString "watched.library"), key := Value.str (Str.ofString "watched.library") 272, val := Value.ref 27 }, { hash := PyData.keyHash P (Str.ofString "watched.library-objects"), key := Value.str (Str.ofString "watched.library-objects") 0, val := Value.str (Str.ofString "\x0c") 0 }, { hash := PyData.keyHash P (Str.ofString "watched.library-deep._sre"), key := Value.str (Str.ofString "watched.library-deep._sre") 273, val := Value.str (Str.ofString "\x04\x00\x00\x0b\x04\x00\x00\x0b\x04\x00\x00\x03\x04\x00\x00\x0b\x08\x04dict\x02") 0 }] 9 }),
  (3, { cls := Value.type "dict", data := Data.dict #[{ hash := PyData.keyHash P (Str.ofString "__name__"), key := Value.str (Str.ofString "__name__") 165, val := Value.str (Str.ofString "law_pg0319_02") 698 }, { hash := PyData.keyHash P (Str.ofString "__doc__"), key := Value.str (Str.ofString "__doc__") 166, val := Value.none }, { hash := PyData.keyHash P (Str.ofString "__package__"), key := Value.str (Str.ofString "__package__") 167, val := Value.none }, { hash := PyData.keyHash P (Str.ofString "__loader__"), key := Value.str (Str.ofString "__loader__") 168, val := Value.builtin "__main__.__loader__#opaque" }, { hash := PyData.keyHash P (Str.ofString "__spec__"), key := Value.str (Str.ofString "__spec__") 169, val := Value.none }, { hash := PyData.keyHash P (Str.ofString "__annotations__"), key := Value.str (Str.ofString "__annotations__") 170, val := Value.ref 6 }, { hash := PyData.keyHash P (Str.ofString "__builtins__"), key := Value.str (Str.ofString "__builtins__") 171, val := Value.ref 4 }, { hash := PyData.keyHash P (Str.ofString "__file__"), key := Value.str (Str.ofString "__file__") 173, val := Value.str (Str.ofString "/claim/cut.py") 172 }, { hash := PyData.keyHash P (Str.ofString "__cached__"), key := Value.str (Str.ofString "__cached__") 174, val := Value.none }, { hash := PyData.keyHash P (Str.ofString "_sre"), key := Value.str (Str.ofString "_sre") 275, val := Value.ref 12 }, { hash := PyData.keyHash P (Str.ofString "_wall"), key := Value.str (Str.ofString "_wall") 288, val := Value.ref 38 }, { hash := PyData.keyHash P (Str.ofString "heappush"), key := Value.str (Str.ofString "heappush") 298, val := Value.ref 45 }, { hash := PyData.keyHash P (Str.ofString "heappop"), key := Value.str (Str.ofString "heappop") 307, val := Value.ref 52 }, { hash := PyData.keyHash P (Str.ofString "_siftdown"), key := Value.str (Str.ofString "_siftdown") 319, val := Value.ref 59 }, { hash := PyData.keyHash P (Str.ofString "_siftup"), key := Value.str (Str.ofString "_siftup") 332, val := Value.ref 66 }, { hash := PyData.keyHash P (Str.ofString "Whitespace"), key := Value.str (Str.ofString "Whitespace") 434, val := Value.ref 128 }, { hash := PyData.keyHash P (Str.ofString "tspecials"), key := Value.str (Str.ofString "tspecials") 470, val := Value.ref 137 }, { hash := PyData.keyHash P (Str.ofString "_name_disallowed_re"), key := Value.str (Str.ofString "_name_disallowed_re") 496, val := Value.ref 142 }, { hash := PyData.keyHash P (Str.ofString "_value_disallowed_re"), key := Value.str (Str.ofString "_value_disallowed_re") 530, val := Value.ref 147 }, { hash := PyData.keyHash P (Str.ofString "_formatparam"), key := Value.str (Str.ofString "_formatparam") 540, val := Value.ref 155 }, { hash := PyData.keyHash P (Str.ofString "Headers"), key := Value.str (Str.ofString "Headers") 697, val := Value.ref 276 }, { hash := PyData.keyHash P (Str.ofString "_law_leads"), key := Value.str (Str.ofString "_law_leads") 709, val := Value.ref 287 }, { hash := PyData.keyHash P (Str.ofString "_law_more"), key := Value.str (Str.ofString "_law_more") 721, val := Value.ref 294 }, { hash := PyData.keyHash P (Str.ofString "_law_pairs"), key := Value.str (Str.ofString "_law_pairs") 727, val := Value.ref 299 }, { hash := PyData.keyHash P (Str.ofString "_law_reached"), key := Value.str (Str.ofString "_law_reached") 738, val := Value.ref 306 }, { hash := PyData.keyHash P (Str.ofString "_law_locked"), key := Value.str (Str.ofString "_law_locked") 751, val := Value.ref 313 }, { hash := PyData.keyHash P (Str.ofString "_law_walked"), key := Value.str (Str.ofString "_law_walked") 762, val := Value.ref 320 }, { hash := PyData.keyHash P (Str.ofString "_law_has"), key := Value.str (Str.ofString "_law_has") 771, val := Value.ref 327 }, { hash := PyData.keyHash P (Str.ofString "_law_orders"), key := Value.str (Str.ofString "_law_orders") 777, val := Value.ref 332 }, { hash := PyData.keyHash P (Str.ofString "_law_by_steps"), key := Value.str (Str.ofString "_law_by_steps") 783, val := Value.ref 337 }, { hash := PyData.keyHash P (Str.ofString "_law_all_five"), key := Value.str (Str.ofString "_law_all_five") 795, val := Value.ref 344 }, { hash := PyData.keyHash P (Str.ofString "_law_right"), key := Value.str (Str.ofString "_law_right") 801, val := Value.ref 349 }, { hash := PyData.keyHash P (Str.ofString "law"), key := Value.str (Str.ofString "law") 807, val := Value.ref 354 }] 33 }),
  (44, { cls := Value.type "code", data := Data.fields #[Value.str (Str.ofString "heappush") 291, Value.str (Str.ofString "heappush") 292, Value.str (Str.ofString "/claim/cut.py") 293, Value.int 6 0, Value.int 2 0, Value.int 0 0, Value.int 0 0, Value.int 3 0, Value.ref 39, Value.bool true, Value.int 276 0, Value.ref 40, Value.none, Value.ref 41, Value.ref 42, Value.ref 43, Value.int 296 0, Value.int 6 0, Value.str (Str.ofString "/claim/cut.py") 297] }),
  (45, { cls := Value.type "function", data := Data.func { name := Str.ofString "heappush", qualname := Str.ofString "heappush", params := defArgs pw "heappush", body := .stmts (defBody pw "heappush"), scope := defScope pw "heappush", globals := 3, closure := [], defaults := Value.none, kwdefaults := Value.none, pyModule := Value.str (Str.ofString "cpy313.heapq") 289, code := Value.ref 44 } }),
  (51, { cls := Value.type "code", data := Data.fields #[Value.str (Str.ofString "heappop") 299, Value.str (Str.ofString "heappop") 300, Value.str (Str.ofString "/claim/cut.py") 301, Value.int 9 0, Value.int 1 0, Value.int 0 0, Value.int 0 0, Value.int 3 0, Value.ref 46, Value.bool true, Value.int 276 0, Value.ref 47, Value.none, Value.ref 48, Value.ref 49, Value.ref 50, Value.int 305 0, Value.int 9 0, Value.str (Str.ofString "/claim/cut.py") 306] }),
  (52, { cls := Value.type "function", data := Data.func { name := Str.ofString "heappop", qualname := Str.ofString "heappop", params := defArgs pw "heappop", body := .stmts (defBody pw "heappop"), scope := defScope pw "heappop", globals := 3, closure := [], defaults := Value.none, kwdefaults := Value.none, pyModule := Value.str (Str.ofString "cpy313.heapq") 289, code := Value.ref 51 } }),
  (58, { cls := Value.type "code", data := Data.fields #[Value.str (Str.ofString "_siftdown") 308, Value.str (Str.ofString "_siftdown") 309, Value.str (Str.ofString "/claim/cut.py") 310, Value.int 17 0, Value.int 3 0, Value.int 0 0, Value.int 0 0, Value.int 3 0, Value.ref 53, Value.bool true, Value.int 276 0, Value.ref 54, Value.none, Value.ref 55, Value.ref 56, Value.ref 57, Value.int 317 0, Value.int 17 0, Value.str (Str.ofString "/claim/cut.py") 318] }),
  (59, { cls := Value.type "function", data := Data.func { name := Str.ofString "_siftdown", qualname := Str.ofString "_siftdown", params := defArgs pw "_siftdown", body := .stmts (defBody pw "_siftdown"), scope := defScope pw "_siftdown", globals := 3, closure := [], defaults := Value.none, kwdefaults := Value.none, pyModule := Value.str (Str.ofString "cpy313.heapq") 289, code := Value.ref 58 } }),
  (65, { cls := Value.type "code", data := Data.fields #[Value.str (Str.ofString "_siftup") 320, Value.str (Str.ofString "_siftup") 321, Value.str (Str.ofString "/claim/cut.py") 322, Value.int 28 0, Value.int 2 0, Value.int 0 0, Value.int 0 0, Value.int 3 0, Value.ref 60, Value.bool true, Value.int 276 0, Value.ref 61, Value.none, Value.ref 62, Value.ref 63, Value.ref 64, Value.int 330 0, Value.int 28 0, Value.str (Str.ofString "/claim/cut.py") 331] }),
  (66, { cls := Value.type "function", data := Data.func { name := Str.ofString "_siftup", qualname := Str.ofString "_siftup", params := defArgs pw "_siftup", body := .stmts (defBody pw "_siftup"), scope := defScope pw "_siftup", globals := 3, closure := [], defaults := Value.none, kwdefaults := Value.none, pyModule := Value.str (Str.ofString "cpy313.heapq") 289, code := Value.ref 65 } }),
  (82, { cls := Value.type "code", data := Data.fields #[Value.str (Str.ofString "__init__") 352, Value.str (Str.ofString "Whitespace.__init__") 353, Value.str (Str.ofString "/claim/cut.py") 354, Value.int 46 0, Value.int 2 0, Value.int 0 0, Value.int 0 0, Value.int 3 0, Value.ref 77, Value.bool true, Value.int 276 0, Value.ref 78, Value.none, Value.ref 79, Value.ref 80, Value.ref 81, Value.int 364 0, Value.int 46 0, Value.str (Str.ofString "/claim/cut.py") 365] }),
  (83, { cls := Value.type "function", data := Data.func { name := Str.ofString "__init__", qualname := Str.ofString "Whitespace.__init__", params := mArgs pw "Whitespace" "__init__", body := .stmts (mBody pw "Whitespace" "__init__"), scope := mScope pw "Whitespace" "__init__", globals := 3, closure := [], defaults := Value.none, kwdefaults := Value.none, pyModule := Value.str (Str.ofString "cpy313.tabnanny") 333, code := Value.ref 82 } }),
  (89, { cls := Value.type "code", data := Data.fields #[Value.str (Str.ofString "longest_run_of_spaces") 367, Value.str (Str.ofString "Whitespace.longest_run_of_spaces") 368, Value.str (Str.ofString "/claim/cut.py") 369, Value.int 69 0, Value.int 1 0, Value.int 0 0, Value.int 0 0, Value.int 3 0, Value.ref 84, Value.bool true, Value.int 276 0, Value.ref 85, Value.none, Value.ref 86, Value.ref 87, Value.ref 88, Value.int 373 0, Value.int 69 0, Value.str (Str.ofString "/claim/cut.py") 374] }),
  (90, { cls := Value.type "function", data := Data.func { name := Str.ofString "longest_run_of_spaces", qualname := Str.ofString "Whitespace.longest_run_of_spaces", params := mArgs pw "Whitespace" "longest_run_of_spaces", body := .stmts (mBody pw "Whitespace" "longest_run_of_spaces"), scope := mScope pw "Whitespace" "longest_run_of_spaces", globals := 3, closure := [], defaults := Value.none, kwdefaults := Value.none, pyModule := Value.str (Str.ofString "cpy313.tabnanny") 333, code := Value.ref 89 } }),
  (96, { cls := Value.type "code", data := Data.fields #[Value.str (Str.ofString "indent_level") 376, Value.str (Str.ofString "Whitespace.indent_level") 377, Value.str (Str.ofString "/claim/cut.py") 378, Value.int 73 0, Value.int 2 0, Value.int 0 0, Value.int 0 0, Value.int 3 0, Value.ref 91, Value.bool true, Value.int 276 0, Value.ref 92, Value.none, Value.ref 93, Value.ref 94, Value.ref 95, Value.int 385 0, Value.int 73 0, Value.str (Str.ofString "/claim/cut.py") 386] }),
  (97, { cls := Value.type "function", data := Data.func { name := Str.ofString "indent_level", qualname := Str.ofString "Whitespace.indent_level", params := mArgs pw "Whitespace" "indent_level", body := .stmts (mBody pw "Whitespace" "indent_level"), scope := mScope pw "Whitespace" "indent_level", globals := 3, closure := [], defaults := Value.none, kwdefaults := Value.none, pyModule := Value.str (Str.ofString "cpy313.tabnanny") 333, code := Value.ref 96 } }),
  (117, { cls := Value.type "code", data := Data.fields #[Value.str (Str.ofString "less") 404, Value.str (Str.ofString "Whitespace.less") 405, Value.str (Str.ofString "/claim/cut.py") 406, Value.int 86 0, Value.int 2 0, Value.int 0 0, Value.int 0 0, Value.int 3 0, Value.ref 112, Value.bool true, Value.int 276 0, Value.ref 113, Value.none, Value.ref 114, Value.ref 115, Value.ref 116, Value.int 411 0, Value.int 86 0, Value.str (Str.ofString "/claim/cut.py") 412] }),
  (118, { cls := Value.type "function", data := Data.func { name := Str.ofString "less", qualname := Str.ofString "Whitespace.less", params := mArgs pw "Whitespace" "less", body := .stmts (mBody pw "Whitespace" "less"), scope := mScope pw "Whitespace" "less", globals := 3, closure := [], defaults := Value.none, kwdefaults := Value.none, pyModule := Value.str (Str.ofString "cpy313.tabnanny") 333, code := Value.ref 117 } }),
  (127, { cls := Value.type "dict", data := Data.dict #[{ hash := PyData.keyHash P (Str.ofString "__module__"), key := Value.str (Str.ofString "__module__") 342, val := Value.str (Str.ofString "cpy313.tabnanny") 333 }, { hash := PyData.keyHash P (Str.ofString "__firstlineno__"), key := Value.str (Str.ofString "__firstlineno__") 346, val := Value.int 43 345 }, { hash := PyData.keyHash P (Str.ofString "S"), key := Value.str (Str.ofString "S") 350, val := Value.str (Str.ofString " ") 348 }, { hash := PyData.keyHash P (Str.ofString "T"), key := Value.str (Str.ofString "T") 351, val := Value.str (Str.ofString "\t") 349 }, { hash := PyData.keyHash P (Str.ofString "__init__"), key := Value.str (Str.ofString "__init__") 366, val := Value.ref 83 }, { hash := PyData.keyHash P (Str.ofString "longest_run_of_spaces"), key := Value.str (Str.ofString "longest_run_of_spaces") 375, val := Value.ref 90 }, { hash := PyData.keyHash P (Str.ofString "indent_level"), key := Value.str (Str.ofString "indent_level") 387, val := Value.ref 97 }, { hash := PyData.keyHash P (Str.ofString "equal"), key := Value.str (Str.ofString "equal") 395, val := Value.ref 104 }, { hash := PyData.keyHash P (Str.ofString "not_equal_witness"), key := Value.str (Str.ofString "not_equal_witness") 403, val := Value.ref 111 }, { hash := PyData.keyHash P (Str.ofString "less"), key := Value.str (Str.ofString "less") 413, val := Value.ref 118 }, { hash := PyData.keyHash P (Str.ofString "not_less_witness"), key := Value.str (Str.ofString "not_less_witness") 421, val := Value.ref 125 }, { hash := PyData.keyHash P (Str.ofString "__static_attributes__"), key := Value.str (Str.ofString "__static_attributes__") 427, val := Value.ref 126 }, { hash := PyData.keyHash P (Str.ofString "__dict__"), key := Value.str (Str.ofString "__dict__") 429, val := Value.ref 129 }, { hash := PyData.keyHash P (Str.ofString "__weakref__"), key := Value.str (Str.ofString "__weakref__") 431, val := Value.ref 130 }, { hash := PyData.keyHash P (Str.ofString "__doc__"), key := Value.str (Str.ofString "__doc__") 432, val := Value.none }] 4 }),
  (128, { cls := Value.type "type", data := Data.cls { name := Str.ofString "Whitespace", bases := [Value.type "object"], mro := [Value.ref 128, Value.type "object"], ns := 127, qualname := Str.ofString "Whitespace" }, slots := #[none, none, some (Value.str (Str.ofString "Whitespace") 335), some (Value.str (Str.ofString "Whitespace") 343), some (Value.builtin "object.__new__"), some (Value.bool true)] }),
  (136, { cls := Value.type "tuple", data := Data.seq #[Value.int 14 0, Value.int 14 0, Value.int 4 0, Value.int 1 0, Value.int 1 0, Value.int 9 0, Value.int 0 0, Value.int 4227896069 0, Value.int 939524097 0, Value.int 0 0, Value.int 0 0, Value.int 0 0, Value.int 0 0, Value.int 0 0, Value.int 0 0, Value.int 13 0, Value.int 11 0, Value.int 9 0, Value.int 0 0, Value.int 4227896069 0, Value.int 939524097 0, Value.int 0 0, Value.int 0 0, Value.int 0 0, Value.int 0 0, Value.int 0 0, Value.int 0 0, Value.int 1 0] }),
  (137, { cls := Value.type "re.Pattern", data := Data.fields #[Value.str (Str.ofString "[ \\(\\)<>@,;:\\\\\"/\\[\\]\\?=]") 438, Value.int 32 469, Value.int 0 0, Value.none, Value.none, Value.ref 136, Value.int 0 0] }),
  (141, { cls := Value.type "tuple", data := Data.seq #[Value.int 14 0, Value.int 10 0, Value.int 4 0, Value.int 1 0, Value.int 1 0, Value.int 22 0, Value.int 0 0, Value.int 31 0, Value.int 16 0, Value.int 127 0, Value.int 0 0, Value.int 13 0, Value.int 7 0, Value.int 22 0, Value.int 0 0, Value.int 31 0, Value.int 16 0, Value.int 127 0, Value.int 0 0, Value.int 1 0] }),
  (142, { cls := Value.type "re.Pattern", data := Data.fields #[Value.str (Str.ofString "[\\x00-\\x1F\\x7F]") 472, Value.int 32 495, Value.int 0 0, Value.none, Value.none, Value.ref 141, Value.int 0 0] }),
  (146, { cls := Value.type "tuple", data := Data.seq #[Value.int 14 0, Value.int 14 0, Value.int 4 0, Value.int 1 0, Value.int 1 0, Value.int 9 0, Value.int 4294966783 0, Value.int 0 0, Value.int 0 0, Value.int 2147483648 0, Value.int 0 0, Value.int 0 0, Value.int 0 0, Value.int 0 0, Value.int 0 0, Value.int 13 0, Value.int 11 0, Value.int 9 0, Value.int 4294966783 0, Value.int 0 0, Value.int 0 0, Value.int 2147483648 0, Value.int 0 0, Value.int 0 0, Value.int 0 0, Value.int 0 0, Value.int 0 0, Value.int 1 0] }),
  (147, { cls := Value.type "re.Pattern", data := Data.fields #[Value.str (Str.ofString "[\\x00-\\x08\\x0A-\\x1F\\x7F]") 498, Value.int 32 529, Value.int 0 0, Value.none, Value.none, Value.ref 146, Value.int 0 0] }),
  (163, { cls := Value.type "tuple", data := Data.seq #[Value.none] }),
  (169, { cls := Value.type "code", data := Data.fields #[Value.str (Str.ofString "__init__") 553, Value.str (Str.ofString "Headers.__init__") 554, Value.str (Str.ofString "/claim/cut.py") 555, Value.int 114 0, Value.int 2 0, Value.int 0 0, Value.int 0 0, Value.int 3 0, Value.ref 164, Value.bool true, Value.int 276 0, Value.ref 165, Value.none, Value.ref 166, Value.ref 167, Value.ref 168, Value.int 560 0, Value.int 114 0, Value.str (Str.ofString "/claim/cut.py") 561] }),
  (170, { cls := Value.type "function", data := Data.func { name := Str.ofString "__init__", qualname := Str.ofString "Headers.__init__", params := mArgs pw "Headers" "__init__", body := .stmts (mBody pw "Headers" "__init__"), scope := mScope pw "Headers" "__init__", globals := 3, closure := [], defaults := Value.ref 163, kwdefaults := Value.none, pyModule := Value.str (Str.ofString "cpy313.wsgiref.headers") 435, code := Value.ref 169 } }),
  (176, { cls := Value.type "code", data := Data.fields #[Value.str (Str.ofString "_convert_string_type") 563, Value.str (Str.ofString "Headers._convert_string_type") 564, Value.str (Str.ofString "/claim/cut.py") 565, Value.int 124 0, Value.int 2 0, Value.int 0 0, Value.int 1 0, Value.int 3 0, Value.ref 171, Value.bool true, Value.int 276 0, Value.ref 172, Value.none, Value.ref 173, Value.ref 174, Value.ref 175, Value.int 570 0, Value.int 124 0, Value.str (Str.ofString "/claim/cut.py") 571] }),
  (177, { cls := Value.type "function", data := Data.func { name := Str.ofString "_convert_string_type", qualname := Str.ofString "Headers._convert_string_type", params := mArgs pw "Headers" "_convert_string_type", body := .stmts (mBody pw "Headers" "_convert_string_type"), scope := mScope pw "Headers" "_convert_string_type", globals := 3, closure := [], defaults := Value.none, kwdefaults := Value.none, pyModule := Value.str (Str.ofString "cpy313.wsgiref.headers") 435, code := Value.ref 176 } }),
  (183, { cls := Value.type "code", data := Data.fields #[Value.str (Str.ofString "__len__") 573, Value.str (Str.ofString "Headers.__len__") 574, Value.str (Str.ofString "/claim/cut.py") 575, Value.int 132 0, Value.int 1 0, Value.int 0 0, Value.int 0 0, Value.int 3 0, Value.ref 178, Value.bool true, Value.int 276 0, Value.ref 179, Value.none, Value.ref 180, Value.ref 181, Value.ref 182, Value.int 577 0, Value.int 132 0, Value.str (Str.ofString "/claim/cut.py") 578] }),
  (184, { cls := Value.type "function", data := Data.func { name := Str.ofString "__len__", qualname := Str.ofString "Headers.__len__", params := mArgs pw "Headers" "__len__", body := .stmts (mBody pw "Headers" "__len__"), scope := mScope pw "Headers" "__len__", globals := 3, closure := [], defaults := Value.none, kwdefaults := Value.none, pyModule := Value.str (Str.ofString "cpy313.wsgiref.headers") 435, code := Value.ref 183 } }),
  (214, { cls := Value.type "code", data := Data.fields #[Value.str (Str.ofString "get_all") 611, Value.str (Str.ofString "Headers.get_all") 612, Value.str (Str.ofString "/claim/cut.py") 613, Value.int 149 0, Value.int 2 0, Value.int 0 0, Value.int 0 0, Value.int 3 0, Value.ref 211, Value.bool true, Value.int 276 0, Value.ref 212, Value.none, Value.none, Value.none, Value.ref 213, Value.int 614 0, Value.int 149 0, Value.str (Str.ofString "/claim/cut.py") 615] }),
  (215, { cls := Value.type "function", data := Data.func { name := Str.ofString "get_all", qualname := Str.ofString "Headers.get_all", params := mArgs pw "Headers" "get_all", body := .stmts (mBody pw "Headers" "get_all"), scope := mScope pw "Headers" "get_all", globals := 3, closure := [], defaults := Value.none, kwdefaults := Value.none, pyModule := Value.str (Str.ofString "cpy313.wsgiref.headers") 435, code := Value.ref 214 } }),
  (216, { cls := Value.type "tuple", data := Data.seq #[Value.none] }),
  (222, { cls := Value.type "code", data := Data.fields #[Value.str (Str.ofString "get") 617, Value.str (Str.ofString "Headers.get") 618, Value.str (Str.ofString "/claim/cut.py") 619, Value.int 153 0, Value.int 3 0, Value.int 0 0, Value.int 0 0, Value.int 3 0, Value.ref 217, Value.bool true, Value.int 276 0, Value.ref 218, Value.none, Value.ref 219, Value.ref 220, Value.ref 221, Value.int 625 0, Value.int 153 0, Value.str (Str.ofString "/claim/cut.py") 626] }),
  (223, { cls := Value.type "function", data := Data.func { name := Str.ofString "get", qualname := Str.ofString "Headers.get", params := mArgs pw "Headers" "get", body := .stmts (mBody pw "Headers" "get"), scope := mScope pw "Headers" "get", globals := 3, closure := [], defaults := Value.ref 216, kwdefaults := Value.none, pyModule := Value.str (Str.ofString "cpy313.wsgiref.headers") 435, code := Value.ref 222 } }),
  (239, { cls := Value.type "code", data := Data.fields #[Value.str (Str.ofString "items") 640, Value.str (Str.ofString "Headers.items") 641, Value.str (Str.ofString "/claim/cut.py") 642, Value.int 166 0, Value.int 1 0, Value.int 0 0, Value.int 0 0, Value.int 3 0, Value.ref 234, Value.bool true, Value.int 276 0, Value.ref 235, Value.none, Value.ref 236, Value.ref 237, Value.ref 238, Value.int 644 0, Value.int 166 0, Value.str (Str.ofString "/claim/cut.py") 645] }),
  (240, { cls := Value.type "function", data := Data.func { name := Str.ofString "items", qualname := Str.ofString "Headers.items", params := mArgs pw "Headers" "items", body := .stmts (mBody pw "Headers" "items"), scope := mScope pw "Headers" "items", globals := 3, closure := [], defaults := Value.none, kwdefaults := Value.none, pyModule := Value.str (Str.ofString "cpy313.wsgiref.headers") 435, code := Value.ref 239 } }),
  (272, { cls := Value.type "code", data := Data.fields #[Value.str (Str.ofString "add_header") 676, Value.str (Str.ofString "Headers.add_header") 677, Value.str (Str.ofString "/claim/cut.py") 678, Value.int 181 0, Value.int 3 0, Value.int 0 0, Value.int 0 0, Value.int 11 0, Value.ref 267, Value.bool true, Value.int 276 0, Value.ref 268, Value.none, Value.ref 269, Value.ref 270, Value.ref 271, Value.int 686 0, Value.int 181 0, Value.str (Str.ofString "/claim/cut.py") 687] }),
  (273, { cls := Value.type "function", data := Data.func { name := Str.ofString "add_header", qualname := Str.ofString "Headers.add_header", params := mArgs pw "Headers" "add_header", body := .stmts (mBody pw "Headers" "add_header"), scope := mScope pw "Headers" "add_header", globals := 3, closure := [], defaults := Value.none, kwdefaults := Value.none, pyModule := Value.str (Str.ofString "cpy313.wsgiref.headers") 435, code := Value.ref 272 } }),
  (275, { cls := Value.type "dict", data := Data.dict #[{ hash := PyData.keyHash P (Str.ofString "__module__"), key := Value.str (Str.ofString "__module__") 548, val := Value.str (Str.ofString "cpy313.wsgiref.headers") 435 }, { hash := PyData.keyHash P (Str.ofString "__firstlineno__"), key := Value.str (Str.ofString "__firstlineno__") 552, val := Value.int 112 551 }, { hash := PyData.keyHash P (Str.ofString "__init__"), key := Value.str (Str.ofString "__init__") 562, val := Value.ref 170 }, { hash := PyData.keyHash P (Str.ofString "_convert_string_type"), key := Value.str (Str.ofString "_convert_string_type") 572, val := Value.ref 177 }, { hash := PyData.keyHash P (Str.ofString "__len__"), key := Value.str (Str.ofString "__len__") 579, val := Value.ref 184 }, { hash := PyData.keyHash P (Str.ofString "__setitem__"), key := Value.str (Str.ofString "__setitem__") 588, val := Value.ref 191 }, { hash := PyData.keyHash P (Str.ofString "__delitem__"), key := Value.str (Str.ofString "__delitem__") 594, val := Value.ref 196 }, { hash := PyData.keyHash P (Str.ofString "__getitem__"), key := Value.str (Str.ofString "__getitem__") 602, val := Value.ref 203 }, { hash := PyData.keyHash P (Str.ofString "__contains__"), key := Value.str (Str.ofString "__contains__") 610, val := Value.ref 210 }, { hash := PyData.keyHash P (Str.ofString "get_all"), key := Value.str (Str.ofString "get_all") 616, val := Value.ref 215 }, { hash := PyData.keyHash P (Str.ofString "get"), key := Value.str (Str.ofString "get") 627, val := Value.ref 223 }, { hash := PyData.keyHash P (Str.ofString "keys"), key := Value.str (Str.ofString "keys") 633, val := Value.ref 228 }, { hash := PyData.keyHash P (Str.ofString "values"), key := Value.str (Str.ofString "values") 639, val := Value.ref 233 }, { hash := PyData.keyHash P (Str.ofString "items"), key := Value.str (Str.ofString "items") 646, val := Value.ref 240 }, { hash := PyData.keyHash P (Str.ofString "__repr__"), key := Value.str (Str.ofString "__repr__") 653, val := Value.ref 247 }, { hash := PyData.keyHash P (Str.ofString "__str__"), key := Value.str (Str.ofString "__str__") 659, val := Value.ref 252 }, { hash := PyData.keyHash P (Str.ofString "__bytes__"), key := Value.str (Str.ofString "__bytes__") 666, val := Value.ref 259 }, { hash := PyData.keyHash P (Str.ofString "setdefault"), key := Value.str (Str.ofString "setdefault") 675, val := Value.ref 266 }, { hash := PyData.keyHash P (Str.ofString "add_header"), key := Value.str (Str.ofString "add_header") 688, val := Value.ref 273 }, { hash := PyData.keyHash P (Str.ofString "__static_attributes__"), key := Value.str (Str.ofString "__static_attributes__") 690, val := Value.ref 274 }, { hash := PyData.keyHash P (Str.ofString "__dict__"), key := Value.str (Str.ofString "__dict__") 692, val := Value.ref 277 }, { hash := PyData.keyHash P (Str.ofString "__weakref__"), key := Value.str (Str.ofString "__weakref__") 694, val := Value.ref 278 }, { hash := PyData.keyHash P (Str.ofString "__doc__"), key := Value.str (Str.ofString "__doc__") 695, val := Value.none }] 4 }),
  (276, { cls := Value.type "type", data := Data.cls { name := Str.ofString "Headers", bases := [Value.type "object"], mro := [Value.ref 276, Value.type "object"], ns := 275, qualname := Str.ofString "Headers" }, slots := #[none, none, some (Value.str (Str.ofString "Headers") 541), some (Value.str (Str.ofString "Headers") 549), some (Value.builtin "object.__new__"), some (Value.bool true)] }),
  (286, { cls := Value.type "code", data := Data.fields #[Value.str (Str.ofString "_law_leads") 700, Value.str (Str.ofString "_law_leads") 701, Value.str (Str.ofString "/claim/cut.py") 702, Value.int 195 0, Value.int 1 0, Value.int 0 0, Value.int 0 0, Value.int 3 0, Value.ref 281, Value.bool true, Value.int 276 0, Value.ref 282, Value.none, Value.ref 283, Value.ref 284, Value.ref 285, Value.int 707 0, Value.int 195 0, Value.str (Str.ofString "/claim/cut.py") 708] }),
  (287, { cls := Value.type "function", data := Data.func { name := Str.ofString "_law_leads", qualname := Str.ofString "_law_leads", params := defArgs pw "_law_leads", body := .stmts (defBody pw "_law_leads"), scope := defScope pw "_law_leads", globals := 3, closure := [], defaults := Value.none, kwdefaults := Value.none, pyModule := Value.str (Str.ofString "law_pg0319_02") 698, code := Value.ref 286 } }),
  (293, { cls := Value.type "code", data := Data.fields #[Value.str (Str.ofString "_law_more") 710, Value.str (Str.ofString "_law_more") 711, Value.str (Str.ofString "/claim/cut.py") 712, Value.int 201 0, Value.int 1 0, Value.int 0 0, Value.int 0 0, Value.int 3 0, Value.ref 288, Value.bool true, Value.int 276 0, Value.ref 289, Value.none, Value.ref 290, Value.ref 291, Value.ref 292, Value.int 719 0, Value.int 201 0, Value.str (Str.ofString "/claim/cut.py") 720] }),
  (294, { cls := Value.type "function", data := Data.func { name := Str.ofString "_law_more", qualname := Str.ofString "_law_more", params := defArgs pw "_law_more", body := .stmts (defBody pw "_law_more"), scope := defScope pw "_law_more", globals := 3, closure := [], defaults := Value.none, kwdefaults := Value.none, pyModule := Value.str (Str.ofString "law_pg0319_02") 698, code := Value.ref 293 } }),
  (298, { cls := Value.type "code", data := Data.fields #[Value.str (Str.ofString "_law_pairs") 722, Value.str (Str.ofString "_law_pairs") 723, Value.str (Str.ofString "/claim/cut.py") 724, Value.int 214 0, Value.int 1 0, Value.int 0 0, Value.int 0 0, Value.int 3 0, Value.ref 295, Value.bool true, Value.int 276 0, Value.ref 296, Value.none, Value.none, Value.none, Value.ref 297, Value.int 725 0, Value.int 214 0, Value.str (Str.ofString "/claim/cut.py") 726] }),
  (299, { cls := Value.type "function", data := Data.func { name := Str.ofString "_law_pairs", qualname := Str.ofString "_law_pairs", params := defArgs pw "_law_pairs", body := .stmts (defBody pw "_law_pairs"), scope := defScope pw "_law_pairs", globals := 3, closure := [], defaults := Value.none, kwdefaults := Value.none, pyModule := Value.str (Str.ofString "law_pg0319_02") 698, code := Value.ref 298 } }),
  (305, { cls := Value.type "code", data := Data.fields #[Value.str (Str.ofString "_law_reached") 728, Value.str (Str.ofString "_law_reached") 729, Value.str (Str.ofString "/claim/cut.py") 730, Value.int 216 0, Value.int 2 0, Value.int 0 0, Value.int 0 0, Value.int 3 0, Value.ref 300, Value.bool true, Value.int 276 0, Value.ref 301, Value.none, Value.ref 302, Value.ref 303, Value.ref 304, Value.int 736 0, Value.int 216 0, Value.str (Str.ofString "/claim/cut.py") 737] }),
  (306, { cls := Value.type "function", data := Data.func { name := Str.ofString "_law_reached", qualname := Str.ofString "_law_reached", params := defArgs pw "_law_reached", body := .stmts (defBody pw "_law_reached"), scope := defScope pw "_law_reached", globals := 3, closure := [], defaults := Value.none, kwdefaults := Value.none, pyModule := Value.str (Str.ofString "law_pg0319_02") 698, code := Value.ref 305 } }),
  (312, { cls := Value.type "code", data := Data.fields #[Value.str (Str.ofString "_law_locked") 739, Value.str (Str.ofString "_law_locked") 740, Value.str (Str.ofString "/claim/cut.py") 741, Value.int 225 0, Value.int 1 0, Value.int 0 0, Value.int 0 0, Value.int 3 0, Value.ref 307, Value.bool true, Value.int 276 0, Value.ref 308, Value.none, Value.ref 309, Value.ref 310, Value.ref 311, Value.int 749 0, Value.int 225 0, Value.str (Str.ofString "/claim/cut.py") 750] }),
  (313, { cls := Value.type "function", data := Data.func { name := Str.ofString "_law_locked", qualname := Str.ofString "_law_locked", params := defArgs pw "_law_locked", body := .stmts (defBody pw "_law_locked"), scope := defScope pw "_law_locked", globals := 3, closure := [], defaults := Value.none, kwdefaults := Value.none, pyModule := Value.str (Str.ofString "law_pg0319_02") 698, code := Value.ref 312 } }),
  (319, { cls := Value.type "code", data := Data.fields #[Value.str (Str.ofString "_law_walked") 752, Value.str (Str.ofString "_law_walked") 753, Value.str (Str.ofString "/claim/cut.py") 754, Value.int 235 0, Value.int 1 0, Value.int 0 0, Value.int 0 0, Value.int 3 0, Value.ref 314, Value.bool true, Value.int 276 0, Value.ref 315, Value.none, Value.ref 316, Value.ref 317, Value.ref 318, Value.int 760 0, Value.int 235 0, Value.str (Str.ofString "/claim/cut.py") 761] }),
  (320, { cls := Value.type "function", data := Data.func { name := Str.ofString "_law_walked", qualname := Str.ofString "_law_walked", params := defArgs pw "_law_walked", body := .stmts (defBody pw "_law_walked"), scope := defScope pw "_law_walked", globals := 3, closure := [], defaults := Value.none, kwdefaults := Value.none, pyModule := Value.str (Str.ofString "law_pg0319_02") 698, code := Value.ref 319 } }),
  (326, { cls := Value.type "code", data := Data.fields #[Value.str (Str.ofString "_law_has") 763, Value.str (Str.ofString "_law_has") 764, Value.str (Str.ofString "/claim/cut.py") 765, Value.int 243 0, Value.int 3 0, Value.int 0 0, Value.int 0 0, Value.int 3 0, Value.ref 321, Value.bool true, Value.int 276 0, Value.ref 322, Value.none, Value.ref 323, Value.ref 324, Value.ref 325, Value.int 769 0, Value.int 243 0, Value.str (Str.ofString "/claim/cut.py") 770] }),
  (327, { cls := Value.type "function", data := Data.func { name := Str.ofString "_law_has", qualname := Str.ofString "_law_has", params := defArgs pw "_law_has", body := .stmts (defBody pw "_law_has"), scope := defScope pw "_law_has", globals := 3, closure := [], defaults := Value.none, kwdefaults := Value.none, pyModule := Value.str (Str.ofString "law_pg0319_02") 698, code := Value.ref 326 } }),
  (331, { cls := Value.type "code", data := Data.fields #[Value.str (Str.ofString "_law_orders") 772, Value.str (Str.ofString "_law_orders") 773, Value.str (Str.ofString "/claim/cut.py") 774, Value.int 245 0, Value.int 1 0, Value.int 0 0, Value.int 0 0, Value.int 3 0, Value.ref 328, Value.bool true, Value.int 276 0, Value.ref 329, Value.none, Value.none, Value.none, Value.ref 330, Value.int 775 0, Value.int 245 0, Value.str (Str.ofString "/claim/cut.py") 776] }),
  (332, { cls := Value.type "function", data := Data.func { name := Str.ofString "_law_orders", qualname := Str.ofString "_law_orders", params := defArgs pw "_law_orders", body := .stmts (defBody pw "_law_orders"), scope := defScope pw "_law_orders", globals := 3, closure := [], defaults := Value.none, kwdefaults := Value.none, pyModule := Value.str (Str.ofString "law_pg0319_02") 698, code := Value.ref 331 } }),
  (336, { cls := Value.type "code", data := Data.fields #[Value.str (Str.ofString "_law_by_steps") 778, Value.str (Str.ofString "_law_by_steps") 779, Value.str (Str.ofString "/claim/cut.py") 780, Value.int 253 0, Value.int 2 0, Value.int 0 0, Value.int 0 0, Value.int 3 0, Value.ref 333, Value.bool true, Value.int 276 0, Value.ref 334, Value.none, Value.none, Value.none, Value.ref 335, Value.int 781 0, Value.int 253 0, Value.str (Str.ofString "/claim/cut.py") 782] }),
  (337, { cls := Value.type "function", data := Data.func { name := Str.ofString "_law_by_steps", qualname := Str.ofString "_law_by_steps", params := defArgs pw "_law_by_steps", body := .stmts (defBody pw "_law_by_steps"), scope := defScope pw "_law_by_steps", globals := 3, closure := [], defaults := Value.none, kwdefaults := Value.none, pyModule := Value.str (Str.ofString "law_pg0319_02") 698, code := Value.ref 336 } }),
  (343, { cls := Value.type "code", data := Data.fields #[Value.str (Str.ofString "_law_all_five") 784, Value.str (Str.ofString "_law_all_five") 785, Value.str (Str.ofString "/claim/cut.py") 786, Value.int 265 0, Value.int 3 0, Value.int 0 0, Value.int 0 0, Value.int 3 0, Value.ref 338, Value.bool true, Value.int 276 0, Value.ref 339, Value.none, Value.ref 340, Value.ref 341, Value.ref 342, Value.int 793 0, Value.int 265 0, Value.str (Str.ofString "/claim/cut.py") 794] }),
  (344, { cls := Value.type "function", data := Data.func { name := Str.ofString "_law_all_five", qualname := Str.ofString "_law_all_five", params := defArgs pw "_law_all_five", body := .stmts (defBody pw "_law_all_five"), scope := defScope pw "_law_all_five", globals := 3, closure := [], defaults := Value.none, kwdefaults := Value.none, pyModule := Value.str (Str.ofString "law_pg0319_02") 698, code := Value.ref 343 } }),
  (348, { cls := Value.type "code", data := Data.fields #[Value.str (Str.ofString "_law_right") 796, Value.str (Str.ofString "_law_right") 797, Value.str (Str.ofString "/claim/cut.py") 798, Value.int 273 0, Value.int 3 0, Value.int 0 0, Value.int 0 0, Value.int 3 0, Value.ref 345, Value.bool true, Value.int 276 0, Value.ref 346, Value.none, Value.none, Value.none, Value.ref 347, Value.int 799 0, Value.int 273 0, Value.str (Str.ofString "/claim/cut.py") 800] }),
  (349, { cls := Value.type "function", data := Data.func { name := Str.ofString "_law_right", qualname := Str.ofString "_law_right", params := defArgs pw "_law_right", body := .stmts (defBody pw "_law_right"), scope := defScope pw "_law_right", globals := 3, closure := [], defaults := Value.none, kwdefaults := Value.none, pyModule := Value.str (Str.ofString "law_pg0319_02") 698, code := Value.ref 348 } }),
  (353, { cls := Value.type "code", data := Data.fields #[Value.str (Str.ofString "law") 802, Value.str (Str.ofString "law") 803, Value.str (Str.ofString "/claim/cut.py") 804, Value.int 284 0, Value.int 1 0, Value.int 0 0, Value.int 0 0, Value.int 3 0, Value.ref 350, Value.bool true, Value.int 276 0, Value.ref 351, Value.none, Value.none, Value.none, Value.ref 352, Value.int 805 0, Value.int 284 0, Value.str (Str.ofString "/claim/cut.py") 806] }),
  (354, { cls := Value.type "function", data := Data.func { name := Str.ofString "law", qualname := Str.ofString "law", params := defArgs pw "law", body := .stmts (defBody pw "law"), scope := defScope pw "law", globals := 3, closure := [], defaults := Value.none, kwdefaults := Value.none, pyModule := Value.str (Str.ofString "law_pg0319_02") 698, code := Value.ref 353 } })]
noncomputable def KKas : List Addr := [2, 3, 44, 45, 51, 52, 58, 59, 65, 66, 82, 83, 89, 90, 96, 97, 117, 118, 127, 128, 136, 137, 141, 142, 146, 147, 163, 169, 170, 176, 177, 183, 184, 214, 215, 216, 222, 223, 239, 240, 272, 273, 275, 276, 286, 287, 293, 294, 298, 299, 305, 306, 312, 313, 319, 320, 326, 327, 331, 332, 336, 337, 343, 344, 348, 349, 353, 354]

noncomputable def keep1 : List Nat := [0, 1, 2, 3, 4, 5, 6, 7, 9, 14, 15, 16, 17, 18, 19, 20, 21, 22, 23, 24, 25, 26, 27]
noncomputable def loose1 : List PySem.Str := ["Whitespace", "tspecials", "_name_disallowed_re", "_value_disallowed_re", "_formatparam"]
noncomputable abbrev q1 : Program := PySem.W.view PySem.Challenge.pw_pg0319_02 keep1
noncomputable abbrev hook1 : Hook := kHook KK KKas (fun _ => rfl)
noncomputable abbrev Seen1 (w : World) : Prop := (openEnds treeTable pw w 4188).map (fun s => (openSeen q1 loose1 (importedModules pw.main.body) (fun s => xlAt q1 [] s && recOk [] s) true s, hook1.obs s)) = some (openGood q1 loose1, hook1.val w)
noncomputable abbrev SeenT (w : World) : Prop := (openEndsT treeTable pw w 4188).map (fun s => (openSeen q1 loose1 (importedModules pw.main.body) (fun s => xlAt q1 [] s && recOk [] s) true s, hook1.obs s)) = some (openGood q1 loose1, hook1.val w)
theorem left_f : ∀ w : World, SeenT (w.withFollow "special-get-raises" false) := fun w => by kernel_rfl
theorem left_t : ∀ w : World, SeenT (w.withFollow "special-get-raises" true) := fun w => by kernel_rfl
theorem left1 : LeftO pw q1 loose1 (fun s => xlAt q1 [] s && recOk [] s) hook1.obs hook1.val 4188 := byRow2 "special-get-raises" (P := Seen1) (fun w => ends_ofT (left_f w)) fun w => ends_ofT (left_t w)
end Mine
end

section
open PySem PySem.Calls PyProof.Rows PySem.W
set_option maxRecDepth 100000
set_option linter.unusedVariables false
namespace Mine
noncomputable def iTest (b : List Stmt) (i : Nat) : Expr := match b[i]? with
  | some (.If t _ _ _) => t
  | _ => default
noncomputable def fIter (b : List Stmt) (i : Nat) : Expr := match b[i]? with
  | some (.For _ t _ _ _) => t
  | _ => default
variable {c : Cx} {n : Nat}
theorem CallR.lenT {xs : List D} (hl : xs.length ≤ 100000) : CallR c (.builtin "len") [.tup xs] (.int xs.length) := fun A F s vs R hb l r => by
  obtain ⟨v, rfl, q⟩ := r.one
  obtain ⟨a, o, its, k, rfl, e1, e2, e3, q⟩ := q.tup l
  have e : its.size = xs.length := by rw [← Array.length_toList]; exact q.length
  exact PyProof.Rows.len_tuple ⟨o, e1, e2, k, e3⟩ (by rw [e]; omega) (by rw [e]; exact .flat l (.int _ _))
/-- what a Whitespace's fields are bound by -/
structure WsOk (w : WS) : Prop where
  len : w.count.length ≤ 500
  b : w.b ≤ 500
noncomputable def lrOf (w : WS) : Int := if (w.b : Int) > (w.count.length : Int) - 1 then w.b else (w.count.length : Int) - 1
structure Blt (c : Cx) : Prop where
  len : Glb c "len" (.builtin "len")
  max : Glb c "max" (.builtin "max")
  min : Glb c "min" (.builtin "min")
  range : Glb c "range" (.type "range")
  tuple : Glb c "tuple" (.type "tuple")
  int : Glb c "int" (.type "int")
  str : Glb c "str" (.type "str")
  sorted : Glb c "sorted" (.builtin "sorted")
theorem lr_fn {C fa : Addr} {s : Str} {w : WS} (hc : c.Ok) (K : WsK c C) (B : Blt c) (ok : WsOk w) (hf : IsFn c (.ref fa) ["self"] (mBody pw "Whitespace" "longest_run_of_spaces") (mScope pw "Whitespace" "longest_run_of_spaces")) : FnP c 1 (.ref fa) [.inst C (wsF s w)] (.int (lrOf w)) := by
  have h1 := ok.len
  refine FnP_intro (fl := .ret (.int (lrOf w))) (ρ' := [("self", .val (.inst C (wsF s w))), ("count", .val (.tup (w.count.map dN))), ("trailing", .val (.int w.b))]) hc hf (by decide) rfl ⟨nofun, nofun⟩ ?_
  refine Ex_cons (ExS_assignTup (Ev_attr hc K.cls K.norm (Ev_name rfl rfl) rfl) (.cons (AsgT_name rfl (by decide)) (.cons (AsgT_name rfl (by decide)) .nil))) ?_
  refine Ex_stop (ExS_return ((Ev_callB hc B.max rfl nofun (EvLR_cons (.of (Ev_BinOp (.of (Ev_callB hc B.len rfl nofun (EvLR_cons (EvR_name rfl rfl) EvLR_nil) (CallR.lenT (by simp; omega)))) EvR_int Bin.sub)) (EvLR_cons (EvR_name rfl rfl) EvLR_nil)) CallR.max2).conv ?_))
  rw [List.length_map]; rfl
noncomputable def ilOf (w : WS) (ts : Nat) : Nat := ((List.range (w.count.length - ts)).map fun i => (ts + i) / ts * w.count.getD (ts + i) 0).sum
noncomputable def levelOf (w : WS) (ts : Nat) : Nat := w.b + ts * (ilOf w ts + w.nt)
noncomputable abbrev ilB := mBody pw "Whitespace" "indent_level"
noncomputable abbrev ilS := mScope pw "Whitespace" "indent_level"
noncomputable abbrev ilρ (C : Addr) (s : Str) (w : WS) (ts il : Nat) : Vars := [("self", .val (.inst C (wsF s w))), ("tabsize", .val (.int ts)), ("count", .val (.tup (w.count.map dN))), ("trailing", .val (.int w.b)), ("il", .val (.int il))]
theorem il_loop (C : Addr) (s : Str) (w : WS) (ts : Nat) (hts : 0 < ts) (ht : ts ≤ 1000) (ok : WsOk w) : ∀ (l : List Nat) (il : Nat), (∀ i ∈ l, ts + i < w.count.length) →
    LoopR (Turn c n ilS [] (fTarget ilB 2) (fBody ilB 2)) (l.map fun i => .int ((ts : Int) + (i : Nat))) (ilρ C s w ts il) .next (ilρ C s w ts (il + (l.map fun i => (ts + i) / ts * w.count.getD (ts + i) 0).sum))
  | [], il, _ => .nil
  | i :: r, il, h => by
    have hi := h i (.head _)
    have hl := ok.len
    rw [List.map_cons, List.map_cons, List.sum_cons, ← Nat.add_assoc]
    refine .next ⟨_, AsgT_name rfl (by decide), ?_⟩ (il_loop C s w ts hts ht ok r _ fun j hj => h j (.tail _ hj))
    have e1 : ((ts : Int) + (i : Nat)) = ((ts + i : Nat) : Int) := rfl
    have e2 : ((ts + i : Nat) : Int).fdiv (ts : Int) = (((ts + i) / ts : Nat) : Int) := by
      rw [Int.fdiv_eq_ediv_of_nonneg _ (Int.natCast_nonneg _)]; rfl
    refine (Ex_cons (ExS_assign (d := .int ((il + (ts + i) / ts * w.count.getD (ts + i) 0 : Nat) : Int)) ((Ev_BinOp (EvR_name rfl rfl) (.of (Ev_BinOp (.of (Ev_BinOp (EvR_name rfl rfl) (EvR_name rfl rfl) (Bin.fdiv (by omega) (by omega)))) (.of (Ev_Sub (d := dN (w.count.getD (ts + i) 0)) (EvR_name rfl rfl) (EvR_name rfl rfl) (Itm.tup (by omega) (by rw [e1, Int.toNat_natCast]; exact map_getD _ _ hi) (by omega)))) (Bin.mul ?_))) Bin.add).conv ?_) rfl (by decide)) Ex_nil).less ⟨rfl, rfl, rfl, rfl, rfl, trivial⟩
    · rw [e1, e2, Int.natAbs_natCast]
      exact Nat.lt_of_le_of_lt (Nat.div_le_self _ _) (by omega)
    · rw [e1, e2]; rfl
theorem il_fn {C fa : Addr} {s : Str} {w : WS} {ts : Nat} (hts : 0 < ts) (ht : ts ≤ 1000) (hc : c.Ok) (K : WsK c C) (B : Blt c) (ok : WsOk w) (hf : IsFn c (.ref fa) ["self", "tabsize"] ilB ilS) : FnP c 1 (.ref fa) [.inst C (wsF s w), .int ts] (.int (levelOf w ts)) := by
  have h1 := ok.len
  refine FnP_intro (fl := .ret (.int (levelOf w ts))) (ρ' := ilρ C s w ts (ilOf w ts)) hc hf (by decide) rfl ⟨nofun, nofun⟩ ?_
  refine Ex_cons (ExS_assignTup (Ev_attr hc K.cls K.norm (Ev_name rfl rfl) rfl) (.cons (AsgT_name rfl (by decide)) (.cons (AsgT_name rfl (by decide)) .nil))) ?_
  refine Ex_cons (ExS_assign (d := .int 0) Ev_int rfl (by decide)) ?_
  have hlen : ((w.count.map dN).length : Int) = (w.count.length : Int) := by rw [List.length_map]
  refine Ex_cons (ρ₁ := ilρ C s w ts (ilOf w ts)) (ExS_for (d := .rng ts (w.count.length : Nat)) (xs := (List.range (w.count.length - ts)).map fun i => .int ((ts : Int) + (i : Nat))) ((Ev_callB hc B.range rfl nofun (EvLR_cons (EvR_name rfl rfl) (EvLR_cons (.of (Ev_callB hc B.len rfl nofun (EvLR_cons (EvR_name rfl rfl) EvLR_nil) (CallR.lenT (by simp; omega)))) EvLR_nil)) CallR.range2).conv (by rw [hlen])) ?_ ?_ ?_ (.inl rfl)) ?_
  · show some ((List.range _).map _) = _
    congr 3; omega
  · unfold D.small; simp; omega
  · have := il_loop (c := c) (n := 0) C s w ts hts ht ok (List.range (w.count.length - ts)) 0 (fun i hi => by have := List.mem_range.mp hi; omega)
    rw [Nat.zero_add] at this
    exact this
  · refine Ex_stop (ExS_return ((Ev_BinOp (EvR_name rfl rfl) (.of (Ev_BinOp (EvR_name rfl rfl) (.of (Ev_BinOp (EvR_name rfl rfl) (.of (Ev_attr hc K.cls K.nt (Ev_name rfl rfl) rfl)) Bin.add)) (Bin.mul (by omega)))) Bin.add).conv rfl))
noncomputable def nOf (w v : WS) : Int := (if lrOf v > lrOf w then lrOf v else lrOf w) + 1
noncomputable def lessW (w v : WS) : Bool := if v.n ≤ w.n then false else if (decide (w.count.length ≤ 1) && decide (v.count.length ≤ 1)) = true then decide (w.nt ≤ v.nt) else (List.range (nOf w v + 1 - 2).toNat).all fun i => decide (levelOf w (2 + i) < levelOf v (2 + i))
theorem lr_le {w : WS} (ok : WsOk w) : 0 ≤ lrOf w ∧ lrOf w ≤ 500 := by
  have h1 := ok.len; have h2 := ok.b
  unfold lrOf; split <;> omega
theorem n_le {w v : WS} (ok : WsOk w) (ok' : WsOk v) : 0 ≤ nOf w v ∧ nOf w v ≤ 501 := by
  have h1 := lr_le ok; have h2 := lr_le ok'
  unfold nOf; split <;> omega
/-- the class with its methods -/
structure WsM (c : Cx) (C : Addr) : Prop where
  k : WsK c C
  lr : ∃ f, MethK c C "longest_run_of_spaces" f ∧ IsFn c (.ref f) ["self"] (mBody pw "Whitespace" "longest_run_of_spaces") (mScope pw "Whitespace" "longest_run_of_spaces")
  il : ∃ f, MethK c C "indent_level" f ∧ IsFn c (.ref f) ["self", "tabsize"] ilB ilS
  ls : ∃ f, MethK c C "less" f ∧ IsFn c (.ref f) ["self", "other"] (mBody pw "Whitespace" "less") (mScope pw "Whitespace" "less")
  init : ∃ f fd, NewK c C f ∧ DefAt c f fd wB wS ∧ ∀ v0 (vs : List Value), vs.length = 1 → ∀ s : Shared, Fle c.hB.get? s.heap.get? → BindsTo s fd ⟨v0 :: vs, []⟩ (("self", v0) :: (["ws"] : List Str).zip vs)
noncomputable abbrev lsB := mBody pw "Whitespace" "less"
noncomputable abbrev lsS := mScope pw "Whitespace" "less"
theorem ls_loop {C : Addr} {s s' : Str} {w v : WS} (hc : c.Ok) (M : WsM c C) (B : Blt c) (ok : WsOk w) (ok' : WsOk v) {x : D} : ∀ (l : List Nat), (∀ i ∈ l, 2 + i ≤ 1000) →
    ∃ ρ', LoopR (Turn c 1 lsS [] (fTarget lsB 3) (fBody lsB 3)) (l.map fun i => .int ((2 : Int) + (i : Nat))) [("self", .val (.inst C (wsF s w))), ("other", .val (.inst C (wsF s' v))), ("n", .val x)]
      (if (l.all fun i => decide (levelOf w (2 + i) < levelOf v (2 + i))) = true then .next else .ret (.bool false)) ρ' ∧ VSub ρ' []
  | [], _ => ⟨_, .nil, trivial⟩
  | i :: r, h => by
    have hi := h i (.head _)
    obtain ⟨f, hM, hf⟩ := M.il
    have e1 : (2 : Int) + (i : Nat) = ((2 + i : Nat) : Int) := by omega
    have ht : Te c 1 lsS [("self", .val (.inst C (wsF s w))), ("other", .val (.inst C (wsF s' v))), ("n", .val x), ("ts", .val (.int ((2 : Int) + (i : Nat))))] (iTest (fBody lsB 3) 0) (decide (levelOf v (2 + i) ≤ levelOf w (2 + i))) := by
      rw [e1]
      exact Te_Compare (.of (Ev_meth hc hM (Ev_name rfl rfl) rfl (EvL_cons (Ev_name rfl rfl) EvL_nil) (il_fn (by omega) hi hc M.k B ok hf))) (.of (Ev_meth hc hM (Ev_name rfl rfl) rfl (EvL_cons (Ev_name rfl rfl) EvL_nil) (il_fn (by omega) hi hc M.k B ok' hf))) Cmp.geN
    rw [List.all_cons]
    by_cases hlt : levelOf w (2 + i) < levelOf v (2 + i)
    · obtain ⟨ρ', L, z⟩ := ls_loop hc M B ok ok' r fun j hj => h j (.tail _ hj)
      rw [decide_eq_true hlt, Bool.true_and]
      refine ⟨ρ', .next ⟨_, AsgT_name rfl (by decide), ?_⟩ L, z⟩
      exact (Ex_cons (ExS_if (ht.conv (b' := false) (by simp; omega)) (fun e => nomatch e) (fun _ => Ex_nil)) Ex_nil).less ⟨rfl, rfl, rfl, trivial⟩
    · rw [decide_eq_false hlt, Bool.false_and, if_neg (by decide)]
      refine ⟨_, .ret ⟨_, AsgT_name rfl (by decide), Ex_stop (ExS_if (ht.conv (b' := true) (by simp; omega)) (fun _ => Ex_stop (ExS_return Ev_bool)) (fun e => nomatch e))⟩, trivial⟩
theorem ls_fn {C fa : Addr} {s s' : Str} {w v : WS} (hc : c.Ok) (M : WsM c C) (B : Blt c) (ok : WsOk w) (ok' : WsOk v) (hf : IsFn c (.ref fa) ["self", "other"] lsB lsS) : FnP c 2 (.ref fa) [.inst C (wsF s w), .inst C (wsF s' v)] (.bool (lessW w v)) := by
  have b1 := n_le ok ok'
  refine FnP_intro (fl := .ret (.bool (lessW w v))) (ρ' := []) hc hf (by decide) rfl ⟨nofun, nofun⟩ ?_
  unfold lessW
  by_cases h1 : v.n ≤ w.n
  · rw [if_pos h1]
    exact (Ex_stop (ExS_if ((Te_Compare (.of (Ev_attr hc M.k.cls M.k.n (Ev_name rfl rfl) rfl)) (.of (Ev_attr hc M.k.cls M.k.n (Ev_name rfl rfl) rfl)) Cmp.geN).conv (b' := true) (decide_eq_true h1)) (fun _ => Ex_stop (ExS_return Ev_bool)) (fun e => nomatch e))).less trivial
  rw [if_neg h1]
  refine Ex_cons (ExS_if ((Te_Compare (.of (Ev_attr hc M.k.cls M.k.n (Ev_name rfl rfl) rfl)) (.of (Ev_attr hc M.k.cls M.k.n (Ev_name rfl rfl) rfl)) Cmp.geN).conv (b' := false) (decide_eq_false h1)) (fun e => nomatch e) (fun _ => Ex_nil)) ?_
  have hte : Te c 1 lsS [("self", .val (.inst C (wsF s w))), ("other", .val (.inst C (wsF s' v)))] (iTest lsB 1) (decide (w.count.length ≤ 1) && (decide (v.count.length ≤ 1) && true)) :=
    Te_and (Te_plain (.of (Ev_attr hc M.k.cls M.k.simple (Ev_name rfl rfl) rfl)) Tru.bool) fun _ => Te_and (Te_plain (.of (Ev_attr hc M.k.cls M.k.simple (Ev_name rfl rfl) rfl)) Tru.bool) fun _ => Te_and_nil
  rw [Bool.and_true] at hte
  by_cases h2 : (decide (w.count.length ≤ 1) && decide (v.count.length ≤ 1)) = true
  · rw [if_pos h2]
    refine (Ex_stop (ExS_if (hte.conv h2) (fun _ => Ex_stop (ExS_return ((Ev_Compare (.of (Ev_attr hc M.k.cls M.k.nt (Ev_name rfl rfl) rfl)) (.of (Ev_attr hc M.k.cls M.k.nt (Ev_name rfl rfl) rfl)) Cmp.le).conv ?_))) (fun e => nomatch e))).less trivial
    congr 1; exact decide_eq_decide.mpr Int.ofNat_le
  rw [if_neg h2]
  refine Ex_cons (ExS_if (hte.conv (Bool.eq_false_iff.mpr h2)) (fun e => nomatch e) (fun _ => Ex_nil)) ?_
  obtain ⟨f, hM, hfl⟩ := M.lr
  refine Ex_cons (ExS_assign (d := .int (nOf w v)) ((Ev_BinOp (.of (Ev_callB hc B.max rfl nofun (EvLR_cons (.of (Ev_meth hc hM (Ev_name rfl rfl) rfl EvL_nil (lr_fn hc M.k B ok hfl))) (EvLR_cons (.of (Ev_meth hc hM (Ev_name rfl rfl) rfl EvL_nil (lr_fn hc M.k B ok' hfl))) EvLR_nil)) CallR.max2)) EvR_int Bin.add).conv rfl) rfl (by decide)) ?_
  obtain ⟨ρ', L, z⟩ := ls_loop (s := s) (s' := s') hc M B ok ok' (x := .int (nOf w v)) (List.range (nOf w v + 1 - 2).toNat) (fun i hi => by have := List.mem_range.mp hi; omega)
  have hE : Ev c 1 lsS [("self", .val (.inst C (wsF s w))), ("other", .val (.inst C (wsF s' v))), ("n", .val (.int (nOf w v)))] (fIter lsB 3) (.rng 2 (nOf w v + 1)) :=
    Ev_callB hc B.range rfl nofun (EvLR_cons EvR_int (EvLR_cons (.of (Ev_BinOp (EvR_name rfl rfl) EvR_int Bin.add)) EvLR_nil)) CallR.range2
  have hS : (D.rng 2 (nOf w v + 1)).small = true := by unfold D.small; simp; omega
  by_cases h3 : ((List.range (nOf w v + 1 - 2).toNat).all fun i => decide (levelOf w (2 + i) < levelOf v (2 + i))) = true
  · rw [if_pos h3] at L
    rw [h3]
    exact Ex_cons (ExS_for hE rfl hS L (.inl rfl)) ((Ex_stop (ExS_return Ev_bool)).less trivial)
  · rw [if_neg h3] at L
    rw [Bool.eq_false_iff.mpr h3]
    exact (Ex_stop (ExS_for hE rfl hS L (.inl rfl))).less z
end Mine
end

section
open PySem PySem.Calls PyProof.Rows PySem.W
set_option maxRecDepth 100000
set_option linter.unusedVariables false
namespace Mine
noncomputable def iThen (b : List Stmt) (i : Nat) : List Stmt := match b[i]? with
  | some (.If _ t _ _) => t
  | _ => []
variable {c : Cx} {n : Nat}
noncomputable abbrev hdB (f : Str) := mBody pw "Headers" f
noncomputable abbrev hdS (f : Str) := mScope pw "Headers" f
/-- the class Headers as it stands -/
structure HdK (c : Cx) (C : Addr) (nc vc : Array Nat) : Prop where
  cls : ClsK c C
  hd : findIn c.K (.ref C) "_headers" = some none
  glb : Glb c "Headers" (.ref C)
  type : Glb c "type" (.type "type")
  list : Glb c "list" (.type "list")
  str : Glb c "str" (.type "str")
  len : Glb c "len" (.builtin "len")
  nre : ∃ P, Glb c "_name_disallowed_re" (.ref P) ∧ PatAt c.hB P nc
  vre : ∃ P, Glb c "_value_disallowed_re" (.ref P) ∧ PatAt c.hB P vc
  conv : ∃ f fd, MethK c C "_convert_string_type" f ∧ DefAt c f fd (hdB "_convert_string_type") (hdS "_convert_string_type") ∧ ∀ v0 v b (s : Shared), Fle c.hB.get? s.heap.get? → BindsTo s fd ⟨[v0, v], [("name", .bool b)]⟩ [("self", v0), ("value", v), ("name", .bool b)]
  add : ∃ f fd, MethK c C "add_header" f ∧ DefAt c f fd (hdB "add_header") (hdS "add_header") ∧ ∀ v0 v1 v2 (s : Shared) (A : Around) (E : Value → Shared → Prop) (Q : List (Str × Value) → Shared → Prop), Fle c.hB.get? s.heap.get? →
    Q [("self", v0), ("_name", v1), ("_value", v2), ("_params", .ref s.heap.objs.size)] { s with heap := s.heap.push emptyDict } → wpAny (model c.prog c.w) A (bindArgs fd ⟨[v0, v1, v2], []⟩) Q E s
  getall : ∃ f fd, MethK c C "get_all" f ∧ DefAt c f fd (hdB "get_all") (hdS "get_all") ∧ ∀ v0 v (s : Shared), Fle c.hB.get? s.heap.get? → BindsTo s fd ⟨[v0, v], []⟩ [("self", v0), ("name", v)]
  get : ∃ f fd, MethK c C "get" f ∧ DefAt c f fd (hdB "get") (hdS "get") ∧ ∀ v0 v (s : Shared), Fle c.hB.get? s.heap.get? → BindsTo s fd ⟨[v0, v], []⟩ [("self", v0), ("name", v), ("default", .none)]
  lens : ∃ f fd, MethK c C "__len__" f ∧ DefAt c f fd (hdB "__len__") (hdS "__len__") ∧ ∀ v0 (s : Shared), Fle c.hB.get? s.heap.get? → BindsTo s fd ⟨[v0], []⟩ [("self", v0)]
  init : ∃ f fd, NewK c C f ∧ DefAt c f fd (hdB "__init__") (hdS "__init__") ∧ ∀ v0 (s : Shared), Fle c.hB.get? s.heap.get? → BindsTo s fd ⟨[v0], []⟩ [("self", v0), ("headers", .none)]
variable {C : Addr} {nc vc : Array Nat}
theorem patAt_get {h : Heap} {P : Addr} {code : Array Nat} (x : PatAt h P code) : ∃ o, h.get? P = some o := let ⟨o, _, _, _, _, _, e, _⟩ := x.ex; ⟨o, e⟩

theorem conv_fn {f : Addr} {fd : FuncData} {b : Bool} {x : Str} (hc : c.Ok) (H : HdK c C nc vc) (D0 : DefAt c f fd (hdB "_convert_string_type") (hdS "_convert_string_type")) (hb : ∀ v0 v b (s : Shared), Fle c.hB.get? s.heap.get? → BindsTo s fd ⟨[v0, v], [("name", .bool b)]⟩ [("self", v0), ("value", v), ("name", .bool b)])
    (hm : missB (if b then nc else vc) x = true) (hz : x.cps.size ≤ 1000) : FnK c 1 (.ref f) [("name", .bool b)] [.str x] (.str x) := fun A F s v0 vs R hB l r => by
  obtain ⟨v, rfl⟩ : ∃ v, vs = [v] := by cases r with | cons a r => cases r; exact ⟨_, rfl⟩
  have rv : Rd F (.str x) v := by cases r with | cons a r => exact a
  obtain ⟨P1, g1, p1⟩ := H.nre
  obtain ⟨P2, g2, p2⟩ := H.vre
  obtain ⟨o1, q1⟩ := patAt_get p1
  obtain ⟨o2, q2⟩ := patAt_get p2
  refine Ret.wp (codeRet_mono (run_val (n := 0) (fl := .ret (.str x)) (args := ⟨[v0, v], [("name", .bool b)]⟩) (binds := [("self", v0), ("value", v), ("name", .bool b)]) (ρ0 := [("value", .val (.str x)), ("name", .val (.bool b))]) (ρ' := []) hc D0 (by show scOk (hdS "_convert_string_type") (["self", "value", "name"] : List Str) = true; decide) R hB l (fun A' E Q q => hb v0 v b s (hB.trans l) _ _ _ _ q) (fun y sl e => ?_) ⟨nofun, nofun⟩ ?_) fun _ _ q => q.1)
  · rw [List.lookup_cons] at e
    by_cases h1 : y = "value"
    · subst h1; simp at e; subst e; exact ⟨v, rfl, .val rv⟩
    · have e1 : (y == ("value" : Str)) = false := by simpa using h1
      rw [e1, List.lookup_cons] at e
      by_cases h2 : y = "name"
      · subst h2; simp at e; subst e; exact ⟨.bool b, rfl, .val (.bool b)⟩
      · have e2 : (y == ("name" : Str)) = false := by simpa using h2
        rw [e2] at e; cases e
  · refine Ex_stop (ExS_if ((Te_is (EvV_type hc H.type rfl (EvR_name rfl rfl) rfl) (EvV_glob hc H.str rfl) rfl).conv (b' := true) (by decide)) (fun _ => ?_) (fun e => nomatch e))
    have key : ∀ P code, PatAt c.hB P code → missB code x = true → Ex c 0 (hdS "_convert_string_type") [] [("value", .val (.str x)), ("name", .val (.bool b)), ("regex", .val (.opq P))] ((iThen (hdB "_convert_string_type") 0).drop 1) (.ret (.str x)) [("value", .val (.str x)), ("name", .val (.bool b)), ("regex", .val (.opq P))] := fun P code hp hm =>
      Ex_cons (ExS_if (Te_plain (.of (Ev_search hc (EvV_opq rfl rfl) hp (Ev_name rfl rfl) hm hz)) Tru.none) (fun e => nomatch e) (fun _ => Ex_nil)) (Ex_stop (ExS_return (Ev_name rfl rfl)))
    cases b with
    | true => exact (Ex_cons (ExS_assign (d := .opq P1) (Ev_IfExp (x := true) (Te_plain (EvR_name rfl rfl) Tru.bool) (fun _ => Ev_opq hc g1 rfl q1) (fun e => nomatch e)) rfl (by decide)) (key P1 nc p1 hm)).less trivial
    | false => exact (Ex_cons (ExS_assign (d := .opq P2) (Ev_IfExp (x := false) (Te_plain (EvR_name rfl rfl) Tru.bool) (fun e => nomatch e) (fun _ => Ev_opq hc g2 rfl q2)) rfl (by decide)) (key P2 vc p2 hm)).less trivial
theorem lookup_or {β : Type} {x y : Str} {v w : β} {r : List (Str × β)} (h : List.lookup y ((x, v) :: r) = some w) : (y = x ∧ w = v) ∨ r.lookup y = some w := by
  rw [List.lookup_cons] at h
  by_cases q : y = x
  · subst q; simp at h; exact .inl ⟨rfl, h.symm⟩
  · rw [show (y == x) = false by simpa using q] at h; exact .inr h
theorem look4 {β : Type} {a b c d : Str} {s1 s2 s3 s4 : β} {P : Str → β → Prop} (h1 : P a s1) (h2 : P b s2) (h3 : P c s3) (h4 : P d s4) (y : Str) (sl : β) (e : List.lookup y [(a, s1), (b, s2), (c, s3), (d, s4)] = some sl) : P y sl := by
  rcases lookup_or e with ⟨rfl, rfl⟩ | e
  · exact h1
  rcases lookup_or e with ⟨rfl, rfl⟩ | e
  · exact h2
  rcases lookup_or e with ⟨rfl, rfl⟩ | e
  · exact h3
  rcases lookup_or e with ⟨rfl, rfl⟩ | e
  · exact h4
  cases e
noncomputable def addFp (l a : Addr) (y : Str) : List Addr := if y = "self" then [l] else if y = "_params" then [a] else []
theorem addFp_mem {l a b : Addr} {y : Str} (h : b ∈ addFp l a y) : (y = "self" ∧ b = l) ∨ (y = "_params" ∧ b = a) := by
  unfold addFp at h
  by_cases h1 : y = "self"
  · rw [if_pos h1] at h; exact .inl ⟨h1, List.mem_singleton.mp h⟩
  · rw [if_neg h1] at h
    by_cases h2 : y = "_params"
    · rw [if_pos h2] at h; exact .inr ⟨h2, List.mem_singleton.mp h⟩
    · rw [if_neg h2] at h; cases h
theorem addFp_nodup {l a : Addr} {y : Str} : (addFp l a y).Nodup := by
  unfold addFp
  split
  · simp
  · split <;> simp
theorem addFp_apart {l a : Addr} (h : l < a) {y z : Str} (hyz : y ≠ z) {b : Addr} (hb : b ∈ addFp l a y) : b ∉ addFp l a z := fun hb' => by
  rcases addFp_mem hb with ⟨h1, h2⟩ | ⟨h1, h2⟩ <;> rcases addFp_mem hb' with ⟨h3, h4⟩ | ⟨h3, h4⟩
  · exact hyz (h1.trans h3.symm)
  · exact Nat.ne_of_lt h (h2.symm.trans h4)
  · exact Nat.ne_of_lt h (h4.symm.trans h2)
  · exact hyz (h1.trans h3.symm)
noncomputable abbrev addR (C : Addr) (xs : List D) (k v : Str) : Vars := [("self", .hdr C xs), ("_name", .val (.str k)), ("_value", .val (.str v)), ("_params", .dict [])]
theorem addR_own {C l a : Addr} {xs : List D} {k v : Str} (b : Addr) : (∃ y sl, (addR C xs k v).lookup y = some sl ∧ b ∈ addFp l a y) ↔ (b = l ∨ b = a) := by
  constructor
  · rintro ⟨y, sl, e, q⟩
    exact (addFp_mem q).imp (·.2) (·.2)
  · rintro (q | q)
    · exact ⟨"self", .hdr C xs, rfl, by rw [q]; exact List.mem_singleton.mpr rfl⟩
    · exact ⟨"_params", .dict [], rfl, by rw [q]; exact List.mem_singleton.mpr rfl⟩
theorem add_fn {f : Addr} {fd : FuncData} {k v : Str} {xs : List D} (hc : c.Ok) (H : HdK c C nc vc) (D0 : DefAt c f fd (hdB "add_header") (hdS "add_header")) (hb : ∀ v0 v1 v2 (s : Shared) (A : Around) (E : Value → Shared → Prop) (Q : List (Str × Value) → Shared → Prop), Fle c.hB.get? s.heap.get? →
    Q [("self", v0), ("_name", v1), ("_value", v2), ("_params", .ref s.heap.objs.size)] { s with heap := s.heap.push emptyDict } → wpAny (model c.prog c.w) A (bindArgs fd ⟨[v0, v1, v2], []⟩) Q E s)
    (hk : missB nc k = true) (hv : missB vc v = true) (zk : k.cps.size ≤ 1000) (zv : v.cps.size ≤ 1000) (zx : xs.length ≤ 1000) : FnH c 2 (.ref f) C xs [.str k, .str v] (xs ++ [.tup [.str k, .str v]]) := fun A F s x l vs R hBF l0 O hFl r => by
  obtain ⟨v1, v2, rfl⟩ : ∃ v1 v2, vs = [v1, v2] := by cases r with | cons a r => cases r with | cons b r => cases r; exact ⟨_, _, rfl⟩
  have r1 : Rd F (.str k) v1 := by cases r with | cons a r => exact a
  have r2 : Rd F (.str v) v2 := by cases r with | cons a r => cases r with | cons b r => exact b
  have hown := addR_own (C := C) (l := l) (a := s.heap.objs.size) (xs := xs) (k := k) (v := v)
  obtain ⟨fc, fdc, hMc, Dc, hbc⟩ := H.conv
  have hl : l < s.heap.objs.size := O.lt l (.head _)
  have k1 : Fle s.heap.get? (s.heap.push emptyDict).get? := fun b o e => Heap.get?_push_of_some _ e
  have zs : (s.heap.push emptyDict).objs.size = s.heap.objs.size + 1 := Heap.size_push ..
  have hsys : (s.heap.objs.size == sysModules) = false := by
    obtain ⟨mc, hns, _⟩ := hc.top.nolimit.keeps (hBF.trans l0)
    have h2 : 2 < s.heap.objs.size := hns.lt
    exact beq_eq_false_iff_ne.mpr (Nat.ne_of_gt (Nat.lt_of_succ_lt h2))
  refine wpAny_mono (Ret.wp (run_fn (n := 1) (fl := .next) (args := ⟨[.ref x, v1, v2], []⟩) (binds := [("self", .ref x), ("_name", v1), ("_value", v2), ("_params", .ref s.heap.objs.size)]) (s' := { s with heap := s.heap.push emptyDict }) (pins := [("self", .ref x)])
    (ρ0 := addR C xs k v) (ρ' := [("self", .hdr C (xs ++ [.tup [.str k, .str v]]))]) (fp := addFp l s.heap.objs.size)
    hc D0 (by show scOk (hdS "add_header") (["self", "_name", "_value", "_params"] : List Str) = true; decide) R hBF l0 k1 ⟨_, _, rfl⟩ (fun A' E Q q => hb _ _ _ s A' E Q (hBF.trans l0) q)
    (look4 ⟨.ref x, rfl, O.mono (fun b _ => k1 b) (.refl F)⟩ ⟨v1, rfl, .val r1⟩ ⟨v2, rfl, .val r2⟩ ⟨_, rfl, .dict0 (Heap.get?_push_size _ rfl) hsys⟩) (fun q hq => by rw [List.mem_singleton.mp hq]; rfl) (fun y sl e b hb => ?_) (fun y sl e => addFp_nodup) (fun y sl z t e e' hyz b hb => addFp_apart hl hyz hb) ⟨nofun, nofun⟩ ?_))
    (fun v s₂ hp => ?_) fun _ _ x => x
  · rcases (addFp_mem hb) with ⟨_, q⟩ | ⟨_, q⟩
    · rw [q]; exact hFl
    · rw [q]; exact none_of_le l0 (Nat.le_refl _)
  · show Ex c 1 (hdS "add_header") (["self"] : List Str) _ _ _ _
    have cv : FnK c 1 (.ref fc) [("name", .bool false)] [.str v] (.str v) := conv_fn hc H Dc hbc hv zv
    have ck : FnK c 1 (.ref fc) [("name", .bool true)] [.str k] (.str k) := conv_fn hc H Dc hbc hk zk
    refine Ex_cons (ExS_assignNew (EvNew_List EvL_nil (by decide)) rfl (by decide)) ?_
    refine Ex_cons (ρ₁ := [("self", .hdr C xs), ("_name", .val (.str k)), ("_value", .val (.str v)), ("_params", .dict []), ("parts", .lst [.str v])]) (ExS_if (t := true) (Te_Compare (EvR_name rfl rfl) EvR_none Cmp.isNotNone) (fun _ => ?_) (fun e => nomatch e)) ?_
    · refine Ex_cons (ExS_assign (Ev_methK hc hMc (EvI_hdr rfl rfl (by decide)) (Ev_name rfl rfl) cv) rfl (by decide)) ?_
      exact Ex_cons (ExS_exprX (EvX_append rfl rfl (EvX.of (Ev_name rfl rfl)) rfl (by decide))) Ex_nil
    · refine Ex_cons (ExS_forItems0 rfl rfl) ?_
      refine (Ex_cons (ExS_exprX (EvX_hdrAppend hc H.cls H.hd rfl rfl (Ev_Tuple (EvL_cons (Ev_methK hc hMc (EvI_hdr rfl rfl (by decide)) (Ev_name rfl rfl) ck) (EvL_cons (Ev_join1 Ev_str (EvR_own rfl rfl) zv (by decide)) EvL_nil)) (by simp)) (by omega))) Ex_nil).less ⟨rfl, trivial⟩
  · obtain ⟨F', z1, z2, z3, z4, z5, z6, ⟨env, P', S', z7⟩, z8⟩ := hp
    have hv0 : v = .none := by cases z6; rfl
    obtain ⟨vm', fp', S''⟩ := S'
    obtain ⟨a, dx', l', od', es', k', e1, e2, e3, e4, e5, e6, e7, e8, e9⟩ := S''.hdr (x := "self") rfl
    have ha : a = x := by have e := S''.pin ("self", .ref x) (.head _); rw [e1] at e; cases e; rfl
    subst ha
    have hll : l' = l := by
      cases O with
      | hdr a1 a2 a3 a4 a5 a6 a7 =>
        have q1 := z1 _ _ a1
        rw [e3] at q1; cases q1
        have q2 := z1 _ _ a2
        rw [e4] at q2; cases q2
        rw [e5] at a3; cases a3
        rw [e7] at a5; cases a5; rfl
    subst hll
    have hP' : F' l' = none := S''.out l' ((S''.mem l').mpr (.inr ⟨"self", _, rfl, by rw [e2]; exact .head _⟩))
    refine ⟨hv0, F', z1, fun b o e => ?_, fun b o hne e => ?_, S''.le, hP', .hdr e3 e4 e5 e6 e7 e8 e9, z4, Nat.le_trans (by show _ ≤ (s.heap.push _).objs.size; rw [zs]; exact Nat.le_succ _) z5⟩
    · rcases z2 b o e with q | q | q
      · exact .inl q
      · rcases (hown b).mp q with q | q
        · rw [q, hP'] at e; cases e
        · exact .inr (by rw [eqA q]; exact Nat.le_refl _)
      · exact .inr (Nat.le_trans (by show _ ≤ (s.heap.push _).objs.size; rw [zs]; exact Nat.le_succ _) q)
    · exact z3 b o (fun q => (hown b).mp q |>.elim hne fun q => by have := Heap.lt_size e; rw [eqA q] at this; exact Nat.lt_irrefl _ this) (k1 b o e)
end Mine
end

section
open PySem PySem.Calls PyProof.Rows PySem.W
set_option maxRecDepth 100000
set_option linter.unusedVariables false
namespace Mine
noncomputable def sAt (b : List Stmt) (i : Nat) : Stmt := b.getD i default
variable {c : Cx} {n : Nat} {C : Addr} {nc vc : Array Nat}
noncomputable def FreeOk (csc : Scope) (ρ : Vars) : Vars → Prop
  | [] => True
  | (x, s) :: r => csc.names.lookup x = some .free ∧ ρ.lookup x = some s ∧ FreeOk csc ρ r
theorem FreeOk.get {csc : Scope} {ρ : Vars} : ∀ {ρc : Vars}, FreeOk csc ρ ρc → ∀ y sl, ρc.lookup y = some sl → csc.names.lookup y = some .free ∧ ρ.lookup y = some sl
  | [], _, y, sl, e => by cases e
  | (x, s) :: r, h, y, sl, e => by
    rw [List.lookup_cons] at e
    by_cases hy : y = x
    · subst hy; simp only [beq_self_eq_true] at e; cases e; exact ⟨h.1, h.2.1⟩
    · have hb : (y == x) = false := by simpa using hy
      rw [hb] at e; exact FreeOk.get h.2.2 y sl e
theorem compR_of {α : Type} {ts : D → Bool → Prop} {el : D → D → Prop} (f : α → D) (p : α → Bool) (g : α → D) : ∀ (xs : List α), (∀ a ∈ xs, ts (f a) (p a)) → (∀ a ∈ xs, p a = true → el (f a) (g a)) → CompR ts el (xs.map f) ((xs.filter p).map g)
  | [], _, _ => .nil
  | a :: r, h1, h2 => by
    have ih := compR_of f p g r (fun b hb => h1 b (.tail _ hb)) (fun b hb => h2 b (.tail _ hb))
    have t := h1 a (.head _)
    cases hp : p a with
    | true => rw [List.filter_cons, if_pos hp, List.map_cons, List.map_cons]; rw [hp] at t; exact .take t (h2 a (.head _) hp) ih
    | false => rw [List.filter_cons, if_neg (by rw [hp]; decide), List.map_cons]; rw [hp] at t; exact .skip t ih
/-- a table's rows -/
noncomputable abbrev Rows := List (Str × Str)
noncomputable def rowD (kv : Str × Str) : D := .tup [.str kv.1, .str kv.2]
noncomputable def rowsD (hs : Rows) : List D := hs.map rowD
noncomputable def getAllM (hs : Rows) (nm : Str) : List Str := (hs.filter fun kv => Txt.lower kv.1 == Txt.lower nm).map (·.2)
noncomputable abbrev instD (C : Addr) (hs : Rows) : D := .inst C (hdrF (rowsD hs))
theorem getall_fn {f : Addr} {fd : FuncData} {nm : Str} {hs : Rows} (hc : c.Ok) (H : HdK c C nc vc) (D0 : DefAt c f fd (hdB "get_all") (hdS "get_all")) (hb : ∀ v0 v (s : Shared), Fle c.hB.get? s.heap.get? → BindsTo s fd ⟨[v0, v], []⟩ [("self", v0), ("name", v)])
    (hm : missB nc (Txt.lower nm) = true) (hz : nm.length ≤ 300) (hlz : (Txt.lower nm).cps.size ≤ 1000) (hn : hs.length ≤ 1000) (hkz : ∀ kv ∈ hs, kv.1.length ≤ 1000) : FnF c 2 (.ref f) [instD C hs, .str nm] (.lst ((getAllM hs nm).map .str)) := fun A F s vs R hBF l r => by
  obtain ⟨v0, v, rfl⟩ : ∃ v0 v, vs = [v0, v] := by cases r with | cons a r => cases r with | cons b r => cases r; exact ⟨_, _, rfl⟩
  obtain ⟨fc, fdc, hMc, Dc, hbc⟩ := H.conv
  have cv : FnK c 1 (.ref fc) [("name", .bool true)] [.str (Txt.lower nm)] (.str (Txt.lower nm)) := conv_fn hc H Dc hbc hm hlz
  refine Ret.wp (codeRet_mono (run_val (n := 1) (fl := .retF (.lst ((getAllM hs nm).map .str))) (args := ⟨[v0, v], []⟩) (binds := [("self", v0), ("name", v)]) (ρ0 := ((["self", "name"] : List Str).zip ([instD C hs, .str nm].map Slot.val))) (ρ' := [("self", .val (instD C hs)), ("name", .val (.str (Txt.lower nm)))]) hc D0 (by show scOk (hdS "get_all") (["self", "name"] : List Str) = true; decide) R hBF l (fun A' E Q q => hb v0 v s (hBF.trans l) _ _ _ _ q) (fun y sl e => zip_own (names := ["self", "name"]) r e) ⟨nofun, nofun⟩ ?_) fun v s' q => ⟨q.1, q.2 _ rfl⟩)
  refine Ex_cons (ExS_assign (Ev_methK hc hMc (EvI_ev (Ev_name rfl rfl) rfl) (Ev_lower (Ev_name rfl rfl) (by omega)) cv) rfl (by decide)) ?_
  refine Ex_stop (ExS_returnNew (EvNew_comp (ρc := [("name", .val (.str (Txt.lower nm)))]) ⟨by decide, FreeOk.get ⟨rfl, rfl, trivial⟩, fun _ _ => rfl, .lst (rowsD hs), rowsD hs, .of (Ev_attr hc H.cls H.hd (Ev_name rfl rfl) rfl), rfl, rfl, by unfold rowsD; rw [List.length_map]; omega, ?_⟩))
  unfold getAllM
  rw [List.map_map]
  refine compR_of rowD (fun kv => Txt.lower kv.1 == Txt.lower nm) (fun kv => .str kv.2) hs (fun kv hkv => ?_) (fun kv hkv _ => ?_)
  · exact .one (Te_Compare (.of (Ev_lower (Ev_Sub (EvR_name rfl rfl) EvR_int (Itm.tup (i := 0) (by decide) rfl (by decide))) (hkz kv hkv))) (EvR_name rfl rfl) Cmp.eqS)
  · exact Ev_Sub (EvR_name rfl rfl) EvR_int (Itm.tup (i := 1) (by decide) rfl (by decide))
theorem hinit_fn {f : Addr} {fd : FuncData} (hc : c.Ok) (H : HdK c C nc vc) (D0 : DefAt c f fd (hdB "__init__") (hdS "__init__")) (hb : ∀ v0 (s : Shared), Fle c.hB.get? s.heap.get? → BindsTo s fd ⟨[v0], []⟩ [("self", v0), ("headers", .none)]) : FnHI c 2 (.ref f) C := fun A F s x dx R hBF l hne hx hdx fx fdx => by
  refine call_openG (n := 2) hc D0 (by show scOk (hdS "__init__") (["self", "headers"] : List Str) = true; decide) R (hBF.trans l) (.refl _) (fun A' E Q q => hb _ s (hBF.trans l) _ _ _ _ q) fun env s₁ ok X hce hcl => ?_
  have sk := scOk_of (show scOk (hdS "__init__") (["self", "headers"] : List Str) = true by decide)
  have hnd : (([("self", .ref x), ("headers", .none)] : List (Str × Value)).map (·.1)).Nodup := by show (["self", "headers"] : List Str).Nodup; decide
  obtain ⟨hst, S⟩ := enter_st (c := c) (pins := [("self", .ref x)]) (ρ0 := [("headers", .val .none)]) (fp := fun _ => []) ok X hce (fun x q => (sk.nofree _ (mem_of_lookup q)) rfl) hcl hBF l
    (fun y sl e => by
      rw [List.lookup_cons] at e
      by_cases h1 : y = "headers"
      · subst h1; simp at e; subst e; exact ⟨.none, vmB_lookup hnd rfl, .val .none⟩
      · have e1 : (y == ("headers" : Str)) = false := by simpa using h1
        rw [e1] at e; cases e) (fun q hq => by rw [List.mem_singleton.mp hq]; exact vmB_lookup hnd rfl) (fun _ _ _ _ q => nomatch q) (fun _ _ _ => .nil) (fun _ _ _ _ _ _ _ _ q => nomatch q)
  have hP₀ : ∀ b, (b ∈ stor env ∨ ∃ y sl, ([("headers", .val .none)] : Vars).lookup y = some sl ∧ b ∈ ([] : List Addr)) → s.heap.objs.size ≤ b := fun b q => q.elim (hst b) fun hp2 => by obtain ⟨_, _, _, q⟩ := hp2; exact nomatch q
  have kp : Fle s.heap.get? s₁.heap.get? := X.toInCall.keep
  have lt₁ : env.locals < s₁.heap.objs.size := X.toInCall.ns.lt
  have sz₁ : s.heap.objs.size ≤ s₁.heap.objs.size := Nat.le_trans X.toInCall.fresh (Nat.le_of_lt lt₁)
  have X₁ : Same s s₁ := by obtain ⟨h₁, tk, rfl, _⟩ := X.done; exact ⟨_, _, rfl⟩
  have xlt : x < s.heap.objs.size := Heap.lt_size hx
  have dlt : dx < s.heap.objs.size := Heap.lt_size hdx
  have R' : Room 1 (A.deeper env) := R.deeper
  -- headers = []
  have e0 : ExS c 1 (hdS "__init__") ["self"] [("headers", .val .none)] (sAt (hdB "__init__") 0) .next [("headers", .lst [])] :=
    ExS_assignNew (EvNew_IfExp (x := false) (Te_Compare (EvR_name rfl rfl) EvR_none Cmp.isNotNone) (fun e => nomatch e) (fun _ => EvNew_List EvL_nil (by decide))) rfl (by decide)
  have e1 : ExS c 1 (hdS "__init__") ["self"] [("headers", .lst [])] (sAt (hdB "__init__") 1) .next [("headers", .lst [])] :=
    ExS_if (t := false) ((Te_isNot (EvV_type hc H.type rfl (EvR_own rfl rfl) rfl) (EvV_glob hc H.list rfl) rfl).conv (by decide)) (fun e => nomatch e) (fun _ => Ex_nil)
  have e3 : ExS c 1 (hdS "__init__") ["headers", "self"] [("headers", .lst [])] (sAt (hdB "__init__") 3) .next [("headers", .lst [])] :=
    ExS_if (t := true) (Te_plain (.of Ev_bool) Tru.bool) (fun _ => Ex_cons (ExS_forOwn0 rfl rfl) Ex_nil) (fun e => nomatch e)
  have hbody : hdB "__init__" = [sAt (hdB "__init__") 0, sAt (hdB "__init__") 1, sAt (hdB "__init__") 2, sAt (hdB "__init__") 3] := rfl
  rw [hbody]
  refine wpAny_execs_cons (wpAny_mono (e0 (A.deeper env) env [("self", .ref x)] F _ s₁ R' ok rfl S) (fun f s₂ hp3 => ?_) fun _ _ x => x)
  obtain ⟨F₂, P₂, T₂, X₂, S₂, q₂⟩ := hp3
  cases q₂
  refine wpAny_execs_cons (wpAny_mono (e1 (A.deeper env) env [("self", .ref x)] F₂ P₂ s₂ R' ok rfl S₂) (fun f s₃ hp4 => ?_) fun _ _ x => x)
  obtain ⟨F₃, P₃, T₃, X₃, S₃, q₃⟩ := hp4
  cases q₃
  have T := T₂.trans T₃
  have out₀ : ∀ b, b < s.heap.objs.size → ¬ (b ∈ stor env ∨ ∃ y sl, ([("headers", .val .none)] : Vars).lookup y = some sl ∧ b ∈ ([] : List Addr)) := fun b hb q => Nat.not_lt.mpr (hP₀ b q) hb
  have out₃ : ∀ b, b < s.heap.objs.size → ¬ P₃ b := fun b hb q => (T.mem b q).elim (out₀ b hb) fun q => Nat.not_lt.mpr (Nat.le_trans sz₁ q) hb
  have hx₃ := T.keep x _ (out₀ x xlt) (kp _ _ hx)
  have hd₃ := T.keep dx _ (out₀ dx dlt) (kp _ _ hdx)
  have fd₃ : F₃ dx = none := by
    cases e : F₃ dx with
    | none => rfl
    | some o =>
      rcases T.new dx o e with q | q | q
      · rw [fdx] at q; cases q
      · exact absurd q (out₀ dx dlt)
      · exact absurd dlt (Nat.not_lt.mpr (Nat.le_trans sz₁ q))
  have K₃ := S₃.keep
  have S₃0 := S₃
  obtain ⟨vm, fp, S₃⟩ := S₃
  obtain ⟨a, hv, hfp, L⟩ := S₃.lst (x := "headers") rfl
  have hself := S₃.pin ("self", .ref x) (.head _)
  have pa : P₃ a := (S₃.mem a).mpr (.inr ⟨"headers", _, rfl, by rw [hfp]; exact .head _⟩)
  have ale : s.heap.objs.size ≤ a := (T.mem a pa).elim (hP₀ a) fun q => Nat.le_trans sz₁ q
  refine wpAny_execs_cons ?_
  refine plainObj_wpAny_Assign_Attribute (load_var (h := s₃.heap) ok S₃.sto rfl hv (load_var (h := s₃.heap) ok S₃.sto rfl hself ?_)) (swaps_plain rfl)
  refine set_field (hc.at_ K₃) H.cls hx₃ hd₃ (fun e he => by simp at he) (by decide) H.hd fun h' tk es' k' hd' hk' hz' hq sb => ?_
  have pins' : ∀ q ∈ ([("headers", .ref a), ("self", .ref x)] : Pins), vm q.1 = some q.2 := fun q hq => by
    rcases List.mem_cons.mp hq with rfl | hq
    · exact hv
    · rw [List.mem_singleton.mp hq]; exact hself
  have S₃' : St c env [("headers", .ref a), ("self", .ref x)] [("headers", .lst [])] F₃ P₃ s₃.heap := ⟨vm, fp, { S₃ with pin := pins' }⟩
  have S₄ : St c env [("headers", .ref a), ("self", .ref x)] [("headers", .lst [])] F₃ P₃ h' := S₃'.walk (I := dx) (fun b o hb e => (sb.2 b (by simpa using hb)).trans e) fd₃ (out₃ dx dlt) (Nat.le_of_eq sb.1.symm)
  refine wpAny_execs_cons (wpAny_mono (e3 (A.deeper env) env [("headers", .ref a), ("self", .ref x)] F₃ P₃ { s₃ with heap := h', toks := tk } R' ok rfl S₄) (fun f s₅ hp5 => ?_) fun _ _ x => x)
  obtain ⟨F₅, P₅, T₅, X₅, S₅, q₅⟩ := hp5
  cases q₅
  obtain ⟨vm₅, fp₅, S₅⟩ := S₅
  obtain ⟨a₅, hv₅, hfp₅, vs, pl, rl⟩ := S₅.lst (x := "headers") rfl
  have ha : a₅ = a := by have e := S₅.pin ("headers", .ref a) (.head _); rw [hv₅] at e; cases e; rfl
  subst ha
  have hvs : vs = #[] := by
    obtain ⟨l⟩ := vs
    cases rl
    rfl
  subst hvs
  refine wpAny_execs_nil ⟨rfl, a₅, es', k', fun b o hbd e => ?_, X₁.trans (X₂.trans (X₃.trans (Same.trans ⟨_, _, rfl⟩ X₅))), ?_, ale, T₅.keep dx _ (out₃ dx dlt) hd', hk', by rw [hq, if_pos rfl], fun y hy => by rw [hq, if_neg hy]; rfl, pl⟩
  · have hb := Heap.lt_size e
    exact T₅.keep b o (out₃ b hb) ((sb.2 b hbd).trans (T.keep b o (out₀ b hb) (kp b o e)))
  · have z5 : h'.objs.size ≤ s₅.heap.objs.size := T₅.size
    exact Nat.le_trans sz₁ (Nat.le_trans T.size (by rw [sb.1] at z5; exact z5))
end Mine
end

section
open PySem PySem.Calls PyProof.Rows PySem.W
set_option maxRecDepth 100000
set_option linter.unusedVariables false
namespace Mine
variable {c : Cx} {n : Nat} {sc : Scope} {pn : List Str} {ρ : Vars}
theorem FnF.p {fv : Value} {ds : List D} {d : D} (h : FnF c n fv ds d) : FnP c n fv ds d := fun A F s vs R hb l r => wpAny_mono (h A F s vs R hb l r) (fun _ _ q => q.1) fun _ _ x => x
end Mine
end

section
open PySem PySem.Calls PyProof.Rows PySem.W
set_option maxRecDepth 100000
set_option linter.unusedVariables false
namespace Mine
variable {c : Cx} {n : Nat} {sc : Scope} {pn : List Str} {ρ : Vars}
/-! comprehensions of two clauses -/
/-- what stood under N stays -/
noncomputable def Old (N : Nat) (h h' : Heap) : Prop := ∀ a o, a < N → h.get? a = some o → h'.get? a = some o
theorem Old.trans {N : Nat} {h h' h'' : Heap} (x : Old N h h') (y : Old N h' h'') : Old N h h'' := fun a o l e => y a o l (x a o l e)
theorem Old.of {N : Nat} {h h' : Heap} (x : Fle h.get? h'.get?) : Old N h h' := fun a o _ e => x a o e
inductive LoopB (B : D → Vars → Vars → Prop) : List D → Vars → Vars → Prop
  | nil {ρ : Vars} : LoopB B [] ρ ρ
  | cons {x : D} {xs : List D} {ρ ρ₁ ρ' : Vars} : B x ρ ρ₁ → LoopB B xs ρ₁ ρ' → LoopB B (x :: xs) ρ ρ'
/-- a loop of a comprehension, its iterator at hand -/
theorem loopB_go {A : Around} {env : Env} {pins : Pins} {cd : Code} {R : Result → Shared → Prop} {x : Str} {px : Pos} {tl : Sem Unit} {EE : Value → Shared → Prop}
    {F₀ F₁ : Fz} {P₀ P : Addr → Prop} {h₀ : Heap} {s₀ s₁ : Shared} {I : Addr} {Pv : Nat → Value → Prop} {fp : List Addr} {W : Nat → Heap → Prop} {xs : List D} {ρ' : Vars} {B : D → Vars → Vars → Prop}
    (ok : EnvOk env sc) (hst : isSto sc x = true) (hxp : x ∉ pins.map (·.1)) {N : Nat} (hN : N ≤ env.locals) (hown : ∀ a, env.cells.lookup x = some a → N ≤ a) (hNI : N ≤ I) (O0 : Old N h₀ s₁.heap)
    (hcode : ∀ (J : Nat → Shared → Prop), (∀ k s, J k s → wpAny (model c.prog c.w) A (pyNext (.ref I)) (fun r s₁ => match r with
      | none => R (.ok .next) s₁
      | some v => wpAny (model c.prog c.w) A (assign (.Name x px) env v) (fun _ s₂ => wpAny (model c.prog c.w) A tl (fun _ s₃ => ∃ m, m < k ∧ J m s₃) EE s₂) EE s₁) EE s) → ∀ k s, J k s → codeAny (model c.prog c.w) A cd R s)
    (Wk : Walks c.prog c.w A I fp [I] xs.length Pv W) (hval : ∀ b ∈ fp, b ≠ I → F₁ b ≠ none) (hPv : ∀ i v, i < xs.length → Pv i v → ∃ d, xs[i]? = some d ∧ Rd F₁ d v)
    (w0 : W 0 s₁.heap) (hFI : F₁ I = none) (hPI : ¬ P I) (hI : I < s₁.heap.objs.size) (hI0 : s₀.heap.objs.size ≤ I)
    (T0 : Step F₀ P₀ s₀.heap F₁ P s₁.heap) (X0 : Same s₀ s₁) (S : St c env pins ρ F₁ P s₁.heap)
    (hB : ∀ d ρ ρ', B d ρ ρ' → ∀ F P s, St c env pins (Vars.put ρ x (.val d)) F P s.heap → wpAny (model c.prog c.w) A tl (fun _ s' => ∃ F' P', Step F P s.heap F' P' s'.heap ∧ Same s s' ∧ St c env pins ρ' F' P' s'.heap ∧ Old N s.heap s'.heap) (fun _ _ => False) s)
    (L : LoopB B xs ρ ρ')
    (hR : ∀ s' F' P', Step F₀ P₀ s₀.heap F' P' s'.heap → Same s₀ s' → St c env pins ρ' F' P' s'.heap → Old N h₀ s'.heap → R (.ok .next) s') :
    codeAny (model c.prog c.w) A cd R s₁ := by
  refine hcode (fun k s' => ∃ i ρ₁ F₂ P₂, k = xs.length + 1 - i ∧ i ≤ xs.length ∧ Fle F₁ F₂ ∧ Step F₀ P₀ s₀.heap F₂ P₂ s'.heap ∧ Same s₀ s' ∧ St c env pins ρ₁ F₂ P₂ s'.heap ∧ LoopB B (xs.drop i) ρ₁ ρ' ∧ W i s'.heap ∧ F₂ I = none ∧ ¬ P₂ I ∧ I < s'.heap.objs.size ∧ Old N h₀ s'.heap) ?_ (xs.length + 1) s₁
    ⟨0, ρ, F₁, P, rfl, Nat.zero_le _, .refl _, T0, X0, S, L, w0, hFI, hPI, hI, O0⟩
  rintro k s₂ ⟨i, ρ₁, F₂, P₂, rfl, hile, f12, T, X, S, L, hw, hF, hP, hI, hO⟩
  have oldI : ∀ {h : Heap}, (∀ b o, b ∉ [I] → s₂.heap.get? b = some o → h.get? b = some o) → Old N h₀ h := fun hk a o l e => hk a o (fun z => by rw [List.mem_singleton.mp z] at l; exact Nat.lt_irrefl _ (Nat.lt_of_lt_of_le l hNI)) (hO a o l e)
  have stepI : ∀ {s₃ : Shared}, s₂.heap.objs.size ≤ s₃.heap.objs.size → (∀ b o, b ∉ [I] → s₂.heap.get? b = some o → s₃.heap.get? b = some o) → Step F₀ P₀ s₀.heap F₂ P₂ s₃.heap := fun hz hk =>
    ⟨T.fle, T.new, fun b oo q e => hk b oo (fun z => by
      have hb := Nat.lt_of_lt_of_le (Heap.lt_size e) hI0
      rw [List.mem_singleton.mp z] at hb; exact Nat.lt_irrefl _ hb) (T.keep b oo q e), T.mem, Nat.le_trans T.size hz⟩
  by_cases hlt : i < xs.length
  · refine wpAny_mono (wpAny_sz (Nat.le_refl s₂.heap.objs.size) (Wk.item i s₂ (fun r s' => match r with | some v => Pv i v ∧ W (i + 1) s'.heap ∧ (∀ b o, b ∉ [I] → s₂.heap.get? b = some o → s'.heap.get? b = some o) ∧ Same s₂ s' | none => False) (fun _ _ => False) hlt hw fun v h' tk hv hw' hk => ⟨hv, hw', hk, ⟨_, _, rfl⟩⟩)) (fun r s₃ ⟨hz, hr⟩ => ?_) fun _ _ x => x.2.elim
    cases r with
    | none => exact hr.elim
    | some v' =>
      obtain ⟨hv, hw', hk, X₃⟩ := hr
      obtain ⟨dv, edv, rdv⟩ := hPv i v' hlt hv
      have S₃ := S.walk hk hF hP hz
      have T₃ := stepI hz hk
      have hI₃ : I < s₃.heap.objs.size := Nat.lt_of_lt_of_le hI hz
      have ed : xs.drop i = dv :: xs.drop (i + 1) := by rw [List.drop_eq_getElem_cons hlt]; congr 1; rw [List.getElem?_eq_getElem hlt] at edv; exact Option.some.inj edv
      rw [ed] at L
      cases L with
      | cons hb L =>
        refine wpAny_assign_Name ?_
        obtain ⟨vm, fpv, SV⟩ := S₃
        refine store_var' ok SV.sto hst fun h₄ tk₄ S₄ sb => ?_
        obtain ⟨bS, hbS, sbS, hbw⟩ := sb
        obtain ⟨P₄, St₄, hP₄, hk₄, hz₄⟩ := SV.store (.val (rdv.mono f12)) .nil (fun a q => nomatch q) (fun a q => nomatch q) (fun y t e hy a q => nomatch q) hxp S₄ ⟨bS, hbS, sbS⟩
        have hNb : N ≤ bS := hbw.elim (fun q => q ▸ hN) fun q => hown _ q
        have O34 : Old N s₃.heap h₄ := fun a o l e => (sbS.2 a fun z => Nat.lt_irrefl _ (Nat.lt_of_lt_of_le (z ▸ l) hNb)).trans e
        have T₄ : Step F₂ P₂ s₃.heap F₂ P₄ h₄ := ⟨.refl _, fun a o e => .inl e, hk₄, fun a q => (hP₄ a q).elim .inl fun q => (nomatch q), Nat.le_of_eq hz₄.symm⟩
        refine wpAny_mono (hB dv _ _ hb F₂ P₄ { s₃ with heap := h₄, toks := tk₄ } St₄) (fun _ s₆ ⟨F₆, P₆, T₆, X₆, S₆, O₆⟩ => ?_) fun _ _ x => x.elim
        have T46 : Step F₂ P₂ s₃.heap F₆ P₆ s₆.heap := T₄.trans T₆
        have hI4 : ¬ P₄ I := fun z => (T₄.mem _ z).elim hP fun z => Nat.lt_irrefl _ (Nat.lt_of_lt_of_le hI₃ z)
        refine ⟨xs.length + 1 - (i + 1), by omega, i + 1, _, F₆, P₆, rfl, hlt, f12.trans T₆.fle, T₃.trans T46, X.trans (X₃.trans (Same.trans ⟨_, _, rfl⟩ X₆)), S₆, L, ?_, ?_, ?_, Nat.lt_of_lt_of_le hI₃ T46.size, (oldI hk).trans (O34.trans O₆)⟩
        · refine Wk.frame (i + 1) _ _ hw' fun b hb oo e => T46.keep b oo (fun z => ?_) e
          by_cases hbI : b = I
          · exact hP (hbI ▸ z)
          · have h1 := hval b hb hbI
            cases hq : F₁ b with
            | none => exact h1 hq
            | some o1 =>
              have h2 := f12 b o1 hq
              rw [SV.out b z] at h2; cases h2
        · cases hq : F₆ I with
          | none => rfl
          | some o1 =>
            rcases T₆.new _ _ hq with z | z | z
            · rw [hF] at z; cases z
            · exact absurd z hI4
            · exact absurd (Nat.lt_of_lt_of_le hI₃ (Nat.le_trans T₄.size z)) (Nat.lt_irrefl _)
        · exact fun z => (T46.mem _ z).elim hP fun z => Nat.lt_irrefl _ (Nat.lt_of_lt_of_le hI₃ z)
  · have hin : i = xs.length := by omega
    subst hin
    refine wpAny_mono (wpAny_sz (Nat.le_refl s₂.heap.objs.size) (Wk.done s₂ (fun r s' => r = none ∧ (∀ b o, b ∉ [I] → s₂.heap.get? b = some o → s'.heap.get? b = some o) ∧ Same s₂ s') (fun _ _ => False) hw fun h' tk hk => ⟨rfl, hk, ⟨_, _, rfl⟩⟩)) (fun r s₃ ⟨hz, hr⟩ => ?_) fun _ _ x => x.2.elim
    obtain ⟨rfl, hk, X₃⟩ := hr
    rw [List.drop_length] at L
    cases L
    exact hR s₃ F₂ P₂ (stepI hz hk) (X.trans X₃) (S.walk hk hF hP hz) (oldI hk)
end Mine
end

section
open PySem PySem.Calls PyProof.Rows PySem.W
set_option maxRecDepth 100000
set_option linter.unusedVariables false
namespace Mine
variable {c : Cx} {n : Nat} {sc : Scope} {pn : List Str} {ρ : Vars}
/-! a comprehension of two clauses -/
noncomputable abbrev two (elt : Expr) (t0 i0 t1 i1 : Expr) (f1 : List Expr) (scope : Scope) (pos : Pos) : Expr := .ListComp elt [⟨t0, i0, [], 0⟩, ⟨t1, i1, f1, 0⟩] scope pos
/-- what a turn of the inner loop does behind its target -/
noncomputable def inTail (elt : Expr) (f1 : List Expr) (acc : Value) (env : Env) : Sem Unit :=
  (forIn f1 true fun c r => if r = true then do let ok ← PySem.isTrue c env (eval c env); pure (ForInStep.yield ok) else pure (ForInStep.yield r)) >>= fun ok =>
    if ok = true then (eval elt env >>= fun x => call (.builtin "list.append") [acc, x] >>= fun _ => pure ()) else pure ()
/-- what a turn of the outer loop does behind its target -/
noncomputable def outTail (elt t0 i0 t1 i1 : Expr) (f1 : List Expr) (scope : Scope) (pos : Pos) (acc : Value) (env : Env) : Sem Unit :=
  eval i1 env >>= fun x => standAt i1.pos >>= fun _ => foldedSetIterable i1 env x >>= fun x => holding [x] (pyIter x) >>= fun it => runOwn (.compStart (two elt t0 i0 t1 i1 f1 scope pos) 1 it acc env) env >>= fun _ => pure ()
theorem bind_if {X : Sem Bool} {T : Sem Unit} {G : Sem Fin} : (X >>= fun ok => if ok = true then (T >>= fun _ => G) else G) = ((X >>= fun ok => if ok = true then T else pure ()) >>= fun _ => G) := by
  rw [bind_assoc]
  refine bind_congr (m := Sem) fun ok => ?_
  cases ok with
  | true => rfl
  | false => exact (pure_bind () fun _ => G).symm
theorem turn_in (elt t0 i0 t1 i1 : Expr) (f1 : List Expr) (scope : Scope) (pos : Pos) (it acc : Value) (env : Env) :
    compTurn (two elt t0 i0 t1 i1 f1 scope pos) 1 it acc env = (standAt i1.pos >>= fun _ => pyNext it >>= fun r => match r with
      | none => pure (.done .next)
      | some v => letOwnedTupleGo t1 it v >>= fun _ => assign t1 env v >>= fun _ => inTail elt f1 acc env >>= fun _ => again (.compLoop (two elt t0 i0 t1 i1 f1 scope pos) 1 it acc env)) := by
  show (standAt i1.pos >>= fun _ => pyNext it >>= fun r => _) = _
  congr 1; funext _; congr 1; funext r
  cases r with
  | none => rfl
  | some v =>
    show (letOwnedTupleGo t1 it v >>= fun _ => assign t1 env v >>= fun _ => _) = _
    congr 1; funext _; congr 1; funext _
    show ((forIn f1 true fun c r => if r = true then do let ok ← PySem.isTrue c env (eval c env); pure (ForInStep.yield ok) else pure (ForInStep.yield r)) >>= fun ok => if ok = true then ((eval elt env >>= fun x => call (.builtin "list.append") [acc, x] >>= fun _ => pure ()) >>= fun _ => again (.compLoop (two elt t0 i0 t1 i1 f1 scope pos) 1 it acc env)) else again (.compLoop (two elt t0 i0 t1 i1 f1 scope pos) 1 it acc env)) = _
    exact bind_if
theorem turn_out (elt t0 i0 t1 i1 : Expr) (f1 : List Expr) (scope : Scope) (pos : Pos) (it acc : Value) (env : Env) :
    compTurn (two elt t0 i0 t1 i1 f1 scope pos) 0 it acc env = (standAt i0.pos >>= fun _ => pyNext it >>= fun r => match r with
      | none => pure (.done .next)
      | some v => letOwnedTupleGo t0 it v >>= fun _ => assign t0 env v >>= fun _ => outTail elt t0 i0 t1 i1 f1 scope pos acc env >>= fun _ => again (.compLoop (two elt t0 i0 t1 i1 f1 scope pos) 0 it acc env)) := by
  show (standAt i0.pos >>= fun _ => pyNext it >>= fun r => _) = _
  congr 1; funext _; congr 1; funext r
  cases r with
  | none => rfl
  | some v =>
    show (letOwnedTupleGo t0 it v >>= fun _ => assign t0 env v >>= fun _ => _) = _
    congr 1; funext _; congr 1; funext _
    unfold outTail
    simp only [bind_assoc, pure_bind]
    rfl
end Mine
end

section
open PySem PySem.Calls PyProof.Rows PySem.W
set_option maxRecDepth 100000
set_option linter.unusedVariables false
namespace Mine
variable {c : Cx} {n : Nat} {sc : Scope} {pn : List Str} {ρ : Vars}
/-- the accumulator as a variable that the program does not have -/
theorem StV.ghost {env : Env} {F : Fz} {P : Addr → Prop} {h : Heap} {vm : Str → Option Value} {fp : Str → List Addr} {g : Str} {zs : List D} {D : Addr} (S : StV c env [] ρ F P h vm fp) (hg : env.kindOf g = none) (hρ : ρ.lookup g = none) (l : LstAt h F zs D) (hF : F D = none) (hP : ¬ P D) :
    St c env [(g, .ref D)] (Vars.put ρ g (.lst zs)) F (fun a => P a ∨ a = D) h := by
  have hD : ∀ y t, ρ.lookup y = some t → ∀ a ∈ fp y, a ≠ D := fun y t e a ha z => hP ((S.mem D).mpr (.inr ⟨y, t, e, z ▸ ha⟩))
  have hgs : ∀ y s, (Vars.put ρ g (.lst zs)).lookup y = some s → (y = g ∧ s = .lst zs) ∨ (y ≠ g ∧ ρ.lookup y = some s) := fun y s e => by
    rw [lookup_put] at e
    by_cases hy : y = g
    · rw [if_pos hy] at e; cases e; exact .inl ⟨hy, rfl⟩
    · rw [if_neg hy] at e; exact .inr ⟨hy, e⟩
  refine ⟨fun y => if y = g then some (.ref D) else vm y, fun y => if y = g then [D] else fp y, ?_⟩
  exact {
    base := S.base
    le := S.le
    sto := ⟨let ⟨m, q, e⟩ := S.sto.loc; ⟨m, q, fun y hy => by
        have : y ≠ g := fun z => by rw [z, hg] at hy; cases hy
        simp only [if_neg this]; exact e y hy⟩, fun y hy => by
        have : y ≠ g := fun z => by rw [z, hg] at hy; rcases hy with hy | hy <;> cases hy
        simp only [if_neg this]; exact S.sto.cel y hy⟩
    own := fun y s e => by
      rcases hgs y s e with ⟨rfl, rfl⟩ | ⟨hy, e⟩
      · exact ⟨.ref D, by simp, by simp only [if_true]; exact .lst l⟩
      · simp only [if_neg hy]; exact S.own y s e
    pin := fun q hq => by rw [List.mem_singleton.mp hq]; simp
    mem := fun a => by
      constructor
      · rintro (q | rfl)
        · rcases (S.mem a).mp q with q | ⟨y, t, e, q⟩
          · exact .inl q
          · have hy : y ≠ g := fun z => by rw [z, hρ] at e; cases e
            exact .inr ⟨y, t, by rw [lookup_put, if_neg hy]; exact e, by simp only [if_neg hy]; exact q⟩
        · exact .inr ⟨g, .lst zs, by rw [lookup_put, if_pos rfl], by simp⟩
      · rintro (q | ⟨y, t, e, q⟩)
        · exact .inl ((S.mem a).mpr (.inl q))
        · rcases hgs y t e with ⟨rfl, rfl⟩ | ⟨hy, e⟩
          · simp at q; exact .inr q
          · simp only [if_neg hy] at q; exact .inl ((S.mem a).mpr (.inr ⟨y, t, e, q⟩))
    lt := fun a q => q.elim (S.lt a) fun z => z ▸ l.lt
    out := fun a q => q.elim (S.out a) fun z => z ▸ hF
    nd := fun y t e => by
      rcases hgs y t e with ⟨rfl, rfl⟩ | ⟨hy, e⟩
      · simp
      · simp only [if_neg hy]; exact S.nd y t e
    apart := fun y s z t e1 e2 hne a ha hb => by
      rcases hgs y s e1 with ⟨rfl, rfl⟩ | ⟨hy, e3⟩
      · have hz : z ≠ y := fun q => hne q.symm
        rcases hgs z t e2 with ⟨rfl, _⟩ | ⟨_, e2⟩
        · exact hne rfl
        · simp at ha; simp only [if_neg hz] at hb; exact hD z t e2 a hb ha
      · rcases hgs z t e2 with ⟨rfl, rfl⟩ | ⟨hz, e4⟩
        · simp at hb; simp only [if_neg hy] at ha; exact hD y s e3 a ha hb
        · simp only [if_neg hy] at ha; simp only [if_neg hz] at hb; exact S.apart y s z t e3 e4 hne a ha hb
    aparts := fun y s e a ha hs => by
      rcases hgs y s e with ⟨rfl, rfl⟩ | ⟨hy, e⟩
      · simp at ha; exact hP ((S.mem D).mpr (.inl (ha ▸ hs)))
      · simp only [if_neg hy] at ha; exact S.aparts y s e a ha hs }
/-- a tail of a turn -/
noncomputable def TailOk (c : Cx) (A : Around) (env : Env) (pins : Pins) (N : Nat) (tl : Sem Unit) (ρ ρ' : Vars) : Prop := ∀ F P s, St c env pins ρ F P s.heap → wpAny (model c.prog c.w) A tl (fun _ s' => ∃ F' P', Step F P s.heap F' P' s'.heap ∧ Same s s' ∧ St c env pins ρ' F' P' s'.heap ∧ Old N s.heap s'.heap) (fun _ _ => False) s
theorem tail_in {A : Around} {env : Env} {pins : Pins} {N : Nat} {elt : Expr} {f1 : List Expr} {g : Str} {zs : List D} {D : Addr} {b : Bool} {d : Mine.D} {ρ' : Vars} (R : Room n A) (ok : EnvOk env sc) (hg : ρ.lookup g = some (.lst zs)) (hpin : (g, Value.ref D) ∈ pins) (hz : zs.length ≤ 100000) (hN : N ≤ D)
    (ht : Tests c n sc ρ f1 b) (he : b = true → Ev c n sc ρ elt d) (h' : ρ' = if b = true then Vars.put ρ g (.lst (zs ++ [d])) else ρ) : TailOk c A env pins N (inTail elt f1 (.ref D) env) ρ ρ' := fun F P s S => by
  subst h'
  unfold inTail
  have tests : wpAny (model c.prog c.w) A (forIn f1 true fun c r => if r = true then do let ok ← PySem.isTrue c env (eval c env); pure (ForInStep.yield ok) else pure (ForInStep.yield r)) (GivesB F s b) (fun _ _ => False) s := by
    cases ht with
    | nil => exact wpAny_tests_nil ⟨rfl, F, .refl S.le, .refl _⟩
    | one ht => exact wpAny_tests_one (ht A env pins F P s R ok S)
  refine wpAny_bind (wpAny_mono tests (fun b' s₁ q => ?_) fun _ _ x => x)
  obtain ⟨rfl, F₁, G₁, X₁⟩ := q
  cases b' with
  | false => exact wpAny_pure ⟨F₁, P, G₁.step, X₁, S.grow G₁, .of G₁.keep⟩
  | true =>
    simp only [if_true]
    refine wpAny_bind (wpAny_mono (he rfl A env pins F₁ P s₁ R ok (S.grow G₁)) (fun v s₂ q => ?_) fun _ _ x => x)
    obtain ⟨F₂, G₂, X₂, r⟩ := q
    have G := G₁.trans G₂
    obtain ⟨vm, fp, S⟩ := S.grow G
    obtain ⟨a, hv, hf, vs, pl, rr⟩ := S.lst hg
    have : a = D := by have e := S.pin _ hpin; rw [hv] at e; cases e; rfl
    subst this
    have hsz : vs.size ≤ sizeLine := by
      have e1 : vs.size = zs.length := by rw [← Array.length_toList]; exact rr.length
      have e2 : sizeLine = 16777216 := by decide
      omega
    refine wpAny_bind (wpAny_list_append_plain pl (fun h' pl' sb => wpAny_pure ?_) hsz)
    have hm : a ∈ fp g := by rw [hf]; exact .head _
    have O : Own h' F₂ (.lst (zs ++ [d])) (.ref a) (fp g) := by rw [hf]; exact .lst ⟨_, pl', by rw [Array.toList_push]; exact rr.snoc r⟩
    exact ⟨F₂, P, G.step.trans (S.turnStep hg hm sb), (X₁.trans X₂).trans ⟨_, _, rfl⟩, ⟨vm, fp, S.turn hg hv O hm sb⟩, (Old.of G.keep).trans fun b o hb e => (sb.2 b fun z => Nat.lt_irrefl _ (Nat.lt_of_lt_of_le (z ▸ hb) hN)).trans e⟩
/-- the loops' code -/
theorem code_in {A : Around} {R : Result → Shared → Prop} {elt t0 i0 i1 : Expr} {x : Str} {px : Pos} {f1 : List Expr} {scope : Scope} {pos : Pos} {I : Addr} {acc : Value} {env : Env} (J : Nat → Shared → Prop)
    (turn : ∀ k s, J k s → wpAny (model c.prog c.w) A (pyNext (.ref I)) (fun r s₁ => match r with
      | none => R (.ok .next) s₁
      | some v => wpAny (model c.prog c.w) A (assign (.Name x px) env v) (fun _ s₂ => wpAny (model c.prog c.w) A (inTail elt f1 acc env) (fun _ s₃ => ∃ m, m < k ∧ J m s₃) (notedBy (model c.prog c.w) A env fun e s' => R (.error e) s') s₂) (notedBy (model c.prog c.w) A env fun e s' => R (.error e) s') s₁) (notedBy (model c.prog c.w) A env fun e s' => R (.error e) s') s)
    (k : Nat) (s : Shared) (h : J k s) : codeAny (model c.prog c.w) A (.compLoop (two elt t0 i0 (.Name x px) i1 f1 scope pos) 1 (.ref I) acc env) R s := by
  refine codeAny_loop rfl J (fun k s hI => ?_) k h
  show wpAny _ A ((compTurn (two elt t0 i0 (.Name x px) i1 f1 scope pos) 1 (.ref I) acc env).onRaise (fun x => do noteFrame x env; theTreesLotGoes x)) _ _ s
  refine wpAny_noted ?_
  rw [turn_in]
  refine wpAny_bind (wpAny_standAt (wpAny_bind (wpAny_mono (turn k s hI) (fun r s₁ h₁ => ?_) fun _ _ h' => h')))
  cases r with
  | none => exact wpAny_pure h₁
  | some v =>
    refine wpAny_bind (wpAny_of_eq (a := ()) rfl ?_)
    exact wpAny_bind (wpAny_mono h₁ (fun _ s₂ h₂ => wpAny_bind (wpAny_mono h₂ (fun _ s₃ h₃ => wpAny_pure ⟨rfl, h₃⟩) fun _ _ h' => h')) fun _ _ h' => h')
theorem code_out {A : Around} {R : Result → Shared → Prop} {elt t1 i0 i1 : Expr} {x : Str} {px : Pos} {f1 : List Expr} {scope : Scope} {pos : Pos} {I : Addr} {acc : Value} {env : Env} (J : Nat → Shared → Prop)
    (turn : ∀ k s, J k s → wpAny (model c.prog c.w) A (pyNext (.ref I)) (fun r s₁ => match r with
      | none => R (.ok .next) s₁
      | some v => wpAny (model c.prog c.w) A (assign (.Name x px) env v) (fun _ s₂ => wpAny (model c.prog c.w) A (outTail elt (.Name x px) i0 t1 i1 f1 scope pos acc env) (fun _ s₃ => ∃ m, m < k ∧ J m s₃) (notedBy (model c.prog c.w) A env fun e s' => R (.error e) s') s₂) (notedBy (model c.prog c.w) A env fun e s' => R (.error e) s') s₁) (notedBy (model c.prog c.w) A env fun e s' => R (.error e) s') s)
    (k : Nat) (s : Shared) (h : J k s) : codeAny (model c.prog c.w) A (.compLoop (two elt (.Name x px) i0 t1 i1 f1 scope pos) 0 (.ref I) acc env) R s := by
  refine codeAny_loop rfl J (fun k s hI => ?_) k h
  show wpAny _ A ((compTurn (two elt (.Name x px) i0 t1 i1 f1 scope pos) 0 (.ref I) acc env).onRaise (fun x => do noteFrame x env; theTreesLotGoes x)) _ _ s
  refine wpAny_noted ?_
  rw [turn_out]
  refine wpAny_bind (wpAny_standAt (wpAny_bind (wpAny_mono (turn k s hI) (fun r s₁ h₁ => ?_) fun _ _ h' => h')))
  cases r with
  | none => exact wpAny_pure h₁
  | some v =>
    refine wpAny_bind (wpAny_of_eq (a := ()) rfl ?_)
    exact wpAny_bind (wpAny_mono h₁ (fun _ s₂ h₂ => wpAny_bind (wpAny_mono h₂ (fun _ s₃ h₃ => wpAny_pure ⟨rfl, h₃⟩) fun _ _ h' => h')) fun _ _ h' => h')
theorem start_in {A : Around} {R : Result → Shared → Prop} {s : Shared} {elt t0 i0 t1 i1 : Expr} {f1 : List Expr} {scope : Scope} {pos : Pos} {it acc : Value} {env : Env}
    (h0 : codeAny (model c.prog c.w) A (.compLoop (two elt t0 i0 t1 i1 f1 scope pos) 1 it acc env) R s)
    (h : wpAny (model c.prog c.w) A (pyIter it) (fun it' s' => codeAny (model c.prog c.w) A (.compLoop (two elt t0 i0 t1 i1 f1 scope pos) 1 it' acc env) R s')
      (notedBy (model c.prog c.w) A env fun x s' => R (.error x) s') s) :
    codeAny (model c.prog c.w) A (.compStart (two elt t0 i0 t1 i1 f1 scope pos) 1 it acc env) R s := by
  refine codeAny_of_tree ?_
  show wpAny _ _ ((compStart (two elt t0 i0 t1 i1 f1 scope pos) 1 it acc env).onRaise (fun x => do noteFrame x env; standAt theWindowsPlace)) _ _ s
  refine wpAny_notedAt ?_
  unfold compStart
  show wpAny _ _ (ask >>= _) _ _ s
  refine wpAny_bind (wpAny_askSetting (wpAny_ite ?_))
  split
  · first
      | exact wpAny_bind (wpAny_pure (wpAny_pure (And.intro rfl h0)))
      | exact wpAny_pure (And.intro rfl h0)
  · (refine wpAny_bind (wpAny_rule ?_); show wpAny _ _ (standAt i1.pos >>= _) _ _ s; exact wpAny_bind (wpAny_standAt (wpAny_bind (wpAny_mono h (fun it' s' h' => wpAny_pure (And.intro rfl h')) fun _ _ x => x))))
theorem tail_out {A : Around} {env : Env} {pins : Pins} {N : Nat} {elt t0 i0 i1 : Expr} {x : Str} {px : Pos} {f1 : List Expr} {scope : Scope} {pos : Pos} {D : Addr} {d : Mine.D} {xs : List Mine.D} {ρ' : Vars} {B : Mine.D → Vars → Vars → Prop}
    (R : Room n A) (ok : EnvOk env sc) (hi : Ev c n sc ρ i1 d) (hx : d.items = some xs) (hs : d.small = true) (hf : ∀ env v, foldedSetIterable i1 env v = pure v)
    (hst : isSto sc x = true) (hxp : x ∉ pins.map (·.1)) (hN : N ≤ env.locals) (hown : ∀ a, env.cells.lookup x = some a → N ≤ a)
    (hB : ∀ d ρ ρ', B d ρ ρ' → TailOk c A env pins N (inTail elt f1 (.ref D) env) (Vars.put ρ x (.val d)) ρ')
    (L : LoopB B xs ρ ρ') : TailOk c A env pins N (outTail elt t0 i0 (.Name x px) i1 f1 scope pos (.ref D) env) ρ ρ' := fun F P s S => by
  unfold outTail
  refine wpAny_bind (wpAny_mono (hi A env pins F P s R ok S) (fun v s₁ q => ?_) fun _ _ x => x)
  obtain ⟨F₁, G₁, X₁, r₁⟩ := q
  have S₁ := S.grow G₁
  have lt₁ : ∀ a, P a → a < s₁.heap.objs.size := let ⟨_, _, S⟩ := S₁; S.lt
  refine wpAny_bind (wpAny_standAt (wpAny_bind (wpAny_of_eq (hf env v) (wpAny_bind (wpAny_holding (iter_open G₁.le (.fz r₁) hx hs fun o W It tg => ?_))))))
  obtain ⟨⟨Pv, fp, hW, hfp, hPv⟩, st0⟩ := It
  have hval : ∀ b ∈ fp, b ≠ s₁.heap.objs.size → F₁ b ≠ none := fun b hb hne => by
    rcases hfp b hb with q | q
    · exact absurd q hne
    · subst q; exact r₁.back
  have Wk := hW A R.1
  have kp : ∀ b oo, b ∉ [s₁.heap.objs.size] → s₁.heap.get? b = some oo → (s₁.heap.push o).get? b = some oo := fun b oo _ e => Heap.get?_push_of_some _ e
  have S₂ : St c env pins ρ F₁ P (s₁.heap.push o) := S₁.walk kp (none_of_le G₁.le (Nat.le_refl _)) (fun q => Nat.lt_irrefl _ (lt₁ _ q)) (by rw [Heap.size_push]; exact Nat.le_succ _)
  have T₂ : Step F P s.heap F₁ P (s₁.heap.push o) := G₁.step.trans ⟨.refl _, fun _ _ e => .inl e, fun b oo _ e => Heap.get?_push_of_some _ e, fun _ q => .inl q, by rw [Heap.size_push]; exact Nat.le_succ _⟩
  have O₂ : Old N s.heap (s₁.heap.push o) := (Old.of G₁.keep).trans fun b oo _ e => Heap.get?_push_of_some _ e
  have hloc : env.locals < s₁.heap.objs.size := lt₁ _ (S₁.stor (.head _))
  refine wpAny_bind (wpAny_runOwn ?_ (by intro x; cases x))
  have loop : codeAny (model c.prog c.w) A (.compLoop (two elt t0 i0 (.Name x px) i1 f1 scope pos) 1 (.ref s₁.heap.objs.size) (.ref D) env) (fun r s' => match r with | .ok f => wpAny (model c.prog c.w) A (pure ()) (fun _ s' => ∃ F' P', Step F P s.heap F' P' s'.heap ∧ Same s s' ∧ St c env pins ρ' F' P' s'.heap ∧ Old N s.heap s'.heap) (fun _ _ => False) s' | .error e => cameBackBy (model c.prog c.w) A env (fun _ _ => False) e s') { s₁ with heap := s₁.heap.push o } :=
    loopB_go (px := px) (s₀ := s) (h₀ := s.heap) ok hst hxp hN hown (Nat.le_trans hN (Nat.le_of_lt hloc)) O₂ (fun J turn k s h => code_in J turn k s h) Wk hval hPv st0 (none_of_le G₁.le (Nat.le_refl _)) (fun q => Nat.lt_irrefl _ (lt₁ _ q)) (by show _ < (s₁.heap.push o).objs.size; rw [Heap.size_push]; exact Nat.lt_succ_self _) G₁.size T₂ (X₁.trans ⟨_, _, rfl⟩) S₂
      (fun d ρ ρ' hb F P s S => hB d ρ ρ' hb F P s S) L fun s' F' P' T X S O => wpAny_pure ⟨F', P', T, X, S, O⟩
  exact start_in loop (Wk.self 0 _ _ _ st0 loop)
end Mine
end

section
open PySem PySem.Calls PyProof.Rows PySem.W
set_option maxRecDepth 100000
set_option linter.unusedVariables false
namespace Mine
variable {c : Cx} {n : Nat} {sc : Scope} {pn : List Str} {ρ : Vars}
inductive InB (c : Cx) (n : Nat) (sc : Scope) (elt : Expr) (f1 : List Expr) (y g : Str) (d : D) (ρ ρ' : Vars) : Prop
  | mk (zs : List D) (b : Bool) (w : D) (hg : (Vars.put ρ y (.val d)).lookup g = some (.lst zs)) (hz : zs.length ≤ 100000) (ht : Tests c n sc (Vars.put ρ y (.val d)) f1 b) (he : b = true → Ev c n sc (Vars.put ρ y (.val d)) elt w)
    (h' : ρ' = if b = true then Vars.put (Vars.put ρ y (.val d)) g (.lst (zs ++ [w])) else Vars.put ρ y (.val d)) : InB c n sc elt f1 y g d ρ ρ'
inductive OutB (c : Cx) (n : Nat) (sc : Scope) (elt i1 : Expr) (f1 : List Expr) (x y g : Str) (d : D) (ρ ρ' : Vars) : Prop
  | mk (d1 : D) (xs : List D) (hi : Ev c n sc (Vars.put ρ x (.val d)) i1 d1) (hx : d1.items = some xs) (hs : d1.small = true) (L : LoopB (InB c n sc elt f1 y g) xs (Vars.put ρ x (.val d)) ρ') : OutB c n sc elt i1 f1 x y g d ρ ρ'
/-- a comprehension of two clauses gives ys -/
theorem EvNew_comp2 {elt i0 i1 : Expr} {x y g : Str} {px py pos : Pos} {f1 : List Expr} {csc : Scope} {ρc ρ' : Vars} {d0 : D} {xs0 ys : List D} (ok0 : compOk csc sc x = true) (ok1 : compOk csc sc y = true)
    (free : ∀ y sl, ρc.lookup y = some sl → csc.names.lookup y = some .free ∧ ρ.lookup y = some sl) (vals : ∀ y sl, ρc.lookup y = some sl → ∃ d, sl = .val d)
    (fold0 : ∀ env v, foldedSetIterable i0 env v = pure v) (fold1 : ∀ env v, foldedSetIterable i1 env v = pure v) (hg : csc.names.lookup g = none) (hρg : ρc.lookup g = none) (hgx : x ≠ g) (hgy : y ≠ g)
    (hi : Ev c n sc ρ i0 d0) (hx : d0.items = some xs0) (hs : d0.small = true)
    (L : LoopB (OutB c n (relS csc sc) elt i1 f1 x y g) xs0 (Vars.put ρc g (.lst [])) ρ') (hend : ρ'.lookup g = some (.lst ys)) :
    EvNew c n sc ρ (two elt (.Name x px) i0 (.Name y py) i1 f1 csc pos) ys := fun A env pins F P s R ok S => by
  have hc := compOk_of ok0
  have hc1 := compOk_of ok1
  rw [eval_ListComp]
  refine wpAny_comprehension_free (use := none) rfl (fold0 env) (comp_clos ok S hc) hc.kind (comp_names hc) ?_
  refine wpAny_mono (hi A env pins F P s R ok S) (fun v s₁ hp1 => ?_) fun _ _ x => x
  obtain ⟨F₁, G₁, X₁, r₁⟩ := hp1
  have l₁ := G₁.le
  have S₁ := S.grow G₁
  refine iter_open l₁ (.fz r₁) hx hs fun o W It _ => ?_
  obtain ⟨⟨Pv, fp, hW, hfp, hPv⟩, st0⟩ := It
  refine wpAny_newObj_type ?_ (by size_fits)
  generalize hH2 : (s₁.heap.push o).push { cls := .type "list", dict := none, data := .seq ([] : List Value).toArray } = H2
  have sH1 : (s₁.heap.push o).objs.size = s₁.heap.objs.size + 1 := Heap.size_push ..
  have sH2 : H2.objs.size = s₁.heap.objs.size + 2 := by rw [← hH2, Heap.size_push, sH1]
  have k12 : Fle s₁.heap.get? H2.get? := fun a oo e => by rw [← hH2]; exact Heap.get?_push_of_some _ (Heap.get?_push_of_some _ e)
  have S₂ : St c env pins ρ F₁ P H2 := S₁.top k12 (by omega)
  refine newEnvC ?_
  dsimp only
  generalize hH3 : pushCells (H2.push { cls := .type "dict", data := .dict #[] }) csc.names = H3
  rw [relabel_eq, ok.scope]
  generalize hce : ({ scope := relS csc sc, locals := H2.objs.size, globals := env.globals, cells := cellsFrom (H2.objs.size + 1) csc.names [] ++ closL env csc.names, qual := env.qual, func := none, code := env.code, frame := env.frame, builtins := env.builtins } : Env) = cenv
  obtain ⟨okc, ⟨P₀, S₃, hP₀⟩, hstor, k23, sH3, hownc⟩ := comp_st (s := { s₁ with heap := H2 }) ok S₂ hc free hce.symm hH3.symm
  have hownc1 := (comp_st (s := { s₁ with heap := H2 }) ok S₂ hc1 free hce.symm hH3.symm).2.2.2.2.2
  have hloc : cenv.locals = H2.objs.size := by rw [← hce]
  rw [← hloc]
  have sH3 : H2.objs.size < H3.objs.size := sH3
  have k13 : Fle s₁.heap.get? H3.get? := fun a oo e => k23 _ _ (k12 a oo e)
  have gD : H3.PlainList (s₁.heap.objs.size + 1) #[] := ⟨0, k23 _ _ (by show H2.get? _ = _; rw [← hH2, ← sH1]; exact Heap.get?_push_size _ rfl)⟩
  have Wk := hW A R.1
  have w0 : W 0 H3 := Wk.frame 0 _ _ st0 fun b hb oo e => k23 _ _ (by show H2.get? _ = _; rw [← hH2]; exact Heap.get?_push_of_some _ e)
  rw [sH1]
  have hval : ∀ b ∈ fp, b ≠ s₁.heap.objs.size → F₁ b ≠ none := fun b hb hne => by
    rcases hfp b hb with q | q
    · exact absurd q hne
    · subst q; exact r₁.back
  have nI : ¬ P₀ s₁.heap.objs.size := fun q => by
    rcases hP₀ _ q with q | q
    · exact Nat.lt_irrefl _ (S₁.lt q)
    · have q := leA q; have := sH2; simp only [] at q; omega
  have nD : ¬ P₀ (s₁.heap.objs.size + 1) := fun q => by
    rcases hP₀ _ q with q | q
    · have := ltA (S₁.lt q); omega
    · have q := leA q; have := sH2; simp only [] at q; omega
  obtain ⟨vm, fpv, SV⟩ := S₃
  have kg : cenv.kindOf g = none := by
    have : cenv.kindOf g = (relS csc sc).names.lookup g := by unfold Env.kindOf; rw [okc.scope]
    rw [this, relS_lookup, hg]; rfl
  have SG := SV.ghost (g := g) (D := s₁.heap.objs.size + 1) (zs := []) kg hρg ⟨#[], gD, .nil⟩ (none_of_le l₁ (Nat.le_succ _)) nD
  have P0s : ∀ a, P₀ a → a ∈ stor cenv := fun a q => by
    rcases (SV.mem a).mp q with q | ⟨z, t, e, q⟩
    · exact q
    · obtain ⟨dd, rfl⟩ := vals z t e
      obtain ⟨_, _, oo⟩ := SV.own z _ e
      generalize fpv z = as at oo q
      cases oo; cases q
  have T0 : Step F₁ (fun a => a ∈ stor cenv) s₁.heap F₁ (fun a => P₀ a ∨ a = s₁.heap.objs.size + 1) H3 := ⟨.refl _, fun _ _ e => .inl e, fun a oo _ e => k13 a oo e, fun a q => q.elim (fun q => .inl (P0s a q)) fun q => .inr (q ▸ Nat.le_succ _), by have h1 := ltA sH3; exact leA (by omega)⟩
  have hNl : s₁.heap.objs.size ≤ cenv.locals := by rw [hloc]; exact leA (by omega)
  have up : ∀ {a : Nat}, H2.objs.size ≤ a → s₁.heap.objs.size ≤ a := fun h => leA (by have := leA h; omega)
  refine (fun loop => codeAny_compStart_list loop (Wk.self 0 _ _ _ w0 loop)) ?_
  refine loopB_go (N := s₁.heap.objs.size) (px := px) (s₀ := s₁) (h₀ := s₁.heap) (P₀ := fun a => a ∈ stor cenv) (F₀ := F₁) (I := s₁.heap.objs.size) (W := W) (fp := fp) (Pv := Pv) (s₁ := { s₁ with heap := H3 }) okc (relS_sto hc) (by simp [hgx]) hNl (fun a q => up (hownc a q)) (Nat.le_refl _) (.of k13) (fun J turn k s h => code_out J turn k s h) Wk hval hPv w0 (none_of_le l₁ (Nat.le_refl _)) (fun q => q.elim nI fun q => absurd q (neA (by omega))) (ltA (by have h1 := ltA sH3; simp only []; omega)) (Nat.le_refl _) T0 ⟨_, _, rfl⟩ SG
    (fun d ρ₁ ρ₂ hb F P s S => by
      obtain ⟨d1, xs, hi, hx, hs, LI⟩ := hb
      refine tail_out (d := d1) (B := InB c n (relS csc sc) elt f1 y g) R okc hi hx hs fold1 (relS_sto hc1) (by simp [hgy]) hNl (fun a q => up (hownc1 a q)) (fun d ρ₁ ρ₂ hb => ?_) LI F P s S
      obtain ⟨zs, b, w, hg', hz, ht, he, h'⟩ := hb
      exact tail_in R okc hg' (.head _) hz (Nat.le_succ _) ht he h') L fun s' F' P' T X S' O => ?_
  obtain ⟨vm', fp', S'⟩ := S'
  obtain ⟨a, hv, hf, ll⟩ := S'.lst hend
  have : a = s₁.heap.objs.size + 1 := by have e := S'.pin (g, _) (.head _); rw [hv] at e; cases e; rfl
  subst this
  have ce : CompEnd F₁ s₁ ys (s₁.heap.objs.size + 1) cenv.locals s' := by
    refine ⟨⟨F', ⟨T.fle, fun b oo e => ?_, fun b oo e => O b oo (Heap.lt_size e) e, S'.le, T.size⟩, S'.out _ ((S'.mem _).mpr (.inr ⟨g, _, hend, by rw [hf]; exact .head _⟩)), ll, S'.out _ ((S'.mem _).mpr (.inl (.head _)))⟩, X, Nat.le_succ _, ?_, hNl, neA (by rw [hloc]; omega)⟩
    · rcases T.new b oo e with q | q | q
      · exact .inl q
      · rw [S'.out b ((S'.mem b).mpr (.inl q))] at e; cases e
      · exact .inr q
    · obtain ⟨m, hm, _⟩ := S'.sto.loc; exact ⟨m, hm⟩
  obtain ⟨m, hm⟩ := ce.ns
  refine ⟨m, hm, fun h' sb => ?_⟩
  obtain ⟨F'', G, a1, l, b⟩ := ce.sameBut sb
  exact ⟨F'', _, G₁.trans G, X₁.trans (ce.same.trans ⟨_, _, rfl⟩), rfl, Nat.le_trans G₁.size ce.fresh, a1, l⟩
end Mine
end

section
open PySem PySem.Calls PyProof.Rows PySem.W
set_option maxRecDepth 100000
set_option linter.unusedVariables false
namespace Mine
variable {c : Cx} {n : Nat} {sc : Scope} {pn : List Str} {ρ : Vars}
/-- an own object is frozen -/
theorem StV.melt {env : Env} {pins : Pins} {F : Fz} {P : Addr → Prop} {h : Heap} {vm : Str → Option Value} {fp : Str → List Addr} (S : StV c env pins ρ F P h vm fp) {x : Str} {sl sl' : Slot} {v : Value} {b : Addr} {o : Obj} {as : List Addr}
    (hx : ρ.lookup x = some sl) (hv : vm x = some v) (hb : b ∈ fp x) (ho : h.get? b = some o) (has : ∀ a ∈ as, a ∈ fp x ∧ a ≠ b) (hnd : as.Nodup) (O : Own h (F.ins b o) sl' v as) :
    ∃ F' P', Step F P h F' P' h ∧ St c env pins (Vars.put ρ x sl') F' P' h := by
  have hPb : P b := (S.mem b).mpr (.inr ⟨x, _, hx, hb⟩)
  have hn := S.out b hPb
  have g := Fz.ins_le (o := o) hn
  have hsub : ∀ y t, (Vars.put ρ x sl').lookup y = some t → ∃ t', ρ.lookup y = some t' ∧ ∀ a ∈ (if y = x then as else fp y), a ∈ fp y ∧ a ≠ b := fun y t e => by
    rw [lookup_put] at e
    by_cases hy : y = x
    · subst hy; exact ⟨_, hx, fun a ha => has a (by simpa using ha)⟩
    · rw [if_neg hy] at e; refine ⟨_, e, fun a ha => ?_⟩
      rw [if_neg hy] at ha
      exact ⟨ha, fun z => S.apart y t x sl e hx hy a ha (z ▸ hb)⟩
  refine ⟨F.ins b o, fun a => a ∈ stor env ∨ ∃ y t, (Vars.put ρ x sl').lookup y = some t ∧ a ∈ (if y = x then as else fp y), ⟨g, fun a oo e => ?_, fun a oo _ e => e, fun a q => .inl ?_, Nat.le_refl _⟩, vm, fun y => if y = x then as else fp y, ?_⟩
  · unfold Fz.ins at e
    by_cases h1 : a = b
    · subst h1; exact .inr (.inl hPb)
    · rw [if_neg h1] at e; exact .inl e
  · rcases q with q | ⟨y, t, e, q⟩
    · exact (S.mem a).mpr (.inl q)
    · obtain ⟨t', e', hh⟩ := hsub y t e
      exact (S.mem a).mpr (.inr ⟨y, t', e', (hh a q).1⟩)
  · exact {
      base := S.base.trans g
      le := fun a oo e => by
        unfold Fz.ins at e
        by_cases h1 : a = b
        · subst h1; rw [if_pos rfl] at e; cases e; exact ho
        · rw [if_neg h1] at e; exact S.le a oo e
      sto := S.sto
      own := fun y t e => by
        rw [lookup_put] at e
        by_cases hy : y = x
        · rw [if_pos hy] at e; cases e
          refine ⟨v, hy ▸ hv, ?_⟩
          rw [if_pos hy]; exact O
        · rw [if_neg hy] at e
          obtain ⟨w, e1, o1⟩ := S.own y t e
          refine ⟨w, e1, ?_⟩
          rw [if_neg hy]; exact o1.mono (fun _ _ _ e => e) g
      pin := S.pin
      mem := fun a => Iff.rfl
      lt := fun a q => S.lt a ((S.mem a).mpr (q.imp id fun ⟨y, t, e, q⟩ => let ⟨t', e', hh⟩ := hsub y t e; ⟨y, t', e', (hh a q).1⟩))
      out := fun a q => by
        have hne : a ≠ b := fun z => by
          rcases q with q | ⟨y, t, e, q⟩
          · exact S.aparts x _ hx b hb (z ▸ q)
          · obtain ⟨t', e', hh⟩ := hsub y t e; exact (hh a q).2 z
        unfold Fz.ins
        rw [if_neg hne]
        exact S.out a ((S.mem a).mpr (q.imp id fun ⟨y, t, e, q⟩ => let ⟨t', e', hh⟩ := hsub y t e; ⟨y, t', e', (hh a q).1⟩))
      nd := fun y t e => by
        by_cases hy : y = x
        · simp only [if_pos hy]; exact hnd
        · simp only [if_neg hy]; rw [lookup_put, if_neg hy] at e; exact S.nd y t e
      apart := fun y t z u e e' hne a ha hb' => by
        obtain ⟨t', e1, h1⟩ := hsub y t e
        obtain ⟨u', e2, h2⟩ := hsub z u e'
        exact S.apart y t' z u' e1 e2 hne a (h1 a ha).1 (h2 a hb').1
      aparts := fun y t e a ha => by
        obtain ⟨t', e1, h1⟩ := hsub y t e
        exact S.aparts y t' e1 a (h1 a ha).1 }
/-- an own object takes a new one to itself -/
theorem StV.wide {env : Env} {pins : Pins} {F : Fz} {P : Addr → Prop} {h h' : Heap} {vm : Str → Option Value} {fp : Str → List Addr} (S : StV c env pins ρ F P h vm fp) {x : Str} {sl sl' : Slot} {v : Value} {a b : Addr}
    (hx : ρ.lookup x = some sl) (hv : vm x = some v) (ha : a ∈ fp x) (sb : Heap.SameBut a h h') (hbP : ¬ P b) (hbF : F b = none) (hbz : b < h.objs.size) (O : Own h' F sl' v (fp x ++ [b])) :
    St c env pins (Vars.put ρ x sl') F (fun q => P q ∨ q = b) h' := by
  have ns : a ∉ stor env := S.aparts x sl hx a ha
  have keep : ∀ q o, q ≠ a → h.get? q = some o → h'.get? q = some o := fun q o z e => (sb.2 q z).trans e
  have hb : ∀ y t, ρ.lookup y = some t → b ∉ fp y := fun y t e z => hbP ((S.mem b).mpr (.inr ⟨y, t, e, z⟩))
  have hsub : ∀ y t, (Vars.put ρ x sl').lookup y = some t → ∃ t', ρ.lookup y = some t' ∧ ∀ q ∈ (if y = x then fp x ++ [b] else fp y), q ∈ fp y ∨ (y = x ∧ q = b) := fun y t e => by
    rw [lookup_put] at e
    by_cases hy : y = x
    · subst hy; refine ⟨_, hx, fun q hq => ?_⟩
      rw [if_pos rfl] at hq
      rcases List.mem_append.mp hq with hq | hq
      · exact .inl hq
      · exact .inr ⟨rfl, List.mem_singleton.mp hq⟩
    · rw [if_neg hy] at e; refine ⟨_, e, fun q hq => ?_⟩
      rw [if_neg hy] at hq
      exact .inl hq
  refine ⟨vm, fun y => if y = x then fp x ++ [b] else fp y, ?_⟩
  exact {
    base := S.base
    le := fun q o e => keep q o (fun z => by rw [z, S.out a ((S.mem a).mpr (.inr ⟨x, sl, hx, ha⟩))] at e; cases e) (S.le q o e)
    sto := ⟨let ⟨m, q, e⟩ := S.sto.loc; ⟨m, q.sameBut sb (fun z => ns (z ▸ .head _)), e⟩, fun y hy => let ⟨cc, e, i⟩ := S.sto.cel y hy; ⟨cc, e, i.sameBut sb fun z => ns (by rw [← z]; exact List.mem_cons_of_mem _ (List.mem_map_of_mem (f := (·.2)) (mem_of_lookup e)))⟩⟩
    own := fun y t e => by
      rw [lookup_put] at e
      by_cases hy : y = x
      · rw [if_pos hy] at e; cases e; subst hy; exact ⟨v, hv, by rw [if_pos rfl]; exact O⟩
      · rw [if_neg hy] at e
        obtain ⟨w, e1, o⟩ := S.own y t e
        exact ⟨w, e1, by rw [if_neg hy]; exact o.mono (fun q hq o e' => keep q o (fun z => S.apart y t x sl e hx hy q hq (z ▸ ha)) e') (.refl _)⟩
    pin := S.pin
    mem := fun q => by
      constructor
      · rintro (z | rfl)
        · rcases (S.mem q).mp z with z | ⟨y, t, e, z⟩
          · exact .inl z
          · by_cases hy : y = x
            · exact .inr ⟨y, sl', by rw [lookup_put, if_pos hy], by rw [if_pos hy]; exact List.mem_append_left _ (hy ▸ z)⟩
            · exact .inr ⟨y, t, by rw [lookup_put, if_neg hy]; exact e, by rw [if_neg hy]; exact z⟩
        · exact .inr ⟨x, sl', by rw [lookup_put, if_pos rfl], by rw [if_pos rfl]; exact List.mem_append_right _ (.head _)⟩
      · rintro (z | ⟨y, t, e, z⟩)
        · exact .inl ((S.mem q).mpr (.inl z))
        · obtain ⟨t', e', hh⟩ := hsub y t e
          rcases hh q z with z | ⟨_, z⟩
          · exact .inl ((S.mem q).mpr (.inr ⟨y, t', e', z⟩))
          · exact .inr z
    lt := fun q z => by
      rw [sb.1]
      exact z.elim (S.lt q) fun z => z ▸ hbz
    out := fun q z => z.elim (S.out q) fun z => z ▸ hbF
    nd := fun y t e => by
      by_cases hy : y = x
      · subst hy
        rw [if_pos rfl]
        exact List.nodup_append.mpr ⟨S.nd y _ hx, by simp, fun q hq r hr z => hb y _ hx (by rw [← List.mem_singleton.mp hr, ← z]; exact hq)⟩
      · simp only [if_neg hy]; rw [lookup_put, if_neg hy] at e; exact S.nd y t e
    apart := fun y t z u e e' hne q hq hr => by
      obtain ⟨t', e1, h1⟩ := hsub y t e
      obtain ⟨u', e2, h2⟩ := hsub z u e'
      rcases h1 q hq with k1 | ⟨k1, k2⟩
      · rcases h2 q hr with k3 | ⟨k3, k4⟩
        · exact S.apart y t' z u' e1 e2 hne q k1 k3
        · exact hb y t' e1 (k4 ▸ k1)
      · rcases h2 q hr with k3 | ⟨k3, k4⟩
        · exact hb z u' e2 (k2 ▸ k3)
        · exact hne (k1.trans k3.symm)
    aparts := fun y t e q hq => by
      obtain ⟨t', e1, h1⟩ := hsub y t e
      rcases h1 q hq with k1 | ⟨k1, k2⟩
      · exact S.aparts y t' e1 q k1
      · exact fun z => hbP ((S.mem b).mpr (.inl (k2 ▸ z))) }
/-- .. an own list is frozen -/
theorem Ex_freeze {x : Str} {xs : List D} {sts : List Stmt} {fl : Fl} {ρ' : Vars} (hx : ρ.lookup x = some (.lst xs)) (h : Ex c n sc pn (Vars.put ρ x (.val (.lst xs))) sts fl ρ') : Ex c n sc pn ρ sts fl ρ' := fun A env pins F P s R ok hp S => by
  obtain ⟨vm, fp, S⟩ := S
  obtain ⟨a, hv, hf, vs, ⟨m, pl⟩, r⟩ := S.lst hx
  have hm : a ∈ fp x := by rw [hf]; exact .head _
  have hn := S.out a ((S.mem a).mpr (.inr ⟨x, _, hx, hm⟩))
  obtain ⟨F', P', T, S'⟩ := S.melt (sl' := .val (.lst xs)) (as := []) hx hv hm pl (fun _ q => nomatch q) .nil (.val (.lst (Fz.ins_self _ _ _) rfl rfl (r.mono (Fz.ins_le hn))))
  exact wpAny_mono (h A env pins F' P' s R ok hp S') (fun _ s' q => q.after T (.refl _)) fun _ _ x => x
theorem StV.nest {env : Env} {pins : Pins} {F : Fz} {P : Addr → Prop} {h : Heap} {vm : Str → Option Value} {fp : Str → List Addr} (S : StV c env pins ρ F P h vm fp) {x : Str} {xs cur : List D} (hx : ρ.lookup x = some (.nest xs cur)) : ∃ (a b : Addr) (vs : Array Value), vm x = some (.ref a) ∧ fp x = [a, b] ∧ h.PlainList a (vs.push (.ref b)) ∧ RdL F xs vs.toList ∧ LstAt h F cur b ∧ a ≠ b := by
  obtain ⟨v, e, o⟩ := S.own x _ hx
  generalize hq : fp x = as at o
  cases o with
  | nest p r l hn => exact ⟨_, _, _, e, rfl, p, r, l, hn⟩
theorem Ex_freezeN {x : Str} {xs cur : List D} {sts : List Stmt} {fl : Fl} {ρ' : Vars} (hx : ρ.lookup x = some (.nest xs cur)) (h : Ex c n sc pn (Vars.put ρ x (.lst (xs ++ [.lst cur]))) sts fl ρ') : Ex c n sc pn ρ sts fl ρ' := fun A env pins F P s R ok hp S => by
  obtain ⟨vm, fp, S⟩ := S
  obtain ⟨a, b, vs, hv, hf, pa, ra, ⟨ws, ⟨m, pb⟩, rb⟩, hne⟩ := S.nest hx
  have hm : b ∈ fp x := by rw [hf]; exact .tail _ (.head _)
  have hn := S.out b ((S.mem b).mpr (.inr ⟨x, _, hx, hm⟩))
  have g := Fz.ins_le (o := { cls := .type "list", data := .seq ws m }) hn
  obtain ⟨F', P', T, S'⟩ := S.melt (sl' := .lst (xs ++ [.lst cur])) (as := [a]) hx hv hm pb (fun q hq => by rw [List.mem_singleton.mp hq, hf]; exact ⟨.head _, hne⟩) (by simp)
    (.lst ⟨_, pa, by rw [Array.toList_push]; exact (ra.mono g).snoc (.lst (Fz.ins_self _ _ _) rfl rfl (rb.mono g))⟩)
  exact wpAny_mono (h A env pins F' P' s R ok hp S') (fun _ s' q => q.after T (.refl _)) fun _ _ x => x
/-- x.append([]), the new list to be turned -/
theorem EvX_appendNew {x : Str} {p apos pos : Pos} {e : Expr} {xs ys : List D} (hx : ρ.lookup x = some (.lst xs)) (hl : isLoc sc x = true) (he : EvNew c n sc ρ e ys) (hz : xs.length ≤ 100000) (hp : plainArg e = true := by rfl) (hm : MethAt (.Name x p) "append" apos [e] pos := by exact fun _ => ⟨_, rfl⟩) :
    EvX c n sc pn ρ (.Call (.Attribute (.Name x p) "append" apos) [e] [] pos) .none (Vars.put ρ x (.nest xs ys)) := fun A env pins F P s R ok hpn S => by
  have S0 := S
  obtain ⟨vm, fp, S⟩ := S
  obtain ⟨a, hv, hf, l⟩ := S.lst hx
  refine meth_open hm (load_var (h := s.heap) ok S.sto hl hv fun pl => ?_)
  obtain ⟨vs, pp, rr⟩ := l
  refine listMethod pp PySem.F.slot_list_append PySem.F.type_list_append ?_
  refine callWith_val (by rw [starEach_plain hp]; rfl) (fun b q => by cases q) ?_
  rw [starEach_plain hp]
  refine spliced_cons (wpAny_mono (he A env pins F P s R ok S0) (fun v s₁ hp6 => ?_) fun _ _ x => x)
  obtain ⟨F₁, b, G₁, X₁, rfl, hbz, hbF, lb⟩ := hp6
  refine spliced_nil ?_
  have S₁ := S.grow G₁
  have hPa : P a := (S.mem a).mpr (.inr ⟨x, _, hx, by rw [hf]; exact .head _⟩)
  have hsz : vs.size ≤ sizeLine := by
    have e1 : vs.size = xs.length := by rw [← Array.length_toList]; exact rr.length
    have e2 : sizeLine = 16777216 := by decide
    omega
  have hab : a ≠ b := fun z => Nat.lt_irrefl _ (Nat.lt_of_lt_of_le (z ▸ S.lt a hPa) hbz)
  refine wpAny_list_append_plain (pp.at (G₁.keep _)) (fun h' pl' sb => ?_) hsz
  have hm₁ : a ∈ fp x := by rw [hf]; exact .head _
  have hbP : ¬ P b := fun z => Nat.lt_irrefl _ (Nat.lt_of_lt_of_le (S.lt b z) hbz)
  have O : Own h' F₁ (.nest xs ys) (.ref a) (fp x ++ [b]) := by rw [hf]; exact .nest pl' (rr.mono G₁.fle) (lb.mono (fun o e => (sb.2 b fun z => hab z.symm).trans e) (.refl _)) hab
  refine ⟨F₁, _, ?_, X₁.trans ⟨_, _, rfl⟩, S₁.wide hx hv hm₁ sb hbP hbF lb.lt O, .none⟩
  exact ⟨G₁.fle, fun q o e => (G₁.new q o e).imp id .inr, fun q o hq e => (sb.2 q fun z => hq (z ▸ hPa)).trans (G₁.keep q o e), fun q hq => hq.imp id fun (z : q = b) => z.symm ▸ hbz, by rw [sb.1]; exact G₁.size⟩
/-- x[-1].append(e) upon the list within -/
theorem EvX_appendLast {x : Str} {p ps apos pos : Pos} {i e : Expr} {xs cur : List D} {d : D} (hx : ρ.lookup x = some (.nest xs cur)) (hl : isLoc sc x = true) (hi : Ev c n sc ρ i (.int (-1))) (he : Ev c n sc ρ e d) (hz : cur.length ≤ 100000) (hz' : xs.length ≤ 100000) (hs : notSlice i = true := by rfl) (hp : plainArg e = true := by rfl) (hm : MethAt (.Subscript (.Name x p) i ps) "append" apos [e] pos := by exact fun _ => ⟨_, rfl⟩) :
    EvX c n sc pn ρ (.Call (.Attribute (.Subscript (.Name x p) i ps) "append" apos) [e] [] pos) .none (Vars.put ρ x (.nest xs (cur ++ [d]))) := fun A env pins F P s R ok hpn S => by
  have S0 := S
  obtain ⟨vm, fp, S⟩ := S
  obtain ⟨a, b, vs, hv, hf, pa, ra, lb, hne⟩ := S.nest hx
  refine meth_open hm (Subscript_ (load_var (h := s.heap) ok S.sto hl hv (wpAny_mono (hi A env pins F P s R ok S0) (fun v s₁ hp1 => ?_) fun _ _ x => x)))
  obtain ⟨F₁, G₁, X₁, r₁⟩ := hp1
  obtain ⟨t, rfl⟩ := (Rd1.fz (h := s₁.heap) r₁).int
  have S₁ := S.grow G₁
  have pa₁ := pa.at (G₁.keep _)
  obtain ⟨ws, pb, rb⟩ := lb
  refine tail_any pa₁.isList.typeIs slot_list_getitem.lookup (wpAny_getItem_list_neg (x := .ref b) pa₁.isList (by decide) (by rw [Array.size_push]; omega) (by decide) ?_ fun pl => ?_) (subscripted_not hs _ _)
  · rw [Array.size_push]
    have : ((-1 : Int) + ((vs.size + 1 : Nat) : Int)).toNat = vs.size := by omega
    rw [this]; simp
  refine listMethod (pb.at (G₁.keep _)) PySem.F.slot_list_append PySem.F.type_list_append ?_
  refine callWith_val (by rw [starEach_plain hp]; rfl) (fun b q => by cases q) ?_
  rw [starEach_plain hp]
  refine spliced_cons (wpAny_mono (he A env pins F₁ P s₁ R ok ⟨vm, fp, S₁⟩) (fun v s₂ hp6 => ?_) fun _ _ x => x)
  obtain ⟨F₂, G₂, X₂, r₂⟩ := hp6
  refine spliced_nil ?_
  have G := G₁.trans G₂
  have S₂ := S.grow G
  have hsz : ws.size ≤ sizeLine := by
    have e1 : ws.size = cur.length := by rw [← Array.length_toList]; exact rb.length
    have e2 : sizeLine = 16777216 := by decide
    omega
  refine wpAny_list_append_plain (pb.at (G.keep _)) (fun h' pl' sb => ?_) hsz
  have hm₁ : b ∈ fp x := by rw [hf]; exact .tail _ (.head _)
  have O : Own h' F₂ (.nest xs (cur ++ [d])) (.ref a) (fp x) := by rw [hf]; exact .nest (pa.at fun o e => (sb.2 a hne).trans (G.keep _ _ e)) (ra.mono G.fle) ⟨_, pl', by rw [Array.toList_push]; exact (rb.mono G.fle).snoc r₂⟩ hne
  exact ⟨F₂, P, G.step.trans (S₂.turnStep hx hm₁ sb), (X₁.trans X₂).trans ⟨_, _, rfl⟩, ⟨vm, fp, S₂.turn hx hv O hm₁ sb⟩, .none⟩
end Mine
end

section
open PySem PySem.Calls PyProof.Rows PySem.W
set_option maxRecDepth 100000
set_option linter.unusedVariables false
namespace Mine
variable {c : Cx} {n : Nat} {sc : Scope} {pn : List Str} {ρ : Vars}
/-- a def whose value is a new list -/
theorem FnF_intro {fv : Value} {names : List Str} {body : List Stmt} {ds : List D} {d : D} {ρ' : Vars} (hc : c.Ok) (hf : IsFn c fv names body sc) (hs : scOk sc names = true) (hl : ds.length = names.length)
    (h : Ex c n sc [] (names.zip (ds.map Slot.val)) body (.retF d) ρ') : FnF c (n + 1) fv ds d := fun A F s vs R hb l r => by
  have sk := scOk_of hs
  have hlen : vs.length = names.length := r.length.trans hl
  refine wpAny_mono (wpAny_sz (Nat.le_refl s.heap.objs.size) (Q := fun v s' => (∃ F', Fle F F' ∧ (∀ a o, F' a = some o → F a = some o ∨ s.heap.objs.size ≤ a) ∧ Fle s.heap.get? s'.heap.get? ∧ Fle F' s'.heap.get? ∧ Same s s' ∧ Rd F' d v) ∧ ∃ a, v = .ref a ∧ s.heap.objs.size ≤ a) ?_) (fun v s' hp1 => by obtain ⟨z, ⟨F', a, b, d, e, f, g⟩, w⟩ := hp1; exact ⟨⟨F', ⟨a, b, d, e, z⟩, f, g⟩, w⟩) fun _ _ x => x.2
  refine call_open hc hf hs R (hb.trans l) hlen fun env s₁ ok X hce hcl => ?_
  obtain ⟨hst, S⟩ := enter_st (c := c) (pins := []) (ρ0 := names.zip (ds.map Slot.val)) (fp := fun _ => []) ok X hce (fun x q => (sk.nofree _ (mem_of_lookup q)) rfl) hcl hb l
    (fun x sl e => let ⟨v, e1, o⟩ := zip_own (h := s.heap) r e; ⟨v, vmB_zip _ _ _ sk.nd e1, o⟩) (fun q hq => nomatch hq) (fun _ _ _ _ q => nomatch q) (fun _ _ _ => .nil) (fun _ _ _ _ _ _ _ _ q => nomatch q)
  refine wpAny_mono (h (A.deeper env) env [] F _ s₁ R.deeper ok rfl S) (fun f s' hp2 => ?_) fun _ _ x => x
  obtain ⟨F', P', T, Y, S', q⟩ := hp2
  have hP : ∀ a, (a ∈ stor env ∨ ∃ x sl, (names.zip (ds.map Slot.val)).lookup x = some sl ∧ a ∈ ([] : List Addr)) → s.heap.objs.size ≤ a := fun a q => by
    rcases q with q | ⟨_, _, _, q⟩
    · exact hst a q
    · cases q
  have keep : Fle s.heap.get? s₁.heap.get? := X.toInCall.keep
  have g : env.locals < s₁.heap.objs.size := X.toInCall.ns.lt
  have up : s.heap.objs.size ≤ s₁.heap.objs.size := Nat.le_trans X.toInCall.fresh (Nat.le_of_lt g)
  obtain ⟨h₁, tk, rfl, _⟩ := X.done
  cases q with
  | @retF _ a rv hPa =>
    refine ⟨⟨F', T.fle, fun a o e => ?_, fun a o e => ?_, S'.le, Same.trans ⟨_, _, rfl⟩ Y, rv⟩, a, rfl, hPa.elim (hP a) fun q => Nat.le_trans up q⟩
    · rcases T.new a o e with q | q | q
      · exact .inl q
      · exact .inr (hP a q)
      · exact .inr (Nat.le_trans up q)
    · exact T.keep a o (fun q => Nat.not_lt.mpr (hP a q) (Heap.lt_size e)) (keep a o e)
/-! values of an own table, read only -/
noncomputable def D.mild : D → Bool
  | .tup xs => xs.all D.flat
  | d => d.flat
theorem RdL.imp {F G : Fz} {ds : List D} {vs : List Value} (r : RdL F ds vs) : (∀ d ∈ ds, ∀ v, Rd F d v → Rd G d v) → RdL G ds vs :=
  RdL.ind (P := fun ds vs => (∀ d ∈ ds, ∀ v, Rd F d v → Rd G d v) → RdL G ds vs) (fun _ => .nil) (fun a _ ih h => .cons (h _ (.head _) _ a) (ih fun d hd => h d (.tail _ hd))) r
theorem mild_back {F₂ F₃ : Fz} {h₂ h₃ : Heap} {l b : Addr} {o : Obj} {ys : List D} (hl : F₂ l = none) (ho : o.cls = .type "list") (hlt : l < h₂.objs.size) (G : Grow (F₂.ins l o) h₂ F₃ h₃) (r : Rd F₃ (.lst ys) (.ref b)) (hb : h₂.objs.size ≤ b) (hm : ∀ y ∈ ys, y.mild = true) :
    ∃ F', Grow F₂ h₂ F' h₃ ∧ Rd F' (.lst ys) (.ref b) := by
  have hF : ∀ a oo, F₂ a = some oo → a ≠ l := fun a oo e z => by rw [z, hl] at e; cases e
  have hl3 : F₃ l = some o := G.fle _ _ (Fz.ins_self _ _ _)
  refine ⟨fun a => if a = l then none else F₃ a, ⟨fun a oo e => ?_, fun a oo e => ?_, G.keep, fun a oo e => ?_, G.size⟩, ?_⟩
  · simp only [if_neg (hF a oo e)]; exact G.fle _ _ (Fz.ins_le hl _ _ e)
  · by_cases q : a = l
    · simp only [if_pos q] at e; cases e
    · simp only [if_neg q] at e
      rcases G.new a oo e with z | z
      · unfold Fz.ins at z; rw [if_neg q] at z; exact .inl z
      · exact .inr z
  · by_cases q : a = l
    · simp only [if_pos q] at e; cases e
    · simp only [if_neg q] at e; exact G.le _ _ e
  · cases r with
    | lst a1 a2 a3 a4 =>
      refine .lst (by simp only [if_neg (show b ≠ l from fun z => Nat.lt_irrefl _ (Nat.lt_of_lt_of_le (z ▸ hlt) hb))]; exact a1) a2 a3 (a4.imp fun d hd v rd => ?_)
      have hmd := hm d hd
      cases rd with
      | @tup a oo _ _ xs b1 b2 b3 b4 =>
        have q : a ≠ l := fun z => by rw [z, hl3] at b1; cases b1; rw [ho] at b2; exact absurd b2 (by decide)
        refine .tup (by simp only [if_neg q]; exact b1) b2 b3 (b4.flat fun d hd => ?_)
        unfold D.mild at hmd
        exact List.all_eq_true.mp hmd d hd
      | none => exact .none
      | bool b => exact .bool b
      | int i t => exact .int i t
      | str x t => exact .str x t
      | lst => cases hmd
      | inst => cases hmd
      | rng => cases hmd
      | opq => cases hmd
theorem hdr_temp' {env : Env} {pins : Pins} {F : Fz} {P : Addr → Prop} {h : Heap} {vm : Str → Option Value} {fp : Str → List Addr} (S : StV c env pins ρ F P h vm fp) {x : Str} {C : Addr} {xs : List D} (hx : ρ.lookup x = some (.hdr C xs)) : ∃ (a l : Addr) (o : Obj), vm x = some (.ref a) ∧ F l = none ∧ o.cls = .type "list" ∧ l < h.objs.size ∧ Fle (F.ins l o) h.get? ∧ Rd (F.ins l o) (.inst C [("_headers", .lst xs)]) (.ref a) := by
  obtain ⟨a, dx, l, od, es, k, hv, hfp, ha, hd, hdd, hk, z, r, vs, ⟨m, hl⟩, q⟩ := S.hdr hx
  have hn : F l = none := S.out l ((S.mem l).mpr (.inr ⟨x, _, hx, by rw [hfp]; exact .head _⟩))
  have g := Fz.ins_le (o := { cls := .type "list", data := .seq vs m }) hn
  refine ⟨a, l, { cls := .type "list", data := .seq vs m }, hv, hn, rfl, Heap.lt_size hl, fun b o e => ?_, .inst (g _ _ ha) (g _ _ hd) hdd hk (.cons z (.lst (Fz.ins_self _ _ _) rfl rfl (q.mono g)) .nil) fun y hy => r y fun e => ?_⟩
  · unfold Fz.ins at e
    by_cases h1 : b = l
    · subst h1; rw [if_pos rfl] at e; cases e; exact hl
    · rw [if_neg h1] at e; exact S.le b o e
  · subst e; simp at hy
/-- table.name(args) on an own table: a new list -/
theorem Ev_hdrListM {x name : Str} {p apos pos : Pos} {args : List Expr} {C f : Addr} {xs ds ys : List D} (hc : c.Ok) (hM : MethK c C name f) (hx : ρ.lookup x = some (.hdr C xs)) (hl : isLoc sc x = true) (hnn : name ≠ "_headers") (ha : EvL c n sc ρ args ds) (h : FnF c n (.ref f) (.inst C (hdrF xs) :: ds) (.lst ys)) (hd : ∀ y ∈ ys, y.mild = true) (hp : args.all plainArg = true := by rfl) (hm : MethAt (.Name x p) name apos args pos := by exact fun _ => ⟨_, rfl⟩) :
    Ev c n sc ρ (.Call (.Attribute (.Name x p) name apos) args [] pos) (.lst ys) := fun A env pins F P s R ok S => by
  have S0 := S
  obtain ⟨vm, fp, S⟩ := S
  obtain ⟨a, dx, l, od, es, k, hv, hfp, h1, h2, hdd, hk, z, r, q⟩ := S.hdr hx
  refine meth_open hm (load_var (h := s.heap) ok S.sto hl hv fun pl => ?_)
  refine get_meth (hc.at_ S0.keep) hM (S.le _ _ h1) (S.le _ _ h2) hdd hk (r _ hnn) ?_
  refine callWith_of (P := c.K.In) (by rw [Bool.or_eq_false_iff]; exact ⟨starFalse hp, rfl⟩) (keeps_K hM.keep) (evalArgs_any (starFalse hp) (wpAny_mono (ha A env pins F P s R ok S0 pos) (fun vs s₂ hp17 => ?_) fun _ _ x => x))
  obtain ⟨F₂, G₂, X₂, r₂⟩ := hp17
  refine ⟨hc.at_ (S0.grow G₂).keep, ?_⟩
  obtain ⟨a', l', o, e1, e2, e3, e5, e4, e6⟩ := hdr_temp' (S.grow G₂) hx
  have : a' = a := by rw [hv] at e1; cases e1; rfl
  subst this
  have g := Fz.ins_le (o := o) e2
  refine wpAny_mono (h A (F₂.ins l' o) s₂ (.ref a' :: vs) R ((S0.grow G₂).base.trans g) e4 (.cons e6 (r₂.mono g))) (fun v s₃ hp18 => ?_) fun _ _ x => x
  obtain ⟨⟨F₃, G₃, X₃, r₃⟩, b, e, hb⟩ := hp18
  subst e
  obtain ⟨F', G', r'⟩ := mild_back e2 e3 e5 G₃ r₃ hb hd
  exact ⟨F', G₂.trans G', X₂.trans X₃, r'⟩
/-- f(table, args), the table an own one, read only: a new list -/
theorem Ev_callHdrArg {f x : Str} {p px pos : Pos} {args : List Expr} {fv : Value} {C : Addr} {xs ds ys : List D} (hc : c.Ok) (hg : Callee c f fv) (h : FnF c n fv (.inst C (hdrF xs) :: ds) (.lst ys)) (hi : isGlb sc f = true) (hx : ρ.lookup x = some (.hdr C xs)) (hl : isLoc sc x = true) (ha : EvL c n sc ρ args ds) (hd : ∀ y ∈ ys, y.mild = true) (hp : args.all plainArg = true := by rfl) :
    Ev c n sc ρ (.Call (.Name f p) (.Name x px :: args) [] pos) (.lst ys) := fun A env pins F P s R ok S => by
  refine wpAny_Call_Name_kw (load_glob hc ok S.keep hi hg.glb ?_)
  obtain ⟨fa, of, fd, rfl, f2, f3⟩ := hg.fn
  show wpAny _ _ (callWith pos (.ref fa) [] (backTo pos (starEach (.Name x px :: args) env)) []) _ _ _
  have S0 := S
  obtain ⟨vm, fp, S⟩ := S
  obtain ⟨a, dx, l, od, es, k, hv, hfp, h1, h2, hdd, hk, z, r, q⟩ := S.hdr hx
  refine callWith_fn (starFalse (by simp [plainArg, hp])) ?_
  refine spliced_cons (load_var (h := s.heap) ok S.sto hl hv ?_)
  refine wpAny_mono (ha A env pins F P s R ok S0 pos) (fun vs s₂ hp17 => ?_) fun _ _ x => x
  obtain ⟨F₂, G₂, X₂, r₂⟩ := hp17
  refine ⟨⟨of, fd, (S0.grow G₂).keep _ _ f2, f3⟩, ?_⟩
  obtain ⟨a', l', o, e1, e2, e3, e5, e4, e6⟩ := hdr_temp' (S.grow G₂) hx
  have : a' = a := by rw [hv] at e1; cases e1; rfl
  subst this
  have g := Fz.ins_le (o := o) e2
  refine wpAny_mono (h A (F₂.ins l' o) s₂ (.ref a' :: vs) R ((S0.grow G₂).base.trans g) e4 (.cons e6 (r₂.mono g))) (fun v s₃ hp18 => ?_) fun _ _ x => x
  obtain ⟨⟨F₃, G₃, X₃, r₃⟩, b, e, hb⟩ := hp18
  subst e
  obtain ⟨F', G', r'⟩ := mild_back e2 e3 e5 G₃ r₃ hb hd
  exact ⟨F', G₂.trans G', X₂.trans X₃, r'⟩
/-- e[:] of a list -/
theorem EvNew_sliceAll {value : Expr} {sp pos : Pos} {xs : List D} (hv : EvR c n sc ρ value (.lst xs)) (hz : xs.length ≤ 100000) :
    EvNew c n sc ρ (.Subscript value (.Slice none none none sp) pos) xs := fun A env pins F P s R ok S => by
  refine Subscript_ (wpAny_mono (hv A env pins F P s R ok S) (fun v s₁ hp3 => ?_) fun _ _ x => x)
  obtain ⟨F₁, G₁, X₁, r₁⟩ := hp3
  have S₁ := S.grow G₁
  rw [arm_eval_Slice]
  refine wpAny_bind (wpAny_mono (part_run .none R ok S₁) (fun vl s₂ hp4 => ?_) fun _ _ x => x)
  obtain ⟨p1, F₂, G₂, X₂⟩ := hp4
  have S₂ := S₁.grow G₂
  refine wpAny_bind (wpAny_holding (wpAny_mono (part_run .none R ok S₂) (fun vu s₃ hp5 => ?_) fun _ _ x => x))
  obtain ⟨p2, F₃, G₃, X₃⟩ := hp5
  have S₃ := S₂.grow G₃
  refine wpAny_bind (wpAny_holding (wpAny_pure ?_))
  obtain ⟨a, vs, rfl, il, rr⟩ := ((r₁.mono G₂.keep G₂.fle).mono G₃.keep G₃.fle).lst S₃.le
  have hz' : vs.size ≤ sizeLine := by
    have e1 : vs.size = xs.length := by rw [← Array.length_toList]; exact rr.length
    have e2 : sizeLine = 16777216 := by decide
    omega
  refine wpAny_newObj_type ?_ ?_
  · have il' := il.push { cls := .type "slice", data := .fields #[vl, vu, .none] }
    refine tail_any (s := { s₃ with heap := s₃.heap.push { cls := .type "slice", data := .fields #[vl, vu, .none] } }) il'.typeIs slot_list_getitem.lookup (wpAny_getItem_list_slice il' (Heap.IsSliceOf.new ..) p1 p2 .none (by simp) ?_ hz') rfl
    rw [slicePick_all]
    have G := (G₁.trans G₂).trans G₃
    have G' : Grow F s.heap F₃ (s₃.heap.push { cls := .type "slice", data := .fields #[vl, vu, .none] }) := G.trans ⟨.refl _, fun _ _ e => .inl e, fun b o e => Heap.get?_push_of_some _ e, fun b o e => Heap.get?_push_of_some _ (S₃.le b o e), by rw [Heap.size_push]; exact Nat.le_succ _⟩
    generalize hH : s₃.heap.push { cls := .type "slice", data := .fields #[vl, vu, .none] } = H at *
    refine ⟨F₃, H.objs.size, G'.trans ⟨.refl _, fun _ _ e => .inl e, fun b o e => Heap.get?_push_of_some _ e, fun b o e => Heap.get?_push_of_some _ (G'.le b o e), by rw [Heap.size_push]; exact Nat.le_succ _⟩, (X₁.trans X₂).trans (X₃.trans ⟨_, _, rfl⟩), rfl, G'.size, none_of_le G'.le (Nat.le_refl _), vs, ⟨_, Heap.get?_push_size _ rfl⟩, rr⟩
  · simp only [sizeOk, List.size_toArray, List.length_cons, List.length_nil, sizeLine_eq]; omega
end Mine
end

section
open PySem PySem.Calls PyProof.Rows PySem.W
set_option maxRecDepth 100000
set_option linter.unusedVariables false
namespace Mine
variable {c : Cx} {n : Nat} {sc : Scope} {pn : List Str} {ρ : Vars}
/-! dicts of int keys -/
theorem ExS_dictNew {x : Str} {px dpos pos : Pos} (hs : isSto sc x = true) (hx : x ∉ pn) : ExS c n sc pn ρ (.Assign [.Name x px] (.Dict [] [] dpos) pos) .next (Vars.put ρ x (.dic 0 fun _ => none)) := fun A env pins F P s R ok hp S => by
  refine wpAny_Assign_Name (wpAny_Dict_empty ?_) (swaps_plain rfl)
  have hlt : ∀ b, P b → b < s.heap.objs.size := let ⟨_, _, S⟩ := S; S.lt
  have G₁ : Grow F s.heap F (s.heap.push { cls := .type "dict", data := .dict #[] }) := ⟨.refl _, fun _ _ e => .inl e, fun b o e => Heap.get?_push_of_some _ e, fun b o e => Heap.get?_push_of_some _ (S.le b o e), by rw [Heap.size_push]; exact Nat.le_succ _⟩
  obtain ⟨vm, fp, S₁⟩ := S.grow G₁
  have hPa : ¬ P s.heap.objs.size := fun q => Nat.lt_irrefl _ (hlt _ q)
  refine store_var (s := { s with heap := s.heap.push { cls := .type "dict", data := .dict #[] } }) ok S₁.sto hs fun h' tk S' sb => ?_
  obtain ⟨P', S'', hP, hk, hz⟩ := S₁.store (sl := .dic 0 fun _ => none) (as := [s.heap.objs.size]) (.dic (Heap.IntMap.new _) (Heap.DictLe.new _) fun _ _ e => nomatch e) (by simp) (fun b q => by simp at q; subst q; exact none_of_le S.le (Nat.le_refl _)) (fun b q z => by simp at q; subst q; exact hPa ((S₁.mem _).mpr (.inl z)))
    (fun y t e hy b q z => by simp at q; subst q; exact hPa ((S₁.mem _).mpr (.inr ⟨y, t, e, z⟩))) (hp ▸ hx) S' sb
  refine ⟨F, P', ⟨.refl _, fun b o e => .inl e, fun b o q e => hk b o q (G₁.keep b o e), fun b q => ?_, Nat.le_trans G₁.size (Nat.le_of_eq hz.symm)⟩, ⟨_, _, rfl⟩, S'', .next⟩
  rcases hP b q with q | q
  · exact .inl q
  · simp at q; subst q; exact .inr (Nat.le_refl _)
theorem StV.dic {env : Env} {pins : Pins} {F : Fz} {P : Addr → Prop} {h : Heap} {vm : Str → Option Value} {fp : Str → List Addr} (S : StV c env pins ρ F P h vm fp) {x : Str} {m : Nat} {g : Int → Option D} (hx : ρ.lookup x = some (.dic m g)) : ∃ (a : Addr) (g' : Int → Option Value), vm x = some (.ref a) ∧ fp x = [a] ∧ h.IntMap a g' ∧ h.DictLe a m ∧ ∀ k d, g k = some d → ∃ v, g' k = some v ∧ Rd F d v := by
  obtain ⟨v, e, o⟩ := S.own x _ hx
  generalize hq : fp x = as at o
  cases o with
  | dic i z r => exact ⟨_, _, e, rfl, i, z, r⟩
theorem keepMap {h h' : Heap} {a : Addr} {m : Nat} {g : Int → Option Value} (k : ∀ o, h.get? a = some o → h'.get? a = some o) (i : h.IntMap a g) (z : h.DictLe a m) : h'.IntMap a g ∧ h'.DictLe a m := by
  obtain ⟨o, es, ep, ho, q⟩ := i
  exact ⟨⟨o, es, ep, k _ ho, q⟩, z.of_same ho (k _ ho)⟩
/-- x[e] of a dict -/
theorem Ev_dictGet {x : Str} {p pos : Pos} {e : Expr} {m : Nat} {g : Int → Option D} {i : Int} {d : D} (hx : ρ.lookup x = some (.dic m g)) (hl : isLoc sc x = true) (hi : EvR c n sc ρ e (.int i)) (hg : g i = some d) (hs : notSlice e = true := by rfl) : Ev c n sc ρ (.Subscript (.Name x p) e pos) d := fun A env pins F P s R ok S => by
  have S0 := S
  obtain ⟨vm, fp, S⟩ := S
  obtain ⟨a, g', hv, hf, im, z, r⟩ := S.dic hx
  refine Subscript_ (load_var (h := s.heap) ok S.sto hl hv (wpAny_mono (hi A env pins F P s R ok S0) (fun w s₂ hp5 => ?_) fun _ _ x => x))
  obtain ⟨F₂, G₂, X₂, r₂⟩ := hp5
  obtain ⟨t, rfl⟩ := r₂.int
  obtain ⟨im₂, z₂⟩ := keepMap (G₂.keep a) im z
  obtain ⟨v, e1, rv⟩ := r i d hg
  exact tail_any im₂.typeIs slot_dict_getitem.lookup (wpAny_getItem_intMap im₂ e1 ⟨F₂, G₂, X₂.trans ⟨_, _, rfl⟩, rv.mono G₂.fle⟩) (subscripted_not hs _ _)
/-- x[e] = value upon a dict -/
theorem ExS_dictSet {x : Str} {p pos' pos : Pos} {ie value : Expr} {m : Nat} {g : Int → Option D} {i : Int} {d : D} (hx : ρ.lookup x = some (.dic m g)) (hl : isLoc sc x = true) (hv : Ev c n sc ρ value d) (hi : EvR c n sc ρ ie (.int i)) (hm : m ≤ 1000) (hpl : plainVal value = true := by rfl) :
    ExS c n sc pn ρ (.Assign [.Subscript (.Name x p) ie pos'] value pos) .next (Vars.put ρ x (.dic (m + 1) fun k => if k = i then some d else g k)) := fun A env pins F P s R ok hpn S => by
  refine wpAny_Assign_Subscript (wpAny_mono (hv A env pins F P s R ok S) (fun v s₁ hp7 => ?_) fun _ _ x => x) (swaps_plain hpl)
  obtain ⟨F₁, G₁, X₁, r₁⟩ := hp7
  obtain ⟨vm, fp, S₁⟩ := S.grow G₁
  obtain ⟨a, g', hva, hf, im, z, r⟩ := S₁.dic hx
  refine load_var (h := s₁.heap) ok S₁.sto hl hva ?_
  refine wpAny_mono (hi A env pins F₁ P s₁ R ok ⟨vm, fp, S₁⟩) (fun iv s₂ hp8 => ?_) fun _ _ x => x
  obtain ⟨F₂, G₂, X₂, r₂⟩ := hp8
  obtain ⟨t, rfl⟩ := r₂.int
  obtain ⟨im₂, z₂⟩ := keepMap (G₂.keep a) im z
  have S₂ := S₁.grow G₂
  have e2 : sizeLine = 16777216 := by decide
  refine wpAny_setItem_intMap_le im₂ z₂ (by omega) fun h' im' z' sb => ?_
  have hm₁ : a ∈ fp x := by rw [hf]; exact .head _
  have O : Own h' F₂ (.dic (m + 1) fun k => if k = i then some d else g k) (.ref a) (fp x) := by
    rw [hf]
    refine .dic im' z' fun k d' e => ?_
    by_cases q : k = i
    · simp only [if_pos q] at e ⊢; cases e; exact ⟨_, rfl, r₁.mono G₂.fle⟩
    · simp only [if_neg q] at e ⊢
      obtain ⟨v', e1, rv⟩ := r k d' e
      exact ⟨v', e1, rv.mono G₂.fle⟩
  exact ⟨F₂, P, (G₁.trans G₂).step.trans (S₂.turnStep hx hm₁ sb), X₁.trans (X₂.trans ⟨_, _, rfl⟩), ⟨vm, fp, S₂.turn hx hva O hm₁ sb⟩, .next⟩
end Mine
end

section
open PySem PySem.Calls PyProof.Rows PySem.W
set_option maxRecDepth 100000
set_option linter.unusedVariables false
namespace Mine
/-! a heap, in plain words -/
structure LtOk (lt : D → D → Bool) (ok : D → Prop) : Prop where
  asym : ∀ a b, ok a → ok b → lt a b = true → lt b a = false
  tr : ∀ a b e, ok a → ok b → ok e → lt b a = false → lt e b = false → lt e a = false
noncomputable abbrev gd (h : List D) (i : Nat) : D := h.getD i .none
theorem gd_set {h : List D} {i j : Nat} {x : D} (hi : i < h.length) : gd (h.set i x) j = if j = i then x else gd h j := by
  unfold gd
  rw [List.getD_eq_getElem?_getD, List.getElem?_set, List.getD_eq_getElem?_getD]
  by_cases e : i = j
  · subst e; simp [hi]
  · rw [if_neg e, if_neg (fun q => e q.symm)]
noncomputable def HeapI (lt : D → D → Bool) (h : List D) : Prop := ∀ i, 0 < i → i < h.length → lt (gd h i) (gd h ((i - 1) / 2)) = false
structure Hole (lt : D → D → Bool) (h : List D) (p : Nat) : Prop where
  far : ∀ i, 0 < i → i < h.length → i ≠ p → (i - 1) / 2 ≠ p → lt (gd h i) (gd h ((i - 1) / 2)) = false
  up : ∀ i, 0 < i → i < h.length → (i - 1) / 2 = p → 0 < p → lt (gd h i) (gd h ((p - 1) / 2)) = false
theorem perm_set {x : D} : ∀ {l : List D} {i : Nat}, i < l.length → (x :: l).Perm (gd l i :: l.set i x)
  | [], i, h => by simp at h
  | a :: r, 0, _ => List.Perm.swap a x r
  | a :: r, i + 1, h => by
    have ih := perm_set (x := x) (l := r) (i := i) (by simpa using h)
    show (x :: a :: r).Perm (gd r i :: a :: r.set i x)
    exact ((List.Perm.swap a x r).trans (ih.cons a)).trans (List.Perm.swap (gd r i) a _)
theorem set_set_perm {h : List D} {p q : Nat} {x : D} (hp : p < h.length) (hq : q < h.length) (hne : q ≠ p) : ((h.set p (gd h q)).set q x).Perm (h.set p x) := by
  have e : gd (h.set p (gd h q)) q = gd h q := by rw [gd_set hp, if_neg hne]
  have a1 := perm_set (x := x) (l := h.set p (gd h q)) (i := q) (by simpa using hq)
  rw [e] at a1
  have a2 := perm_set (x := gd h q) (l := h) hp
  have a3 := perm_set (x := x) (l := h) hp
  -- h[p] :: h[q] :: L ~ h[p] :: x :: h1 ~ x :: h[q] :: h ~ h[q] :: h[p] :: R
  have b1 : (gd h p :: gd h q :: ((h.set p (gd h q)).set q x)).Perm (gd h p :: gd h q :: h.set p x) :=
    (a1.symm.cons (gd h p)).trans ((List.Perm.swap x (gd h p) _).trans ((a2.symm.cons x).trans ((List.Perm.swap (gd h q) x h).trans ((a3.cons (gd h q)).trans (List.Perm.swap (gd h p) (gd h q) _)))))
  exact b1.cons_inv.cons_inv
variable {lt : D → D → Bool} {ok : D → Prop}
theorem par_ne {i : Nat} (h : 0 < i) : ¬ (i - 1) / 2 = i := Nat.ne_of_lt (par_lt (Nat.ne_of_gt h))
theorem par2_ne {p : Nat} (h : p ≠ 0) : ((p - 1) / 2 - 1) / 2 ≠ p := by omega
theorem ch_ne {q p : Nat} (h : (q - 1) / 2 = p) (q0 : 0 < q) : q ≠ p := fun e => par_ne q0 (h.trans e.symm)
theorem gg_ne {i q p : Nat} (h1 : (i - 1) / 2 = q) (h2 : (q - 1) / 2 = p) (q0 : 0 < q) : i ≠ p := by omega
theorem su_step {l f p q : Nat} (h : l ≤ f + 1 + p) (h2 : (q - 1) / 2 = p) (q0 : 0 < q) : l ≤ f + q := by omega
theorem ch1 (p : Nat) : (2 * p + 1 - 1) / 2 = p := by omega
theorem ch2 (p : Nat) : (2 * p + 2 - 1) / 2 = p := by omega
theorem sib1 {i p : Nat} (h : (i - 1) / 2 = p) (i0 : 0 < i) (h2 : i ≠ 2 * p + 2) : i = 2 * p + 1 := by omega
theorem sib2 {i p : Nat} (h : (i - 1) / 2 = p) (i0 : 0 < i) (h2 : i ≠ 2 * p + 1) : i = 2 * p + 2 := by omega
theorem sdGo_heap (L : LtOk lt ok) (x : D) (hx : ok x) : ∀ (f : Nat) (h : List D) (p : Nat), p ≤ f → p < h.length → (∀ d ∈ h, ok d) → Hole lt h p → (∀ i, 0 < i → i < h.length → (i - 1) / 2 = p → lt (gd h i) x = false) →
    HeapI lt ((sdGo lt x f h p).1.set (sdGo lt x f h p).2 x) ∧ ((sdGo lt x f h p).1.set (sdGo lt x f h p).2 x).Perm (h.set p x) := by
  have fin : ∀ (h : List D) (p : Nat), p < h.length → (∀ d ∈ h, ok d) → Hole lt h p → (∀ i, 0 < i → i < h.length → (i - 1) / 2 = p → lt (gd h i) x = false) → (0 < p → lt x (gd h ((p - 1) / 2)) = false) → HeapI lt (h.set p x) := by
    intro h p hp hok H hc hu i i0 il
    rw [List.length_set] at il
    rw [gd_set hp, gd_set hp]
    by_cases e : i = p
    · subst e
      rw [if_pos rfl, if_neg (par_ne i0)]
      exact hu i0
    · rw [if_neg e]
      by_cases e2 : (i - 1) / 2 = p
      · rw [if_pos e2]; exact hc i i0 il e2
      · rw [if_neg e2]; exact H.far i i0 il e e2
  intro f
  induction f with
  | zero =>
    intro h p hp hl hok H hc
    have : p = 0 := Nat.le_zero.mp hp
    subst this
    exact ⟨fin h 0 hl hok H hc (fun q => absurd q (Nat.lt_irrefl 0)), .refl _⟩
  | succ f ih =>
    intro h p hp hl hok H hc
    unfold sdGo
    by_cases h0 : p = 0
    · subst h0
      exact ⟨fin h 0 hl hok H hc (fun q => absurd q (Nat.lt_irrefl 0)), .refl _⟩
    · rw [if_neg h0]
      have hq : (p - 1) / 2 < h.length := Nat.lt_trans (par_lt h0) hl
      have hqp : (p - 1) / 2 ≠ p := Nat.ne_of_lt (par_lt h0)
      have oq : ok (gd h ((p - 1) / 2)) := all_get hok hq
      by_cases hlt : lt x (gd h ((p - 1) / 2)) = true
      · rw [if_pos hlt]
        refine (fun q => ⟨q.1, q.2.trans (set_set_perm hl hq hqp)⟩) (ih (h.set p (gd h ((p - 1) / 2))) ((p - 1) / 2) (Nat.le_of_lt_succ (Nat.lt_of_lt_of_le (par_lt h0) hp)) (by simpa using hq) (all_set hok oq) ⟨?_, ?_⟩ ?_)
        · intro i i0 il e1 e2
          rw [List.length_set] at il
          have hip : i ≠ p := fun q => e2 (by rw [q])
          rw [gd_set hl, gd_set hl, if_neg hip]
          by_cases e3 : (i - 1) / 2 = p
          · rw [if_pos e3]; exact H.up i i0 il e3 (Nat.pos_of_ne_zero h0)
          · rw [if_neg e3]; exact H.far i i0 il hip e3
        · intro i i0 il e1 e2
          rw [List.length_set] at il
          rw [gd_set hl, gd_set hl, if_neg (par2_ne h0)]
          have hb := H.far ((p - 1) / 2) e2 hq hqp (par2_ne h0)
          by_cases e3 : i = p
          · rw [if_pos e3]; exact hb
          · rw [if_neg e3]
            have ha := H.far i i0 il e3 (by rw [e1]; exact hqp)
            rw [e1] at ha
            exact L.tr _ _ _ (all_get hok (Nat.lt_of_le_of_lt (Nat.le_trans (par_le _) (par_le _)) hl)) oq (all_get hok il) hb ha
        · intro i i0 il e1
          rw [List.length_set] at il
          rw [gd_set hl]
          by_cases e3 : i = p
          · rw [if_pos e3]; exact L.asym _ _ hx oq hlt
          · rw [if_neg e3]
            have ha := H.far i i0 il e3 (by rw [e1]; exact hqp)
            rw [e1] at ha
            exact L.tr _ _ _ hx oq (all_get hok il) (L.asym _ _ hx oq hlt) ha
      · rw [if_neg hlt]
        exact ⟨fin h p hl hok H hc (fun _ => Bool.eq_false_iff.mpr hlt), .refl _⟩
theorem set_self {h : List D} {p : Nat} (hp : p < h.length) : h.set p (gd h p) = h := by
  unfold gd
  rw [List.getD_eq_getElem?_getD, List.getElem?_eq_getElem hp]
  exact List.set_getElem_self hp
theorem sd_heap (L : LtOk lt ok) {h : List D} {p : Nat} (hp : p < h.length) (hok : ∀ d ∈ h, ok d) (H : Hole lt h p) (hc : ∀ i, 0 < i → i < h.length → (i - 1) / 2 = p → lt (gd h i) (gd h p) = false) : HeapI lt (sd lt h p) ∧ (sd lt h p).Perm h := by
  have := sdGo_heap L (gd h p) (all_get hok hp) p h p (Nat.le_refl _) hp hok H hc
  rw [set_self hp] at this
  exact this
theorem hpush_heap (L : LtOk lt ok) {h : List D} {x : D} (hok : ∀ d ∈ h, ok d) (hx : ok x) (H : HeapI lt h) : HeapI lt (hpush lt h x) ∧ (hpush lt h x).Perm (x :: h) := by
  have hok' : ∀ d ∈ h ++ [x], ok d := fun d hd => by
    rcases List.mem_append.mp hd with q | q
    · exact hok d q
    · rw [List.mem_singleton.mp q]; exact hx
  have gl : ∀ i, i < h.length → gd (h ++ [x]) i = gd h i := fun i hi => by unfold gd; rw [List.getD_eq_getElem?_getD, List.getElem?_append_left hi, List.getD_eq_getElem?_getD]
  obtain ⟨a, b⟩ := sd_heap L (h := h ++ [x]) (p := h.length) (by simp) hok' ⟨fun i i0 il e1 e2 => by
    simp only [List.length_append, List.length_singleton] at il
    rw [gl i (by omega), gl _ (by omega)]
    exact H i i0 (by omega), fun i i0 il e1 => by simp only [List.length_append, List.length_singleton] at il; omega⟩ (fun i i0 il e1 => by simp only [List.length_append, List.length_singleton] at il; omega)
  exact ⟨a, b.trans (List.perm_append_comm (l₁ := h) (l₂ := [x]))⟩
theorem suGo_heap (L : LtOk lt ok) : ∀ (f : Nat) (h : List D) (p : Nat) (x : D), h.length ≤ f + p → p < h.length → (∀ d ∈ h, ok d) → Hole lt h p →
    Hole lt (suGo lt f h p).1 (suGo lt f h p).2 ∧ (suGo lt f h p).1.length ≤ 2 * (suGo lt f h p).2 + 1 ∧ ((suGo lt f h p).1.set (suGo lt f h p).2 x).Perm (h.set p x) := by
  intro f
  induction f with
  | zero => intro h p x hf hp; exact absurd hp (Nat.not_lt.mpr (Nat.zero_add p ▸ hf))
  | succ f ih =>
    intro h p x hf hp hok H
    have step : ∀ q, q < h.length → (q - 1) / 2 = p → 0 < q → (∀ i, 0 < i → i < h.length → (i - 1) / 2 = p → i ≠ q → lt (gd h i) (gd h q) = false) →
        Hole lt (suGo lt f (h.set p (gd h q)) q).1 (suGo lt f (h.set p (gd h q)) q).2 ∧ (suGo lt f (h.set p (gd h q)) q).1.length ≤ 2 * (suGo lt f (h.set p (gd h q)) q).2 + 1 ∧ ((suGo lt f (h.set p (gd h q)) q).1.set (suGo lt f (h.set p (gd h q)) q).2 x).Perm (h.set p x) := by
      intro q hq hqp q0 hs
      have hne : q ≠ p := ch_ne hqp q0
      refine (fun z => ⟨z.1, z.2.1, z.2.2.trans (set_set_perm hp hq hne)⟩) (ih (h.set p (gd h q)) q x (by rw [List.length_set]; exact su_step hf hqp q0) (by simpa using hq) (all_set hok (all_get hok hq)) ⟨?_, ?_⟩)
      · intro i i0 il e1 e2
        rw [List.length_set] at il
        rw [gd_set hp, gd_set hp]
        by_cases e3 : i = p
        · subst e3
          rw [if_pos rfl, if_neg (par_ne i0)]
          exact H.up q q0 hq hqp i0
        · rw [if_neg e3]
          by_cases e4 : (i - 1) / 2 = p
          · rw [if_pos e4]; exact hs i i0 il e4 e1
          · rw [if_neg e4]; exact H.far i i0 il e3 e4
      · intro i i0 il e1 _
        rw [List.length_set] at il
        rw [gd_set hp, gd_set hp, hqp, if_pos rfl, if_neg (gg_ne e1 hqp q0)]
        have := H.far i i0 il (gg_ne e1 hqp q0) (by rw [e1]; exact hne)
        rw [e1] at this; exact this
    unfold suGo
    by_cases hc : 2 * p + 1 < h.length
    · rw [if_pos hc]
      dsimp only
      by_cases hr : (decide (2 * p + 2 < h.length) && !lt (h.getD (2 * p + 1) .none) (h.getD (2 * p + 2) .none)) = true
      · rw [if_pos hr]
        simp only [Bool.and_eq_true, decide_eq_true_eq, Bool.not_eq_true'] at hr
        refine step (2 * p + 2) hr.1 (ch2 p) (Nat.succ_pos _) fun i i0 il e1 e2 => ?_
        have : i = 2 * p + 1 := sib1 e1 i0 e2
        subst this; exact hr.2
      · rw [if_neg hr]
        refine step (2 * p + 1) hc (ch1 p) (Nat.succ_pos _) fun i i0 il e1 e2 => ?_
        have : i = 2 * p + 2 := sib2 e1 i0 e2
        subst this
        simp only [Bool.and_eq_true, decide_eq_true_eq, Bool.not_eq_true', not_and, Bool.not_eq_false] at hr
        exact L.asym _ _ (all_get hok hc) (all_get hok il) (hr il)
    · rw [if_neg hc]
      exact ⟨H, Nat.not_lt.mp hc, .refl _⟩
theorem su_heap (L : LtOk lt ok) {h : List D} (h0 : 0 < h.length) (hok : ∀ d ∈ h, ok d) (H : Hole lt h 0) : HeapI lt (su lt h) ∧ (su lt h).Perm h := by
  obtain ⟨a, b, e⟩ := suGo_heap L h.length h 0 (gd h 0) (by omega) h0 hok H
  have l1 := suGo_len lt h.length h 0
  have l2 := suGo_lt lt h.length h 0 h0
  have hok' := suGo_all (ok := ok) lt h.length h 0 hok
  unfold su
  dsimp only
  generalize hg : suGo lt h.length h 0 = r at a b e l1 l2 hok' ⊢
  have hlen : r.2 < r.1.length := by omega
  rw [set_self h0] at e
  refine (fun z => ⟨z.1, z.2.trans e⟩) (sd_heap L (h := r.1.set r.2 (gd h 0)) (p := r.2) (by simpa using hlen) (all_set hok' (all_get hok h0)) ⟨fun i i0 il e1 e2 => ?_, fun i i0 il e1 => ?_⟩ (fun i i0 il e1 => ?_))
  · rw [List.length_set] at il
    rw [gd_set hlen, gd_set hlen, if_neg e1, if_neg e2]
    exact a.far i i0 il e1 e2
  · rw [List.length_set] at il; omega
  · rw [List.length_set] at il; omega
theorem heap_min (L : LtOk lt ok) {h : List D} (hok : ∀ d ∈ h, ok d) (H : HeapI lt h) : ∀ i, i < h.length → lt (gd h i) (gd h 0) = false := by
  intro i
  induction i using Nat.strongRecOn with
  | ind i ih =>
    intro hi
    by_cases h0 : i = 0
    · subst h0
      cases hb : lt (gd h 0) (gd h 0) with
      | false => rfl
      | true => rw [L.asym _ _ (all_get hok hi) (all_get hok hi) hb] at hb; cases hb
    · exact L.tr _ _ _ (all_get hok (Nat.lt_of_le_of_lt (Nat.zero_le _) hi)) (all_get hok (Nat.lt_trans (par_lt h0) hi)) (all_get hok hi) (ih ((i - 1) / 2) (par_lt h0) (Nat.lt_trans (par_lt h0) hi)) (H i (Nat.pos_of_ne_zero h0) hi)
/-- what comes off is a least one, the others stay -/
theorem hpop_heap (L : LtOk lt ok) {h : List D} (hne : h ≠ []) (hok : ∀ d ∈ h, ok d) (H : HeapI lt h) : HeapI lt (hpop lt h).2 ∧ h.Perm ((hpop lt h).1 :: (hpop lt h).2) ∧ ∀ d ∈ h, lt d (hpop lt h).1 = false := by
  have hmin := heap_min L hok H
  have e : h = h.dropLast ++ [h.getLastD .none] := by
    rw [List.getLastD_eq_getLast?, List.getLast?_eq_some_getLast hne]; exact (List.dropLast_concat_getLast hne).symm
  unfold hpop
  generalize h.getLastD .none = d at e ⊢
  generalize h.dropLast = ys at e ⊢
  subst e
  have mem : ∀ (l : List D) (d : D), d ∈ l → ∃ i, i < l.length ∧ gd l i = d := fun l d hd => by
    obtain ⟨i, hi, e⟩ := List.mem_iff_getElem.mp hd
    exact ⟨i, hi, by unfold gd; rw [List.getD_eq_getElem?_getD, List.getElem?_eq_getElem hi, e]; rfl⟩
  cases ys with
  | nil =>
    refine ⟨fun i i0 il => by simp at il, .refl _, fun e he => ?_⟩
    obtain ⟨i, hi, rfl⟩ := mem _ _ he
    exact hmin i hi
  | cons y ys =>
    have hok' : ∀ e ∈ d :: ys, ok e := fun e he => by
      rcases List.mem_cons.mp he with rfl | q
      · exact hok _ (by simp)
      · exact hok e (by simp [q])
    have gl : ∀ i, 0 < i → i < ys.length + 1 → gd (d :: ys) i = gd (y :: ys ++ [d]) i := fun i i0 hi => by
      unfold gd
      cases i with
      | zero => omega
      | succ i => 
        rw [List.getD_eq_getElem?_getD, List.getD_eq_getElem?_getD, List.cons_append, List.getElem?_cons_succ, List.getElem?_cons_succ, List.getElem?_append_left (by omega)]
    obtain ⟨a, b⟩ := su_heap L (h := d :: ys) (by simp) hok' ⟨fun i i0 il e1 e2 => by
      simp only [List.length_cons] at il
      rw [gl i i0 il, gl _ (by omega) (by omega)]
      exact H i i0 (by simp; omega), fun i i0 il e1 e2 => by omega⟩
    refine ⟨a, ?_, fun e he => ?_⟩
    · show (y :: (ys ++ [d])).Perm (y :: su lt (d :: ys))
      exact (List.Perm.trans (List.perm_append_comm (l₁ := ys) (l₂ := [d])) b.symm).cons y
    · obtain ⟨i, hi, rfl⟩ := mem _ _ he
      exact hmin i hi
end Mine
end

section
open PySem PySem.Calls PyProof.Rows PySem.W
set_option maxRecDepth 100000
set_option linter.unusedVariables false
namespace Mine
variable {c : Cx} {n : Nat}
/-! _law_leads -/
noncomputable abbrev liB := defBody pw "_law_leads"
noncomputable abbrev liS := defScope pw "_law_leads"
noncomputable def leadOf (p : Int) : Str := strRep " " (p.fmod 5) ++ "\t" ++ strRep " " ((p.fdiv 5).fmod 2) ++ "\t" ++ strRep " " (p.fdiv 10)
noncomputable def firstFour (ns : List Int) : List Int := (ns.take 4 ++ [28, 14, 32, 7]).take 4
noncomputable def leadsM (ns : List Int) : List Str := (firstFour ns).map fun m => leadOf (m.fmod 40)
noncomputable def lst (l : List Str) : D := .lst (l.map .str)
theorem lead_len : ∀ q : Nat, q < 40 → (strRep " " ((q : Int).fmod 5)).length ≤ 10 ∧ (strRep " " ((q : Int).fmod 5) ++ "\t").length ≤ 11 ∧ (strRep " " (((q : Int).fdiv 5).fmod 2)).length ≤ 10 ∧ (strRep " " ((q : Int).fmod 5) ++ "\t" ++ strRep " " (((q : Int).fdiv 5).fmod 2)).length ≤ 20 ∧ (strRep " " ((q : Int).fmod 5) ++ "\t" ++ strRep " " (((q : Int).fdiv 5).fmod 2) ++ "\t").length ≤ 21 ∧ (strRep " " ((q : Int).fdiv 10)).length ≤ 10 ∧ (leadOf q).length ≤ 30 := by decide +kernel
theorem lead_int : ∀ q : Nat, q < 40 → 0 ≤ (q : Int).fmod 5 ∧ (q : Int).fmod 5 ≤ 5 ∧ 0 ≤ ((q : Int).fdiv 5).fmod 2 ∧ ((q : Int).fdiv 5).fmod 2 ≤ 3 ∧ 0 ≤ (q : Int).fdiv 10 ∧ (q : Int).fdiv 10 ≤ 4 := by decide +kernel
theorem mod40 (m : Int) : ∃ q : Nat, q < 40 ∧ m.fmod 40 = (q : Int) := by
  have h1 := Int.fmod_nonneg_of_pos m (b := 40) (by decide)
  have h2 := Int.fmod_lt_of_pos m (b := 40) (by decide)
  exact ⟨(m.fmod 40).toNat, by omega, by omega⟩
theorem li_loop (sx : D) : ∀ (ns : List Int) (acc : List Str), acc.length + ns.length ≤ 6 →
    LoopR (Turn c n liS [] (fTarget liB 1) (fBody liB 1)) (ns.map .int) [("script", .val sx), ("leads", .lst (acc.map .str))] .next [("script", .val sx), ("leads", .lst ((acc ++ ns.map fun m => leadOf (m.fmod 40)).map .str))]
  | [], acc, _ => by simp only [List.map_nil, List.append_nil]; exact .nil
  | m :: r, acc, h => by
    simp only [List.length_cons] at h
    have ih := li_loop sx r (acc ++ [leadOf (m.fmod 40)]) (by simp; omega)
    rw [List.append_assoc] at ih
    obtain ⟨q, hq, he⟩ := mod40 m
    obtain ⟨l1, l2, l3, l4, l5, l6, l7⟩ := lead_len q hq
    obtain ⟨i1, i2, i3, i4, i5, i6⟩ := lead_int q hq
    have tab : ("\t" : Str).length = 1 := rfl
    refine .next ⟨_, AsgT_name rfl (by decide), ?_⟩ ih
    refine (Ex_cons (ExS_assign (d := .int q) ((Ev_BinOp (EvR_name rfl rfl) EvR_int (Bin.mod (by decide))).conv (by rw [he])) rfl (by decide))
      (Ex_cons (ExS_exprX (EvX_append rfl rfl (EvX.of (Ev_BinOp (d := .str (leadOf q)) (.of (Ev_BinOp (.of (Ev_BinOp (.of (Ev_BinOp (.of (Ev_BinOp EvR_str (.of (Ev_BinOp (EvR_name rfl rfl) EvR_int (Bin.mod (by decide)))) (Bin.mulS (by omega) (by omega) (by decide) (by decide)))) EvR_str (Bin.addS (by omega))))
        (.of (Ev_BinOp EvR_str (.of (Ev_BinOp (.of (Ev_BinOp (EvR_name rfl rfl) EvR_int (Bin.fdiv (by decide) (by decide)))) EvR_int (Bin.mod (by decide)))) (Bin.mulS (by omega) (by omega) (by decide) (by decide)))) (Bin.addS (by omega)))) EvR_str (Bin.addS (by omega))))
        (.of (Ev_BinOp EvR_str (.of (Ev_BinOp (EvR_name rfl rfl) EvR_int (Bin.fdiv (by decide) (by decide)))) (Bin.mulS (by omega) (by omega) (by decide) (by decide)))) (Bin.addS (by omega)))) rfl (by simp; omega))) Ex_nil)).less ⟨rfl, ?_, trivial⟩
    show some (Slot.lst _) = some (Slot.lst _)
    rw [List.map_append, List.map_cons, he]; simp
theorem li_fn {fv : Value} {ns : List Int} (hc : c.Ok) (hf : IsFn c fv ["script"] liB liS) (hn : ns.length ≤ 100) : FnP c 1 fv [.lst (ns.map .int)] (lst (leadsM ns)) := by
  refine FnP_intro (fl := .retF (lst (leadsM ns))) (ρ' := []) hc hf (by decide) rfl ⟨nofun, nofun⟩ ?_
  refine Ex_cons (ExS_assignNew (EvNew_List EvL_nil (by decide)) rfl (by decide)) ?_
  have hE : Ev c 0 liS [("script", .val (.lst (ns.map .int))), ("leads", .lst [])] (fIter liB 1) (.lst (((ns.map D.int).take 4 ++ [D.int 28, D.int 14, D.int 32, D.int 7]).take 4)) :=
    Ev_sliceL (.of (Ev_BinOp (.of (Ev_sliceL (ys := (ns.map D.int).take 4) (EvR_name rfl rfl) .none (.int EvR_int) rfl (.inr (by decide)) (by simp; omega))) (.of (Ev_List (EvL_cons Ev_int (EvL_cons Ev_int (EvL_cons Ev_int (EvL_cons Ev_int EvL_nil)))) (by decide))) (Bin.addL (by simp; omega)))) .none (.int EvR_int) rfl (.inr (by decide)) (by simp; omega)
  have e6 : ((ns.map D.int).take 4 ++ [D.int 28, D.int 14, D.int 32, D.int 7]).take 4 = (firstFour ns).map D.int := by
    unfold firstFour; rw [List.map_take, List.map_append, List.map_take]; rfl
  rw [e6] at hE
  have L := li_loop (c := c) (n := 0) (.lst (ns.map .int)) (firstFour ns) [] (by unfold firstFour; simp <;> omega)
  rw [List.nil_append] at L
  exact Ex_cons (ExS_for hE rfl rfl L (.inl rfl)) (Ex_stop (ExS_returnOwn rfl rfl))
/-! _law_walked -/
noncomputable abbrev coB := defBody pw "_law_walked"
noncomputable abbrev coS := defScope pw "_law_walked"
noncomputable def colStep (size col : Nat) (sign : Str) : Nat := col + (if sign = "\t" then size - col % size else 1)
noncomputable def colOf (size : Nat) (signs : List Str) : Nat := signs.foldl (colStep size) 0
noncomputable def colsM (x : Str) : List Nat := (List.range 5).map fun i => colOf (1 + i) (signsOf x)
noncomputable def nats (l : List Nat) : D := .lst (l.map dN)
noncomputable abbrev coρ (x : Str) (acc : List Nat) (size col : Nat) : Vars := [("lead", .val (.str x)), ("columns", .lst (acc.map dN)), ("size", .val (.int size)), ("column", .val (.int col))]
theorem co_inner (x : Str) (acc : List Nat) (size : Nat) (hs : 0 < size) : ∀ (l : List Str) (col : Nat),
    LoopR (Turn c n coS [] (fTarget (fBody coB 1) 1) (fBody (fBody coB 1) 1)) (l.map .str) (coρ x acc size col) .next (coρ x acc size (l.foldl (colStep size) col))
  | [], col => .nil
  | s :: r, col => by
    refine .next ⟨_, AsgT_name rfl (by decide), ?_⟩ (co_inner x acc size hs r (colStep size col s))
    have e1 : (size : Int) - (col : Int).fmod (size : Int) = ((size - col % size : Nat) : Int) := by
      have h1 : (col : Int).fmod (size : Int) = ((col % size : Nat) : Int) := by rw [Int.fmod_eq_emod_of_nonneg _ (Int.natCast_nonneg _)]; rfl
      have h2 := Nat.mod_lt col hs
      rw [h1]; omega
    refine (Ex_cons (ExS_assign (d := .int (colStep size col s : Nat)) ((Ev_BinOp (b := .int ((if s = "\t" then size - col % size else 1 : Nat) : Int)) (EvR_name rfl rfl) (.of (Ev_IfExp (x := s == "\t") (Te_Compare (EvR_name rfl rfl) EvR_str Cmp.eqS) (fun h => ?_) (fun h => ?_))) Bin.add).conv ?_) rfl (by decide)) Ex_nil).less ⟨rfl, rfl, rfl, rfl, trivial⟩
    · have h : s = "\t" := by simpa using h
      rw [if_pos h]
      exact (Ev_BinOp (EvR_name rfl rfl) (.of (Ev_BinOp (EvR_name rfl rfl) (EvR_name rfl rfl) (Bin.mod (by omega)))) Bin.sub).conv (by rw [e1])
    · have h : ¬ s = "\t" := by simpa using h
      rw [if_neg h]
      exact Ev_int
    · rfl
theorem co_loop (x : Str) : ∀ (l : List Nat) (acc : List Nat), acc.length + l.length ≤ 100 →
    LoopR (Turn c n coS [] (fTarget coB 1) (fBody coB 1)) (l.map fun i => .int ((1 : Int) + (i : Nat))) [("lead", .val (.str x)), ("columns", .lst (acc.map dN))] .next [("lead", .val (.str x)), ("columns", .lst ((acc ++ l.map fun i => colOf (1 + i) (signsOf x)).map dN))]
  | [], acc, _ => by simp only [List.map_nil, List.append_nil]; exact .nil
  | i :: r, acc, h => by
    simp only [List.length_cons] at h
    have ih := co_loop x r (acc ++ [colOf (1 + i) (signsOf x)]) (by simp <;> omega)
    rw [List.append_assoc] at ih
    have e1 : (1 : Int) + (i : Nat) = ((1 + i : Nat) : Int) := by omega
    refine .next ⟨[("lead", .val (.str x)), ("columns", .lst (acc.map dN)), ("size", .val (.int (1 + i : Nat)))], by rw [← e1]; exact AsgT_name rfl (by decide), ?_⟩ ih
    refine Ex_cons (ExS_assign (d := .int 0) Ev_int rfl (by decide)) ?_
    refine Ex_cons (ρ₁ := coρ x acc (1 + i) (colOf (1 + i) (signsOf x))) (ExS_for (d := .str x) (xs := (signsOf x).map .str) (Ev_name rfl rfl) (by unfold signsOf; rw [List.map_map]; rfl) rfl (co_inner x acc (1 + i) (by omega) _ 0) (.inl rfl)) ?_
    refine (Ex_cons (ExS_exprX (EvX_append rfl rfl (EvX.of (Ev_name rfl rfl)) rfl (by simp <;> omega))) Ex_nil).less ⟨rfl, ?_, trivial⟩
    show some (Slot.lst _) = some (Slot.lst _)
    rw [List.map_append]; rfl
theorem co_fn {fv : Value} {x : Str} (B : Blt c) (hc : c.Ok) (hf : IsFn c fv ["lead"] coB coS) : FnP c 1 fv [.str x] (nats (colsM x)) := by
  refine FnP_intro (fl := .retF (nats (colsM x))) (ρ' := []) hc hf (by decide) rfl ⟨nofun, nofun⟩ ?_
  refine Ex_cons (ExS_assignNew (EvNew_List EvL_nil (by decide)) rfl (by decide)) ?_
  have L := co_loop (c := c) (n := 0) x (List.range 5) [] (by decide)
  rw [List.nil_append] at L
  exact Ex_cons (ExS_for (d := .rng 1 6) (Ev_callB hc B.range rfl nofun (EvLR_cons EvR_int (EvLR_cons EvR_int EvLR_nil)) CallR.range2) rfl rfl L (.inl rfl)) (Ex_stop (ExS_returnOwn rfl rfl))
end Mine
end

section
open PySem PySem.Calls PyProof.Rows PySem.W
set_option maxRecDepth 100000
set_option linter.unusedVariables false
namespace Mine
variable {c : Cx} {n : Nat} {sc : Scope} {pn : List Str} {ρ : Vars}
theorem Ev_index {o a : Expr} {apos pos : Pos} {x y : Str} (ho : Ev c n sc ρ o (.str x)) (ha : EvR c n sc ρ a (.str y)) (hf : (PySem.Builtin.Str.occurrences x y 0 x.length 1).isEmpty = false) (hp : plainArg a = true := by rfl) (hm : MethAt o "index" apos [a] pos := by exact fun _ => ⟨_, rfl⟩) : Ev c n sc ρ (.Call (.Attribute o "index" apos) [a] [] pos) (.int (Txt.find x y)) := fun A env pins F P s R ok S => by
  refine meth_open hm (wpAny_mono (ho A env pins F P s R ok S) (fun v s₁ hp13 pl => ?_) fun _ _ x => x)
  obtain ⟨F₁, G₁, X₁, r₁⟩ := hp13
  cases r₁ with
  | str _ t =>
    refine getMethod_builtin (typeIs_str s₁ x t) PySem.F.plainAttrs_str PySem.F.slot_str_index PySem.F.type_str_index (fun b q => nomatch q) ?_
    refine callWith_val (starFalse (by simp [hp])) nofun ?_
    rw [starEach_plain hp]
    refine spliced_cons (wpAny_mono (ha A env pins F₁ P s₁ R ok (S.grow G₁)) (fun va s₂ hp14 => ?_) fun _ _ x => x)
    obtain ⟨F₂, G₂, X₂, r₂⟩ := hp14
    refine spliced_nil ?_
    obtain ⟨u, rfl⟩ := r₂.str
    refine index_or R.1 (fun _ h => by rw [hf] at h; cases h) fun _ _ => ?_
    have G := G₁.trans G₂
    exact ⟨F₂, ⟨G.fle, G.new, G.keep, G.le, G.size⟩, X₁.trans (X₂.trans ⟨_, _, rfl⟩), .int _ _⟩
/-! _law_has -/
noncomputable abbrev haB := defBody pw "_law_has"
noncomputable abbrev haS := defScope pw "_law_has"
noncomputable def abcd (x : Nat) : Str := ⟨#[97 + x]⟩
/-- x stands ahead of y in the order -/
noncomputable def hasM (o : Str) (x y : Nat) : Bool := decide (Txt.find o (abcd x) < Txt.find o (abcd y))
theorem abcd_at : ∀ k : Nat, k < 4 → seqIndex? (k : Int) ("abcd" : Str).length = some k ∧ ("abcd" : Str).cps[k]? = some (97 + k) := by decide +kernel
theorem Ev_abcd {e : Expr} {p pos : Pos} {t : Nat} {k : Nat} (h : k < 4) (he : EvR c n sc ρ e (.int k)) (hs : notSlice e = true := by rfl) : Ev c n sc ρ (.Subscript (.Constant (.str "abcd") t p) e pos) (.str (abcd k)) :=
  Ev_Sub EvR_str he (Itm.str (k := k) (cp := 97 + k) (abcd_at k h).1 (abcd_at k h).2 (by omega) (by omega)) hs
/-- an order is one of the letters a to d, each there -/
noncomputable def OrdOk (o : Str) : Prop := ∀ k, k < 4 → (PySem.Builtin.Str.occurrences o (abcd k) 0 o.length 1).isEmpty = false
theorem ha_fn {fv : Value} {o : Str} {x y : Nat} (hc : c.Ok) (hf : IsFn c fv ["order", "x", "y"] haB haS) (ho : OrdOk o) (hx : x < 4) (hy : y < 4) : FnP c 1 fv [.str o, .int x, .int y] (.bool (hasM o x y)) := by
  refine FnP_intro (fl := .ret (.bool (hasM o x y))) (ρ' := [("order", .val (.str o)), ("x", .val (.int x)), ("y", .val (.int y))]) hc hf (by decide) rfl ⟨nofun, nofun⟩ ?_
  refine Ex_stop ?_
  refine ExS_return ?_
  refine Ev_Compare (.of ?_) (.of ?_) Cmp.lt
  · exact Ev_index (Ev_name rfl rfl) (.of (Ev_abcd hx (EvR_name rfl rfl))) (ho x hx)
  · exact Ev_index (Ev_name rfl rfl) (.of (Ev_abcd hy (EvR_name rfl rfl))) (ho y hy)
end Mine
end

section
open PySem PySem.Calls PyProof.Rows PySem.W
set_option maxRecDepth 100000
set_option linter.unusedVariables false
namespace Mine
variable {c : Cx} {n : Nat}
noncomputable def retE (b : List Stmt) (i : Nat) : Expr := match b[i]? with
  | some (.Return (some e) _) => e
  | _ => default
noncomputable def asgE (b : List Stmt) (i : Nat) : Expr := match b[i]? with
  | some (.Assign _ e _) => e
  | _ => default
noncomputable def cElt : Expr → Expr
  | .ListComp e _ _ _ => e
  | _ => default
noncomputable def cScp : Expr → Scope
  | .ListComp _ _ s _ => s
  | _ => default
noncomputable def cIfs (e : Expr) (i : Nat) : List Expr := match e with
  | .ListComp _ gs _ _ => match gs[i]? with
    | some ⟨_, _, f, _⟩ => f
    | _ => []
  | _ => []
noncomputable def cIter (e : Expr) (i : Nat) : Expr := match e with
  | .ListComp _ gs _ _ => match gs[i]? with
    | some ⟨_, f, _, _⟩ => f
    | _ => default
  | _ => default
/-! _law_pairs -/
noncomputable abbrev Mat := Nat → Nat → Int
noncomputable def rowM (M : Mat) (x : Nat) : List D := (List.range 4).map fun y => .int (M x y)
noncomputable def matL (M : Mat) : List D := (List.range 4).map fun x => .lst (rowM M x)
noncomputable def matD (M : Mat) : D := .lst (matL M)
noncomputable abbrev Pair := Int × Nat × Nat
noncomputable def pairD (p : Pair) : D := .tup [.int p.1, .int p.2.1, .int p.2.2]
noncomputable def inM (M : Mat) (x y : Nat) : Bool := x != y && decide (0 ≤ M x y)
noncomputable def pairsM (M : Mat) : List Pair := (List.range 4).flatMap fun x => ((List.range 4).filter (inM M x)).map fun y => (-M x y, x, y)
noncomputable def pairsD (l : List Pair) : D := .lst (l.map pairD)
theorem matL_at (M : Mat) {x : Nat} (h : x < 4) : (matL M)[((x : Int)).toNat]? = some (.lst (rowM M x)) := by
  unfold matL; rw [Int.toNat_natCast, List.getElem?_map, List.getElem?_range h]; rfl
theorem rowM_at (M : Mat) (x : Nat) {y : Nat} (h : y < 4) : (rowM M x)[((y : Int)).toNat]? = some (.int (M x y)) := by
  unfold rowM; rw [Int.toNat_natCast, List.getElem?_map, List.getElem?_range h]; rfl
theorem lt62 {x : Nat} (h : x < 4) : (x : Int) < 2 ^ 62 := by omega
noncomputable abbrev paB := defBody pw "_law_pairs"
noncomputable abbrev paS := defScope pw "_law_pairs"
noncomputable abbrev paE := retE paB 0
noncomputable abbrev paC := relS (cScp paE) paS
noncomputable abbrev paρ (M : Mat) (xy : Vars) (zs : List Pair) : Vars := ("more", .val (matD M)) :: (".", .lst (zs.map pairD)) :: xy
noncomputable def putY (xy : Vars) (l : List Nat) : Vars := l.foldl (fun r (y : Nat) => Vars.put r "y" (.val (.int (y : Int)))) xy
theorem paMore {sc : Scope} {M : Mat} {ρ : Vars} {x y : Nat} {ex ey : Expr} {p q : Pos} {t : Pos} (hm : ρ.lookup ("more" : Str) = some (.val (matD M))) (hl : isLoc sc "more" = true) (hx : x < 4) (hy : y < 4) (h1 : EvR c n sc ρ ex (.int x)) (h2 : EvR c n sc ρ ey (.int y)) (s1 : notSlice ex = true := by rfl) (s2 : notSlice ey = true := by rfl) :
    Ev c n sc ρ (.Subscript (.Subscript (.Name "more" t) ex p) ey q) (.int (M x y)) :=
  Ev_Sub (.of (Ev_Sub (EvR_name hm hl) h1 (Itm.lst (by omega) (matL_at M hx) (lt62 hx)) s1)) h2 (Itm.lst (by omega) (rowM_at M x hy) (lt62 hy)) s2
theorem pa_in (M : Mat) (x : Nat) (hx : x < 4) : ∀ (l : List Nat) (xy : Vars) (zs : List Pair), (∀ y ∈ l, y < 4) → xy.lookup ("x" : Str) = some (.val (.int x)) → zs.length + l.length ≤ 100 →
    LoopB (InB c n paC (cElt paE) (cIfs paE 1) "y" ".") (l.map dN) (paρ M xy zs) (paρ M (putY xy l) (zs ++ (l.filter (inM M x)).map fun y => (-M x y, x, y)))
  | [], xy, zs, _, _, _ => by simp only [List.map_nil, List.filter_nil, List.append_nil]; exact .nil
  | y :: r, xy, zs, hl, hx', hz => by
    have hy := hl y (.head _)
    simp only [List.length_cons] at hz
    have lx : (Vars.put xy "y" (.val (.int y))).lookup ("x" : Str) = some (.val (.int x)) := by rw [lookup_put, if_neg (by decide)]; exact hx'
    have ly : (Vars.put xy "y" (.val (.int y))).lookup ("y" : Str) = some (.val (.int y)) := by rw [lookup_put, if_pos rfl]
    have hput : Vars.put (paρ M xy zs) "y" (.val (.int y)) = paρ M (Vars.put xy "y" (.val (.int y))) zs := rfl
    refine .cons ⟨zs.map pairD, inM M x y, pairD (-M x y, x, y), rfl, by simp; omega, ?_, fun _ => ?_, rfl⟩ ?_
    · rw [show dN y = .int (y : Int) from rfl, hput]
      refine .one ((Te_and (b' := decide (0 ≤ M x y)) (Te_Compare (a := .int (x : Int)) (b := .int (y : Int)) (t := x != y) ?_ ?_ ?_) fun _ => ?_).conv rfl)
      · exact EvR_name (d := .int x) lx rfl
      · exact EvR_name (d := .int y) ly rfl
      · exact (fun h => h ▸ Cmp.neI) (by simp [bne, BEq.beq]; exact Int.ofNat_inj : ((x : Int) != (y : Int)) = (x != y))
      · refine (Te_and (b' := true) (Te_Compare (.of (paMore rfl rfl hx hy ?_ ?_)) EvR_int Cmp.ge) fun _ => Te_and_nil).conv (by simp)
        · exact EvR_name lx rfl
        · exact EvR_name ly rfl
    · rw [show dN y = .int (y : Int) from rfl, hput]
      refine Ev_Tuple (EvL_cons (Ev_UnaryOp (.of (paMore rfl rfl hx hy ?_ ?_)) Una.neg) (EvL_cons (Ev_name lx rfl) (EvL_cons (Ev_name ly rfl) EvL_nil))) (Nat.le_of_ble_eq_true rfl)
      · exact EvR_name lx rfl
      · exact EvR_name ly rfl
    · rw [show dN y = .int (y : Int) from rfl, hput]
      have ih := fun zs' hz' => pa_in M x hx r (Vars.put xy "y" (.val (.int y))) zs' (fun z q => hl z (.tail _ q)) lx hz'
      cases hb : inM M x y with
      | true =>
        rw [List.filter_cons, if_pos hb, List.map_cons]
        have := ih (zs ++ [(-M x y, x, y)]) (by simp; omega)
        rw [List.append_assoc] at this
        simp only [if_true]
        have e2 : Vars.put (paρ M (Vars.put xy "y" (.val (.int y))) zs) "." (.lst (zs.map pairD ++ [pairD (-M x y, x, y)])) = paρ M (Vars.put xy "y" (.val (.int y))) (zs ++ [(-M x y, x, y)]) := by
          unfold paρ; rw [List.map_append]; rfl
        rw [e2]; exact this
      | false =>
        rw [List.filter_cons, hb]
        exact ih zs (by omega)
theorem items4 : (D.rng 0 4).items = some ((List.range 4).map dN) := rfl
theorem pa_out (M : Mat) (B : Blt c) (hc : c.Ok) : ∀ (l : List Nat) (xy : Vars) (zs : List Pair), (∀ x ∈ l, x < 4) → zs.length + 4 * l.length ≤ 50 →
    ∃ xy', LoopB (OutB c n paC (cElt paE) (cIter paE 1) (cIfs paE 1) "x" "y" ".") (l.map dN) (paρ M xy zs) (paρ M xy' (zs ++ l.flatMap fun x => ((List.range 4).filter (inM M x)).map fun y => (-M x y, x, y)))
  | [], xy, zs, _, _ => ⟨xy, by simp only [List.map_nil, List.flatMap_nil, List.append_nil]; exact .nil⟩
  | x :: r, xy, zs, hl, hz => by
    have hx := hl x (.head _)
    simp only [List.length_cons] at hz
    have lx : (Vars.put xy "x" (.val (.int x))).lookup ("x" : Str) = some (.val (.int x)) := by rw [lookup_put, if_pos rfl]
    have hput : Vars.put (paρ M xy zs) "x" (.val (.int x)) = paρ M (Vars.put xy "x" (.val (.int x))) zs := rfl
    have I := pa_in (c := c) (n := n) M x hx (List.range 4) (Vars.put xy "x" (.val (.int x))) zs (fun y hy => List.mem_range.mp hy) lx (by rw [List.length_range]; omega)
    have hlen : (((List.range 4).filter (inM M x)).map fun y => (-M x y, x, y)).length ≤ 4 := by rw [List.length_map]; exact Nat.le_trans (List.length_filter_le _ _) (by decide)
    obtain ⟨xy', L⟩ := pa_out M B hc r (putY (Vars.put xy "x" (.val (.int x))) (List.range 4)) (zs ++ ((List.range 4).filter (inM M x)).map fun y => (-M x y, x, y)) (fun z q => hl z (.tail _ q)) (by rw [List.length_append]; omega)
    rw [List.append_assoc] at L
    refine ⟨xy', .cons ⟨.rng 0 4, (List.range 4).map dN, ?_, items4, rfl, ?_⟩ (by rw [List.flatMap_cons]; exact L)⟩
    · exact Ev_callB hc B.range rfl nofun (EvLR_cons EvR_int EvLR_nil) CallR.range1
    · rw [show dN x = .int (x : Int) from rfl, hput]; exact I
theorem pa_fn {fv : Value} {M : Mat} (B : Blt c) (hc : c.Ok) (hf : IsFn c fv ["more"] paB paS) : FnP c 1 fv [matD M] (pairsD (pairsM M)) := by
  refine FnP_intro (fl := .retF (pairsD (pairsM M))) (ρ' := [("more", .val (matD M))]) hc hf (by decide) rfl ⟨nofun, nofun⟩ ?_
  obtain ⟨xy', L⟩ := pa_out (c := c) (n := 0) M B hc (List.range 4) [] [] (fun y hy => List.mem_range.mp hy) (by decide)
  refine Ex_stop (ExS_returnNew (EvNew_comp2 (x := "x") (y := "y") (g := ".") (ρc := [("more", .val (matD M))]) (d0 := .rng 0 4) (xs0 := (List.range 4).map dN) (by decide) (by decide) (FreeOk.get ⟨rfl, rfl, trivial⟩) (fun y sl e => ?_) (fun _ _ => rfl) (fun _ _ => rfl) rfl rfl (by decide) (by decide) ?_ items4 rfl L rfl))
  · rw [List.lookup_cons] at e
    split at e
    · cases e; exact ⟨_, rfl⟩
    · cases e
  · exact Ev_callB hc B.range rfl nofun (EvLR_cons EvR_int EvLR_nil) CallR.range1
end Mine
end

section
open PySem PySem.Calls PyProof.Rows PySem.W
set_option maxRecDepth 100000
set_option linter.unusedVariables false
namespace Mine
variable {c : Cx} {n : Nat}
/-! _law_more -/
noncomputable abbrev moB := defBody pw "_law_more"
noncomputable abbrev moS := defScope pw "_law_more"
noncomputable abbrev moO := fBody moB 1
noncomputable abbrev moI := fBody moO 1
noncomputable def voteStep (a b : List Nat) (v : Int) (k : Nat) : Int := if a.getD k 0 < b.getD k 0 then v + 1 else if b.getD k 0 < a.getD k 0 then v - 1 else v
noncomputable def votesM (a b : List Nat) : Int := (List.range 5).foldl (voteStep a b) 0
theorem items5 : (D.rng 0 5).items = some ((List.range 5).map dN) := rfl
theorem mo_k (cD : D) (xs cur : List D) (a b : List Nat) (ha : a.length = 5) (hb : b.length = 5) : ∀ (l : List Nat) (v : Int), (∀ k ∈ l, k < 5) →
    LoopR (Turn c n moS [] (fTarget moI 1) (fBody moI 1)) (l.map dN) [("columns", .val cD), ("more", .nest xs cur), ("one", .val (nats a)), ("other", .val (nats b)), ("votes", .val (.int v))] .next [("columns", .val cD), ("more", .nest xs cur), ("one", .val (nats a)), ("other", .val (nats b)), ("votes", .val (.int (l.foldl (voteStep a b) v)))]
  | [], v, _ => .nil
  | k :: r, v, hl => by
    have hk := hl k (.head _)
    refine .next ⟨_, AsgT_name rfl (by decide), ?_⟩ (mo_k cD xs cur a b ha hb r (voteStep a b v k) fun q hq => hl q (.tail _ hq))
    have ea : ∀ {ρ : Vars}, ρ.lookup ("one" : Str) = some (.val (nats a)) → ρ.lookup ("k" : Str) = some (.val (dN k)) → ∀ {p q t : Pos}, EvR c n moS ρ (.Subscript (.Name "one" p) (.Name "k" q) t) (dN (a.getD k 0)) := fun {ρ} h1 h2 {p q t} => .of (Ev_Sub (EvR_name h1 rfl) (EvR_name h2 rfl) (Itm.lst (by omega) (by rw [Int.toNat_natCast]; exact map_getD a k (by omega)) (by omega)))
    have eb : ∀ {ρ : Vars}, ρ.lookup ("other" : Str) = some (.val (nats b)) → ρ.lookup ("k" : Str) = some (.val (dN k)) → ∀ {p q t : Pos}, EvR c n moS ρ (.Subscript (.Name "other" p) (.Name "k" q) t) (dN (b.getD k 0)) := fun {ρ} h1 h2 {p q t} => .of (Ev_Sub (EvR_name h1 rfl) (EvR_name h2 rfl) (Itm.lst (by omega) (by rw [Int.toNat_natCast]; exact map_getD b k (by omega)) (by omega)))
    refine (Ex_cons (ρ₁ := [("columns", .val cD), ("more", .nest xs cur), ("one", .val (nats a)), ("other", .val (nats b)), ("votes", .val (.int (voteStep a b v k))), ("k", .val (dN k))]) (ExS_if (Te_Compare (ea rfl rfl) (eb rfl rfl) Cmp.lt) (fun h => ?_) (fun h => ?_)) Ex_nil).less ⟨rfl, rfl, rfl, rfl, rfl, trivial⟩
    · have h' : a.getD k 0 < b.getD k 0 := by simpa using h
      have e : voteStep a b v k = v + 1 := if_pos h'
      rw [e]
      exact Ex_cons (ExS_assign (Ev_BinOp (EvR_name rfl rfl) EvR_int Bin.add) rfl (by decide)) Ex_nil
    · have h' : ¬ a.getD k 0 < b.getD k 0 := by simpa using h
      refine Ex_cons (ExS_if (Te_Compare (ea rfl rfl) (eb rfl rfl) Cmp.gt) (fun h2 => ?_) (fun h2 => ?_)) Ex_nil
      · have h2' : b.getD k 0 < a.getD k 0 := by simpa using h2
        have e : voteStep a b v k = v - 1 := (if_neg h').trans (if_pos h2')
        rw [e]
        exact Ex_cons (ExS_assign (Ev_BinOp (EvR_name rfl rfl) EvR_int Bin.sub) rfl (by decide)) Ex_nil
      · have h2' : ¬ b.getD k 0 < a.getD k 0 := by simpa using h2
        have e : voteStep a b v k = v := (if_neg h').trans (if_neg h2')
        rw [e]
        exact Ex_nil.less ⟨rfl, rfl, rfl, rfl, rfl, rfl, trivial⟩
theorem mo_other (B : Blt c) (hc : c.Ok) (cD : D) (xs : List D) (a : List Nat) (ha : a.length = 5) : ∀ (l : List (List Nat)) (cur : List Int), (∀ b ∈ l, b.length = 5) → cur.length + l.length ≤ 100 → xs.length ≤ 100 →
    LoopR (Turn c n moS [] (fTarget moO 1) (fBody moO 1)) (l.map nats) [("columns", .val cD), ("more", .nest xs (cur.map .int)), ("one", .val (nats a))] .next [("columns", .val cD), ("more", .nest xs ((cur ++ l.map (votesM a)).map .int)), ("one", .val (nats a))]
  | [], cur, _, _, _ => by simp only [List.map_nil, List.append_nil]; exact .nil
  | b :: r, cur, hl, hz, hx => by
    simp only [List.length_cons] at hz
    have ih := mo_other B hc cD xs a ha r (cur ++ [votesM a b]) (fun q hq => hl q (.tail _ hq)) (by simp; omega) hx
    rw [List.append_assoc] at ih
    refine .next ⟨[("columns", .val cD), ("more", .nest xs (cur.map .int)), ("one", .val (nats a)), ("other", .val (nats b))], AsgT_name rfl (by decide), ?_⟩ ih
    refine Ex_cons (ExS_assign Ev_int rfl (by decide)) ?_
    refine Ex_cons (ExS_for (d := .rng 0 5) (Ev_callB hc B.range rfl nofun (EvLR_cons EvR_int EvLR_nil) CallR.range1) items5 rfl (mo_k cD xs (cur.map .int) a b ha (hl b (.head _)) (List.range 5) 0 fun k hk => List.mem_range.mp hk) (.inl rfl)) ?_
    refine (Ex_cons (ExS_exprX (EvX_appendLast (d := .int (votesM a b)) (xs := xs) (cur := cur.map .int) rfl rfl ?_ ?_ ?_ ?_)) Ex_nil).less ⟨rfl, ?_, rfl, trivial⟩
    · exact Ev_UnaryOp EvR_int Una.neg
    · exact Ev_name rfl rfl
    · simp; omega
    · omega
    · show some (Slot.nest _ _) = some (Slot.nest _ _)
      rw [List.map_append]; rfl
noncomputable def moreL (cs : List (List Nat)) : List D := cs.map fun a => .lst ((cs.map (votesM a)).map .int)
theorem mo_one (B : Blt c) (hc : c.Ok) (cs : List (List Nat)) (hcs : ∀ a ∈ cs, a.length = 5) (hn : cs.length ≤ 50) : ∀ (l : List (List Nat)) (acc : List D), (∀ a ∈ l, a.length = 5) → acc.length + l.length ≤ 50 →
    LoopR (Turn c n moS [] (fTarget moB 1) (fBody moB 1)) (l.map nats) [("columns", .val (.lst (cs.map nats))), ("more", .lst acc)] .next [("columns", .val (.lst (cs.map nats))), ("more", .lst (acc ++ l.map fun a => .lst ((cs.map (votesM a)).map .int)))]
  | [], acc, _, _ => by simp only [List.map_nil, List.append_nil]; exact .nil
  | a :: r, acc, hl, hz => by
    simp only [List.length_cons] at hz
    have ih := mo_one B hc cs hcs hn r (acc ++ [.lst ((cs.map (votesM a)).map .int)]) (fun q hq => hl q (.tail _ hq)) (by simp; omega)
    rw [List.append_assoc] at ih
    refine .next ⟨[("columns", .val (.lst (cs.map nats))), ("more", .lst acc), ("one", .val (nats a))], AsgT_name rfl (by decide), ?_⟩ ih
    refine Ex_cons (ρ₁ := [("columns", .val (.lst (cs.map nats))), ("more", .nest acc []), ("one", .val (nats a))]) (ExS_exprX (EvX_appendNew rfl rfl (EvNew_List EvL_nil (by decide)) (by omega))) ?_
    have L := mo_other (c := c) (n := n) B hc (.lst (cs.map nats)) acc a (hl a (.head _)) cs [] hcs (by simp; omega) (by omega)
    rw [List.nil_append] at L
    refine Ex_cons (ExS_for (d := .lst (cs.map nats)) (Ev_name rfl rfl) rfl rfl L (.inl rfl)) ?_
    exact (Ex_freezeN (x := "more") (xs := acc) (cur := (cs.map (votesM a)).map .int) rfl Ex_nil).less ⟨rfl, rfl, trivial⟩
theorem mo_fn {fv : Value} {cs : List (List Nat)} (B : Blt c) (hc : c.Ok) (hf : IsFn c fv ["columns"] moB moS) (hcs : ∀ a ∈ cs, a.length = 5) (hn : cs.length ≤ 50) : FnP c 1 fv [.lst (cs.map nats)] (.lst (moreL cs)) := by
  refine FnP_intro (fl := .retF (.lst (moreL cs))) (ρ' := []) hc hf (by decide) rfl ⟨nofun, nofun⟩ ?_
  refine Ex_cons (ExS_assignNew (EvNew_List EvL_nil (by decide)) rfl (by decide)) ?_
  have L := mo_one (c := c) (n := 0) B hc cs hcs hn cs [] hcs (by simp; omega)
  rw [List.nil_append] at L
  refine Ex_cons (ExS_for (d := .lst (cs.map nats)) (Ev_name rfl rfl) rfl rfl L (.inl rfl)) (Ex_stop (ExS_returnOwn rfl rfl))
end Mine
end

section
open PySem PySem.Calls PyProof.Rows PySem.W
set_option maxRecDepth 100000
set_option linter.unusedVariables false
namespace Mine
variable {c : Cx} {n : Nat}
/-! texts in lists -/
theorem inS (a : Str) : ∀ l : List Str, ((D.py.pyAll (l.map .str)).any fun y => PyData.eqv y (D.str a).py) = l.contains a
  | [] => rfl
  | b :: r => by
    have ih := inS a r
    show (PyData.eqv (D.str b).py (D.str a).py || (D.py.pyAll (r.map .str)).any fun y => PyData.eqv y (D.str a).py) = (b :: r).contains a
    rw [ih, List.contains_cons]
    congr 1
    show (b == a) = (a == b)
    by_cases h : b = a
    · subst h; rfl
    · have h1 : (b == a) = false := by simpa using h
      have h2 : (a == b) = false := by simpa using (fun q : a = b => h q.symm)
      rw [h1, h2]
theorem pyAll_strs : ∀ l : List Str, D.py.pyAll (l.map .str) = l.map PyData.str
  | [] => rfl
  | a :: r => by show D.py (.str a) :: D.py.pyAll (r.map .str) = _; rw [pyAll_strs r]; rfl
theorem plainAll_strs : ∀ l : List Str, D.plain.plainAll (l.map .str) = true
  | [] => rfl
  | a :: r => by show (D.plain (.str a) && D.plain.plainAll (r.map .str)) = true; rw [plainAll_strs r]; rfl
theorem canAll_strs : ∀ l : List Str, (∀ x ∈ l, PyData.strOk x = true) → PyData.canLayAll0 (l.map PyData.str) = true
  | [], _ => rfl
  | a :: r, h => by
    show (PyData.canLay0 (.str a) && PyData.canLayAll0 (r.map PyData.str)) = true
    rw [canAll_strs r fun x hx => h x (.tail _ hx)]
    show (PyData.strOk a && true) = true
    rw [h a (.head _)]; rfl
theorem okEq_strs (l : List Str) (h : ∀ x ∈ l, PyData.strOk x = true) : okEq (.lst (l.map .str)) = true := by
  have e : (D.lst (l.map .str)).py = .list (l.map PyData.str) := by show PyData.list _ = _; rw [pyAll_strs]
  unfold okEq
  rw [e]
  have h1 : (D.lst (l.map .str)).plain = true := plainAll_strs l
  have h2 : (PyData.list (l.map PyData.str)).canLay0 = true := canAll_strs l h
  have h3 : (PyData.list (l.map PyData.str)).depth ≤ 64 := by
    show PyData.depthAll _ + 1 ≤ 64
    have := depthAll_strs' l
    omega
  rw [h1, h2, decide_eq_true h3]; rfl
theorem abcd_inj {a b : Nat} (h : abcd a = abcd b) : a = b := by
  unfold abcd at h
  have h1 : (#[97 + a] : Array Nat) = #[97 + b] := congrArg Str.cps h
  have h2 := congrArg Array.toList h1
  simp at h2
  omega
theorem abcds_contains (k : Nat) : ∀ l : List Nat, (l.map abcd).contains (abcd k) = l.contains k
  | [] => rfl
  | a :: r => by
    rw [List.map_cons, List.contains_cons, List.contains_cons, abcds_contains k r]
    congr 1
    by_cases h : k = a
    · subst h; simp
    · have h2 : abcd k ≠ abcd a := fun q => h (abcd_inj q)
      rw [beq_eq_false_iff_ne.mpr h, beq_eq_false_iff_ne.mpr h2]
theorem okEq_abcd {k : Nat} (h : k < 4) : okEq (.str (abcd k)) = true := by
  have : ∀ k, k < 4 → okEq (.str (abcd k)) = true := by decide +kernel
  exact this k h
theorem okEq_abcds {l : List Nat} (h : ∀ x ∈ l, x < 4) : okEq (.lst ((l.map abcd).map .str)) = true := okEq_strs _ fun x hx => by
  obtain ⟨k, hk, rfl⟩ := List.mem_map.mp hx
  have : ∀ k, k < 4 → PyData.strOk (abcd k) = true := by decide +kernel
  exact this k (h k hk)
theorem nodup_le {l : List Nat} : ∀ {l' : List Nat}, l.Nodup → (∀ x ∈ l, x ∈ l') → l.length ≤ l'.length := by
  induction l with
  | nil => intro l' _ _; exact Nat.zero_le _
  | cons a r ih =>
    intro l' nd h
    obtain ⟨n1, n2⟩ := List.nodup_cons.mp nd
    have ha := h a (.head _)
    have := ih (l' := l'.erase a) n2 fun x hx => (List.mem_erase_of_ne (fun (e : x = a) => n1 (e ▸ hx))).mpr (h x (.tail _ hx))
    rw [List.length_erase_of_mem ha] at this
    have hpos := List.length_pos_of_mem ha
    rw [List.length_cons]; omega
theorem le4 {s : List Nat} (nd : s.Nodup) (h : ∀ z ∈ s, z < 4) : s.length ≤ 4 := nodup_le (l' := List.range 4) nd fun x hx => List.mem_range.mpr (h x hx)
/-! the table of those that are ahead -/
noncomputable def capD (k : Nat) : Str := ⟨#[65 + k]⟩
/-- great letter or small, the one ahead, the other -/
noncomputable abbrev Edge := Bool × Nat × Nat
noncomputable def nameOf (g : Bool) (x : Nat) : Str := if g then capD x else abcd x
noncomputable def rowOf (e : Edge) : Str × Str := (nameOf e.1 e.2.1, abcd e.2.2)
noncomputable def tabOf (es : List Edge) : Rows := es.map rowOf
noncomputable def EdgeOk (es : List Edge) : Prop := ∀ e ∈ es, e.2.1 < 4 ∧ e.2.2 < 4
theorem names_ok : ∀ (g : Bool) (x : Nat), x < 4 → Txt.lower (nameOf g x) = abcd x ∧ (nameOf g x).length ≤ 10 := by
  have h1 : ∀ x, x < 4 → Txt.lower (capD x) = abcd x ∧ (capD x).length ≤ 10 := by decide +kernel
  have h2 : ∀ x, x < 4 → Txt.lower (abcd x) = abcd x ∧ (abcd x).length ≤ 10 := by decide +kernel
  intro g x hx
  cases g with
  | true => exact h1 x hx
  | false => exact h2 x hx
theorem upper_ok : ∀ x, x < 4 → Txt.lower (Txt.upper (abcd x)) = abcd x ∧ (Txt.upper (abcd x)).length ≤ 10 ∧ (abcd x).length ≤ 10 ∧ (abcd x).cps.size ≤ 10 := by decide +kernel
noncomputable def outs (es : List Edge) (x : Nat) : List Nat := (es.filter fun e => e.2.1 == x).map (·.2.2)
theorem getAll_tab {x : Nat} (hx : x < 4) : ∀ es : List Edge, EdgeOk es → getAllM (tabOf es) (Txt.upper (abcd x)) = (outs es x).map abcd
  | [], _ => rfl
  | e :: r, h => by
    have ih := getAll_tab hx r fun q hq => h q (.tail _ hq)
    obtain ⟨g, a, b⟩ := e
    have ha := (h _ (.head _)).1
    unfold getAllM tabOf at ih ⊢
    unfold outs at ih ⊢
    rw [List.map_cons, List.filter_cons, List.filter_cons]
    have e1 : (Txt.lower (rowOf (g, a, b)).1 == Txt.lower (Txt.upper (abcd x))) = (a == x) := by
      show (Txt.lower (nameOf g a) == _) = _
      rw [(names_ok g a ha).1, (upper_ok x hx).1]
      by_cases q : a = x
      · subst q; simp
      · rw [beq_eq_false_iff_ne.mpr q, beq_eq_false_iff_ne.mpr fun w => q (abcd_inj w)]
    rw [e1]
    by_cases q : (a == x) = true
    · rw [if_pos q, if_pos q, List.map_cons, List.map_cons, List.map_cons, ih]; rfl
    · rw [if_neg q, if_neg q, ih]
theorem tab_keys {es : List Edge} (h : EdgeOk es) : ∀ kv ∈ tabOf es, kv.1.length ≤ 1000 := fun kv hkv => by
  obtain ⟨e, he, rfl⟩ := List.mem_map.mp hkv
  exact Nat.le_trans (names_ok e.1 e.2.1 (h e he).1).2 (by decide)
/-! _law_reached -/
noncomputable def addM (seen : List Nat) (o : Nat) : List Nat := if seen.contains o then seen else seen ++ [o]
noncomputable def reachGo (es : List Edge) : Nat → List Nat → Nat → List Nat
  | 0, seen, _ => seen
  | k + 1, seen, p => if p < seen.length then reachGo es k ((outs es (seen.getD p 0)).foldl addM seen) (p + 1) else seen
noncomputable def reachM (es : List Edge) (y : Nat) : List Nat := reachGo es 5 [y] 0
theorem addM_ok {seen : List Nat} {o : Nat} (nd : seen.Nodup) (lt : ∀ z ∈ seen, z < 4) (ho : o < 4) : (addM seen o).Nodup ∧ ∀ z ∈ addM seen o, z < 4 := by
  unfold addM
  cases h : seen.contains o with
  | true => exact ⟨nd, lt⟩
  | false =>
    have hn : o ∉ seen := fun q => by rw [List.contains_iff_mem.mpr q] at h; cases h
    refine ⟨List.nodup_append.mpr ⟨nd, by simp, fun a ha b hb z => hn ?_⟩, fun z hz => ?_⟩
    · rw [← List.mem_singleton.mp hb, ← z]; exact ha
    · rcases List.mem_append.mp hz with hz | hz
      · exact lt z hz
      · rw [List.mem_singleton.mp hz]; exact ho
theorem addMs_ok : ∀ (l : List Nat) {seen : List Nat}, seen.Nodup → (∀ z ∈ seen, z < 4) → (∀ z ∈ l, z < 4) → (l.foldl addM seen).Nodup ∧ ∀ z ∈ l.foldl addM seen, z < 4
  | [], _, nd, lt, _ => ⟨nd, lt⟩
  | o :: r, _, nd, lt, h => let ⟨a, b⟩ := addM_ok nd lt (h o (.head _)); addMs_ok r a b fun z hz => h z (.tail _ hz)
theorem outs_lt {es : List Edge} (h : EdgeOk es) (x : Nat) : ∀ z ∈ outs es x, z < 4 := fun z hz => by
  obtain ⟨e, he, rfl⟩ := List.mem_map.mp hz
  exact (h e (List.mem_filter.mp he).1).2
theorem reachGo_ok {es : List Edge} (h : EdgeOk es) : ∀ (k : Nat) {seen : List Nat} (p : Nat), seen.Nodup → (∀ z ∈ seen, z < 4) → (reachGo es k seen p).Nodup ∧ ∀ z ∈ reachGo es k seen p, z < 4
  | 0, _, _, nd, lt => ⟨nd, lt⟩
  | k + 1, seen, p, nd, lt => by
    unfold reachGo
    by_cases q : p < seen.length
    · rw [if_pos q]
      obtain ⟨a, b⟩ := addMs_ok (outs es (seen.getD p 0)) nd lt (outs_lt h _)
      exact reachGo_ok h k (p + 1) a b
    · rw [if_neg q]; exact ⟨nd, lt⟩
noncomputable abbrev reB := defBody pw "_law_reached"
noncomputable abbrev reS := defScope pw "_law_reached"
noncomputable abbrev reW := wBody reB 2
noncomputable abbrev reρ (C : Addr) (es : List Edge) (y : Nat) (seen : List Nat) (p : Nat) : Vars := [("table", .val (instD C (tabOf es))), ("letter", .val (.str (abcd y))), ("seen", .lst ((seen.map abcd).map .str)), ("place", .val (dN p))]
theorem re_in (C : Addr) (es : List Edge) (y p : Nat) : ∀ (l seen : List Nat), seen.Nodup → (∀ z ∈ seen, z < 4) → (∀ z ∈ l, z < 4) →
    LoopR (Turn c n reS [] (fTarget reW 0) (fBody reW 0)) ((l.map abcd).map .str) (reρ C es y seen p) .next (reρ C es y (l.foldl addM seen) p)
  | [], seen, _, _, _ => .nil
  | o :: r, seen, nd, lt, hl => by
    have ho := hl o (.head _)
    obtain ⟨nd', lt'⟩ := addM_ok nd lt ho
    refine .next ⟨_, AsgT_name rfl (by decide), ?_⟩ (re_in C es y p r (addM seen o) nd' lt' fun z hz => hl z (.tail _ hz))
    have te : Te c n reS (Vars.put (reρ C es y seen p) "other" (.val (.str (abcd o)))) (iTest (fBody reW 0) 0) (!seen.contains o) := by
      refine (Te_Compare (a := .str (abcd o)) (b := .lst ((seen.map abcd).map .str)) (EvR_name rfl rfl) (EvR_own rfl rfl) (Cmp.notInL (okEq_abcd ho) (okEq_abcds lt))).conv ?_
      rw [inS, abcds_contains]
    have h4 := le4 nd lt
    refine (Ex_cons (ρ₁ := Vars.put (reρ C es y (addM seen o) p) "other" (.val (.str (abcd o)))) (ExS_if te (fun h => ?_) (fun h => ?_)) Ex_nil).less ⟨rfl, rfl, rfl, rfl, trivial⟩
    · have h' : seen.contains o = false := by simpa using h
      refine (Ex_cons (ExS_exprX (EvX_append rfl rfl (EvX.of (Ev_name rfl rfl)) rfl (by simp; omega))) Ex_nil).less ⟨rfl, rfl, ?_, rfl, rfl, trivial⟩
      unfold addM
      rw [h']
      show some (Slot.lst _) = some (Slot.lst _)
      simp
    · have h' : seen.contains o = true := by simpa using h
      have e : addM seen o = seen := by unfold addM; rw [h']; rfl
      rw [e]; exact Ex_nil
theorem seen_at {seen : List Nat} {p : Nat} (h : p < seen.length) : ((seen.map abcd).map D.str)[((p : Int)).toNat]? = some (.str (abcd (seen.getD p 0))) := by
  rw [Int.toNat_natCast, List.map_map, List.getElem?_map, List.getElem?_eq_getElem h, List.getD_eq_getElem?_getD, List.getElem?_eq_getElem h]; rfl
/-- what the patterns must say of the letters -/
structure PatOk (nc vc : Array Nat) : Prop where
  low : ∀ k, k < 4 → missB nc (abcd k) = true
  cap : ∀ k, k < 4 → missB nc (capD k) = true
  val : ∀ k, k < 4 → missB vc (abcd k) = true
theorem re_loop {C : Addr} {nc vc : Array Nat} (hc : c.Ok) (B : Blt c) (H : HdK c C nc vc) (PO : PatOk nc vc) {es : List Edge} (he : EdgeOk es) (hz : es.length ≤ 100) (y : Nat) : ∀ (k : Nat) (seen : List Nat) (p : Nat), seen.Nodup → (∀ z ∈ seen, z < 4) → 4 < k + p →
    ∃ p', WhileR c 2 reS [] (wTest reB 2) reW (k + 1) (reρ C es y seen p) .next (reρ C es y (reachGo es k seen p) p')
  | k, seen, p, nd, lt, hk => by
    have h4 := le4 nd lt
    have te : Te c 2 reS (reρ C es y seen p) (wTest reB 2) (decide (p < seen.length)) :=
      (Te_Compare (EvR_name rfl rfl) (.of (Ev_callB hc B.len rfl nofun (EvLR_cons (EvR_own rfl rfl) EvLR_nil) (CallR.lenL (by simp; omega)))) Cmp.lt).conv (by simp)
    cases k with
    | zero =>
      refine ⟨p, .done (te.conv ?_)⟩
      have : ¬ p < seen.length := by omega
      simp [this]
    | succ k =>
      unfold reachGo
      by_cases q : p < seen.length
      · rw [if_pos q]
        have hs : seen.getD p 0 < 4 := lt _ (by rw [List.getD_eq_getElem?_getD, List.getElem?_eq_getElem q]; exact List.getElem_mem q)
        obtain ⟨a, b⟩ := addMs_ok (outs es (seen.getD p 0)) nd lt (outs_lt he _)
        obtain ⟨p', W⟩ := re_loop hc B H PO he hz y k _ (p + 1) a b (by omega)
        refine ⟨p', .next (te.conv (by simp [q])) ?_ W⟩
        obtain ⟨fg, fdg, hMg, Dg, hbg⟩ := H.getall
        obtain ⟨u1, u2, u3, u4⟩ := upper_ok _ hs
        have hga := getAll_tab hs es he
        have fn := (getall_fn (hs := tabOf es) (nm := Txt.upper (abcd (seen.getD p 0))) hc H Dg hbg (by rw [u1]; exact PO.low _ hs) (by omega) (by rw [u1]; omega) (by unfold tabOf; rw [List.length_map]; omega) (tab_keys he)).p
        rw [hga] at fn
        refine Ex_cons (ExS_for (d := .lst (((outs es (seen.getD p 0)).map abcd).map .str)) ?_ rfl rfl (re_in C es y p (outs es (seen.getD p 0)) seen nd lt (outs_lt he _)) (.inl rfl)) ?_
        · refine Ev_meth hc hMg (Ev_name rfl rfl) rfl (EvL_cons (Ev_upper (Ev_Sub (EvR_own rfl rfl) (EvR_name rfl rfl) (Itm.lst (by omega) (seen_at q) (by omega))) (by omega)) EvL_nil) fn
        · exact (Ex_cons (ExS_assign (d := dN (p + 1)) ((Ev_BinOp (EvR_name rfl rfl) EvR_int Bin.add).conv rfl) rfl (by decide)) Ex_nil).less ⟨rfl, rfl, rfl, rfl, trivial⟩
      · rw [if_neg q]
        exact ⟨p, .done (te.conv (by simp [q]))⟩
theorem re_fn {fv : Value} {C : Addr} {nc vc : Array Nat} {es : List Edge} {y : Nat} (B : Blt c) (hc : c.Ok) (H : HdK c C nc vc) (PO : PatOk nc vc) (hf : IsFn c fv ["table", "letter"] reB reS) (he : EdgeOk es) (hz : es.length ≤ 100) (hy : y < 4) : FnF c 3 fv [instD C (tabOf es), .str (abcd y)] (lst ((reachM es y).map abcd)) := by
  refine FnF_intro (ρ' := []) hc hf (by decide) rfl ?_
  refine Ex_cons (ExS_assignNew (EvNew_List (EvL_cons (Ev_name rfl rfl) EvL_nil) (Nat.le_of_ble_eq_true rfl)) rfl (by decide)) ?_
  refine Ex_cons (ExS_assign (d := dN 0) Ev_int rfl (by decide)) ?_
  obtain ⟨p', W⟩ := re_loop hc B H PO he hz y 5 [y] 0 (by simp) (fun z hz => by rw [List.mem_singleton.mp hz]; exact hy) (by decide)
  exact Ex_cons (ExS_while W) (Ex_stop (ExS_returnOwn rfl rfl))
end Mine
end

section
open PySem PySem.Calls PyProof.Rows PySem.W
set_option maxRecDepth 100000
set_option linter.unusedVariables false
namespace Mine
variable {c : Cx} {n : Nat}
section
variable {sc : Scope} {pn : List Str} {ρ : Vars} {lt : D → D → Bool} {ok : D → Prop}
/-- x, y = a call that turns -/
theorem ExS_assignTupX {es : List Expr} {k : Nat} {p pos : Pos} {value : Expr} {ds : List D} {ρ₁ ρ' : Vars} (h : EvX c n sc pn ρ value (.tup ds) ρ₁) (ha : AsgL c n sc pn ρ₁ es ds ρ') (hw : ∀ env, swappedStores [.Tuple es k p] value env = pure none := by exact fun _ => rfl) (hv : plainVal value = true := by rfl) :
    ExS c n sc pn ρ (.Assign [.Tuple es k p] value pos) .next ρ' := fun A env pins F P s R ok hp S => by
  refine Assign_Tuple (wpAny_mono (h A env pins F P s R ok hp S) (fun v s₁ hp1 => ?_) fun _ _ x => x) (by unfold swapsWithSole; exact swaps_plain hv) (hw env)
  obtain ⟨F₁, P₁, T₁, X₁, S₁, r₁⟩ := hp1
  exact wpAny_mono (AsgT_tup ha A env pins F₁ P₁ s₁ v R ok hp S₁ r₁) (fun _ s₂ hp6 => by obtain ⟨P₂, T₂, X₂, S₂⟩ := hp6; exact ⟨F₁, P₂, T₁.trans T₂, X₁.trans X₂, S₂, .next⟩) fun _ _ x => x
/-! the heaps' calls -/
structure HpK (c : Cx) : Prop where
  push : ∃ fv, Callee c "heappush" fv ∧ IsFn c fv ["heap", "item"] hpuB hpuS
  pop : ∃ fv, Callee c "heappop" fv ∧ IsFn c fv ["heap"] hpoB hpoS
  down : ∃ fv, Callee c "_siftdown" fv ∧ IsFn c fv ["heap", "startpos", "pos"] sdB sdS
  up : ∃ fv, Callee c "_siftup" fv ∧ IsFn c fv ["heap", "pos"] suB suS
theorem ExS_push (hc : c.Ok) (K : HpK c) (B : Blt c) (hlt : ∀ a b, ok a → ok b → Cmp c .Lt a b (lt a b)) {x : Str} {p px pos spos : Pos} {e : Expr} {d : D} {h : List D} (hok : ∀ d ∈ h, ok d) (hd : ok d) (hz : h.length < 1000) (hn : 2 ≤ n) (hi : isGlb sc "heappush" = true) (hx : ρ.lookup x = some (.lst h)) (hl : isLoc sc x = true) (he : Ev c n sc ρ e d)
    (hp : [e].all plainArg = true := by rfl) (hi2 : sc.more.any (fun q => q.1 == ("interactive" : Str)) = false := by rfl) : ExS c n sc pn ρ (.Expr (.Call (.Name "heappush" p) [.Name x px, e] [] pos) spos) .next (Vars.put ρ x (.lst (hpush lt h d))) := by
  obtain ⟨fv, g, hf⟩ := K.push
  obtain ⟨fd, gd, hfd⟩ := K.down
  exact ExS_exprX (EvX_callM hc g ((heappush_fn hc hf B.len gd hfd hlt hok hd hz).le hn) hi hx hl (EvL_cons he EvL_nil (by simpa using hp)) hp) rfl hi2
/-- heappop(heap) -/
theorem EvX_popH (hc : c.Ok) (K : HpK c) (B : Blt c) (hlt : ∀ a b, ok a → ok b → Cmp c .Lt a b (lt a b)) {x : Str} {p px pos : Pos} {h : List D} {d : D} (hne : h ≠ []) (hok : ∀ d ∈ h, ok d) (hz : h.length ≤ 1000) (hn : 3 ≤ n) (hi : isGlb sc "heappop" = true) (hx : ρ.lookup x = some (.lst h)) (hl : isLoc sc x = true) (hk : (hpop lt h).1 = d) :
    EvX c n sc pn ρ (.Call (.Name "heappop" p) [.Name x px] [] pos) d (Vars.put ρ x (.lst (hpop lt h).2)) := by
  obtain ⟨fv, g, hf⟩ := K.pop
  obtain ⟨fd, gd, hfd⟩ := K.down
  obtain ⟨fu, gu, hfu⟩ := K.up
  have hh := (heappop_fn hc hf B.len gu hfu gd hfd hlt hne hok hz).le hn
  rw [hk] at hh
  exact EvX_callM hc g hh hi hx hl EvL_nil
end
theorem hpop_all {lt : D → D → Bool} {ok : D → Prop} {h : List D} (hne : h ≠ []) (hok : ∀ d ∈ h, ok d) : ok (hpop lt h).1 ∧ (∀ d ∈ (hpop lt h).2, ok d) ∧ (hpop lt h).2.length + 1 = h.length := by
  have e : h = h.dropLast ++ [h.getLastD .none] := by
    rw [List.getLastD_eq_getLast?, List.getLast?_eq_some_getLast hne]; exact (List.dropLast_concat_getLast hne).symm
  unfold hpop
  generalize h.getLastD .none = d at e ⊢
  generalize h.dropLast = ys at e ⊢
  subst e
  have hd : ok d := hok d (by simp)
  cases ys with
  | nil => exact ⟨hd, fun _ q => (nomatch q), rfl⟩
  | cons y ys =>
    have hy : ∀ e ∈ d :: ys, ok e := fun e he => by
      rcases List.mem_cons.mp he with rfl | q
      · exact hd
      · exact hok e (by simp [q])
    exact ⟨hok y (by simp), su_all lt (d :: ys) (by simp) hy, by show (su lt (d :: ys)).length + 1 = _; rw [su_len]; simp⟩
theorem FnF.le {m : Nat} {fv : Value} {ds : List D} {d : D} (h : FnF c n fv ds d) (hm : n ≤ m) : FnF c m fv ds d := fun A F s vs R => h A F s vs (R.le hm)
theorem FnH.le {m : Nat} {fv : Value} {C : Addr} {xs ds xs' : List D} (h : FnH c n fv C xs ds xs') (hm : n ≤ m) : FnH c m fv C xs ds xs' := fun A F s x l vs R => h A F s x l vs (R.le hm)
theorem FnHI.le {m : Nat} {fv : Value} {C : Addr} (h : FnHI c n fv C) (hm : n ≤ m) : FnHI c m fv C := fun A F s x dx R => h A F s x dx (R.le hm)
theorem hpush_len (lt : D → D → Bool) (h : List D) (d : D) : (hpush lt h d).length = h.length + 1 := by
  unfold hpush
  rw [sd_len]; simp
/-! the heap of pairs -/
noncomputable def intOf : D → Int
  | .int i => i
  | _ => 0
noncomputable def pairOf : D → Pair
  | .tup [a, b, d] => (intOf a, (intOf b).toNat, (intOf d).toNat)
  | _ => (0, 0, 0)
theorem pairOf_D (p : Pair) : pairOf (pairD p) = p := by
  obtain ⟨w, x, y⟩ := p
  show (w, ((x : Int)).toNat, ((y : Int)).toNat) = _
  rw [Int.toNat_natCast, Int.toNat_natCast]
noncomputable def key3 (p : Pair) : List Int := [p.1, p.2.1, p.2.2]
noncomputable def ltP (a b : D) : Bool := lexLt (key3 (pairOf a)) (key3 (pairOf b))
noncomputable def okP (d : D) : Prop := ∃ p : Pair, d = pairD p ∧ p.2.1 < 4 ∧ p.2.2 < 4
theorem ltP_cmp (a b : D) (ha : okP a) (hb : okP b) : Cmp c .Lt a b (ltP a b) := by
  obtain ⟨p, rfl, _⟩ := ha
  obtain ⟨q, rfl, _⟩ := hb
  unfold ltP
  rw [pairOf_D, pairOf_D]
  exact Cmp.ltInts (key3 p) (key3 q)
/-! _law_locked -/
noncomputable def heapM (l : List Pair) : List D := l.foldl (fun h p => hpush ltP h (pairD p)) []
noncomputable def oddB (w : Int) : Bool := w.fmod 2 == 1
noncomputable def accB (es : List Edge) (p : Pair) : Bool := !(reachM es p.2.2).contains p.2.1
noncomputable def lockStep (es : List Edge) (p : Pair) : List Edge := if accB es p = true then es ++ [(oddB p.1, p.2.1, p.2.2)] else es
noncomputable def lockGo : Nat → List D → List Edge → List Edge
  | _, [], es => es
  | 0, _ :: _, es => es
  | k + 1, d :: h, es => lockGo k (hpop ltP (d :: h)).2 (lockStep es (pairOf (hpop ltP (d :: h)).1))
noncomputable abbrev loB := defBody pw "_law_locked"
noncomputable abbrev loS := defScope pw "_law_locked"
noncomputable abbrev loW := wBody loB 3
theorem lo_push (hc : c.Ok) (K : HpK c) (B : Blt c) (mD : D) : ∀ (l : List Pair) (h : List D), (∀ p ∈ l, p.2.1 < 4 ∧ p.2.2 < 4) → (∀ d ∈ h, okP d) → h.length + l.length ≤ 900 →
    LoopR (Turn c 4 loS [] (fTarget loB 1) (fBody loB 1)) (l.map pairD) [("more", .val mD), ("heap", .lst h)] .next [("more", .val mD), ("heap", .lst (l.foldl (fun h p => hpush ltP h (pairD p)) h))] ∧ (∀ d ∈ l.foldl (fun h p => hpush ltP h (pairD p)) h, okP d) ∧ (l.foldl (fun h p => hpush ltP h (pairD p)) h).length = h.length + l.length
  | [], h, _, hok, _ => ⟨.nil, hok, rfl⟩
  | p :: r, h, hl, hok, hz => by
    simp only [List.length_cons] at hz
    have hp : okP (pairD p) := ⟨p, rfl, hl p (.head _)⟩
    obtain ⟨L, o, z⟩ := lo_push hc K B mD r (hpush ltP h (pairD p)) (fun q hq => hl q (.tail _ hq)) (hpush_all ltP hok hp) (by rw [hpush_len]; omega)
    refine ⟨.next ⟨_, AsgT_name rfl (by decide), ?_⟩ L, o, by rw [List.foldl_cons, z, hpush_len, List.length_cons]; omega⟩
    exact (Ex_cons (ExS_push hc K B ltP_cmp hok hp (by omega) (by decide) rfl rfl rfl (Ev_name rfl rfl)) Ex_nil).less ⟨rfl, rfl, trivial⟩
theorem pairs_lt (M : Mat) : ∀ p ∈ pairsM M, p.2.1 < 4 ∧ p.2.2 < 4 := fun p hp => by
  unfold pairsM at hp
  obtain ⟨x, hx, hp⟩ := List.mem_flatMap.mp hp
  obtain ⟨y, hy, rfl⟩ := List.mem_map.mp hp
  exact ⟨List.mem_range.mp hx, List.mem_range.mp (List.mem_filter.mp hy).1⟩
theorem pairs_len (M : Mat) : (pairsM M).length ≤ 16 := by
  have h : ∀ l : List Nat, (l.flatMap fun x => ((List.range 4).filter (inM M x)).map fun y => (-M x y, x, y)).length ≤ 4 * l.length := fun l => by
    induction l with
    | nil => exact Nat.le_refl _
    | cons x r ih =>
      rw [List.flatMap_cons, List.length_append, List.length_map, List.length_cons]
      have : ((List.range 4).filter (inM M x)).length ≤ 4 := Nat.le_trans (List.length_filter_le _ _) (by decide)
      omega
  exact h (List.range 4)
theorem lockStep_ok {es : List Edge} (he : EdgeOk es) {p : Pair} (hp : p.2.1 < 4 ∧ p.2.2 < 4) : EdgeOk (lockStep es p) ∧ (lockStep es p).length ≤ es.length + 1 := by
  unfold lockStep
  split
  · exact ⟨fun e h => by
      rcases List.mem_append.mp h with h | h
      · exact he e h
      · rw [List.mem_singleton.mp h]; exact hp, by simp⟩
  · exact ⟨he, Nat.le_succ _⟩
noncomputable abbrev loρ (mD : D) (C : Addr) (es : List Edge) (h : List D) : Vars := [("more", .val mD), ("heap", .lst h), ("table", .hdr C (rowsD (tabOf es)))]
theorem two_at (g : Bool) : ([D.str "abcd", D.str "ABCD"] : List D)[((if g then (1 : Int) else 0)).toNat]? = some (.str (if g then "ABCD" else "abcd")) := by cases g <;> rfl
theorem CAP_at : ∀ k : Nat, k < 4 → seqIndex? (k : Int) ("ABCD" : Str).length = some k ∧ ("ABCD" : Str).cps[k]? = some (65 + k) := by decide +kernel
theorem fmod2 (w : Int) : w.fmod 2 = if oddB w then 1 else 0 := by
  have h1 := Int.fmod_nonneg_of_pos w (b := 2) (by decide)
  have h2 := Int.fmod_lt_of_pos w (b := 2) (by decide)
  unfold oddB
  by_cases h : w.fmod 2 = 1
  · rw [h]; rfl
  · have : w.fmod 2 = 0 := by omega
    rw [this]; rfl
/-- ('abcd', 'ABCD')[fewer % 2][x] -/
theorem Ev_sideName {sc : Scope} {ρ : Vars} {t1 t2 t3 : Nat} {p1 p2 p3 p4 p5 p6 p7 p8 p9 : Pos} {w : Int} {x : Nat} (hx : x < 4) (hw : ρ.lookup ("fewer" : Str) = some (.val (.int w))) (hlw : isLoc sc "fewer" = true) (hxx : ρ.lookup ("x" : Str) = some (.val (.int x))) (hlx : isLoc sc "x" = true) :
    Ev c n sc ρ (.Subscript (.Subscript (.Tuple [.Constant (.str "abcd") t1 p1, .Constant (.str "ABCD") t2 p2] 0 p3) (.BinOp (.Name "fewer" p4) .Mod (.Constant (.int 2) t3 p5) p6) p7) (.Name "x" p8) p9) (.str (nameOf (oddB w) x)) := by
  have e1 : Ev c n sc ρ (.Subscript (.Tuple [.Constant (.str "abcd") t1 p1, .Constant (.str "ABCD") t2 p2] 0 p3) (.BinOp (.Name "fewer" p4) .Mod (.Constant (.int 2) t3 p5) p6) p7) (.str (if oddB w then "ABCD" else "abcd")) :=
    Ev_Sub (.of (Ev_Tuple (EvL_cons Ev_str (EvL_cons Ev_str EvL_nil)) (by decide))) (.of (Ev_BinOp (EvR_name hw hlw) EvR_int (Bin.mod (by decide)))) (by rw [fmod2]; exact Itm.tup (by split <;> decide) (two_at _) (by split <;> decide))
  refine Ev_Sub (.of e1) (EvR_name hxx hlx) ?_
  unfold nameOf
  cases oddB w with
  | true => exact Itm.str (k := x) (cp := 65 + x) (CAP_at x hx).1 (CAP_at x hx).2 (by omega) (by omega)
  | false => exact Itm.str (k := x) (cp := 97 + x) (abcd_at x hx).1 (abcd_at x hx).2 (by omega) (by omega)
theorem tabOf_snoc (es : List Edge) (e : Edge) : rowsD (tabOf (es ++ [e])) = rowsD (tabOf es) ++ [rowD (rowOf e)] := by
  unfold rowsD tabOf; rw [List.map_append, List.map_append]; rfl
theorem lo_while {C : Addr} {nc vc : Array Nat} (hc : c.Ok) (K : HpK c) (B : Blt c) (H : HdK c C nc vc) (PO : PatOk nc vc) {fr : Value} (gr : Callee c "_law_reached" fr) (hr : IsFn c fr ["table", "letter"] reB reS) (mD : D) : ∀ (f : Nat) (h : List D) (es : List Edge), h.length ≤ f → f ≤ 100 → EdgeOk es → es.length + f ≤ 90 → (∀ d ∈ h, okP d) →
    WhileR c 4 loS [] (wTest loB 3) loW (f + 1) (loρ mD C es h) .next (loρ mD C (lockGo f h es) []) ∧ EdgeOk (lockGo f h es) ∧ (lockGo f h es).length ≤ 90
  | f, [], es, _, _, he, hz, _ => by
    have e : lockGo f [] es = es := by cases f <;> rfl
    rw [e]
    exact ⟨.done (Te_plain (EvR_own rfl rfl) (Tru.lst (by simp))), he, by omega⟩
  | 0, d :: h, es, hl, _, _, _, _ => by simp at hl
  | f + 1, d :: h, es, hl, hf, he, hz, hok => by
    have te : Te c 4 loS (loρ mD C es (d :: h)) (wTest loB 3) true := Te_plain (EvR_own rfl rfl) (Tru.lst (by omega))
    obtain ⟨o1, o2, o3⟩ := hpop_all (lt := ltP) (h := d :: h) nofun hok
    obtain ⟨p, ep, hp⟩ := o1
    obtain ⟨q1, q2⟩ := lockStep_ok he hp
    unfold lockGo
    rw [ep, pairOf_D]
    obtain ⟨W, i1, i2⟩ := lo_while hc K B H PO gr hr mD f (hpop ltP (d :: h)).2 (lockStep es p) (by omega) (by omega) q1 (by omega) o2
    refine ⟨.next te ?_ W, i1, i2⟩
    obtain ⟨w, x, y⟩ := p
    have hx : x < 4 := hp.1
    have hy : y < 4 := hp.2
    generalize hh : (hpop ltP (d :: h)).2 = h2 at *
    have e0 : ExS c 4 loS [] (loρ mD C es (d :: h)) (sAt loW 0) .next (Vars.put (Vars.put (Vars.put (loρ mD C es h2) "fewer" (.val (.int w))) "x" (.val (.int x))) "y" (.val (.int y))) := by
      refine ExS_assignTupX (ρ₁ := Vars.put (loρ mD C es (d :: h)) "heap" (.lst (hpop ltP (d :: h)).2)) (EvX_popH (ok := okP) hc K B ltP_cmp nofun hok (by omega) (by decide) rfl rfl rfl ep) ?_
      rw [hh]
      exact .cons (AsgT_name rfl (by decide)) (.cons (AsgT_name rfl (by decide)) (.cons (AsgT_name rfl (by decide)) .nil))
    refine Ex_cons e0 ?_
    have te2 : Te c 4 loS (Vars.put (Vars.put (Vars.put (loρ mD C es h2) "fewer" (.val (.int w))) "x" (.val (.int x))) "y" (.val (.int y))) (iTest loW 1) (accB es (w, x, y)) := by
      refine (Te_Compare (a := .str (abcd x)) (b := lst ((reachM es y).map abcd)) (.of (Ev_abcd hx (EvR_name rfl rfl))) (.of (Ev_callHdrArg (xs := rowsD (tabOf es)) hc gr ((re_fn B hc H PO hr he (by omega) hy).le (show 3 ≤ 4 by decide)) rfl rfl rfl (EvL_cons (Ev_abcd hy (EvR_name rfl rfl)) EvL_nil) fun q hq => ?_)) (Cmp.notInL (okEq_abcd hx) (okEq_abcds (reachGo_ok he 5 0 (by simp) (fun z hz => by rw [List.mem_singleton.mp hz]; exact hy)).2))).conv ?_
      · obtain ⟨s, _, rfl⟩ := List.mem_map.mp hq; rfl
      · rw [inS, abcds_contains]; rfl
    refine (Ex_cons (ρ₁ := Vars.put (Vars.put (Vars.put (loρ mD C (lockStep es (w, x, y)) h2) "fewer" (.val (.int w))) "x" (.val (.int x))) "y" (.val (.int y))) (ExS_if te2 (fun ht => ?_) (fun ht => ?_)) Ex_nil).less ⟨rfl, rfl, rfl, trivial⟩
    · obtain ⟨fa, fda, hMa, Da, hba⟩ := H.add
      have e1 : lockStep es (w, x, y) = es ++ [(oddB w, x, y)] := if_pos ht
      have ha : FnH c 4 (.ref fa) C (rowsD (tabOf es)) [.str (nameOf (oddB w) x), .str (abcd y)] (rowsD (tabOf (es ++ [(oddB w, x, y)]))) := by
        have := (add_fn (k := nameOf (oddB w) x) (v := abcd y) hc H Da hba (by unfold nameOf; split; exact PO.cap x hx; exact PO.low x hx) (PO.val y hy) (by have := (names_ok (oddB w) x hx).2; exact Nat.le_trans this (by decide)) (by have := (upper_ok y hy).2.2.2; omega) (xs := rowsD (tabOf es)) (by unfold rowsD tabOf; rw [List.length_map, List.length_map]; omega)).le (show 2 ≤ 4 by decide)
        rw [tabOf_snoc]; exact this
      rw [e1]
      exact (Ex_cons (ExS_exprX (EvX_callHdr hc hMa ha (by decide) rfl rfl (EvL_cons (Ev_sideName hx rfl rfl rfl rfl) (EvL_cons (Ev_abcd hy (EvR_name rfl rfl)) EvL_nil)))) Ex_nil).less ⟨rfl, rfl, rfl, rfl, rfl, rfl, trivial⟩
    · have e1 : lockStep es (w, x, y) = es := if_neg (by rw [ht]; decide)
      rw [e1]
      exact Ex_nil
structure ItK (c : Cx) (C : Addr) : Prop where
  items : ∃ f fd, MethK c C "items" f ∧ DefAt c f fd (hdB "items") (hdS "items") ∧ ∀ v0 (s : Shared), Fle c.hB.get? s.heap.get? → BindsTo s fd ⟨[v0], []⟩ [("self", v0)]
theorem items_fn {C : Addr} {nc vc : Array Nat} {f : Addr} {fd : FuncData} {hs : Rows} (hc : c.Ok) (H : HdK c C nc vc) (D0 : DefAt c f fd (hdB "items") (hdS "items")) (hb : ∀ v0 (s : Shared), Fle c.hB.get? s.heap.get? → BindsTo s fd ⟨[v0], []⟩ [("self", v0)]) (hn : hs.length ≤ 1000) : FnF c 1 (.ref f) [instD C hs] (.lst (rowsD hs)) := fun A F s vs R hBF l r => by
  obtain ⟨v0, rfl⟩ : ∃ v0, vs = [v0] := by cases r with | cons a r => cases r; exact ⟨_, rfl⟩
  refine Ret.wp (codeRet_mono (run_val (n := 0) (fl := .retF (.lst (rowsD hs))) (args := ⟨[v0], []⟩) (binds := [("self", v0)]) (ρ0 := ((["self"] : List Str).zip ([instD C hs].map Slot.val))) (ρ' := [("self", .val (instD C hs))]) hc D0 (by show scOk (hdS "items") (["self"] : List Str) = true; decide) R hBF l (fun A' E Q q => hb v0 s (hBF.trans l) _ _ _ _ q) (fun y sl e => zip_own (names := ["self"]) r e) ⟨nofun, nofun⟩ ?_) fun v s' q => ⟨q.1, q.2 _ rfl⟩)
  exact Ex_stop (ExS_returnNew (EvNew_sliceAll (.of (Ev_attr hc H.cls H.hd (Ev_name rfl rfl) rfl)) (by unfold rowsD; rw [List.length_map]; omega)))
noncomputable def lockM (l : List Pair) : List Edge := lockGo l.length (heapM l) []
theorem lo_fn {fv : Value} {C : Addr} {nc vc : Array Nat} (hc : c.Ok) (K : HpK c) (B : Blt c) (H : HdK c C nc vc) (I : ItK c C) (PO : PatOk nc vc) {fr fp : Value} (gr : Callee c "_law_reached" fr) (hr : IsFn c fr ["table", "letter"] reB reS) (gp : Callee c "_law_pairs" fp) (hp : IsFn c fp ["more"] paB paS) (hf : IsFn c fv ["more"] loB loS) {M : Mat} : FnP c 5 fv [matD M] (.lst (rowsD (tabOf (lockM (pairsM M))))) := by
  obtain ⟨fh, fdh, hNh, Dh, hbh⟩ := H.init
  obtain ⟨fi, fdi, hMi, Di, hbi⟩ := I.items
  have hlen := pairs_len M
  obtain ⟨L, o, z⟩ := lo_push hc K B (matD M) (pairsM M) [] (pairs_lt M) (fun _ q => nomatch q) (by simp; omega)
  have z : (heapM (pairsM M)).length = (pairsM M).length := by unfold heapM; rw [z]; simp
  obtain ⟨W, i1, i2⟩ := lo_while (C := C) hc K B H PO gr hr (matD M) (pairsM M).length (heapM (pairsM M)) [] (by omega) (by omega) (fun _ q => nomatch q) (by simp; omega) o
  refine FnP_intro (n := 4) (fl := .ret (.lst (rowsD (tabOf (lockM (pairsM M)))))) (ρ' := loρ (matD M) C (lockM (pairsM M)) []) hc hf (by decide) rfl ⟨nofun, nofun⟩ ?_
  refine Ex_cons (ExS_assignNew (EvNew_List EvL_nil (by decide)) rfl (by decide)) ?_
  refine Ex_cons (ExS_for (d := pairsD (pairsM M)) (Ev_callP hc gp ((pa_fn B hc hp).le (by decide)) rfl (EvL_cons (Ev_name rfl rfl) EvL_nil)) rfl rfl L (.inl rfl)) ?_
  refine Ex_cons (ExS_assignHdr (n := 3) (pn := []) hc H.glb hNh ((hinit_fn hc H Dh hbh).le (by decide)) rfl rfl (by decide)) ?_
  refine Ex_cons (ρ₁ := loρ (matD M) C (lockM (pairsM M)) []) (ExS_while W) ?_
  refine Ex_stop (ExS_return (Ev_hdrListM hc hMi rfl rfl (by decide) EvL_nil ((items_fn hc H Di hbi (hs := tabOf (lockM (pairsM M))) (by unfold tabOf; rw [List.length_map]; exact Nat.le_trans i2 (by decide))).le (by decide)) fun q hq => ?_))
  obtain ⟨kv, _, rfl⟩ := List.mem_map.mp hq
  rfl
end Mine
end

section
open PySem PySem.Calls PyProof.Rows PySem.W
set_option maxRecDepth 100000
set_option linter.unusedVariables false
namespace Mine
variable {c : Cx} {n : Nat}
section
variable {sc : Scope} {pn : List Str} {ρ : Vars}
theorem rd_strs {F : Fz} : ∀ (l : List Str) (k : Nat), RdL F (l.map .str) (strsFrom k l)
  | [], _ => .nil
  | x :: r, k => .cons (.str x k) (rd_strs r (k + 1))
/-- 'a b c'.split() -/
theorem EvNew_split {o : Expr} {apos pos : Pos} {x : Str} {ys : List Str} (ho : Ev c n sc ρ o (.str x)) (hw : (PySem.Builtin.Str.spaceWords x (x.length + 1) == [(0, x.length)]) = false) (hy : PySem.wordsOf x = ys) (hz : x.length ≤ 1000) (hn : (PySem.Builtin.Str.spaceWords x (x.length + 1)).length ≤ 1000) (hm : MethAt o "split" apos [] pos := by exact fun _ => ⟨_, rfl⟩) :
    EvNew c n sc ρ (.Call (.Attribute o "split" apos) [] [] pos) (ys.map .str) := fun A env pins F P s R ok S => by
  refine meth_open hm (wpAny_mono (ho A env pins F P s R ok S) (fun v s₁ hp1 pl => ?_) fun _ _ x => x)
  obtain ⟨F₁, G₁, X₁, r₁⟩ := hp1
  cases r₁ with
  | str _ t =>
    refine getMethod_builtin (typeIs_str s₁ x t) PySem.F.plainAttrs_str PySem.F.slot_str_split PySem.F.type_str_split (fun b q => nomatch q) ?_
    refine callWith_val rfl nofun (spliced_nil ?_)
    have e : sizeLine = 16777216 := by decide
    refine call_meets PySem.F.slot_str_split (typeIs_str _ _ _) PySem.F.entry_str_split (PySem.F.args_str_split_1 _) (meets_str_split_space x t (by omega) (by omega)) ?_
    rw [hw, hy]
    have G2 : Grow F₁ s₁.heap F₁ (s₁.heap.push { cls := .type "list", data := .seq (strsFrom s₁.toks ys).toArray }) := ⟨.refl _, fun _ _ e => .inl e, fun b o e => Heap.get?_push_of_some _ e, fun b o e => Heap.get?_push_of_some _ (G₁.le b o e), by rw [Heap.size_push]; exact Nat.le_succ _⟩
    exact ⟨F₁, s₁.heap.objs.size, G₁.trans G2, X₁.trans ⟨_, _, rfl⟩, rfl, G₁.size, none_of_le G₁.le (Nat.le_refl _), _, ⟨0, Heap.get?_push_size _ rfl⟩, rd_strs ys _⟩
/-- x.extend(e), e a new list -/
theorem EvX_extendNew {x : Str} {p apos pos : Pos} {e : Expr} {xs ys : List D} (hx : ρ.lookup x = some (.lst xs)) (hl : isLoc sc x = true) (he : EvNew c n sc ρ e ys) (hz : xs.length + ys.length ≤ 100000) (hp : plainArg e = true := by rfl) (hm : MethAt (.Name x p) "extend" apos [e] pos := by exact fun _ => ⟨_, rfl⟩) :
    EvX c n sc pn ρ (.Call (.Attribute (.Name x p) "extend" apos) [e] [] pos) .none (Vars.put ρ x (.lst (xs ++ ys))) := fun A env pins F P s R ok hpn S => by
  have S0 := S
  obtain ⟨vm, fp, S⟩ := S
  obtain ⟨a, hv, hf, us, ⟨m, pp⟩, rr⟩ := S.lst hx
  refine meth_open hm (load_var (h := s.heap) ok S.sto hl hv fun pl => ?_)
  refine listMethod ⟨m, pp⟩ PySem.F.slot_list_extend PySem.F.type_list_extend ?_
  refine callWith_val (by rw [starEach_plain hp]; rfl) (fun b q => by cases q) ?_
  rw [starEach_plain hp]
  refine spliced_cons (wpAny_mono (he A env pins F P s R ok S0) (fun v s₁ hp6 => ?_) fun _ _ x => x)
  obtain ⟨F₁, b, G₁, X₁, rfl, hbz, hbF, vs, ⟨m', pp'⟩, rr'⟩ := hp6
  refine spliced_nil ?_
  have S₁ := S.grow G₁
  have pp₁ := G₁.keep _ _ pp
  have e1 : us.size = xs.length := by rw [← Array.length_toList]; exact rr.length
  have e2 : vs.size = ys.length := by rw [← Array.length_toList]; exact rr'.length
  have hz' : us.size + vs.size ≤ sizeLine := by
    have e : sizeLine = 16777216 := by decide
    omega
  refine call_meets PySem.F.slot_list_extend ⟨_, pp₁, rfl⟩ PySem.F.entry_list_extend (PySem.F.args_list_extend_2 _ _) (AutoSeq1.list_extend_list_list_0 a us m b vs m' (extend_door hz') (Nat.le_trans (Nat.le_add_right _ _) hz')) ⟨pp₁, pp', ?_⟩
  obtain ⟨k', hk'⟩ := mapSeq_plain (fun x => x ++ vs) us m
  have sb : Heap.SameBut a s₁.heap (s₁.heap.update a (Obj.mapSeq fun x => x ++ vs)) := Heap.SameBut.update ..
  have hat : (s₁.heap.update a (Obj.mapSeq fun x => x ++ vs)).get? a = some { cls := .type "list", data := .seq (us ++ vs) k' } := by
    rw [← hk']; exact Heap.get?_update_self _ pp₁ (by rw [hk']; rfl)
  have hm₁ : a ∈ fp x := by rw [hf]; exact .head _
  have O : Own (s₁.heap.update a (Obj.mapSeq fun x => x ++ vs)) F₁ (.lst (xs ++ ys)) (.ref a) (fp x) := by rw [hf]; exact .lst ⟨_, ⟨k', hat⟩, by rw [Array.toList_append]; exact (rr.mono G₁.fle).append rr'⟩
  exact ⟨F₁, P, G₁.step.trans (S₁.turnStep hx hm₁ sb), X₁.trans ⟨_, _, rfl⟩, ⟨vm, fp, S₁.turn hx hv O hm₁ sb⟩, .none⟩
end
/-! _law_orders -/
noncomputable def ords1 : List Str := ["abcd", "abdc", "acbd", "acdb", "adbc", "adcb", "bacd", "badc", "bcad", "bcda", "bdac", "bdca"]
noncomputable def ords2 : List Str := ["cabd", "cadb", "cbad", "cbda", "cdab", "cdba", "dabc", "dacb", "dbac", "dbca", "dcab", "dcba"]
noncomputable def ords : List Str := ords1 ++ ords2
theorem ords_ok : ∀ o ∈ ords, OrdOk o ∧ PyData.strOk o = true := by
  have h : ∀ o ∈ ords, (∀ k, k < 4 → (PySem.Builtin.Str.occurrences o (abcd k) 0 o.length 1).isEmpty = false) ∧ PyData.strOk o = true := by decide +kernel
  exact h
noncomputable def ordStep (l : List Str) (p : Pair) : List Str := if (l.filter fun o => hasM o p.2.1 p.2.2).isEmpty = true then l else l.filter fun o => hasM o p.2.1 p.2.2
noncomputable def ordersM (ps : List Pair) : List Str := ps.foldl ordStep ords
theorem ordStep_sub {l : List Str} {p : Pair} (h : ∀ o ∈ l, o ∈ ords) : ∀ o ∈ ordStep l p, o ∈ ords := fun o ho => by
  unfold ordStep at ho
  split at ho
  · exact h o ho
  · exact h o (List.mem_filter.mp ho).1
theorem ordStep_len {l : List Str} {p : Pair} : (ordStep l p).length ≤ l.length := by
  unfold ordStep
  split
  · exact Nat.le_refl _
  · exact List.length_filter_le _ _
theorem ords_fold_sub : ∀ (ps : List Pair) (l : List Str), (∀ o ∈ l, o ∈ ords) → ∀ o ∈ ps.foldl ordStep l, o ∈ ords
  | [], _, h => h
  | p :: r, l, h => ords_fold_sub r (ordStep l p) (ordStep_sub h)
theorem ordersM_sub (ps : List Pair) : ∀ o ∈ ordersM ps, o ∈ ords := ords_fold_sub ps ords fun _ h => h
noncomputable abbrev orB := defBody pw "_law_orders"
noncomputable abbrev orS := defScope pw "_law_orders"
noncomputable abbrev orF := fBody orB 2
theorem eqv_nilS (l : List Str) : PyData.eqv (D.lst (l.map .str)).py (D.lst []).py = l.isEmpty := by
  cases l <;> rfl
theorem or_loop {fh : Value} (hc : c.Ok) (gh : Callee c "_law_has" fh) (hh : IsFn c fh ["order", "x", "y"] haB haS) (pD : D) : ∀ (ps : List Pair) (l : List Str), (∀ p ∈ ps, p.2.1 < 4 ∧ p.2.2 < 4) → (∀ o ∈ l, o ∈ ords) → l.length ≤ 24 →
    LoopR (Turn c 1 orS [] (fTarget orB 2) orF) (ps.map pairD) [("pairs", .val pD), ("orders", .val (lst l))] .next [("pairs", .val pD), ("orders", .val (lst (ps.foldl ordStep l)))]
  | [], l, _, _, _ => .nil
  | p :: r, l, hp, hl, hz => by
    obtain ⟨h1, h2⟩ := hp p (.head _)
    refine .next ⟨[("pairs", .val pD), ("orders", .val (lst l)), ("pair", .val (pairD p))], AsgT_name rfl (by decide), ?_⟩ (or_loop hc gh hh pD r (ordStep l p) (fun q hq => hp q (.tail _ hq)) (ordStep_sub hl) (Nat.le_trans ordStep_len hz))
    have hcomp : CompOf c 1 orS [("pairs", .val pD), ("orders", .val (lst l)), ("pair", .val (pairD p))] (cElt (asgE orF 0)) (cIter (asgE orF 0) 0) "order" (cIfs (asgE orF 0) 0) (cScp (asgE orF 0)) [("pair", .val (pairD p))] ((l.filter fun o => hasM o p.2.1 p.2.2).map .str) := by
      refine ⟨by decide, FreeOk.get ⟨rfl, rfl, trivial⟩, fun _ _ => rfl, lst l, l.map .str, EvR_name rfl rfl, rfl, rfl, by rw [List.length_map]; omega, ?_⟩
      refine compR_of .str (fun o => hasM o p.2.1 p.2.2) .str l (fun o ho => .one ?_) (fun o _ _ => Ev_name rfl rfl)
      refine Te_plain (d := .bool (hasM o p.2.1 p.2.2)) (.of (Ev_callP hc gh (ha_fn hc hh (ords_ok o (hl o ho)).1 h1 h2) rfl (EvL_cons (Ev_name rfl rfl) (EvL_cons ?_ (EvL_cons ?_ EvL_nil))))) Tru.bool
      · exact Ev_Sub (a := pairD p) (EvR_name rfl rfl) EvR_int (Itm.tup (i := 1) (by decide) rfl (by decide))
      · exact Ev_Sub (a := pairD p) (EvR_name rfl rfl) EvR_int (Itm.tup (i := 2) (by decide) rfl (by decide))
    refine Ex_cons (ρ₁ := [("pairs", .val pD), ("orders", .val (lst l)), ("pair", .val (pairD p)), ("like", .val (lst (l.filter fun o => hasM o p.2.1 p.2.2)))]) (ExS_comp hcomp rfl (by decide)) ?_
    have te : Te c 1 orS [("pairs", .val pD), ("orders", .val (lst l)), ("pair", .val (pairD p)), ("like", .val (lst (l.filter fun o => hasM o p.2.1 p.2.2)))] (iTest orF 1) (!(l.filter fun o => hasM o p.2.1 p.2.2).isEmpty) := by
      refine (Te_Compare (a := lst (l.filter fun o => hasM o p.2.1 p.2.2)) (b := .lst []) (EvR_name rfl rfl) (.of (Ev_List EvL_nil (by decide))) (Cmp.neD (okEq_strs _ fun o ho => ?_) rfl)).conv ?_
      · exact (ords_ok o (hl o (List.mem_filter.mp ho).1)).2
      · show (!PyData.eqv (D.lst ((l.filter fun o => hasM o p.2.1 p.2.2).map .str)).py (D.lst []).py) = _
        rw [eqv_nilS]
    refine (Ex_cons (ρ₁ := [("pairs", .val pD), ("orders", .val (lst (ordStep l p))), ("pair", .val (pairD p)), ("like", .val (lst (l.filter fun o => hasM o p.2.1 p.2.2)))]) (ExS_if te (fun ht => ?_) (fun ht => ?_)) Ex_nil).less ⟨rfl, rfl, trivial⟩
    · have e : ordStep l p = l.filter fun o => hasM o p.2.1 p.2.2 := if_neg (by simpa using ht)
      rw [e]
      exact Ex_cons (ExS_assign (Ev_name rfl rfl) rfl (by decide)) Ex_nil
    · have e : ordStep l p = l := if_pos (by simpa using ht)
      rw [e]
      exact Ex_nil
theorem or_fn {fv fh : Value} {ps : List Pair} (hc : c.Ok) (gh : Callee c "_law_has" fh) (hh : IsFn c fh ["order", "x", "y"] haB haS) (hf : IsFn c fv ["pairs"] orB orS) (hp : ∀ p ∈ ps, p.2.1 < 4 ∧ p.2.2 < 4) : FnP c 2 fv [pairsD ps] (lst (ordersM ps)) := by
  refine FnP_intro (n := 1) (fl := .ret (lst (ordersM ps))) (ρ' := [("pairs", .val (pairsD ps)), ("orders", .val (lst (ordersM ps)))]) hc hf (by decide) rfl ⟨nofun, nofun⟩ ?_
  refine Ex_cons (ρ₁ := [("pairs", .val (pairsD ps)), ("orders", .lst (ords1.map .str))]) (ExS_assignNew (EvNew_split (ys := ords1) Ev_str (by decide +kernel) (by decide +kernel) (by decide +kernel) (by decide +kernel)) rfl (by decide)) ?_
  refine Ex_cons (ρ₁ := [("pairs", .val (pairsD ps)), ("orders", .lst (ords.map .str))]) ((ExS_exprX (EvX_extendNew (xs := ords1.map .str) (ys := ords2.map .str) rfl rfl (EvNew_split (ys := ords2) Ev_str (by decide +kernel) (by decide +kernel) (by decide +kernel) (by decide +kernel)) (by decide))).less ⟨rfl, rfl, trivial⟩) ?_
  refine Ex_freeze (x := "orders") (xs := ords.map .str) rfl ?_
  have L := or_loop (c := c) hc gh hh (pairsD ps) ps ords hp (fun _ h => h) (by decide)
  refine Ex_cons (ExS_for (d := pairsD ps) (Ev_name rfl rfl) rfl rfl L (.inl rfl)) ?_
  exact Ex_stop (ExS_return (Ev_name rfl rfl))
end Mine
end

section
open PySem PySem.Calls PyProof.Rows PySem.W
set_option maxRecDepth 100000
set_option linter.unusedVariables false
namespace Mine
variable {c : Cx} {n : Nat}
/-! _law_by_steps -/
noncomputable abbrev byB := defBody pw "_law_by_steps"
noncomputable abbrev byS := defScope pw "_law_by_steps"
noncomputable abbrev byF := fBody byB 1
noncomputable abbrev byL := fBody byF 1
noncomputable abbrev byI := fBody byL 1
noncomputable def plc (o : Str) : List Nat := o.cps.toList.map (· - 97)
theorem plc_ok : ∀ o ∈ ords, (∀ cp ∈ o.cps.toList, (PySem.Builtin.Str.occurrences "abcd" ⟨#[cp]⟩ 0 ("abcd" : Str).length 1).isEmpty = false ∧ Txt.find "abcd" ⟨#[cp]⟩ = ((cp - 97 : Nat) : Int)) ∧ (plc o).length = 4 ∧ ∀ i, i < 4 → (plc o).getD i 0 < 4 := by decide +kernel
noncomputable def maxI (a b : Int) : Int := if b > a then b else a
noncomputable def minI (a b : Int) : Int := if b < a then b else a
/-- ways: what was found so far, the last one first -/
noncomputable abbrev Ways := List (Int × Int)
noncomputable def wl (ws : Ways) (k : Nat) : Int := (ws.lookup (k : Int)).getD 0
noncomputable def gOf (ws : Ways) : Int → Option D := fun k => (ws.lookup k).map D.int
theorem gOf_cons (ws : Ways) (i b : Int) : (fun k => if k = i then some (D.int b) else gOf ws k) = gOf ((i, b) :: ws) := by
  funext k
  unfold gOf
  rw [List.lookup_cons]
  by_cases h : k = i
  · subst h; simp
  · have h1 : (k == i) = false := by simpa using h
    rw [if_neg h, h1]
noncomputable def bestStep (N : Mat) (ws : Ways) (last : Nat) (b : Int) (mid : Nat) : Int := maxI b (minI (wl ws mid) (N mid last))
noncomputable def bestM (N : Mat) (f last : Nat) (ws : Ways) : Int := (List.range' (f + 1) (last - (f + 1))).foldl (bestStep N ws last) (N f last)
noncomputable def lastGo (N : Mat) (f : Nat) : List Nat → Ways → Bool
  | [], _ => true
  | l :: r, ws => if bestM N f l ws < N l f then false else lastGo N f r (((l : Int), bestM N f l ws) :: ws)
noncomputable def byM (N : Mat) : Bool := (List.range 4).all fun f => lastGo N f (List.range' (f + 1) (3 - f)) []
theorem items_rng (a b : Nat) : (D.rng (a : Int) (b : Int)).items = some ((List.range' a (b - a)).map dN) := by
  show some _ = some _
  congr 1
  have e : ((b : Int) - (a : Int)).toNat = b - a := by omega
  rw [e, List.range'_eq_map_range, List.map_map]
  refine List.map_congr_left fun i _ => ?_
  show D.int _ = D.int _
  congr 1
theorem small_rng (a b : Nat) (ha : a ≤ 1000) (hb : b ≤ 1000) : (D.rng (a : Int) (b : Int)).small = true := by
  unfold D.small
  simp only [Bool.and_eq_true, decide_eq_true_eq]
  omega
noncomputable abbrev byT (o : Str) (M : Mat) (f m : Nat) (ws : Ways) (t : Vars) : Vars := ("order", .val (.str o)) :: ("more", .val (matD M)) :: ("places", .val (nats (plc o))) :: ("first", .val (dN f)) :: ("ways", .dic m (gOf ws)) :: t
noncomputable abbrev byρ (o : Str) (M : Mat) (f m : Nat) (ws : Ways) : Vars := byT o M f m ws []
/-- more[places[i]][places[j]] -/
theorem Ev_moreAt {sc : Scope} {ρ : Vars} {o : Str} {M : Mat} {ei ej : Str} {i j : Nat} {p1 p2 p3 p4 p5 p6 p7 p8 p9 : Pos} (ho : o ∈ ords) (hm : ρ.lookup ("more" : Str) = some (.val (matD M))) (hl : isLoc sc "more" = true) (hp : ρ.lookup ("places" : Str) = some (.val (nats (plc o)))) (hlp : isLoc sc "places" = true)
    (hi : i < 4) (hj : j < 4) (h1 : ρ.lookup ei = some (.val (dN i))) (l1 : isLoc sc ei = true) (h2 : ρ.lookup ej = some (.val (dN j))) (l2 : isLoc sc ej = true) :
    Ev c n sc ρ (.Subscript (.Subscript (.Name "more" p1) (.Subscript (.Name "places" p2) (.Name ei p3) p4) p5) (.Subscript (.Name "places" p6) (.Name ej p7) p8) p9) (.int (M ((plc o).getD i 0) ((plc o).getD j 0))) := by
  obtain ⟨_, q1, q2⟩ := plc_ok o ho
  refine paMore hm hl (q2 i hi) (q2 j hj) (.of (Ev_Sub (EvR_name hp hlp) (EvR_name h1 l1) (Itm.lst (by omega) ?_ (by omega)))) (.of (Ev_Sub (EvR_name hp hlp) (EvR_name h2 l2) (Itm.lst (by omega) ?_ (by omega))))
  · rw [Int.toNat_natCast]; exact map_getD (plc o) i (by omega)
  · rw [Int.toNat_natCast]; exact map_getD (plc o) j (by omega)
noncomputable def atP (o : Str) (M : Mat) : Mat := fun i j => M ((plc o).getD i 0) ((plc o).getD j 0)
theorem by_mid (B : Blt c) (hc : c.Ok) {o : Str} (ho : o ∈ ords) (M : Mat) (f m last : Nat) (hl : last < 4) (ws : Ways) : ∀ (l : List Nat) (b : Int), (∀ mid ∈ l, mid < 4 ∧ (ws.lookup (mid : Int)).isSome = true) →
    LoopR (Turn c n byS [] (fTarget byL 1) byI) (l.map dN) (byT o M f m ws [("last", .val (dN last)), ("best", .val (.int b))]) .next (byT o M f m ws [("last", .val (dN last)), ("best", .val (.int (l.foldl (bestStep (atP o M) ws last) b)))])
  | [], b, _ => .nil
  | mid :: r, b, h => by
    obtain ⟨h1, h2⟩ := h mid (.head _)
    refine .next ⟨byT o M f m ws [("last", .val (dN last)), ("best", .val (.int b)), ("mid", .val (dN mid))], AsgT_name rfl (by decide), ?_⟩ (by_mid B hc ho M f m last hl ws r (bestStep (atP o M) ws last b mid) fun q hq => h q (.tail _ hq))
    have hg : gOf ws (mid : Int) = some (.int (wl ws mid)) := by
      obtain ⟨v, hv⟩ := Option.isSome_iff_exists.mp h2
      unfold gOf wl; rw [hv]; rfl
    refine (Ex_cons (ExS_assign (d := .int (bestStep (atP o M) ws last b mid)) ?_ rfl (by decide)) Ex_nil).less ⟨rfl, rfl, rfl, rfl, rfl, rfl, rfl, trivial⟩
    refine Ev_callB (ds := [.int b, .int (minI (wl ws mid) (atP o M mid last))]) hc B.max rfl nofun (EvLR_cons (EvR_name rfl rfl) (EvLR_cons (.of ?_) EvLR_nil)) CallR.max2
    refine Ev_callB (ds := [.int (wl ws mid), .int (atP o M mid last)]) hc B.min rfl nofun (EvLR_cons (.of (Ev_dictGet rfl rfl (EvR_name rfl rfl) hg)) (EvLR_cons (.of ?_) EvLR_nil)) CallR.min2
    exact Ev_moreAt ho rfl rfl rfl rfl h1 hl rfl rfl rfl rfl
/-- the ways are there from first + 1 on -/
noncomputable def WaysOk (f : Nat) (ws : Ways) (l : Nat) : Prop := ∀ k, f < k → k < l → (ws.lookup (k : Int)).isSome = true
theorem by_last (B : Blt c) (hc : c.Ok) {o : Str} (ho : o ∈ ords) (M : Mat) (f : Nat) (hf : f < 4) : ∀ (k l m : Nat) (ws : Ways) (ρ : Vars), VSub ρ (byρ o M f m ws) → l + k = 4 → f < l → WaysOk f ws l → m + k ≤ 100 → lastGo (atP o M) f (List.range' l k) ws = true →
    ∃ ρ', LoopR (Turn c n byS [] (fTarget byF 1) byL) ((List.range' l k).map dN) ρ .next ρ' ∧ VSub ρ' [("order", .val (.str o)), ("more", .val (matD M)), ("places", .val (nats (plc o)))]
  | 0, l, m, ws, ρ, hs, _, _, _, _, _ => ⟨ρ, .nil, hs.1, hs.2.1, hs.2.2.1, trivial⟩
  | k + 1, l, m, ws, ρ, hs, hk, hfl, hw, hm, hg => by
    have hl : l < 4 := by omega
    rw [List.range'_succ] at hg ⊢
    unfold lastGo at hg
    by_cases hb : bestM (atP o M) f l ws < atP o M l f
    · rw [if_pos hb] at hg; cases hg
    · rw [if_neg hb] at hg
      have hw' : WaysOk f (((l : Int), bestM (atP o M) f l ws) :: ws) (l + 1) := fun q h1 h2 => by
        rw [List.lookup_cons]
        by_cases e : ((q : Int) == (l : Int)) = true
        · rw [e]; rfl
        · have e' : ((q : Int) == (l : Int)) = false := by simpa using e
          rw [e']
          have : q ≠ l := fun z => e (by subst z; simp)
          exact hw q h1 (by omega)
      let ρ₁ : Vars := byT o M f (m + 1) (((l : Int), bestM (atP o M) f l ws) :: ws) [("last", .val (dN l)), ("best", .val (.int (bestM (atP o M) f l ws)))]
      obtain ⟨ρ', L, hv⟩ := by_last B hc ho M f hf k (l + 1) (m + 1) (((l : Int), bestM (atP o M) f l ws) :: ws) ρ₁ ⟨rfl, rfl, rfl, rfl, rfl, trivial⟩ (by omega) (by omega) hw' (by omega) hg
      refine ⟨ρ', .next ⟨Vars.put ρ "last" (.val (dN l)), AsgT_name rfl (by decide), ?_⟩ L, hv⟩
      have pre : VSub (Vars.put ρ "last" (.val (dN l))) (byT o M f m ws [("last", .val (dN l))]) := by
        refine ⟨?_, ?_, ?_, ?_, ?_, ?_, trivial⟩
        · rw [lookup_put, if_neg (by decide)]; exact hs.1
        · rw [lookup_put, if_neg (by decide)]; exact hs.2.1
        · rw [lookup_put, if_neg (by decide)]; exact hs.2.2.1
        · rw [lookup_put, if_neg (by decide)]; exact hs.2.2.2.1
        · rw [lookup_put, if_neg (by decide)]; exact hs.2.2.2.2.1
        · rw [lookup_put, if_pos rfl]
      refine Ex.pre ?_ pre
      refine Ex_cons (ρ₁ := byT o M f m ws [("last", .val (dN l)), ("best", .val (.int (atP o M f l)))]) (ExS_assign (Ev_moreAt ho rfl rfl rfl rfl hf hl rfl rfl rfl rfl) rfl (by decide)) ?_
      have L2 := by_mid (c := c) (n := n) B hc ho M f m l hl ws (List.range' (f + 1) (l - (f + 1))) (atP o M f l) fun q hq => by
        obtain ⟨h1, h2⟩ := List.mem_range'_1.mp hq
        exact ⟨by omega, hw q (by omega) (by omega)⟩
      refine Ex_cons (ExS_for (d := .rng ((f + 1 : Nat) : Int) (l : Int)) ?_ (items_rng _ _) (small_rng _ _ (by omega) (by omega)) L2 (.inl rfl)) ?_
      · exact Ev_callB (ds := [.int ((f + 1 : Nat) : Int), .int (l : Int)]) hc B.range rfl nofun (EvLR_cons (.of ((Ev_BinOp (EvR_name rfl rfl) EvR_int Bin.add).conv rfl)) (EvLR_cons (EvR_name rfl rfl) EvLR_nil)) CallR.range2
      refine Ex_cons (ρ₁ := ρ₁) ?_ ?_
      · have e : ρ₁ = Vars.put (byT o M f m ws [("last", .val (dN l)), ("best", .val (.int (bestM (atP o M) f l ws)))]) "ways" (.dic (m + 1) fun k => if k = (l : Int) then some (.int (bestM (atP o M) f l ws)) else gOf ws k) := by
          rw [gOf_cons]; rfl
        rw [e]
        exact ExS_dictSet rfl rfl (Ev_name rfl rfl) (EvR_name rfl rfl) (by omega)
      · have te : Te c n byS ρ₁ (iTest byL 3) false := (Te_Compare (EvR_name rfl rfl) (.of (Ev_moreAt ho rfl rfl rfl rfl hl hf rfl rfl rfl rfl)) Cmp.lt).conv (decide_eq_false hb)
        exact Ex_cons (ExS_if te (fun h => nomatch h) fun _ => Ex_nil) Ex_nil
theorem by_first (B : Blt c) (hc : c.Ok) {o : Str} (ho : o ∈ ords) (M : Mat) : ∀ (l : List Nat) (ρ : Vars), VSub ρ [("order", .val (.str o)), ("more", .val (matD M)), ("places", .val (nats (plc o)))] → (∀ f ∈ l, f < 4 ∧ lastGo (atP o M) f (List.range' (f + 1) (3 - f)) [] = true) →
    ∃ ρ', LoopR (Turn c n byS [] (fTarget byB 1) byF) (l.map dN) ρ .next ρ'
  | [], ρ, _, _ => ⟨ρ, .nil⟩
  | f :: r, ρ, hs, h => by
    obtain ⟨hf, hg⟩ := h f (.head _)
    obtain ⟨ρ', L, hv⟩ := by_last (c := c) (n := n) B hc ho M f hf (3 - f) (f + 1) 0 [] (byρ o M f 0 []) ⟨rfl, rfl, rfl, rfl, rfl, trivial⟩ (by omega) (by omega) (fun k h1 h2 => by omega) (by omega) hg
    obtain ⟨ρ'', L2⟩ := by_first B hc ho M r ρ' hv fun q hq => h q (.tail _ hq)
    refine ⟨ρ'', .next ⟨Vars.put ρ "first" (.val (dN f)), AsgT_name rfl (by decide), ?_⟩ L2⟩
    have pre : VSub (Vars.put ρ "first" (.val (dN f))) [("order", .val (.str o)), ("more", .val (matD M)), ("places", .val (nats (plc o))), ("first", .val (dN f))] := by
      refine ⟨?_, ?_, ?_, ?_, trivial⟩
      · rw [lookup_put, if_neg (by decide)]; exact hs.1
      · rw [lookup_put, if_neg (by decide)]; exact hs.2.1
      · rw [lookup_put, if_neg (by decide)]; exact hs.2.2.1
      · rw [lookup_put, if_pos rfl]
    refine Ex.pre ?_ pre
    refine Ex_cons (ρ₁ := byρ o M f 0 []) (ExS_dictNew rfl (by decide)) ?_
    have e : 4 - (f + 1) = 3 - f := by omega
    refine Ex_cons (ExS_for (d := .rng ((f + 1 : Nat) : Int) ((4 : Nat) : Int)) ?_ (items_rng _ _) (small_rng _ _ (by omega) (by omega)) (by rw [e]; exact L) (.inl rfl)) Ex_nil
    exact Ev_callB (ds := [.int ((f + 1 : Nat) : Int), .int 4]) hc B.range rfl nofun (EvLR_cons (.of ((Ev_BinOp (EvR_name rfl rfl) EvR_int Bin.add).conv rfl)) (EvLR_cons EvR_int EvLR_nil)) CallR.range2
theorem by_fn {fv : Value} {o : Str} {M : Mat} (B : Blt c) (hc : c.Ok) (hf : IsFn c fv ["order", "more"] byB byS) (ho : o ∈ ords) (h : byM (atP o M) = true) : FnP c 1 fv [.str o, matD M] (.bool true) := by
  obtain ⟨q1, q2, q3⟩ := plc_ok o ho
  obtain ⟨ρ', L⟩ := by_first (c := c) (n := 0) B hc ho M (List.range 4) [("order", .val (.str o)), ("more", .val (matD M)), ("places", .val (nats (plc o)))] ⟨rfl, rfl, rfl, trivial⟩ fun f hf' => ⟨List.mem_range.mp hf', List.all_eq_true.mp h f hf'⟩
  refine FnP_intro (n := 0) (fl := .ret (.bool true)) (ρ' := ρ') hc hf (by decide) rfl ⟨nofun, nofun⟩ ?_
  have hcomp : CompOf c 0 byS [("order", .val (.str o)), ("more", .val (matD M))] (cElt (asgE byB 0)) (cIter (asgE byB 0) 0) "letter" (cIfs (asgE byB 0) 0) (cScp (asgE byB 0)) [] ((plc o).map dN) := by
    refine ⟨by decide, FreeOk.get trivial, fun _ _ => rfl, .str o, o.cps.toList.map fun cp => .str ⟨#[cp]⟩, EvR_name rfl rfl, rfl, rfl, ?_, ?_⟩
    · have : o.cps.toList.length = 4 := by unfold plc at q2; rw [List.length_map] at q2; exact q2
      rw [List.length_map, this]; decide
    · have := compR_of (ts := fun a b => Tests c 0 (relS (cScp (asgE byB 0)) byS) (Vars.put [] "letter" (.val a)) (cIfs (asgE byB 0) 0) b) (el := fun a y => Ev c 0 (relS (cScp (asgE byB 0)) byS) (Vars.put [] "letter" (.val a)) (cElt (asgE byB 0)) y) (fun cp : Nat => D.str ⟨#[cp]⟩) (fun _ => true) (fun cp => dN (cp - 97)) o.cps.toList (fun _ _ => .nil) (fun cp hcp _ => ?_)
      · rw [List.filter_eq_self.mpr fun _ _ => rfl] at this
        unfold plc
        rw [List.map_map]; exact this
      · obtain ⟨z1, z2⟩ := q1 cp hcp
        refine (Ev_index (x := "abcd") (y := ⟨#[cp]⟩) Ev_str (EvR_name rfl rfl) z1).conv ?_
        rw [z2]; rfl
  refine Ex_cons (ρ₁ := [("order", .val (.str o)), ("more", .val (matD M)), ("places", .val (nats (plc o)))]) (ExS_comp hcomp rfl (by decide)) ?_
  refine Ex_cons (ExS_for (d := .rng 0 4) (Ev_callB hc B.range rfl nofun (EvLR_cons EvR_int EvLR_nil) CallR.range1) items4 rfl L (.inl rfl)) ?_
  exact Ex_stop (ExS_return Ev_bool)
end Mine
end

section
open PySem PySem.Calls PyProof.Rows PySem.W
set_option maxRecDepth 100000
set_option linter.unusedVariables false
namespace Mine
variable {c : Cx} {n : Nat}
/-! _law_all_five -/
theorem compR_map {α : Type} {ts : D → Bool → Prop} {el : D → D → Prop} (f : α → D) (g : α → D) (xs : List α) (h1 : ∀ a, ts a true) (h2 : ∀ a ∈ xs, el (f a) (g a)) : CompR ts el (xs.map f) (xs.map g) := by
  have := compR_of (ts := ts) (el := el) f (fun _ => true) g xs (fun a _ => h1 _) (fun a h _ => h2 a h)
  rwa [List.filter_eq_self.mpr (fun _ _ => rfl)] at this
noncomputable def instW (C : Addr) (x : Str) : D := .inst C (wsF x (wsOf x))
theorem wsOk_of {x : Str} (hz : x.length ≤ 400) : WsOk (wsOf x) := by
  have hsl : (signsOf x).length ≤ 400 := by unfold signsOf; rw [List.length_map]; exact hz
  have h := wsGo_le (signsOf x) ⟨[], 0, 0, 0⟩
  have h1 := h.1; have h2 := h.2
  simp at h1 h2
  exact ⟨by unfold wsOf; omega, by unfold wsOf; omega⟩
noncomputable def leadAt (leads : List Str) (x : Nat) : Str := leads.getD x Str.empty
noncomputable def lessL (leads : List Str) (x y : Nat) : Bool := lessW (wsOf (leadAt leads x)) (wsOf (leadAt leads y))
noncomputable def roomsD (C : Addr) (leads : List Str) : D := .lst (leads.map (instW C))
theorem room_at (C : Addr) {leads : List Str} {x : Nat} (h : x < leads.length) : (leads.map (instW C))[((x : Int)).toNat]? = some (instW C (leadAt leads x)) := by
  rw [Int.toNat_natCast, List.getElem?_map, List.getElem?_eq_getElem h]
  unfold leadAt; rw [List.getD_eq_getElem?_getD, List.getElem?_eq_getElem h]; rfl
structure LeadsOk (leads : List Str) : Prop where
  len : leads.length = 4
  sz : ∀ x ∈ leads, x.length ≤ 400
theorem LeadsOk.at {leads : List Str} (h : LeadsOk leads) {x : Nat} (hx : x < 4) : (leadAt leads x).length ≤ 400 := by
  have hl : x < leads.length := by rw [h.len]; exact hx
  unfold leadAt; rw [List.getD_eq_getElem?_getD, List.getElem?_eq_getElem hl]; exact h.sz _ (List.getElem_mem hl)
structure FiveOk (leads : List Str) (o : Str) (M : Mat) : Prop where
  ok : ∀ x, x < 4 → ∀ y, y < 4 → x ≠ y → lessL leads x y = (M x y == 5) ∧ (lessL leads x y = true → hasM o x y = true)
noncomputable abbrev fiB := defBody pw "_law_all_five"
noncomputable abbrev fiS := defScope pw "_law_all_five"
noncomputable abbrev fiX := fBody fiB 0
noncomputable abbrev fiY := fBody fiX 0
noncomputable abbrev fiρ (C : Addr) (leads : List Str) (o : Str) (M : Mat) (t : Vars) : Vars := ("rooms", .val (roomsD C leads)) :: ("order", .val (.str o)) :: ("more", .val (matD M)) :: t
theorem eqv_bool (a b : Bool) : PyData.eqv (D.bool a).py (D.bool b).py = (a == b) := by cases a <;> cases b <;> rfl
theorem okEq_bool (a : Bool) : okEq (.bool a) = true := by cases a <;> rfl
theorem fi_y {C : Addr} {fh : Value} (hc : c.Ok) (B : Blt c) (Wm : WsM c C) (gh : Callee c "_law_has" fh) (hh : IsFn c fh ["order", "x", "y"] haB haS) {leads : List Str} (L : LeadsOk leads) {o : Str} (ho : o ∈ ords) {M : Mat} (H : FiveOk leads o M) {x : Nat} (hx : x < 4) : ∀ (l : List Nat) (ρ : Vars), VSub ρ (fiρ C leads o M [("x", .val (dN x))]) → (∀ y ∈ l, y < 4) →
    ∃ ρ', LoopR (Turn c 2 fiS [] (fTarget fiX 0) fiY) (l.map dN) ρ .next ρ' ∧ VSub ρ' (fiρ C leads o M [("x", .val (dN x))])
  | [], ρ, hs, _ => ⟨ρ, .nil, hs⟩
  | y :: r, ρ, hs, hl => by
    have hy := hl y (.head _)
    obtain ⟨ρ', LL, hv⟩ := fi_y hc B Wm gh hh L ho H hx r (fiρ C leads o M [("x", .val (dN x)), ("y", .val (dN y))]) ⟨rfl, rfl, rfl, rfl, trivial⟩ fun q hq => hl q (.tail _ hq)
    refine ⟨ρ', .next ⟨Vars.put ρ "y" (.val (dN y)), AsgT_name rfl (by decide), ?_⟩ LL, hv⟩
    have pre : VSub (Vars.put ρ "y" (.val (dN y))) (fiρ C leads o M [("x", .val (dN x)), ("y", .val (dN y))]) := by
      refine ⟨?_, ?_, ?_, ?_, ?_, trivial⟩
      · rw [lookup_put, if_neg (by decide)]; exact hs.1
      · rw [lookup_put, if_neg (by decide)]; exact hs.2.1
      · rw [lookup_put, if_neg (by decide)]; exact hs.2.2.1
      · rw [lookup_put, if_neg (by decide)]; exact hs.2.2.2.1
      · rw [lookup_put, if_pos rfl]
    refine Ex.pre ?_ pre
    have te : Te c 2 fiS (fiρ C leads o M [("x", .val (dN x)), ("y", .val (dN y))]) (iTest fiY 0) (x != y) := by
      refine (Te_Compare (a := .int (x : Int)) (b := .int (y : Int)) (EvR_name rfl rfl) (EvR_name rfl rfl) Cmp.neI).conv ?_
      simp [bne, BEq.beq]; exact Int.ofNat_inj
    refine Ex_cons (ρ₁ := fiρ C leads o M [("x", .val (dN x)), ("y", .val (dN y))]) (ExS_if te (fun h => ?_) (fun _ => Ex_nil)) Ex_nil
    have hne : x ≠ y := by simpa using h
    obtain ⟨h5, hhas⟩ := H.ok x hx y hy hne
    obtain ⟨f, hM, hf⟩ := Wm.ls
    refine (Ex_cons (ρ₁ := fiρ C leads o M [("x", .val (dN x)), ("y", .val (dN y)), ("says", .val (.bool (lessL leads x y)))]) (ExS_assign (d := .bool (lessL leads x y)) ?_ rfl (by decide)) ?_).less (ρ' := fiρ C leads o M [("x", .val (dN x)), ("y", .val (dN y))]) (ρ₁ := fiρ C leads o M [("x", .val (dN x)), ("y", .val (dN y)), ("says", .val (.bool (lessL leads x y)))]) ⟨rfl, rfl, rfl, rfl, rfl, trivial⟩
    · exact Ev_meth (C := C) (fs := wsF (leadAt leads x) (wsOf (leadAt leads x))) hc hM (Ev_Sub (a := roomsD C leads) (EvR_name rfl rfl) (EvR_name rfl rfl) (Itm.lst (by omega) (room_at C (by rw [L.len]; exact hx)) (by omega))) rfl (EvL_cons (Ev_Sub (a := roomsD C leads) (d := instW C (leadAt leads y)) (EvR_name rfl rfl) (EvR_name rfl rfl) (Itm.lst (by omega) (room_at C (by rw [L.len]; exact hy)) (by omega))) EvL_nil) (ls_fn hc Wm B (wsOk_of (L.at hx)) (wsOk_of (L.at hy)) hf)
    · have t2 : Te c 2 fiS (fiρ C leads o M [("x", .val (dN x)), ("y", .val (dN y)), ("says", .val (.bool (lessL leads x y)))]) (iTest (iThen fiY 0) 1) false := by
        refine (Te_or (b := false) (b' := false) ?_ fun _ => (Te_or (b := false) (b' := false) ?_ fun _ => Te_or_nil).conv rfl).conv rfl
        · refine (Te_Compare (a := .bool (lessL leads x y)) (b := .bool (M x y == 5)) (EvR_name rfl rfl) (.of (Ev_Compare (.of (paMore rfl rfl hx hy (EvR_name rfl rfl) (EvR_name rfl rfl))) EvR_int Cmp.eqI)) (Cmp.neD (okEq_bool _) (okEq_bool _))).conv ?_
          rw [eqv_bool, h5]; simp
        · refine (Te_and (b := lessL leads x y) (b' := !hasM o x y) (Te_plain (EvR_name rfl rfl) Tru.bool) fun _ => (Te_and (b := !hasM o x y) (b' := true) (Te_not (Te_plain (d := .bool (hasM o x y)) (.of (Ev_callP hc gh ((ha_fn hc hh (ords_ok o ho).1 hx hy).le (by decide)) rfl (EvL_cons (Ev_name rfl rfl) (EvL_cons (Ev_name rfl rfl) (EvL_cons (Ev_name rfl rfl) EvL_nil))))) Tru.bool)) fun _ => Te_and_nil).conv (Bool.and_true _)).conv ?_
          cases hle : lessL leads x y with
          | false => rfl
          | true => rw [hhas hle]; rfl
      exact Ex_cons (ExS_if t2 (fun h => nomatch h) fun _ => Ex_nil) Ex_nil
theorem fi_x {C : Addr} {fh : Value} (hc : c.Ok) (B : Blt c) (Wm : WsM c C) (gh : Callee c "_law_has" fh) (hh : IsFn c fh ["order", "x", "y"] haB haS) {leads : List Str} (L : LeadsOk leads) {o : Str} (ho : o ∈ ords) {M : Mat} (H : FiveOk leads o M) : ∀ (l : List Nat) (ρ : Vars), VSub ρ (fiρ C leads o M []) → (∀ y ∈ l, y < 4) →
    ∃ ρ', LoopR (Turn c 2 fiS [] (fTarget fiB 0) fiX) (l.map dN) ρ .next ρ'
  | [], ρ, hs, _ => ⟨ρ, .nil⟩
  | x :: r, ρ, hs, hl => by
    obtain ⟨ρ', LL, hv⟩ := fi_y hc B Wm gh hh L ho H (hl x (.head _)) (List.range 4) (fiρ C leads o M [("x", .val (dN x))]) ⟨rfl, rfl, rfl, rfl, trivial⟩ fun q hq => List.mem_range.mp hq
    obtain ⟨ρ'', L2⟩ := fi_x hc B Wm gh hh L ho H r ρ' ⟨hv.1, hv.2.1, hv.2.2.1, trivial⟩ fun q hq => hl q (.tail _ hq)
    refine ⟨ρ'', .next ⟨Vars.put ρ "x" (.val (dN x)), AsgT_name rfl (by decide), ?_⟩ L2⟩
    have pre : VSub (Vars.put ρ "x" (.val (dN x))) (fiρ C leads o M [("x", .val (dN x))]) := by
      refine ⟨?_, ?_, ?_, ?_, trivial⟩
      · rw [lookup_put, if_neg (by decide)]; exact hs.1
      · rw [lookup_put, if_neg (by decide)]; exact hs.2.1
      · rw [lookup_put, if_neg (by decide)]; exact hs.2.2.1
      · rw [lookup_put, if_pos rfl]
    refine Ex.pre ?_ pre
    exact Ex_cons (ExS_for (d := .rng 0 4) (Ev_callB hc B.range rfl nofun (EvLR_cons EvR_int EvLR_nil) CallR.range1) items4 rfl LL (.inl rfl)) Ex_nil
theorem fi_fn {fv : Value} {C : Addr} {fh : Value} (hc : c.Ok) (B : Blt c) (Wm : WsM c C) (gh : Callee c "_law_has" fh) (hh : IsFn c fh ["order", "x", "y"] haB haS) (hf : IsFn c fv ["rooms", "order", "more"] fiB fiS) {leads : List Str} (L : LeadsOk leads) {o : Str} (ho : o ∈ ords) {M : Mat} (H : FiveOk leads o M) : FnP c 3 fv [roomsD C leads, .str o, matD M] (.bool true) := by
  obtain ⟨ρ', LL⟩ := fi_x (C := C) hc B Wm gh hh L ho H (List.range 4) (fiρ C leads o M []) ⟨rfl, rfl, rfl, trivial⟩ fun q hq => List.mem_range.mp hq
  refine FnP_intro (n := 2) (fl := .ret (.bool true)) (ρ' := ρ') hc hf (by decide) rfl ⟨nofun, nofun⟩ ?_
  refine Ex_cons (ExS_for (d := .rng 0 4) (Ev_callB hc B.range rfl nofun (EvLR_cons EvR_int EvLR_nil) CallR.range1) items4 rfl LL (.inl rfl)) ?_
  exact Ex_stop (ExS_return Ev_bool)
end Mine
end

section
open PySem PySem.W PyProof.Rows
set_option maxRecDepth 100000
set_option linter.unusedVariables false
namespace Mine
/-! the sort's own questions, answered by a total order -/
structure Lin (lt : Nat → Nat → Bool) (n : Nat) : Prop where
  asy : ∀ a b, a < n → b < n → lt a b = true → lt b a = false
  tot : ∀ a b, a < n → b < n → a ≠ b → lt a b = false → lt b a = true
  tr : ∀ a b d, a < n → b < n → d < n → lt b a = false → lt d b = false → lt d a = false
noncomputable def Good {α : Type} (lt : Nat → Nat → Bool) (n : Nat) : KasT α → (α → Prop) → Prop
  | .ret a, P => P a
  | .ask i j k, P => i < n ∧ j < n ∧ Good lt n (k (lt i j)) P
theorem good_bind {α β : Type} {lt : Nat → Nat → Bool} {n : Nat} {f : α → KasT β} {P : β → Prop} : ∀ (t : KasT α), Good lt n t (fun a => Good lt n (f a) P) → Good lt n (t.bind f) P
  | .ret a, h => h
  | .ask i j k, h => ⟨h.1, h.2.1, good_bind (k (lt i j)) h.2.2⟩
theorem good_mono {α : Type} {lt : Nat → Nat → Bool} {n : Nat} {P P' : α → Prop} (hp : ∀ a, P a → P' a) : ∀ (t : KasT α), Good lt n t P → Good lt n t P'
  | .ret a, h => hp a h
  | .ask i j k, h => ⟨h.1, h.2.1, good_mono hp (k (lt i j)) h.2.2⟩
theorem good_wp {α : Type} {lt : Nat → Nat → Bool} {n : Nat} {P : α → Prop} {cmp : Nat → Nat → (Bool → Shared → Prop) → Shared → Prop} {Q : α → Shared → Prop} {s : Shared} (hc : ∀ i j C, i < n → j < n → C (lt i j) s → cmp i j C s) (hq : ∀ a, P a → Q a s) : ∀ (t : KasT α), Good lt n t P → t.kasWp cmp Q s
  | .ret a, h => hq a h
  | .ask i j k, h => hc i j _ h.1 h.2.1 (good_wp hc hq (k (lt i j)) h.2.2)
noncomputable abbrev at0 (p : Array Nat) (i : Nat) : Nat := p.getD i 0
structure PermA (n : Nat) (p : Array Nat) : Prop where
  perm : p.Perm (List.range n).toArray
theorem PermA.size {n : Nat} {p : Array Nat} (h : PermA n p) : p.size = n := by have := h.perm.size_eq; simpa using this
theorem PermA.list {n : Nat} {p : Array Nat} (h : PermA n p) : p.toList.Perm (List.range n) := by have := Array.perm_iff_toList_perm.mp h.perm; simpa using this
theorem at_get {p : Array Nat} {i : Nat} (h : i < p.size) : p[i]? = some (at0 p i) := by
  have e : p.getD i 0 = p[i] := by simp [Array.getD, h]
  show _ = some (p.getD i 0)
  rw [e, Array.getElem?_eq_getElem h]
theorem PermA.lt {n : Nat} {p : Array Nat} (h : PermA n p) {i : Nat} (hi : i < n) : at0 p i < n := by
  have hs := h.size
  have e := at_get (p := p) (i := i) (by omega)
  have hm : at0 p i ∈ p.toList := by rw [← Array.getElem?_toList] at e; exact List.mem_of_getElem? e
  exact List.mem_range.mp (h.list.mem_iff.mp hm)
theorem PermA.ne {n : Nat} {p : Array Nat} (h : PermA n p) {i j : Nat} (hi : i < n) (hj : j < n) (hij : i ≠ j) : at0 p i ≠ at0 p j := by
  have hs := h.size
  have nd : p.toList.Nodup := h.list.nodup_iff.mpr List.nodup_range
  intro e
  have e1 := at_get (p := p) (i := i) (by omega)
  have e2 := at_get (p := p) (i := j) (by omega)
  rw [← Array.getElem?_toList] at e1 e2
  rw [e, ← e2] at e1
  exact hij ((List.getElem?_inj (i := i) (l := p.toList) (by rw [Array.length_toList]; omega) nd).mp e1)
theorem at_rev {p : Array Nat} {m i : Nat} (hm : m ≤ p.size) (hi : i < m) : at0 (kas_rev p 0 m) i = at0 p (m - 1 - i) := by
  have e := getElem?_mirror_all (xs := p) (i := 0) (j := m) hm i
  rw [if_pos (by omega)] at e
  have hz : i < (kas_rev p 0 m).size := by unfold kas_rev; rw [mirror_size]; omega
  have e1 := at_get hz
  have e2 := at_get (p := p) (i := m - 1 - i) (by omega)
  have : 0 + m - 1 - i = m - 1 - i := by omega
  rw [this] at e
  unfold kas_rev at e1
  rw [e, e2] at e1
  exact (Option.some.inj e1).symm
theorem PermA.rev {n : Nat} {p : Array Nat} (h : PermA n p) (m : Nat) : PermA n (kas_rev p 0 m) := ⟨(mirror_perm _ _ _ _).trans h.perm⟩
theorem PermA.bub {n : Nat} {p : Array Nat} (h : PermA n p) (k d : Nat) : PermA n (bubble p k d) := ⟨(bubble_perm _ _ _).trans h.perm⟩
theorem at_bub {p : Array Nat} {k l i : Nat} (hk : k < p.size) (hl : l ≤ k) (hi : i ≤ k) : at0 (bubble p k (k - l)) i = if i = l then at0 p k else if l < i then at0 p (i - 1) else at0 p i := by
  have e := getElem?_bubble hk (k - l) (Nat.sub_le _ _) i
  have hkl : k - (k - l) = l := by omega
  rw [hkl] at e
  have e1 := at_get (p := bubble p k (k - l)) (i := i) (by rw [bubble_size]; omega)
  rw [e1] at e
  by_cases h1 : i = l
  · rw [if_pos h1] at e ⊢
    rw [at_get hk] at e; exact Option.some.inj e
  · rw [if_neg h1] at e ⊢
    by_cases h2 : l < i
    · rw [if_pos ⟨h2, hi⟩] at e; rw [if_pos h2]
      rw [at_get (by omega)] at e; exact Option.some.inj e
    · rw [if_neg (by omega)] at e; rw [if_neg h2]
      rw [at_get (by omega)] at e; exact Option.some.inj e
section
variable {lt : Nat → Nat → Bool} {n : Nat}
noncomputable def Srt (lt : Nat → Nat → Bool) (p : Array Nat) (k : Nat) : Prop := ∀ i j, i < j → j < k → lt (at0 p j) (at0 p i) = false
noncomputable def Dsc (lt : Nat → Nat → Bool) (p : Array Nat) (k : Nat) : Prop := ∀ i j, i < j → j < k → lt (at0 p j) (at0 p i) = true
theorem Srt.one (p : Array Nat) : Srt lt p 1 := fun i j h1 h2 => by omega
theorem asc_good (L : Lin lt n) {p : Array Nat} (hp : PermA n p) : ∀ (f m : Nat), 1 ≤ m → m + f = n → Srt lt p m → Good lt n (kas_asc p f m) (fun m' => m ≤ m' ∧ m' ≤ n ∧ Srt lt p m' ∧ (m' = n ∨ lt (at0 p m') (at0 p (m' - 1)) = true))
  | 0, m, _, hf, hs => ⟨Nat.le_refl _, by omega, hs, .inl (by omega)⟩
  | f + 1, m, h1, hf, hs => by
    refine ⟨hp.lt (by omega), hp.lt (by omega), ?_⟩
    cases hc : lt (p.getD m 0) (p.getD (m - 1) 0) with
    | true => exact ⟨Nat.le_refl _, by omega, hs, .inr hc⟩
    | false =>
      refine good_mono (fun a q => ⟨by omega, q.2⟩) _ (asc_good L hp f (m + 1) (by omega) (by omega) fun i j hij hj => ?_)
      by_cases q : j = m
      · subst q
        by_cases q2 : i = j - 1
        · subst q2; exact hc
        · exact L.tr _ (at0 p (j - 1)) _ (hp.lt (by omega)) (hp.lt (by omega)) (hp.lt (by omega)) (hs i (j - 1) (by omega) (by omega)) hc
      · exact hs i j hij (by omega)
theorem Lin.flip (L : Lin lt n) {p : Array Nat} (hp : PermA n p) {i j : Nat} (hi : i < n) (hj : j < n) (hij : i ≠ j) (h : lt (at0 p i) (at0 p j) = false) : lt (at0 p j) (at0 p i) = true := L.tot _ _ (hp.lt hi) (hp.lt hj) (hp.ne hi hj hij) h
theorem desc_good (L : Lin lt n) {p : Array Nat} (hp : PermA n p) : ∀ (f m : Nat), 1 ≤ m → m + f = n → Dsc lt p m → Good lt n (kas_desc f p m 0) (fun r => r.1 = p ∧ r.2.2 = 0 ∧ m ≤ r.2.1 ∧ r.2.1 ≤ n ∧ Dsc lt p r.2.1)
  | 0, m, _, hf, hs => ⟨rfl, rfl, Nat.le_refl _, by show m ≤ n; omega, hs⟩
  | f + 1, m, h1, hf, hs => by
    refine ⟨hp.lt (by omega), hp.lt (by omega), ?_⟩
    cases hc : lt (p.getD m 0) (p.getD (m - 1) 0) with
    | true =>
      refine good_mono (fun a q => ⟨q.1, q.2.1, by omega, q.2.2.2⟩) _ (desc_good L hp f (m + 1) (by omega) (by omega) fun i j hij hj => ?_)
      by_cases q : j = m
      · subst q
        by_cases q2 : i = j - 1
        · subst q2; exact hc
        · refine L.flip hp (by omega) (by omega) (by omega) (L.tr _ (at0 p (j - 1)) _ (hp.lt (by omega)) (hp.lt (by omega)) (hp.lt (by omega)) ?_ ?_)
          · exact L.asy _ _ (hp.lt (by omega)) (hp.lt (by omega)) hc
          · exact L.asy _ _ (hp.lt (by omega)) (hp.lt (by omega)) (hs i (j - 1) (by omega) (by omega))
      · exact hs i j hij (by omega)
    | false =>
      refine ⟨hp.lt (by omega), hp.lt (by omega), ?_⟩
      have := L.flip hp (i := m) (j := m - 1) (by omega) (by omega) (by omega) hc
      rw [show lt (p.getD (m - 1) 0) (p.getD m 0) = true from this]
      exact ⟨rfl, rfl, Nat.le_refl _, by show m ≤ n; omega, hs⟩
theorem count_good (L : Lin lt n) (h2 : 2 ≤ n) {p : Array Nat} (hp : PermA n p) : Good lt n (kas_count n p) (fun r => 1 ≤ r.1 ∧ r.1 ≤ n ∧ PermA n r.2 ∧ Srt lt r.2 r.1) := by
  unfold kas_count
  refine good_bind _ (good_mono (fun m q => ?_) _ (asc_good L hp (n - 1) 1 (by omega) (by omega) (.one p)))
  obtain ⟨q1, q2, q3, q4⟩ := q
  by_cases hm : (m == n) = true
  · rw [if_pos hm]; exact ⟨q1, q2, hp, q3⟩
  · rw [if_neg hm]
    have hm' : m ≠ n := by simpa using hm
    by_cases h1 : m > 1
    · rw [if_pos h1]
      refine ⟨hp.lt (by omega), hp.lt (by omega), ?_⟩
      have := L.flip hp (i := m - 1) (j := 0) (by omega) (by omega) (by omega) (q3 0 (m - 1) (by omega) (by omega))
      rw [show lt (p.getD 0 0) (p.getD (m - 1) 0) = true from this]
      exact ⟨q1, q2, hp, q3⟩
    · rw [if_neg h1]
      have e : m = 1 := by omega
      subst e
      have hc : lt (at0 p 1) (at0 p 0) = true := q4.resolve_left hm'
      unfold kas_descPart
      refine good_bind _ (good_mono (fun r q => ?_) _ (desc_good L hp (n - 2) 2 (by omega) (by omega) fun i j hij hj => ?_))
      · obtain ⟨p', m', q'⟩ := r
        obtain ⟨rfl, rfl, b1, b2, b3⟩ := q
        dsimp only at b1 b2 b3 ⊢
        rw [if_neg (by omega)]
        unfold kas_tail3
        refine good_bind _ (good_mono (fun m2 q => ?_) _ (asc_good L (hp.rev m') (n - m') m' (by omega) (by omega) fun i j hij hj => ?_))
        · exact ⟨by omega, q.2.1, hp.rev m', q.2.2.1⟩
        · have hs := hp.size
          rw [at_rev (by omega) hj, at_rev (by omega) (by omega)]
          exact L.asy _ _ (hp.lt (by omega)) (hp.lt (by omega)) (b3 (m' - 1 - j) (m' - 1 - i) (by omega) (by omega))
      · have : i = 0 ∧ j = 1 := by omega
        rw [this.1, this.2]; exact hc
theorem place_good (L : Lin lt n) {p : Array Nat} (hp : PermA n p) {k : Nat} (hk : k < n) (hs : Srt lt p k) : ∀ (f l r : Nat), l ≤ r → r ≤ k → r - l ≤ f → (∀ i, i < l → lt (at0 p k) (at0 p i) = false) → (∀ i, r ≤ i → i < k → lt (at0 p k) (at0 p i) = true) →
    Good lt n (kas_place p k f l r) (fun l => l ≤ k ∧ (∀ i, i < l → lt (at0 p k) (at0 p i) = false) ∧ (∀ i, l ≤ i → i < k → lt (at0 p k) (at0 p i) = true))
  | 0, l, r, h1, h2, h3, ha, hb => by
    have : l = r := by omega
    subst this
    exact ⟨h2, ha, hb⟩
  | f + 1, l, r, h1, h2, h3, ha, hb => by
    unfold kas_place
    by_cases hge : l ≥ r
    · rw [if_pos hge]
      have : l = r := by omega
      subst this
      exact ⟨h2, ha, hb⟩
    · rw [if_neg hge]
      have m1 : l ≤ (l + r) / 2 := by omega
      have m2 : (l + r) / 2 < r := by omega
      generalize (l + r) / 2 = m at m1 m2
      refine ⟨hp.lt hk, hp.lt (by omega), ?_⟩
      cases hc : lt (p.getD k 0) (p.getD m 0) with
      | true =>
        refine place_good L hp hk hs f l m m1 (by omega) (by omega) ha fun i q1 q2 => ?_
        by_cases e : i = m
        · subst e; exact hc
        · refine L.flip hp (by omega) hk (by omega) (L.tr _ (at0 p m) _ (hp.lt hk) (hp.lt (by omega)) (hp.lt (by omega)) (L.asy _ _ (hp.lt hk) (hp.lt (by omega)) hc) (hs m i (by omega) (by omega)))
      | false =>
        refine place_good L hp hk hs f (m + 1) r (by omega) h2 (by omega) (fun i q1 => ?_) hb
        by_cases e : i = m
        · subst e; exact hc
        · exact L.tr _ (at0 p m) _ (hp.lt (by omega)) (hp.lt (by omega)) (hp.lt hk) (hs i m (by omega) (by omega)) hc
theorem bin_good (L : Lin lt n) : ∀ (f : Nat) (p : Array Nat) (k : Nat), PermA n p → k + f = n → Srt lt p k → Good lt n (kas_bin f p k) (fun p' => PermA n p' ∧ Srt lt p' n)
  | 0, p, k, hp, hf, hs => by
    have : k = n := by omega
    subst this
    exact ⟨hp, hs⟩
  | f + 1, p, k, hp, hf, hs => by
    have hk : k < n := by omega
    have hz := hp.size
    unfold kas_bin
    refine good_bind _ (good_mono (fun l q => ?_) _ (place_good L hp hk hs k 0 k (Nat.zero_le _) (Nat.le_refl _) (by omega) (fun i q => by omega) fun i q1 q2 => by omega))
    obtain ⟨q1, q2, q3⟩ := q
    refine bin_good L f _ (k + 1) (hp.bub _ _) (by omega) fun i j hij hj => ?_
    rw [at_bub (by omega) q1 (show j ≤ k by omega), at_bub (by omega) q1 (show i ≤ k by omega)]
    by_cases a1 : j = l
    · rw [if_pos a1, if_neg (by omega), if_neg (by omega)]; exact q2 i (by omega)
    · rw [if_neg a1]
      by_cases a2 : l < j
      · rw [if_pos a2]
        by_cases a3 : i = l
        · rw [if_pos a3]; exact L.asy _ _ (hp.lt hk) (hp.lt (by omega)) (q3 (j - 1) (by omega) (by omega))
        · rw [if_neg a3]
          by_cases a4 : l < i
          · rw [if_pos a4]; exact hs (i - 1) (j - 1) (by omega) (by omega)
          · rw [if_neg a4]; exact hs i (j - 1) (by omega) (by omega)
      · rw [if_neg a2, if_neg (by omega), if_neg (by omega)]; exact hs i j hij (by omega)
theorem sort_good (L : Lin lt n) (h2 : 2 ≤ n) : Good lt n (kas_sort n) (fun p => PermA n p ∧ Srt lt p n) := by
  unfold kas_sort
  refine good_bind _ (good_mono (fun r q => ?_) _ (count_good L h2 ⟨.refl _⟩))
  obtain ⟨q1, q2, q3, q4⟩ := q
  by_cases h : r.1 < n
  · rw [if_pos h]
    have e : max r.1 1 = r.1 := by omega
    rw [e]
    exact bin_good L _ _ _ q3 (by omega) q4
  · rw [if_neg h]
    have e : r.1 = n := by omega
    rw [e] at q4
    exact ⟨q3, q4⟩
end
end Mine
end

section
open PySem PySem.Calls PyProof.Rows PySem.W
set_option maxRecDepth 100000
set_option linter.unusedVariables false
namespace Mine
variable {c : Cx} {n : Nat}
/-! pairs in order -/
noncomputable def ltK (p q : Pair) : Bool := lexLt (key3 p) (key3 q)
theorem ltK_eq (p q : Pair) : ltK p q = if p.1 = q.1 then (if p.2.1 = q.2.1 then decide (p.2.2 < q.2.2) else decide (p.2.1 < q.2.1)) else decide (p.1 < q.1) := by
  unfold ltK key3 lexLt
  by_cases h1 : p.1 = q.1
  · rw [if_pos h1, if_pos h1]
    unfold lexLt
    by_cases h2 : p.2.1 = q.2.1
    · rw [if_pos (by rw [h2]), if_pos h2]
      unfold lexLt
      by_cases h3 : p.2.2 = q.2.2
      · rw [if_pos (by rw [h3])]; unfold lexLt; rw [h3]; simp
      · rw [if_neg (by omega)]; exact decide_eq_decide.mpr Int.ofNat_lt
    · rw [if_neg (by omega), if_neg h2]; exact decide_eq_decide.mpr Int.ofNat_lt
  · rw [if_neg h1, if_neg h1]
theorem ltK_asy {p q : Pair} (h : ltK p q = true) : ltK q p = false := by
  rw [ltK_eq] at h ⊢
  split at h <;> split <;> first | (split at h <;> split) | skip
  all_goals simp only [decide_eq_true_eq, decide_eq_false_iff_not] at h ⊢
  all_goals omega
theorem ltK_tot {p q : Pair} (hne : p ≠ q) (h : ltK p q = false) : ltK q p = true := by
  obtain ⟨a, b, d⟩ := p
  obtain ⟨a', b', d'⟩ := q
  rw [ltK_eq] at h ⊢
  dsimp only at h ⊢
  split at h <;> split <;> first | (split at h <;> split) | skip
  all_goals simp only [decide_eq_true_eq, decide_eq_false_iff_not] at h ⊢
  all_goals first
    | omega
    | (have : d ≠ d' := fun e3 => hne (by subst_vars; rfl)
       omega)
theorem ltK_tr {p q r : Pair} (h1 : ltK q p = false) (h2 : ltK r q = false) : ltK r p = false := by
  obtain ⟨a, b, d⟩ := p
  obtain ⟨a', b', d'⟩ := q
  obtain ⟨a'', b'', d''⟩ := r
  rw [ltK_eq] at h1 h2 ⊢
  dsimp only at h1 h2 ⊢
  split at h1 <;> split at h2 <;> split
  all_goals first | (split at h1) | skip
  all_goals first | (split at h2) | skip
  all_goals first | split | skip
  all_goals simp only [decide_eq_false_iff_not] at h1 h2 ⊢
  all_goals omega
noncomputable def insP (p : Pair) : List Pair → List Pair
  | [] => [p]
  | q :: r => if ltK q p = true then q :: insP p r else p :: q :: r
noncomputable def sortP : List Pair → List Pair
  | [] => []
  | p :: r => insP p (sortP r)
theorem insP_perm (p : Pair) : ∀ l : List Pair, (insP p l).Perm (p :: l)
  | [] => .refl _
  | q :: r => by
    unfold insP
    split
    · exact ((insP_perm p r).cons q).trans (.swap _ _ _)
    · exact .refl _
theorem sortP_perm : ∀ l : List Pair, (sortP l).Perm l
  | [] => .refl _
  | p :: r => (insP_perm p (sortP r)).trans ((sortP_perm r).cons p)
noncomputable abbrev SrtP (l : List Pair) : Prop := l.Pairwise fun p q => ltK q p = false
theorem insP_srt (p : Pair) : ∀ l : List Pair, SrtP l → SrtP (insP p l)
  | [], _ => List.pairwise_singleton _ _
  | q :: r, h => by
    obtain ⟨h1, h2⟩ := List.pairwise_cons.mp h
    unfold insP
    split
    · rename_i hq
      refine List.pairwise_cons.mpr ⟨fun z hz => ?_, insP_srt p r h2⟩
      rcases List.mem_cons.mp ((insP_perm p r).mem_iff.mp hz) with rfl | hz
      · exact ltK_asy hq
      · exact h1 z hz
    · rename_i hq
      have hq : ltK q p = false := by simpa using hq
      refine List.pairwise_cons.mpr ⟨fun z hz => ?_, h⟩
      rcases List.mem_cons.mp hz with rfl | hz
      · exact hq
      · exact ltK_tr hq (h1 z hz)
theorem sortP_srt : ∀ l : List Pair, SrtP (sortP l)
  | [] => .nil
  | p :: r => insP_srt p _ (sortP_srt r)
theorem srt_eq : ∀ (l₁ l₂ : List Pair), l₁.Perm l₂ → SrtP l₁ → SrtP l₂ → l₁ = l₂
  | [], l₂, p, _, _ => p.nil_eq
  | a :: r, [], p, _, _ => absurd p.length_eq (by simp)
  | a :: r, b :: s, p, h1, h2 => by
    obtain ⟨a1, a2⟩ := List.pairwise_cons.mp h1
    obtain ⟨b1, b2⟩ := List.pairwise_cons.mp h2
    have ha : a ∈ b :: s := p.subset (.head _)
    have hb : b ∈ a :: r := p.symm.subset (.head _)
    have hab : a = b := by
      rcases List.mem_cons.mp ha with q | q
      · exact q
      · rcases List.mem_cons.mp hb with q' | q'
        · exact q'.symm
        · have x := a1 b q'
          have y := b1 a q
          exact Classical.byContradiction fun hne => by rw [ltK_tot hne y] at x; cases x
    subst hab
    rw [srt_eq r s p.cons_inv a2 b2]
theorem ltK_lin {ps : List Pair} (nd : ps.Nodup) : Lin (fun i j => ltK (ps.getD i (0, 0, 0)) (ps.getD j (0, 0, 0))) ps.length := by
  refine ⟨fun a b _ _ h => ltK_asy h, fun a b ha hb hne h => ltK_tot (fun e => hne ?_) h, fun a b d _ _ _ h1 h2 => ltK_tr h1 h2⟩
  rw [List.getD_eq_getElem?_getD, List.getElem?_eq_getElem ha, List.getD_eq_getElem?_getD, List.getElem?_eq_getElem hb] at e
  have e : ps[a] = ps[b] := e
  exact (List.getElem_inj nd).mp e
/-! sorted(pairs) -/
section
variable {A : Around} {s : Shared}
theorem pair_rd {F : Fz} {p : Pair} {v : Value} (r : Rd F (pairD p) v) : ∃ (a : Addr) (o : Obj) (xs : Array Value) (k : Nat) (t u w : Tok), v = .ref a ∧ F a = some o ∧ o.cls = .type "tuple" ∧ o.data = .seq xs k ∧ xs.toList = [.int p.1 t, .int p.2.1 u, .int p.2.2 w] := by
  unfold pairD at r
  cases r with
  | @tup a o vs k _ a1 a2 a3 a4 =>
    generalize hx : vs.toList = l at a4
    cases a4 with
    | cons r1 a4 => cases r1 with
      | int _ t => cases a4 with
        | cons r2 a4 => cases r2 with
          | int _ u => cases a4 with
            | cons r3 a4 => cases r3 with
              | int _ w =>
                cases a4
                exact ⟨_, _, _, _, t, u, w, rfl, a1, a2, a3, hx⟩
/-- how the sort compares two pairs -/
theorem ask_pair {F : Fz} {p q : Pair} {v w : Value} {C : Bool → Shared → Prop} (hh : A.handled = none) (hu : A.units + 64 < cLine) (l : Fle F s.heap.get?) (rp : Rd F (pairD p) v) (rq : Rd F (pairD q) w) (h : C (ltK p q) s) :
    wpAny (model c.prog c.w) A (keyLt' (tuples' true) v w) C (fun _ _ => False) s := by
  obtain ⟨a, o, xs, k, t1, t2, t3, rfl, a1, a2, a3, a4⟩ := pair_rd rp
  obtain ⟨b, o', ys, k', u1, u2, u3, rfl, b1, b2, b3, b4⟩ := pair_rd rq
  have eqI : ∀ {x y : Int} {t u : Tok} {Q : Bool → Shared → Prop}, Q (x == y) s → wpAny (model c.prog c.w) A (eqBool (.int x t) (.int y u)) Q (fun _ _ => False) s := fun {x y t u Q} hq => eqBool_D (x := .int x) (y := .int y) rfl rfl hu l (.int _ _) (.int _ _) hq
  have one : ∀ {x y : Int} {t u : Tok}, C (decide (x < y)) s → wpAny (model c.prog c.w) A (oneLt' false (.int x t) (.int y u)) C (fun _ _ => False) s := fun hq => kat_one _ _ (PyProof.Rows.lt_int hq)
  refine kat_lt (l _ _ a1) a3 (l _ _ b1) b3 ?_
  rw [a4, b4]
  have e : ltK p q = if p.1 = q.1 then (if (p.2.1 : Int) = q.2.1 then (if (p.2.2 : Int) = q.2.2 then false else decide ((p.2.2 : Int) < q.2.2)) else decide ((p.2.1 : Int) < q.2.1)) else decide (p.1 < q.1) := by
    unfold ltK key3 lexLt lexLt lexLt lexLt; rfl
  rw [e] at h
  refine kat_cons (eqI (kat_go (fun h1 => kat_yes ?_) (fun h1 => kat_no ?_)))
  · rw [if_pos (by simpa using h1)] at h
    refine kat_cons (eqI (kat_go (fun h2 => kat_yes ?_) (fun h2 => kat_no ?_)))
    · rw [if_pos (by simpa using h2)] at h
      refine kat_cons (eqI (kat_go (fun h3 => kat_yes ?_) (fun h3 => kat_no ?_)))
      · rw [if_pos (by simpa using h3)] at h
        refine kat_nil ?_
        have e1 : xs.size = 3 := by rw [← Array.length_toList, a4]; rfl
        have e2 : ys.size = 3 := by rw [← Array.length_toList, b4]; rfl
        rw [e1, e2]; exact h
      · rw [if_neg (by simpa using h3)] at h; exact one h
    · rw [if_neg (by simpa using h2)] at h; exact one h
  · rw [if_neg (by simpa using h1)] at h
    exact oneLt_int h
end
theorem rd_getD {F : Fz} {ps : List Pair} {vs : List Value} (r : RdL F (ps.map pairD) vs) {i : Nat} (hi : i < ps.length) : Rd F (pairD (ps.getD i (0, 0, 0))) (vs.getD i Value.none) := by
  have e : (ps.map pairD)[i]? = some (pairD (ps.getD i (0, 0, 0))) := by
    rw [List.getElem?_map, List.getElem?_eq_getElem hi, List.getD_eq_getElem?_getD, List.getElem?_eq_getElem hi]; rfl
  obtain ⟨v, hv, rv⟩ := r.get' e
  have e2 : vs.getD i Value.none = v := by rw [List.getD_eq_getElem?_getD, hv]; rfl
  rw [e2]; exact rv
theorem rd_perm {F : Fz} {ps : List Pair} {vs : List Value} (r : RdL F (ps.map pairD) vs) : ∀ l : List Nat, (∀ i ∈ l, i < ps.length) → RdL F ((l.map fun i => ps.getD i (0, 0, 0)).map pairD) (l.map fun i => vs.getD i Value.none)
  | [], _ => .nil
  | i :: l, h => .cons (rd_getD r (h i (.head _))) (rd_perm r l fun j hj => h j (.tail _ hj))
theorem tups_of {F : Fz} {h : Heap} (l : Fle F h.get?) : ∀ {ps : List Pair} {vs : List Value}, RdL F (ps.map pairD) vs → ∃ fs : List Value, KatTups h vs fs ∧ fs.length = ps.length ∧ ∀ v ∈ fs, ∃ i t, v = .int i t
  | [], _, .nil => ⟨[], .nil, rfl, fun _ q => nomatch q⟩
  | p :: r, _, .cons a q => by
    obtain ⟨fs, k, z, hf⟩ := tups_of l q
    obtain ⟨b, o, xs, m, t1, t2, t3, rfl, a1, a2, a3, a4⟩ := pair_rd a
    refine ⟨.int p.1 t1 :: fs, .cons (l _ _ a1) a2 a3 (by rw [← Array.getElem?_toList, a4]; rfl) k, by rw [List.length_cons, List.length_cons, z], fun v hv => ?_⟩
    rcases List.mem_cons.mp hv with rfl | hv
    · exact ⟨_, _, rfl⟩
    · exact hf v hv
theorem map_range_self {α : Type} (d : α) (l : List α) : (List.range l.length).map (fun i => l.getD i d) = l := by
  apply List.ext_getElem
  · simp
  · intro i h1 h2
    simp [List.getD_eq_getElem?_getD, List.getElem?_eq_getElem h2]
theorem sorted_is {ps : List Pair} {p : Array Nat} (hp : PermA ps.length p) (hs : Srt (fun i j => ltK (ps.getD i (0, 0, 0)) (ps.getD j (0, 0, 0))) p ps.length) : (p.toList.map fun i => ps.getD i (0, 0, 0)) = sortP ps := by
  refine srt_eq _ _ ?_ ?_ (sortP_srt ps)
  · refine List.Perm.trans ?_ (sortP_perm ps).symm
    have := hp.list.map fun i => ps.getD i (0, 0, 0)
    rw [map_range_self] at this
    exact this
  · rw [SrtP, List.pairwise_iff_getElem]
    intro i j hi hj hij
    have hz := hp.size
    have hi' : i < p.size := by simpa using hi
    have hj' : j < p.size := by simpa using hj
    have := hs i j hij (by omega)
    have e1 : at0 p i = p[i] := by simp [at0, Array.getD, hi']
    have e2 : at0 p j = p[j] := by simp [at0, Array.getD, hj']
    rw [e1, e2] at this
    simpa using this
theorem list_sort_pairs {A : Around} {s : Shared} {F : Fz} {a : Addr} {vs : List Value} {ps : List Pair} {n : Nat} {P : PySem.Fin → Shared → Prop} (hh : A.handled = none) (hu : A.units + 64 < cLine) (l : Fle F s.heap.get?) (hFa : F a = none) (ho : s.heap.get? a = some (seqObj "list" vs.toArray n))
    (r : RdL F (ps.map pairD) vs) (nd : ps.Nodup) (h2 : 2 ≤ ps.length) (h64 : ps.length < 64)
    (h : ∀ out : Array Value, RdL F ((sortP ps).map pairD) out.toList → P (.done (.ret .none)) { s with heap := sortedHeap s.heap a vs out }) :
    wpAny (model c.prog c.w) A (Builtin.«list.sort» ⟨[.ref a], []⟩) P (fun _ _ => False) s := by
  have hlen : vs.length = ps.length := by have := r.length; simpa using this
  have eline : sizeLine = 16777216 := by decide
  have ha : a < s.heap.objs.size := Heap.lt_size ho
  rw [list_sort_plain]
  refine wpAny_bind (listItems_at ho rfl ?_)
  refine wpAny_bind (listUpdate_at ho rfl ?_ (by rw [List.size_toArray]; omega) (Nat.zero_le _))
  obtain ⟨e1, ho1⟩ : ∃ e1, (s.heap.update a (Obj.mapSeq fun _ => (#[] : Array Value))).get? a = some (seqObj "list" #[] e1) := ⟨_, get?_update_seq ho fun _ => #[]⟩
  refine wpAny_bind (seqEpoch_at ho1 rfl ?_)
  refine wpAny_bind (wpAny_newTuple ?_ (by show vs.length ≤ _; omega))
  refine wpAny_bind (wpAny_newList ?_ (Nat.zero_le _))
  refine wpAny_holding ?_
  have ho6 : (((s.heap.update a (Obj.mapSeq fun _ => (#[] : Array Value))).push (seqObj "tuple" vs.toArray 0)).push (seqObj "list" #[] 0)).get? a = some (seqObj "list" #[] e1) := Heap.get?_push_of_some _ (Heap.get?_push_of_some _ ho1)
  have l6 : Fle F (((s.heap.update a (Obj.mapSeq fun _ => (#[] : Array Value))).push (seqObj "tuple" vs.toArray 0)).push (seqObj "list" #[] 0)).get? := fun b o e => by
    have hne : b ≠ a := fun z => by rw [z, hFa] at e; cases e
    exact Heap.get?_push_of_some _ (Heap.get?_push_of_some _ ((Heap.get?_update_ne _ _ _ _ hne).trans (l b o e)))
  show wpAny (model c.prog c.w) A _ P _ { s with heap := ((s.heap.update a (Obj.mapSeq fun _ => (#[] : Array Value))).push (seqObj "tuple" vs.toArray 0)).push (seqObj "list" #[] 0) }
  dsimp only
  have hn2 : ¬ vs.toArray.size < 2 := by rw [List.size_toArray]; omega
  rw [if_neg hn2, if_neg hn2]
  obtain ⟨fs, kt, kz, kf⟩ := tups_of l6 r
  refine wpAny_bind (kat_kind (T := .type "int") kt (by omega) (fun v hv => by obtain ⟨i, t, rfl⟩ := kf v hv; exact Looks.of_pure rfl) rfl ?_)
  generalize hH : ((s.heap.update a (Obj.mapSeq fun _ => (#[] : Array Value))).push (seqObj "tuple" vs.toArray 0)).push (seqObj "list" #[] 0) = H at *
  refine wpAny_bind (wpAny_mono (kat_run (E := fun _ _ => False) (κ := tuples' true) (s := { s with heap := H }) (Q := fun st' s' => s' = { s with heap := H } ∧ ∃ p : Array Nat, PermA ps.length p ∧ Srt (fun i j => ltK (ps.getD i (0, 0, 0)) (ps.getD j (0, 0, 0))) p ps.length ∧ arrOf st' = p.map (kas_item (vs.toArray.zip vs.toArray)) ∧ failedOf st' = none)
    (G := fun p s' => s' = { s with heap := H } ∧ PermA ps.length p ∧ Srt (fun i j => ltK (ps.getD i (0, 0, 0)) (ps.getD j (0, 0, 0))) p ps.length) rfl (by omega) (by omega) (fun p' st' s' a1 a2 a3 a4 => ⟨a4.1, p', a4.2.1, a4.2.2, a2, a3⟩)
    (good_wp (lt := fun i j => ltK (ps.getD i (0, 0, 0)) (ps.getD j (0, 0, 0))) (n := ps.length) (fun i j C hi hj hC => ask_pair hh hu l6 (rd_getD r hi) (rd_getD r hj) hC) (fun p hp => ⟨rfl, hp⟩) _ (by rw [hlen]; exact sort_good (ltK_lin nd) h2))) ?_ fun _ _ e => e)
  rintro ⟨⟨⟩, st'⟩ s' ⟨rfl, p, hp, hs, har, hf⟩
  dsimp only
  have hout := kat_snds (ks := vs) (vs := vs) rfl har
  rw [hout]
  refine wpAny_bind (seqEpoch_at ho6 rfl ?_)
  refine wpAny_bind (listUpdate_at ho6 rfl ?_ (Nat.zero_le _) (by
    show (List.toArray (p.toList.map fun i => vs.getD i Value.none)).size ≤ _
    rw [List.size_toArray, List.length_map, Array.length_toList, hp.size]; omega))
  rw [hf]
  simp only [bne_self_eq_false, Bool.false_eq_true, if_false]
  have hr := rd_perm r p.toList fun i hi => List.mem_range.mp (hp.list.mem_iff.mp hi)
  rw [sorted_is hp hs] at hr
  have := h (List.toArray (p.toList.map fun i => vs.getD i Value.none)) hr
  unfold sortedHeap at this
  rw [hH] at this
  exact wpAny_pure this
end Mine
end

section
open PySem PySem.Calls PyProof.Rows PySem.W
set_option maxRecDepth 100000
set_option linter.unusedVariables false
namespace Mine
variable {c : Cx} {n : Nat}
section
variable {sc : Scope} {pn : List Str} {ρ : Vars}
/-- sorted(e), a list of pairs -/
theorem Ev_sortedPairs {p pos : Pos} {e : Expr} {ps : List Pair} (hc : c.Ok) (hg : Glb c "sorted" (.builtin "sorted")) (hi : isGlb sc "sorted" = true) (he : EvR c n sc ρ e (pairsD ps)) (nd : ps.Nodup) (h2 : 2 ≤ ps.length) (h64 : ps.length < 64) (hp : plainArg e = true := by rfl) :
    Ev c n sc ρ (.Call (.Name "sorted" p) [e] [] pos) (pairsD (sortP ps)) := fun A env pins F P s R ok S => by
  refine wpAny_Call_Name_kw (load_glob hc ok S.keep hi hg ?_)
  show wpAny _ _ (callWith pos (.builtin "sorted") [] (backTo pos (starEach [e] env)) []) _ _ _
  refine callWith_val (starFalse (by simp [hp])) nofun ?_
  rw [starEach_plain hp]
  refine spliced_cons (wpAny_mono (he A env pins F P s R ok S) (fun v s₁ hp1 => ?_) fun _ _ x => x)
  obtain ⟨F₁, G₁, X₁, r₁⟩ := hp1
  refine spliced_nil ?_
  obtain ⟨a, vs, rfl, il, rr⟩ := r₁.lst G₁.le
  obtain ⟨l⟩ := vs
  have hlen : l.length = ps.length := by have := rr.length; simpa using this
  have eline : sizeLine = 16777216 := by decide
  have run : wpAny (model c.prog c.w) A (call (.builtin "sorted") [.ref a]) (fun v s' => ∃ out : Array Value, v = .ref (s₁.heap.objs.size + 1) ∧ s' = { s₁ with heap := sortedAll s₁.heap l out } ∧ RdL F₁ ((sortP ps).map pairD) out.toList) (fun _ _ => False) s₁ := by
    refine Calls.call_function_entry kind_sorted plain_sorted entry_sorted (args_sorted1 _) ?_
    unfold Builtin.«sorted»
    refine wpAny_bind (m := checkCount "sorted" 1 1 _) (wpAny_pure ?_)
    refine wpAny_bind (collect_list il ?_ (by omega))
    refine wpAny_bind (wpAny_newList ?_ (by omega))
    have hsz : ((s₁.heap.push (seqObj "list" #[] 0)).update s₁.heap.objs.size (Obj.mapSeq (· ++ l.toArray))).objs.size = s₁.heap.objs.size + 1 := by
      rw [Heap.size_update, size_push']
    have hoL : (((s₁.heap.push (seqObj "list" #[] 0)).update s₁.heap.objs.size (Obj.mapSeq (· ++ l.toArray))).push (seqObj "list" l.toArray 0)).get? (s₁.heap.objs.size + 1) = some (seqObj "list" l.toArray 0) := by
      rw [← hsz]; exact Heap.get?_push_size _ rfl
    have lF : Fle F₁ (((s₁.heap.push (seqObj "list" #[] 0)).update s₁.heap.objs.size (Obj.mapSeq (· ++ l.toArray))).push (seqObj "list" l.toArray 0)).get? := fun b o q => by
      have q := G₁.le b o q
      have hlt : b < s₁.heap.objs.size := Heap.lt_size q
      rw [Heap.get?_push_ne _ _ _ (by rw [hsz]; exact Nat.ne_of_lt (Nat.lt_succ_of_lt hlt)), Heap.get?_update_ne _ _ _ _ (Nat.ne_of_lt hlt), Heap.get?_push_ne _ _ _ (Nat.ne_of_lt hlt)]
      exact q
    show wpAny _ _ _ _ _ { s₁ with heap := ((s₁.heap.push (seqObj "list" #[] 0)).update s₁.heap.objs.size (Obj.mapSeq (· ++ l.toArray))).push (seqObj "list" l.toArray 0) }
    rw [hsz]
    refine wpAny_bind (wpAny_holding (wpAny_call_entry slot_list_sort ⟨_, hoL, rfl⟩ entry_list_sort ?body (args_list_sort _)))
    case body =>
      refine list_sort_pairs (c := c) (F := F₁) (s := { s₁ with heap := ((s₁.heap.push (seqObj "list" #[] 0)).update s₁.heap.objs.size (Obj.mapSeq (· ++ l.toArray))).push (seqObj "list" l.toArray 0) }) R.1 ?_ lF (none_of_le G₁.le (Nat.le_succ _)) hoL rr nd h2 h64 fun out hout => ⟨_, rfl, ?_⟩
      · have := R.units
        show A.units + 1 + 1 + 64 < cLine; omega
      · exact wpAny_pure ⟨_, rfl, out, rfl, rfl, hout⟩
  refine wpAny_mono (wpAny_sz (Nat.le_refl s₁.heap.objs.size) run) (fun v s₂ ⟨z, out, ev, es, hout⟩ => ?_) fun _ _ x => x.2
  subst ev es
  obtain ⟨e1, he1⟩ := sortedAll_at s₁.heap l out
  have k1 : Fle s₁.heap.get? (sortedAll s₁.heap l out).get? := fun b o e => sortedAll_old e
  have hF : F₁ (s₁.heap.objs.size + 1) = none := none_of_le G₁.le (Nat.le_succ _)
  have g := Fz.ins_le (o := seqObj "list" out e1) hF
  refine ⟨F₁.ins (s₁.heap.objs.size + 1) (seqObj "list" out e1), G₁.trans ⟨g, fun b o e => ?_, k1, fun b o e => ?_, z⟩, X₁.trans ⟨_, _, rfl⟩, .lst (Fz.ins_self _ _ _) rfl rfl (hout.mono g)⟩
  · unfold Fz.ins at e
    by_cases q : b = s₁.heap.objs.size + 1
    · rw [q]; exact .inr (Nat.le_succ _)
    · rw [if_neg q] at e; exact .inl e
  · unfold Fz.ins at e
    by_cases q : b = s₁.heap.objs.size + 1
    · rw [if_pos q] at e; cases e; rw [q]; exact he1
    · rw [if_neg q] at e; exact k1 b o (G₁.le b o e)
/-- a and b, a being True -/
theorem Ev_and2 {e₁ e₂ : Expr} {pos : Pos} {d : D} (h1 : Ev c n sc ρ e₁ (.bool true)) (h2 : Ev c n sc ρ e₂ d) : Ev c n sc ρ (.BoolOp .And [e₁, e₂] pos) d := fun A env pins F P s R ok S => by
  refine BoolOp_and (wpAny_mono (h1 A env pins F P s R ok S) (fun v s₁ hp1 => ?_) fun _ _ x => x)
  obtain ⟨F₁, G₁, X₁, r₁⟩ := hp1
  cases r₁
  refine wpAny_truthy_bool ?_
  rw [if_pos rfl]
  exact BoolOp_one (wpAny_mono (h2 A env pins F₁ P s₁ R ok (S.grow G₁)) (fun v s₂ q => q.after G₁ X₁) fun _ _ x => x)
end
/-! tables that are alike -/
theorem plainAll_rows : ∀ hs : Rows, D.plain.plainAll (rowsD hs) = true
  | [] => rfl
  | kv :: r => by show (D.plain (rowD kv) && D.plain.plainAll (rowsD r)) = true; rw [plainAll_rows r]; rfl
theorem canAll_rows : ∀ hs : Rows, (∀ kv ∈ hs, PyData.strOk kv.1 = true ∧ PyData.strOk kv.2 = true) → PyData.canLayAll0 (D.py.pyAll (rowsD hs)) = true
  | [], _ => rfl
  | kv :: r, h => by
    show (PyData.canLay0 (rowD kv).py && PyData.canLayAll0 (D.py.pyAll (rowsD r))) = true
    rw [canAll_rows r fun q hq => h q (.tail _ hq)]
    obtain ⟨h1, h2⟩ := h kv (.head _)
    show ((PyData.strOk kv.1 && (PyData.strOk kv.2 && true)) && true) = true
    rw [h1, h2]; rfl
theorem depthAll_rows : ∀ hs : Rows, PyData.depthAll (D.py.pyAll (rowsD hs)) ≤ 1
  | [] => by show 0 ≤ 1; decide
  | kv :: r => by
    show max (rowD kv).py.depth (PyData.depthAll (D.py.pyAll (rowsD r))) ≤ 1
    have h1 : (rowD kv).py.depth = 1 := rfl
    have h2 := depthAll_rows r
    omega
theorem okEq_rows {hs : Rows} (h : ∀ kv ∈ hs, PyData.strOk kv.1 = true ∧ PyData.strOk kv.2 = true) : okEq (.lst (rowsD hs)) = true := by
  unfold okEq
  have h1 : (D.lst (rowsD hs)).plain = true := plainAll_rows hs
  have h2 : (D.lst (rowsD hs)).py.canLay0 = true := canAll_rows hs h
  have h3 : (D.lst (rowsD hs)).py.depth ≤ 64 := by
    show PyData.depthAll (D.py.pyAll (rowsD hs)) + 1 ≤ 64
    have := depthAll_rows hs
    omega
  rw [h1, h2, decide_eq_true h3]; rfl
/-! _law_right -/
noncomputable def matOf (leads : List Str) : Mat := fun x y => votesM (colsM (leadAt leads x)) (colsM (leadAt leads y))
theorem list4 {α : Type} {l : List α} (h : l.length = 4) : ∃ a b d e, l = [a, b, d, e] := by
  match l, h with
  | [a, b, d, e], _ => exact ⟨a, b, d, e, rfl⟩
theorem moreL_eq {leads : List Str} (h : leads.length = 4) : moreL (leads.map colsM) = matL (matOf leads) := by
  obtain ⟨a, b, d, e, rfl⟩ := list4 h
  rfl
theorem cols_len (x : Str) : (colsM x).length = 5 := by simp [colsM]
noncomputable def edgeOf (p : Pair) : Edge := (oddB p.1, p.2.1, p.2.2)
noncomputable def dueM (o : Str) (ps : List Pair) : Rows := (ps.filter fun p => hasM o p.2.1 p.2.2).map fun p => rowOf (edgeOf p)
theorem row_strOk {e : Edge} (h : e.2.1 < 4 ∧ e.2.2 < 4) : PyData.strOk (rowOf e).1 = true ∧ PyData.strOk (rowOf e).2 = true := by
  have h1 : ∀ k, k < 4 → PyData.strOk (abcd k) = true ∧ PyData.strOk (capD k) = true := by decide +kernel
  refine ⟨?_, (h1 _ h.2).1⟩
  show PyData.strOk (nameOf e.1 e.2.1) = true
  unfold nameOf
  split
  · exact (h1 _ h.1).2
  · exact (h1 _ h.1).1
theorem due_ok {o : Str} {ps : List Pair} (h : ∀ p ∈ ps, p.2.1 < 4 ∧ p.2.2 < 4) : ∀ kv ∈ dueM o ps, PyData.strOk kv.1 = true ∧ PyData.strOk kv.2 = true := fun kv hkv => by
  obtain ⟨p, hp, rfl⟩ := List.mem_map.mp hkv
  exact row_strOk (h p (List.mem_filter.mp hp).1)
theorem pairsM_nodup (M : Mat) : (pairsM M).Nodup := by
  unfold pairsM
  refine List.pairwise_flatMap.mpr ⟨fun x hx => ?_, ?_⟩
  · refine List.Pairwise.map _ (fun a b hab => ?_) (List.Pairwise.filter _ (List.nodup_range (n := 4)))
    intro e; exact hab (congrArg (fun p : Pair => p.2.2) e)
  · refine List.Pairwise.imp (fun {a b} hab => ?_) (List.nodup_range (n := 4))
    intro p hp q hq e
    obtain ⟨y, _, rfl⟩ := List.mem_map.mp hp
    obtain ⟨z, _, rfl⟩ := List.mem_map.mp hq
    exact hab (congrArg (fun p : Pair => p.2.1) e)
/-- what the plain law must say -/
structure RightOk (leads : List Str) (items : Rows) (o : Str) : Prop where
  one : ordersM (sortP (pairsM (matOf leads))) = [o]
  items : items = dueM o (sortP (pairsM (matOf leads)))
  steps : byM (atP o (matOf leads)) = true
  five : FiveOk leads o (matOf leads)
  two : 2 ≤ (pairsM (matOf leads)).length
noncomputable abbrev riB := defBody pw "_law_right"
noncomputable abbrev riS := defScope pw "_law_right"
noncomputable abbrev riF := fBody riB 4
noncomputable abbrev riρ (C : Addr) (leads : List Str) (items : Rows) (ps : List Pair) (o : Str) (due : Rows) : Vars := [("leads", .val (lst leads)), ("rooms", .val (roomsD C leads)), ("items", .val (.lst (rowsD items))), ("more", .val (matD (matOf leads))), ("pairs", .val (pairsD ps)), ("orders", .val (lst [o])), ("due", .lst (rowsD due))]
theorem ri_loop {C : Addr} {fh : Value} (hc : c.Ok) (gh : Callee c "_law_has" fh) (hh : IsFn c fh ["order", "x", "y"] haB haS) {leads : List Str} {items : Rows} {ps0 : List Pair} {o : Str} (ho : o ∈ ords) : ∀ (ps : List Pair) (due : Rows), (∀ p ∈ ps, p.2.1 < 4 ∧ p.2.2 < 4) → due.length + ps.length ≤ 100 →
    LoopR (Turn c 3 riS [] (fTarget riB 4) riF) (ps.map pairD) (riρ C leads items ps0 o due) .next (riρ C leads items ps0 o (due ++ dueM o ps))
  | [], due, _, _ => by
    have : dueM o [] = [] := rfl
    rw [this, List.append_nil]; exact .nil
  | p :: r, due, hp, hz => by
    simp only [List.length_cons] at hz
    obtain ⟨w, x, y⟩ := p
    obtain ⟨hx, hy⟩ : x < 4 ∧ y < 4 := hp _ (.head _)
    have ih := fun due' hz' => ri_loop (C := C) (leads := leads) (items := items) (ps0 := ps0) hc gh hh ho r due' (fun q hq => hp q (.tail _ hq)) hz'
    let σ : Vars := Vars.put (Vars.put (Vars.put (riρ C leads items ps0 o due) "fewer" (.val (.int w))) "x" (.val (.int x))) "y" (.val (.int y))
    have asg : AsgT c 3 riS [] (riρ C leads items ps0 o due) (fTarget riB 4) (pairD (w, x, y)) σ := AsgT_tup (.cons (AsgT_name rfl (by decide)) (.cons (AsgT_name rfl (by decide)) (.cons (AsgT_name rfl (by decide)) .nil)))
    have te : Te c 3 riS σ (iTest riF 0) (hasM o x y) := Te_plain (d := .bool (hasM o x y)) (.of (Ev_callP hc gh ((ha_fn hc hh (ords_ok o ho).1 hx hy).le (by decide)) rfl (EvL_cons (Ev_Sub (a := lst [o]) (EvR_name rfl rfl) EvR_int (Itm.lst (i := 0) (by decide) rfl (by decide))) (EvL_cons (Ev_name rfl rfl) (EvL_cons (Ev_name rfl rfl) EvL_nil))))) Tru.bool
    cases hb : hasM o x y with
    | true =>
      have e : dueM o ((w, x, y) :: r) = rowOf (edgeOf (w, x, y)) :: dueM o r := by
        unfold dueM; rw [List.filter_cons, if_pos hb]; rfl
      have := ih (due ++ [rowOf (edgeOf (w, x, y))]) (by simp; omega)
      rw [List.append_assoc] at this
      rw [e]
      refine .next ⟨σ, asg, ?_⟩ this
      refine Ex.less (Ex_cons (ExS_if (te.conv hb) (fun _ => Ex_cons (ExS_exprX (EvX_append (d := rowD (rowOf (edgeOf (w, x, y)))) rfl rfl (EvX.of (Ev_Tuple (EvL_cons (Ev_sideName hx rfl rfl rfl rfl) (EvL_cons (Ev_abcd hy (EvR_name rfl rfl)) EvL_nil)) (Nat.le_of_ble_eq_true rfl))) rfl (by unfold rowsD; rw [List.length_map]; omega))) Ex_nil) (fun h => nomatch h)) Ex_nil) ⟨rfl, rfl, rfl, rfl, rfl, rfl, ?_, trivial⟩
      show some (Slot.lst _) = some (Slot.lst _)
      unfold rowsD; rw [List.map_append]; rfl
    | false =>
      have e : dueM o ((w, x, y) :: r) = dueM o r := by
        unfold dueM; rw [List.filter_cons, if_neg (by rw [hb]; decide)]
      rw [e]
      refine .next ⟨σ, asg, ?_⟩ (ih due (by omega))
      exact (Ex_cons (ExS_if (te.conv hb) (fun h => nomatch h) fun _ => Ex_nil) Ex_nil).less ⟨rfl, rfl, rfl, rfl, rfl, rfl, rfl, trivial⟩
noncomputable abbrev riO (C : Addr) (leads : List Str) (items : Rows) (t : Vars) : Vars := ("leads", .val (lst leads)) :: ("rooms", .val (roomsD C leads)) :: ("items", .val (.lst (rowsD items))) :: t
structure RiK (c : Cx) : Prop where
  mo : ∃ fv, Callee c "_law_more" fv ∧ IsFn c fv ["columns"] moB moS
  co : ∃ fv, Callee c "_law_walked" fv ∧ IsFn c fv ["lead"] coB coS
  pa : ∃ fv, Callee c "_law_pairs" fv ∧ IsFn c fv ["more"] paB paS
  or : ∃ fv, Callee c "_law_orders" fv ∧ IsFn c fv ["pairs"] orB orS
  ha : ∃ fv, Callee c "_law_has" fv ∧ IsFn c fv ["order", "x", "y"] haB haS
  by_ : ∃ fv, Callee c "_law_by_steps" fv ∧ IsFn c fv ["order", "more"] byB byS
  fi : ∃ fv, Callee c "_law_all_five" fv ∧ IsFn c fv ["rooms", "order", "more"] fiB fiS
theorem ri_fn {fv : Value} {C : Addr} (hc : c.Ok) (B : Blt c) (Wm : WsM c C) (K : RiK c) (hf : IsFn c fv ["leads", "rooms", "items"] riB riS) {leads : List Str} (L : LeadsOk leads) {items : Rows} {o : Str} (H : RightOk leads items o) : FnP c 4 fv [lst leads, roomsD C leads, .lst (rowsD items)] (.bool true) := by
  obtain ⟨fmo, gmo, hmo⟩ := K.mo
  obtain ⟨fco, gco, hco⟩ := K.co
  obtain ⟨fpa, gpa, hpa⟩ := K.pa
  obtain ⟨for_, gor, hor⟩ := K.or
  obtain ⟨fha, gha, hha⟩ := K.ha
  obtain ⟨fby, gby, hby⟩ := K.by_
  obtain ⟨ffi, gfi, hfi⟩ := K.fi
  have ho : o ∈ ords := ordersM_sub _ o (by rw [H.one]; exact .head _)
  have hpl : ∀ p ∈ sortP (pairsM (matOf leads)), p.2.1 < 4 ∧ p.2.2 < 4 := fun p hp => pairs_lt _ p ((sortP_perm _).mem_iff.mp hp)
  have hpz : (sortP (pairsM (matOf leads))).length ≤ 16 := by rw [(sortP_perm _).length_eq]; exact pairs_len _
  refine FnP_intro (n := 3) (fl := .ret (.bool true)) (ρ' := riρ C leads items (sortP (pairsM (matOf leads))) o (dueM o (sortP (pairsM (matOf leads))))) hc hf (by decide) rfl ⟨nofun, nofun⟩ ?_
  have h1 : FnP c 3 fmo [.lst ((leads.map colsM).map nats)] (matD (matOf leads)) := by
    have := (mo_fn (cs := leads.map colsM) B hc hmo (fun a ha => by obtain ⟨x, _, rfl⟩ := List.mem_map.mp ha; exact cols_len x) (by rw [List.length_map, L.len]; decide)).le (show 1 ≤ 3 by decide)
    rw [moreL_eq L.len] at this; exact this
  have hcomp : CompOf c 3 riS (riO C leads items []) (match asgE riB 0 with | .Call _ [e] _ _ => cElt e | _ => default) (match asgE riB 0 with | .Call _ [e] _ _ => cIter e 0 | _ => default) "lead" [] (match asgE riB 0 with | .Call _ [e] _ _ => cScp e | _ => default) [] ((leads.map colsM).map nats) := by
    refine ⟨by decide, FreeOk.get trivial, fun _ _ => rfl, lst leads, leads.map .str, EvR_name rfl rfl, rfl, rfl, by rw [List.length_map, L.len]; decide, ?_⟩
    rw [List.map_map]
    refine compR_map _ _ leads (fun _ => .nil) fun x hx => ?_
    exact Ev_callP hc gco ((co_fn (x := x) B hc hco).le (by decide)) rfl (EvL_cons (Ev_name rfl rfl) EvL_nil)
  refine Ex_cons (ρ₁ := riO C leads items [("more", .val (matD (matOf leads)))]) (ExS_assign (Ev_callP hc gmo h1 rfl (EvL_cons (EvNew_comp hcomp).ev EvL_nil)) rfl (by decide)) ?_
  refine Ex_cons (ρ₁ := riO C leads items [("more", .val (matD (matOf leads))), ("pairs", .val (pairsD (sortP (pairsM (matOf leads)))))]) (ExS_assign (Ev_sortedPairs hc B.sorted rfl (.of (Ev_callP hc gpa ((pa_fn B hc hpa).le (by decide)) rfl (EvL_cons (Ev_name rfl rfl) EvL_nil))) (pairsM_nodup _) H.two (Nat.lt_of_le_of_lt (pairs_len _) (by decide))) rfl (by decide)) ?_
  have h2 : FnP c 3 for_ [pairsD (sortP (pairsM (matOf leads)))] (lst [o]) := by
    have := (or_fn hc gha hha hor hpl).le (show 2 ≤ 3 by decide)
    rw [H.one] at this; exact this
  refine Ex_cons (ρ₁ := riO C leads items [("more", .val (matD (matOf leads))), ("pairs", .val (pairsD (sortP (pairsM (matOf leads))))), ("orders", .val (lst [o]))]) (ExS_assign (Ev_callP hc gor h2 rfl (EvL_cons (Ev_name rfl rfl) EvL_nil)) rfl (by decide)) ?_
  refine Ex_cons (ρ₁ := riρ C leads items (sortP (pairsM (matOf leads))) o []) (ExS_assignNew (EvNew_List EvL_nil (by decide)) rfl (by decide)) ?_
  have LL := ri_loop (C := C) (leads := leads) (items := items) (ps0 := sortP (pairsM (matOf leads))) hc gha hha ho (sortP (pairsM (matOf leads))) [] hpl (by simp; omega)
  rw [List.nil_append] at LL
  refine Ex_cons (ExS_for (d := pairsD (sortP (pairsM (matOf leads)))) (Ev_name rfl rfl) rfl rfl LL (.inr ⟨rfl, rfl, fun x hx => by obtain ⟨p, _, rfl⟩ := List.mem_map.mp hx; rfl⟩)) ?_
  have okd := okEq_rows (due_ok (o := o) hpl)
  have te : Te c 3 riS (riρ C leads items (sortP (pairsM (matOf leads))) o (dueM o (sortP (pairsM (matOf leads))))) (iTest riB 5) false := by
    refine (Te_or (b := false) (b' := false) ?_ fun _ => (Te_or (b := false) (b' := false) ?_ fun _ => Te_or_nil).conv rfl).conv rfl
    · exact (Te_Compare (.of (Ev_callB hc B.len rfl nofun (EvLR_cons (EvR_name rfl rfl) EvLR_nil) (CallR.lenL (xs := [D.str o]) (Nat.le_of_ble_eq_true rfl)))) EvR_int Cmp.neI).conv rfl
    · refine (Te_Compare (a := .lst (rowsD items)) (b := .lst (rowsD (dueM o (sortP (pairsM (matOf leads)))))) (EvR_name rfl rfl) (EvR_own rfl rfl) (Cmp.neD (by rw [H.items]; exact okd) okd)).conv ?_
      rw [H.items, SeqAt.eqv_refl _ ?_]
      · rfl
      · unfold okEq at okd
        simp only [Bool.and_eq_true] at okd
        exact okd.1.2
  refine Ex_cons (ExS_if te (fun h => nomatch h) fun _ => Ex_nil) ?_
  have e0 : ∀ {p q t}, Ev c 3 riS (riρ C leads items (sortP (pairsM (matOf leads))) o (dueM o (sortP (pairsM (matOf leads))))) (.Subscript (.Name "orders" p) (.Constant (.int 0) t q) q) (.str o) := fun {p q t} => Ev_Sub (a := lst [o]) (EvR_name rfl rfl) EvR_int (Itm.lst (i := 0) (by decide) rfl (by decide))
  refine Ex_stop (ExS_return (Ev_and2 ?_ ?_))
  · exact Ev_callP hc gby ((by_fn B hc hby ho H.steps).le (by decide)) rfl (EvL_cons (Ev_Sub (a := lst [o]) (EvR_name rfl rfl) EvR_int (Itm.lst (i := 0) (by decide) rfl (by decide))) (EvL_cons (Ev_name rfl rfl) EvL_nil))
  · exact Ev_callP hc gfi (fi_fn hc B Wm gha hha hfi L ho H.five) rfl (EvL_cons (Ev_name rfl rfl) (EvL_cons (Ev_Sub (a := lst [o]) (EvR_name rfl rfl) EvR_int (Itm.lst (i := 0) (by decide) rfl (by decide))) (EvL_cons (Ev_name rfl rfl) EvL_nil)))
end Mine
end

section
open PySem PySem.Calls PyProof.Rows PySem.W
set_option maxRecDepth 100000
set_option linter.unusedVariables false
namespace Mine
variable {c : Cx} {n : Nat}
noncomputable abbrev lawB := defBody pw "law"
noncomputable abbrev lawS := defScope pw "law"
theorem FnI.le {m : Nat} {fi : Value} {C : Addr} {ds : List D} {fs : List (Str × D)} (h : FnI c n fi C ds fs) (hm : n ≤ m) : FnI c m fi C ds fs := fun A F s x dx vs R => h A F s x dx vs (R.le hm)
/-- all that the world must give -/
structure LawK (c : Cx) (Cw Ch : Addr) (nc vc : Array Nat) : Prop where
  hc : c.Ok
  B : Blt c
  M : WsM c Cw
  H : HdK c Ch nc vc
  I : ItK c Ch
  K : HpK c
  R : RiK c
  li : ∃ fv, Callee c "_law_leads" fv ∧ IsFn c fv ["script"] liB liS
  re : ∃ fv, Callee c "_law_reached" fv ∧ IsFn c fv ["table", "letter"] reB reS
  lo : ∃ fv, Callee c "_law_locked" fv ∧ IsFn c fv ["more"] loB loS
  ri : ∃ fv, Callee c "_law_right" fv ∧ IsFn c fv ["leads", "rooms", "items"] riB riS
noncomputable def levM (x : Str) : List Nat := (List.range' 1 5).map fun ts => levelOf (wsOf x) ts
/-- the plain law -/
structure PlainOk (leads : List Str) : Prop where
  ok : LeadsOk leads
  lev : ∀ x ∈ leads, levM x = colsM x
  right : ∃ o, RightOk leads (tabOf (lockM (pairsM (matOf leads)))) o
theorem law_ex {Cw Ch : Addr} {nc vc : Array Nat} (L : LawK c Cw Ch nc vc) (PO : PatOk nc vc) {ns : List Int} (hn : ns.length ≤ 100) (Pl : PlainOk (leadsM ns)) :
    ∃ ρ', Ex c 9 lawS [] [("script", .val (.lst (ns.map .int)))] lawB (.ret (.bool true)) ρ' := by
  obtain ⟨o, Rt⟩ := Pl.right
  obtain ⟨fli, gli, hli⟩ := L.li
  obtain ⟨fre, gre, hre⟩ := L.re
  obtain ⟨flo, glo, hlo⟩ := L.lo
  obtain ⟨fri, gri, hri⟩ := L.ri
  obtain ⟨fpa, gpa, hpa⟩ := L.R.pa
  obtain ⟨fmo, gmo, hmo⟩ := L.R.mo
  obtain ⟨fi, fdi, hN, Di, hbi⟩ := L.M.init
  obtain ⟨fil, hMil, hil⟩ := L.M.il
  generalize hle : leadsM ns = leads at *
  have h1 := (li_fn (ns := ns) L.hc hli hn).le (show 1 ≤ 9 by decide)
  rw [hle] at h1
  have h2 : FnP c 9 fmo [.lst ((leads.map colsM).map nats)] (matD (matOf leads)) := by
    have := (mo_fn (cs := leads.map colsM) L.B L.hc hmo (fun a ha => by obtain ⟨x, _, rfl⟩ := List.mem_map.mp ha; exact cols_len x) (by rw [List.length_map, Pl.ok.len]; decide)).le (show 1 ≤ 9 by decide)
    rw [moreL_eq Pl.ok.len] at this; exact this
  have h3 := (lo_fn L.hc L.K L.B L.H L.I PO gre hre gpa hpa hlo (M := matOf leads)).le (show 5 ≤ 9 by decide)
  have h4 := (ri_fn (C := Cw) L.hc L.B L.M L.R hri Pl.ok Rt).le (show 4 ≤ 9 by decide)
  have c1 : CompOf c 9 lawS [("script", .val (.lst (ns.map .int))), ("leads", .val (lst leads))] (cElt (asgE lawB 1)) (cIter (asgE lawB 1) 0) "lead" (cIfs (asgE lawB 1) 0) (cScp (asgE lawB 1)) [] (leads.map (instW Cw)) := by
    refine ⟨by decide, FreeOk.get trivial, fun _ _ => rfl, lst leads, leads.map .str, EvR_name rfl rfl, rfl, rfl, by rw [List.length_map, Pl.ok.len]; decide, ?_⟩
    refine compR_map .str (instW Cw) leads (fun _ => .nil) fun x hx => ?_
    exact Ev_new (n := 8) L.hc L.M.k.glb hN ((ws_init L.hc L.M.k L.B.len L.B.tuple Di hbi (Pl.ok.sz x hx)).le (by decide)) rfl (EvL_cons (Ev_name rfl rfl) EvL_nil)
  have c2 : CompOf c 9 lawS [("script", .val (.lst (ns.map .int))), ("leads", .val (lst leads)), ("rooms", .val (roomsD Cw leads))] (cElt (asgE lawB 2)) (cIter (asgE lawB 2) 0) "room" (cIfs (asgE lawB 2) 0) (cScp (asgE lawB 2)) [] ((leads.map colsM).map nats) := by
    refine ⟨by decide, FreeOk.get trivial, fun _ _ => rfl, roomsD Cw leads, leads.map (instW Cw), EvR_name rfl rfl, rfl, rfl, by rw [List.length_map, Pl.ok.len]; decide, ?_⟩
    rw [List.map_map]
    refine compR_map (instW Cw) _ leads (fun _ => .nil) fun x hx => ?_
    show Ev _ _ _ _ _ (nats (colsM x))
    rw [← Pl.lev x hx]
    refine (EvNew_comp (ρc := [("room", .val (instW Cw x))]) (ys := (levM x).map dN) ⟨by decide, FreeOk.get ⟨rfl, rfl, trivial⟩, fun _ _ => rfl, .rng 1 6, (List.range' 1 5).map dN, .of (Ev_callB L.hc L.B.range rfl nofun (EvLR_cons EvR_int (EvLR_cons EvR_int EvLR_nil)) CallR.range2), items_rng 1 6, rfl, by decide, ?_⟩).ev
    unfold levM
    rw [List.map_map]
    refine compR_map dN _ (List.range' 1 5) (fun _ => .nil) fun ts hts => ?_
    obtain ⟨t1, t2⟩ := List.mem_range'_1.mp hts
    exact Ev_meth (C := Cw) (fs := wsF x (wsOf x)) L.hc hMil (Ev_name rfl rfl) rfl (EvL_cons (Ev_name rfl rfl) EvL_nil) ((il_fn (ts := ts) (by omega) (by omega) L.hc L.M.k L.B (wsOk_of (Pl.ok.sz x hx)) hil).le (by decide))
  refine ⟨_, Ex_cons (ExS_assign (d := lst leads) (Ev_callP L.hc gli h1 rfl (EvL_cons (Ev_name rfl rfl) EvL_nil)) rfl (by decide)) (Ex_cons (ExS_comp c1 rfl (by decide)) (Ex_cons (ExS_comp c2 rfl (by decide)) (Ex_stop (ExS_return (Ev_callP L.hc gri h4 rfl (EvL_cons (Ev_name rfl rfl) (EvL_cons (Ev_name rfl rfl) (EvL_cons ?_ EvL_nil))))))))⟩
  exact Ev_callP L.hc glo h3 rfl (EvL_cons (Ev_callP L.hc gmo h2 rfl (EvL_cons (Ev_name rfl rfl) EvL_nil)) EvL_nil)
end Mine
end

section
open PySem PySem.Calls PyProof.Rows PySem.W
set_option maxRecDepth 100000
set_option linter.unusedVariables false
namespace Mine
section
variable {c : Cx}
theorem defAt_of (X : c.K.In c.hB) {a : Addr} {o : Obj} {fd : FuncData} {b : List Stmt} {sc : Scope} (ho : c.K.lookup a = some o) (hd : o.data = .func fd) (hb : fd.body = .stmts b) (hs : fd.scope = sc) (hc : fd.closure = []) (hg : fd.globals = mainGlobals) (hbl : fd.builtins = builtinsNs) (hcd : codeIn c.K fd.code fd.qualname = true) : DefAt c a fd b sc :=
  ⟨⟨o, X a o ho, hd⟩, hb, hs, hc, hg, hbl, codeRec_of X hcd⟩
theorem isFn_of {a : Addr} {fd : FuncData} {names : List Str} {b : List Stmt} {sc : Scope} (D : DefAt c a fd b sc) (hbi : ∀ vs : List Value, vs.length = names.length → bindArgs fd ⟨vs, []⟩ = pure (names.zip vs)) : IsFn c (.ref a) names b sc :=
  let ⟨o, h1, h2⟩ := D.at_
  ⟨a, o, fd, rfl, h1, h2, D.body, D.scope, D.clo, D.glob, D.blt, D.code, hbi⟩
theorem callee_of {a : Addr} {fd : FuncData} {b : List Stmt} {sc : Scope} {f : Str} (D : DefAt c a fd b sc) (g : Glb c f (.ref a)) : Callee c f (.ref a) :=
  let ⟨o, h1, h2⟩ := D.at_
  ⟨g, a, o, fd, rfl, h1, h2⟩
theorem glb_of (X : c.K.In c.hB) (T : TopRead c.p c.loose c.mg c.mb c.hB) {x : Str} {v : Value} (e : nsIn c.K mainGlobals x = some (some v)) : Glb c x v := .inl (mg_of X T.g e)
theorem glb_builtin (X : c.K.In c.hB) (T : TopRead c.p c.loose c.mg c.mb c.hB) {x : Str} {v : Value} (e : nsIn c.K mainGlobals x = some none) (hv : bootBuiltins x = some v) (hn : x ≠ "__name__") : Glb c x v := .inr ⟨mg_none_of X T.g e, hv, hn⟩
theorem binds1 {fd : FuncData} {x : Str} (h : ∀ a : Value, bindArgs fd ⟨[a], []⟩ = pure [(x, a)]) : ∀ vs : List Value, vs.length = ([x] : List Str).length → bindArgs fd ⟨vs, []⟩ = pure (([x] : List Str).zip vs) := fun vs hl => by
  rcases vs with _ | ⟨a, _ | ⟨b, r⟩⟩
  · cases hl
  · exact h a
  · cases hl
theorem binds2 {fd : FuncData} {x y : Str} (h : ∀ a b : Value, bindArgs fd ⟨[a, b], []⟩ = pure [(x, a), (y, b)]) : ∀ vs : List Value, vs.length = ([x, y] : List Str).length → bindArgs fd ⟨vs, []⟩ = pure (([x, y] : List Str).zip vs) := fun vs hl => by
  rcases vs with _ | ⟨a, _ | ⟨b, _ | ⟨e, r⟩⟩⟩
  · cases hl
  · cases hl
  · exact h a b
  · cases hl
theorem binds3 {fd : FuncData} {x y z : Str} (h : ∀ a b e : Value, bindArgs fd ⟨[a, b, e], []⟩ = pure [(x, a), (y, b), (z, e)]) : ∀ vs : List Value, vs.length = ([x, y, z] : List Str).length → bindArgs fd ⟨vs, []⟩ = pure (([x, y, z] : List Str).zip vs) := fun vs hl => by
  rcases vs with _ | ⟨a, _ | ⟨b, _ | ⟨e, _ | ⟨g, r⟩⟩⟩⟩
  · cases hl
  · cases hl
  · cases hl
  · exact h a b e
  · cases hl
end
noncomputable def cx (w : World) (loose : List Str) (mg mb : Str → Option Value) (h : Heap) : Cx := { prog := PySem.Challenge.rw_pg0319_02.row.prog, w := w, K := KK w.params, p := q1, loose := loose, mg := mg, mb := mb, hB := h }
section
variable {w : World} {loose : List Str} {mg mb : Str → Option Value} {h : Heap}
end
end Mine
end

section
open PySem PySem.Calls PyProof.Rows PySem.W
set_option maxRecDepth 100000
set_option linter.unusedVariables false
namespace Mine
section
variable {w : World} {loose : List Str} {mg mb : Str → Option Value} {h : Heap}

theorem j_heappush (X : (KK w.params).In h) (T : TopRead q1 loose mg mb h) : ∃ fv, Callee (cx w loose mg mb h) "heappush" fv ∧ IsFn (cx w loose mg mb h) fv ["heap", "item"] hpuB hpuS := by
  have D : ∃ fd, DefAt (cx w loose mg mb h) 45 fd hpuB hpuS ∧ ∀ vs : List Value, vs.length = (["heap", "item"] : List Str).length → bindArgs fd ⟨vs, []⟩ = pure ((["heap", "item"] : List Str).zip vs) := ⟨_, defAt_of (c := cx w loose mg mb h) X rfl rfl rfl rfl rfl rfl rfl rfl, binds2 fun _ _ => rfl⟩
  obtain ⟨fd, D, hb⟩ := D
  exact ⟨_, callee_of D (glb_of (c := cx w loose mg mb h) X T rfl), isFn_of D hb⟩

theorem j_heappop (X : (KK w.params).In h) (T : TopRead q1 loose mg mb h) : ∃ fv, Callee (cx w loose mg mb h) "heappop" fv ∧ IsFn (cx w loose mg mb h) fv ["heap"] hpoB hpoS := by
  have D : ∃ fd, DefAt (cx w loose mg mb h) 52 fd hpoB hpoS ∧ ∀ vs : List Value, vs.length = (["heap"] : List Str).length → bindArgs fd ⟨vs, []⟩ = pure ((["heap"] : List Str).zip vs) := ⟨_, defAt_of (c := cx w loose mg mb h) X rfl rfl rfl rfl rfl rfl rfl rfl, binds1 fun _ => rfl⟩
  obtain ⟨fd, D, hb⟩ := D
  exact ⟨_, callee_of D (glb_of (c := cx w loose mg mb h) X T rfl), isFn_of D hb⟩

theorem j_siftdown (X : (KK w.params).In h) (T : TopRead q1 loose mg mb h) : ∃ fv, Callee (cx w loose mg mb h) "_siftdown" fv ∧ IsFn (cx w loose mg mb h) fv ["heap", "startpos", "pos"] sdB sdS := by
  have D : ∃ fd, DefAt (cx w loose mg mb h) 59 fd sdB sdS ∧ ∀ vs : List Value, vs.length = (["heap", "startpos", "pos"] : List Str).length → bindArgs fd ⟨vs, []⟩ = pure ((["heap", "startpos", "pos"] : List Str).zip vs) := ⟨_, defAt_of (c := cx w loose mg mb h) X rfl rfl rfl rfl rfl rfl rfl rfl, binds3 fun _ _ _ => rfl⟩
  obtain ⟨fd, D, hb⟩ := D
  exact ⟨_, callee_of D (glb_of (c := cx w loose mg mb h) X T rfl), isFn_of D hb⟩

theorem j_siftup (X : (KK w.params).In h) (T : TopRead q1 loose mg mb h) : ∃ fv, Callee (cx w loose mg mb h) "_siftup" fv ∧ IsFn (cx w loose mg mb h) fv ["heap", "pos"] suB suS := by
  have D : ∃ fd, DefAt (cx w loose mg mb h) 66 fd suB suS ∧ ∀ vs : List Value, vs.length = (["heap", "pos"] : List Str).length → bindArgs fd ⟨vs, []⟩ = pure ((["heap", "pos"] : List Str).zip vs) := ⟨_, defAt_of (c := cx w loose mg mb h) X rfl rfl rfl rfl rfl rfl rfl rfl, binds2 fun _ _ => rfl⟩
  obtain ⟨fd, D, hb⟩ := D
  exact ⟨_, callee_of D (glb_of (c := cx w loose mg mb h) X T rfl), isFn_of D hb⟩

theorem j_law_leads (X : (KK w.params).In h) (T : TopRead q1 loose mg mb h) : ∃ fv, Callee (cx w loose mg mb h) "_law_leads" fv ∧ IsFn (cx w loose mg mb h) fv ["script"] liB liS := by
  have D : ∃ fd, DefAt (cx w loose mg mb h) 287 fd liB liS ∧ ∀ vs : List Value, vs.length = (["script"] : List Str).length → bindArgs fd ⟨vs, []⟩ = pure ((["script"] : List Str).zip vs) := ⟨_, defAt_of (c := cx w loose mg mb h) X rfl rfl rfl rfl rfl rfl rfl rfl, binds1 fun _ => rfl⟩
  obtain ⟨fd, D, hb⟩ := D
  exact ⟨_, callee_of D (glb_of (c := cx w loose mg mb h) X T rfl), isFn_of D hb⟩

theorem j_law_more (X : (KK w.params).In h) (T : TopRead q1 loose mg mb h) : ∃ fv, Callee (cx w loose mg mb h) "_law_more" fv ∧ IsFn (cx w loose mg mb h) fv ["columns"] moB moS := by
  have D : ∃ fd, DefAt (cx w loose mg mb h) 294 fd moB moS ∧ ∀ vs : List Value, vs.length = (["columns"] : List Str).length → bindArgs fd ⟨vs, []⟩ = pure ((["columns"] : List Str).zip vs) := ⟨_, defAt_of (c := cx w loose mg mb h) X rfl rfl rfl rfl rfl rfl rfl rfl, binds1 fun _ => rfl⟩
  obtain ⟨fd, D, hb⟩ := D
  exact ⟨_, callee_of D (glb_of (c := cx w loose mg mb h) X T rfl), isFn_of D hb⟩

theorem j_law_pairs (X : (KK w.params).In h) (T : TopRead q1 loose mg mb h) : ∃ fv, Callee (cx w loose mg mb h) "_law_pairs" fv ∧ IsFn (cx w loose mg mb h) fv ["more"] paB paS := by
  have D : ∃ fd, DefAt (cx w loose mg mb h) 299 fd paB paS ∧ ∀ vs : List Value, vs.length = (["more"] : List Str).length → bindArgs fd ⟨vs, []⟩ = pure ((["more"] : List Str).zip vs) := ⟨_, defAt_of (c := cx w loose mg mb h) X rfl rfl rfl rfl rfl rfl rfl rfl, binds1 fun _ => rfl⟩
  obtain ⟨fd, D, hb⟩ := D
  exact ⟨_, callee_of D (glb_of (c := cx w loose mg mb h) X T rfl), isFn_of D hb⟩

theorem j_law_reached (X : (KK w.params).In h) (T : TopRead q1 loose mg mb h) : ∃ fv, Callee (cx w loose mg mb h) "_law_reached" fv ∧ IsFn (cx w loose mg mb h) fv ["table", "letter"] reB reS := by
  have D : ∃ fd, DefAt (cx w loose mg mb h) 306 fd reB reS ∧ ∀ vs : List Value, vs.length = (["table", "letter"] : List Str).length → bindArgs fd ⟨vs, []⟩ = pure ((["table", "letter"] : List Str).zip vs) := ⟨_, defAt_of (c := cx w loose mg mb h) X rfl rfl rfl rfl rfl rfl rfl rfl, binds2 fun _ _ => rfl⟩
  obtain ⟨fd, D, hb⟩ := D
  exact ⟨_, callee_of D (glb_of (c := cx w loose mg mb h) X T rfl), isFn_of D hb⟩

theorem j_law_locked (X : (KK w.params).In h) (T : TopRead q1 loose mg mb h) : ∃ fv, Callee (cx w loose mg mb h) "_law_locked" fv ∧ IsFn (cx w loose mg mb h) fv ["more"] loB loS := by
  have D : ∃ fd, DefAt (cx w loose mg mb h) 313 fd loB loS ∧ ∀ vs : List Value, vs.length = (["more"] : List Str).length → bindArgs fd ⟨vs, []⟩ = pure ((["more"] : List Str).zip vs) := ⟨_, defAt_of (c := cx w loose mg mb h) X rfl rfl rfl rfl rfl rfl rfl rfl, binds1 fun _ => rfl⟩
  obtain ⟨fd, D, hb⟩ := D
  exact ⟨_, callee_of D (glb_of (c := cx w loose mg mb h) X T rfl), isFn_of D hb⟩

theorem j_law_walked (X : (KK w.params).In h) (T : TopRead q1 loose mg mb h) : ∃ fv, Callee (cx w loose mg mb h) "_law_walked" fv ∧ IsFn (cx w loose mg mb h) fv ["lead"] coB coS := by
  have D : ∃ fd, DefAt (cx w loose mg mb h) 320 fd coB coS ∧ ∀ vs : List Value, vs.length = (["lead"] : List Str).length → bindArgs fd ⟨vs, []⟩ = pure ((["lead"] : List Str).zip vs) := ⟨_, defAt_of (c := cx w loose mg mb h) X rfl rfl rfl rfl rfl rfl rfl rfl, binds1 fun _ => rfl⟩
  obtain ⟨fd, D, hb⟩ := D
  exact ⟨_, callee_of D (glb_of (c := cx w loose mg mb h) X T rfl), isFn_of D hb⟩

theorem j_law_has (X : (KK w.params).In h) (T : TopRead q1 loose mg mb h) : ∃ fv, Callee (cx w loose mg mb h) "_law_has" fv ∧ IsFn (cx w loose mg mb h) fv ["order", "x", "y"] haB haS := by
  have D : ∃ fd, DefAt (cx w loose mg mb h) 327 fd haB haS ∧ ∀ vs : List Value, vs.length = (["order", "x", "y"] : List Str).length → bindArgs fd ⟨vs, []⟩ = pure ((["order", "x", "y"] : List Str).zip vs) := ⟨_, defAt_of (c := cx w loose mg mb h) X rfl rfl rfl rfl rfl rfl rfl rfl, binds3 fun _ _ _ => rfl⟩
  obtain ⟨fd, D, hb⟩ := D
  exact ⟨_, callee_of D (glb_of (c := cx w loose mg mb h) X T rfl), isFn_of D hb⟩

theorem j_law_orders (X : (KK w.params).In h) (T : TopRead q1 loose mg mb h) : ∃ fv, Callee (cx w loose mg mb h) "_law_orders" fv ∧ IsFn (cx w loose mg mb h) fv ["pairs"] orB orS := by
  have D : ∃ fd, DefAt (cx w loose mg mb h) 332 fd orB orS ∧ ∀ vs : List Value, vs.length = (["pairs"] : List Str).length → bindArgs fd ⟨vs, []⟩ = pure ((["pairs"] : List Str).zip vs) := ⟨_, defAt_of (c := cx w loose mg mb h) X rfl rfl rfl rfl rfl rfl rfl rfl, binds1 fun _ => rfl⟩
  obtain ⟨fd, D, hb⟩ := D
  exact ⟨_, callee_of D (glb_of (c := cx w loose mg mb h) X T rfl), isFn_of D hb⟩

theorem j_law_by_steps (X : (KK w.params).In h) (T : TopRead q1 loose mg mb h) : ∃ fv, Callee (cx w loose mg mb h) "_law_by_steps" fv ∧ IsFn (cx w loose mg mb h) fv ["order", "more"] byB byS := by
  have D : ∃ fd, DefAt (cx w loose mg mb h) 337 fd byB byS ∧ ∀ vs : List Value, vs.length = (["order", "more"] : List Str).length → bindArgs fd ⟨vs, []⟩ = pure ((["order", "more"] : List Str).zip vs) := ⟨_, defAt_of (c := cx w loose mg mb h) X rfl rfl rfl rfl rfl rfl rfl rfl, binds2 fun _ _ => rfl⟩
  obtain ⟨fd, D, hb⟩ := D
  exact ⟨_, callee_of D (glb_of (c := cx w loose mg mb h) X T rfl), isFn_of D hb⟩

theorem j_law_all_five (X : (KK w.params).In h) (T : TopRead q1 loose mg mb h) : ∃ fv, Callee (cx w loose mg mb h) "_law_all_five" fv ∧ IsFn (cx w loose mg mb h) fv ["rooms", "order", "more"] fiB fiS := by
  have D : ∃ fd, DefAt (cx w loose mg mb h) 344 fd fiB fiS ∧ ∀ vs : List Value, vs.length = (["rooms", "order", "more"] : List Str).length → bindArgs fd ⟨vs, []⟩ = pure ((["rooms", "order", "more"] : List Str).zip vs) := ⟨_, defAt_of (c := cx w loose mg mb h) X rfl rfl rfl rfl rfl rfl rfl rfl, binds3 fun _ _ _ => rfl⟩
  obtain ⟨fd, D, hb⟩ := D
  exact ⟨_, callee_of D (glb_of (c := cx w loose mg mb h) X T rfl), isFn_of D hb⟩

theorem j_law_right (X : (KK w.params).In h) (T : TopRead q1 loose mg mb h) : ∃ fv, Callee (cx w loose mg mb h) "_law_right" fv ∧ IsFn (cx w loose mg mb h) fv ["leads", "rooms", "items"] riB riS := by
  have D : ∃ fd, DefAt (cx w loose mg mb h) 349 fd riB riS ∧ ∀ vs : List Value, vs.length = (["leads", "rooms", "items"] : List Str).length → bindArgs fd ⟨vs, []⟩ = pure ((["leads", "rooms", "items"] : List Str).zip vs) := ⟨_, defAt_of (c := cx w loose mg mb h) X rfl rfl rfl rfl rfl rfl rfl rfl, binds3 fun _ _ _ => rfl⟩
  obtain ⟨fd, D, hb⟩ := D
  exact ⟨_, callee_of D (glb_of (c := cx w loose mg mb h) X T rfl), isFn_of D hb⟩

end
end Mine
end

section
open PySem PySem.Calls PyProof.Rows PySem.W
set_option maxRecDepth 100000
set_option linter.unusedVariables false
namespace Mine
section
variable {w : World} {loose : List Str} {mg mb : Str → Option Value} {h : Heap}
theorem j_blt (X : (KK w.params).In h) (T : TopRead q1 loose mg mb h) : Blt (cx w loose mg mb h) where
  len := glb_builtin (c := cx w loose mg mb h) X T rfl rfl (by decide)
  max := glb_builtin (c := cx w loose mg mb h) X T rfl rfl (by decide)
  min := glb_builtin (c := cx w loose mg mb h) X T rfl rfl (by decide)
  range := glb_builtin (c := cx w loose mg mb h) X T rfl rfl (by decide)
  tuple := glb_builtin (c := cx w loose mg mb h) X T rfl rfl (by decide)
  int := glb_builtin (c := cx w loose mg mb h) X T rfl rfl (by decide)
  str := glb_builtin (c := cx w loose mg mb h) X T rfl rfl (by decide)
  sorted := glb_builtin (c := cx w loose mg mb h) X T rfl rfl (by decide)
theorem j_hp (X : (KK w.params).In h) (T : TopRead q1 loose mg mb h) : HpK (cx w loose mg mb h) := ⟨j_heappush X T, j_heappop X T, j_siftdown X T, j_siftup X T⟩
theorem j_clsW : ClsK (cx w loose mg mb h) 128 := ⟨rfl, rfl, rfl, rfl, rfl⟩
theorem j_clsH : ClsK (cx w loose mg mb h) 276 := ⟨rfl, rfl, rfl, rfl, rfl⟩
theorem j_wsK (X : (KK w.params).In h) (T : TopRead q1 loose mg mb h) : WsK (cx w loose mg mb h) 128 where
  cls := j_clsW
  raw := rfl
  n := rfl
  nt := rfl
  norm := rfl
  simple := rfl
  glb := glb_of (c := cx w loose mg mb h) X T rfl
  blank := ⟨.type "type", _, rfl, rfl⟩
  tab := ⟨.type "type", _, rfl, rfl⟩
theorem j_meth {C : Addr} {name : Str} {f : Addr} (hC : ClsK (cx w loose mg mb h) C) (e : findIn (KK w.params) (.ref C) name = some (some (.ref f))) (e1 : typeIn (KK w.params) (.ref f) = some (.type "function")) (e2 : keepIn (KK w.params) (.ref f) = true) : MethK (cx w loose mg mb h) C name f := ⟨hC, e, e1, e2⟩
theorem j_wsM (X : (KK w.params).In h) (T : TopRead q1 loose mg mb h) : WsM (cx w loose mg mb h) 128 where
  k := j_wsK X T
  lr := ⟨_, j_meth j_clsW rfl rfl rfl, isFn_of (defAt_of (c := cx w loose mg mb h) X rfl rfl rfl rfl rfl rfl rfl rfl) (binds1 fun _ => rfl)⟩
  il := ⟨_, j_meth j_clsW rfl rfl rfl, isFn_of (defAt_of (c := cx w loose mg mb h) X rfl rfl rfl rfl rfl rfl rfl rfl) (binds2 fun _ _ => rfl)⟩
  ls := ⟨_, j_meth j_clsW rfl rfl rfl, isFn_of (defAt_of (c := cx w loose mg mb h) X rfl rfl rfl rfl rfl rfl rfl rfl) (binds2 fun _ _ => rfl)⟩
  init := ⟨_, _, ⟨rfl, rfl, rfl, rfl⟩, defAt_of (c := cx w loose mg mb h) X rfl rfl rfl rfl rfl rfl rfl rfl, fun v0 vs hl s _ => by
    rcases vs with _ | ⟨a, _ | ⟨b, r⟩⟩
    · cases hl
    · exact .of_eq rfl
    · cases hl⟩
noncomputable def ncode : Array Nat := #[14, 10, 4, 1, 1, 22, 0, 31, 16, 127, 0, 13, 7, 22, 0, 31, 16, 127, 0, 1]
noncomputable def vcode : Array Nat := #[14, 14, 4, 1, 1, 9, 4294966783, 0, 0, 2147483648, 0, 0, 0, 0, 0, 13, 11, 9, 4294966783, 0, 0, 2147483648, 0, 0, 0, 0, 0, 1]
theorem j_nre (X : (KK w.params).In h) : PatAt h 142 ncode := ⟨_, _, _, _, _, _, X 142 _ rfl, rfl, rfl, rfl, rfl, rfl, rfl, X 141 _ rfl, rfl, by decide +kernel⟩
theorem j_vre (X : (KK w.params).In h) : PatAt h 147 vcode := ⟨_, _, _, _, _, _, X 147 _ rfl, rfl, rfl, rfl, rfl, rfl, rfl, X 146 _ rfl, rfl, by decide +kernel⟩
end
end Mine
end

section
open PySem PySem.Calls PyProof.Rows PySem.W
set_option maxRecDepth 100000
set_option linter.unusedVariables false
namespace Mine
section
variable {w : World} {loose : List Str} {mg mb : Str → Option Value} {h : Heap}
theorem j_hdK (X : (KK w.params).In h) (T : TopRead q1 loose mg mb h) : HdK (cx w loose mg mb h) 276 ncode vcode where
  cls := j_clsH
  hd := rfl
  glb := glb_of (c := cx w loose mg mb h) X T rfl
  type := glb_builtin (c := cx w loose mg mb h) X T rfl rfl (by decide)
  list := glb_builtin (c := cx w loose mg mb h) X T rfl rfl (by decide)
  str := glb_builtin (c := cx w loose mg mb h) X T rfl rfl (by decide)
  len := glb_builtin (c := cx w loose mg mb h) X T rfl rfl (by decide)
  nre := ⟨142, glb_of (c := cx w loose mg mb h) X T rfl, j_nre X⟩
  vre := ⟨147, glb_of (c := cx w loose mg mb h) X T rfl, j_vre X⟩
  conv := ⟨_, _, j_meth j_clsH rfl rfl rfl, defAt_of (c := cx w loose mg mb h) X rfl rfl rfl rfl rfl rfl rfl rfl, fun v0 v b s hs => .of_eq rfl⟩
  add := ⟨_, _, j_meth j_clsH rfl rfl rfl, defAt_of (c := cx w loose mg mb h) X rfl rfl rfl rfl rfl rfl rfl rfl, fun v0 v1 v2 s A E Q hs q => by
    refine wpAny_bind (m := alloc emptyDict) (wpAny_alloc ?_)
    exact wpAny_pure q⟩
  getall := ⟨_, _, j_meth j_clsH rfl rfl rfl, defAt_of (c := cx w loose mg mb h) X rfl rfl rfl rfl rfl rfl rfl rfl, fun v0 v s hs => .of_eq rfl⟩
  get := ⟨_, _, j_meth j_clsH rfl rfl rfl, defAt_of (c := cx w loose mg mb h) X rfl rfl rfl rfl rfl rfl rfl rfl, fun v0 v s hs => .of_defaults rfl (hs _ _ (X _ _ rfl)) rfl rfl rfl⟩
  lens := ⟨_, _, j_meth j_clsH rfl rfl rfl, defAt_of (c := cx w loose mg mb h) X rfl rfl rfl rfl rfl rfl rfl rfl, fun v0 s hs => .of_eq rfl⟩
  init := ⟨_, _, ⟨rfl, rfl, rfl, rfl⟩, defAt_of (c := cx w loose mg mb h) X rfl rfl rfl rfl rfl rfl rfl rfl, fun v0 s hs => .of_defaults rfl (hs _ _ (X _ _ rfl)) rfl rfl rfl⟩
end
end Mine
end

section
open PySem PySem.Calls PyProof.Rows PySem.W
set_option maxRecDepth 100000
set_option linter.unusedVariables false
namespace Mine
section
variable {w : World} {loose : List Str} {mg mb : Str → Option Value} {h : Heap}
theorem j_itK (X : (KK w.params).In h) : ItK (cx w loose mg mb h) 276 := ⟨⟨_, _, j_meth j_clsH rfl rfl rfl, defAt_of (c := cx w loose mg mb h) X rfl rfl rfl rfl rfl rfl rfl rfl, fun v0 s hs => .of_eq rfl⟩⟩
end
theorem t_pat : PatOk ncode vcode := ⟨by decide +kernel, by decide +kernel, by decide +kernel⟩
end Mine
end

section
open PySem PySem.Calls PyProof.Rows PySem.W
set_option maxRecDepth 100000
set_option linter.unusedVariables false
namespace Mine
section
variable {w : World} {loose : List Str} {mg mb : Str → Option Value} {h : Heap}
theorem j_law (X : (KK w.params).In h) (T : TopRead q1 loose mg mb h) : LawK (cx w loose mg mb h) 128 276 ncode vcode where
  hc := ⟨X, T⟩
  B := j_blt X T
  M := j_wsM X T
  H := j_hdK X T
  I := j_itK X
  K := j_hp X T
  R := ⟨j_law_more X T, j_law_walked X T, j_law_pairs X T, j_law_orders X T, j_law_has X T, j_law_by_steps X T, j_law_all_five X T⟩
  li := j_law_leads X T
  re := j_law_reached X T
  lo := j_law_locked X T
  ri := j_law_right X T
end
/-! the leads, four of them -/
noncomputable def fourL (q : Nat → Nat) : List Str := (List.range 4).map fun k => leadOf ((q k : Nat) : Int)
theorem firstFour_len (ns : List Int) : (firstFour ns).length = 4 := by unfold firstFour; simp
theorem leads_four (ns : List Int) : ∃ q : Nat → Nat, (∀ k, q k < 40) ∧ leadsM ns = fourL q := by
  refine ⟨fun k => (((firstFour ns).getD k 0).fmod 40).toNat, fun k => ?_, ?_⟩
  · obtain ⟨q, hq, e⟩ := mod40 ((firstFour ns).getD k 0)
    show (((firstFour ns).getD k 0).fmod 40).toNat < 40
    rw [e]; simpa using hq
  · unfold leadsM fourL
    have h := map_range_self (0 : Int) (firstFour ns)
    rw [firstFour_len] at h
    have e : (firstFour ns).map (fun m => leadOf (m.fmod 40)) = ((List.range 4).map fun i => (firstFour ns).getD i 0).map fun m => leadOf (m.fmod 40) := by rw [h]
    rw [e, List.map_map]
    refine List.map_congr_left fun i _ => ?_
    obtain ⟨q, hq, e⟩ := mod40 ((firstFour ns).getD i 0)
    show leadOf (((firstFour ns).getD i 0).fmod 40) = leadOf ((((firstFour ns).getD i 0).fmod 40).toNat : Nat)
    rw [e]; rfl
/-- the plain law, whole -/
noncomputable def PlainAll : Prop := ∀ q : Nat → Nat, (∀ k, q k < 40) → PlainOk (fourL q)
theorem good_true {c : ClaimW} {cl : Str → Option Addr} {mean : ExcName → Option Value} {args : List WData} {s₁ s' : Shared} (h1 : ∀ cls, c.raises args cls = false) (h2 : c.post args (.bool true) args = true) (hk : ∀ b o, s₁.heap.get? b = some o → s'.heap.get? b = some o) (ho : s'.os = s₁.os) (hg : s'.gens = #[]) : GoodW c cl mean args s₁ (.ok (.ret (.bool true))) s' :=
  ⟨.inl ⟨_, .bool true, [], rfl, h1, .bool true, h2, fun _ => ⟨.nil, fun a ha => nomatch ha⟩⟩, hk, ho, hg⟩
/-- the call, from its head on -/
theorem law_end (PA : PlainAll) {w : World} {loose : List Str} {mg mb : Str → Option Value} {s₁ : Shared} {h₁ : Heap} {l fa : Addr} {cdv : Value} {vals : List Value} {ns : List Int} {m : Str → Option Value} {tk : Nat} {cl : Str → Option Addr} {mean : ExcName → Option Value} {args : List WData} {E : Value → Shared → Prop} {fl : Flow → Value}
    (KX : (KK w.params).In s₁.heap) (T : TopRead q1 loose mg mb s₁.heap) (hL : s₁.heap.IsList l vals.toArray) (hI : IntsAre vals ns) (F : Fr s₁.heap s₁.heap.objs.size h₁ m) (hm : m "script" = some (.ref l)) (hg : s₁.gens = #[]) (hn : ns.length ≤ 100) (hfl : ∀ v, fl (.ret v) = v)
    (h1 : ∀ cls, PySem.Challenge.rw_pg0319_02.row.claim.raises args cls = false) (h2 : PySem.Challenge.rw_pg0319_02.row.claim.post args (.bool true) args = true) :
    wpAny (model PySem.Challenge.rw_pg0319_02.row.prog w) (callerA.deeper (envOf "law" lawS s₁.heap.objs.size fa cdv)) (execs lawB (envOf "law" lawS s₁.heap.objs.size fa cdv))
      (fun f s' => GoodW PySem.Challenge.rw_pg0319_02.row.claim cl mean args s₁ (.ok (.ret (fl f))) s') E ⟨h₁, s₁.gens, s₁.drawn, tk, s₁.os⟩ := by
  obtain ⟨q, hq, eq⟩ := leads_four ns
  have Pl := PA q hq
  rw [← eq] at Pl
  obtain ⟨ρ', hex⟩ := law_ex (j_law KX T) t_pat hn Pl
  have ok : EnvOk (envOf "law" lawS s₁.heap.objs.size fa cdv) lawS := ⟨rfl, rfl, rfl, rfl, by show [s₁.heap.objs.size].Nodup; simp⟩
  have R : Room 9 (callerA.deeper (envOf "law" lawS s₁.heap.objs.size fa cdv)) := ⟨rfl, by show callerA.depth + 1 + 9 ≤ 700; decide, by show callerA.units + 3 + 3 * 9 ≤ 9000; decide⟩
  have Lsz : s₁.heap.objs.size < h₁.objs.size := F.ns.lt
  obtain ⟨ol, ho, hcls, k, hdat⟩ := hL
  have S : St (cx w loose mg mb s₁.heap) (envOf "law" lawS s₁.heap.objs.size fa cdv) [] [("script", .val (.lst (ns.map .int)))] s₁.heap.get? (fun a => a = s₁.heap.objs.size) h₁ := by
    refine ⟨m, fun _ => [], ?_⟩
    exact {
      base := .refl _
      le := F.keep
      sto := ⟨⟨m, F.ns, fun x _ => rfl⟩, fun x hx => by
        exfalso
        have e : lawS.names.lookup x = some .cell ∨ lawS.names.lookup x = some .free := hx
        have hno : lawS.names.all (fun q => !(q.2 == .cell) && !(q.2 == .free)) = true := by decide
        have key : ∀ k, lawS.names.lookup x = some k → k ≠ .cell ∧ k ≠ .free := fun k hk => by
          have := List.all_eq_true.mp hno _ (mem_of_lookup hk)
          simp at this
          exact this
        rcases e with e | e
        · exact (key _ e).1 rfl
        · exact (key _ e).2 rfl⟩
      own := fun x sl e => by
        rw [List.lookup_cons] at e
        by_cases hx : x = "script"
        · subst hx
          simp at e; subst e
          exact ⟨.ref l, hm, .val (.lst ho hcls hdat (RdL.ofInts (by simpa using hI)))⟩
        · have : (x == ("script" : Str)) = false := by simpa using hx
          rw [this] at e; cases e
      pin := fun q hq => nomatch hq
      mem := fun a => ⟨fun e => .inl (by rw [e]; exact .head _), fun e => by
        rcases e with e | ⟨x, sl, e1, e2⟩
        · exact List.mem_singleton.mp e
        · cases e2⟩
      lt := fun a e => by rw [e]; exact Lsz
      out := fun a e => by
        subst e
        cases q : s₁.heap.get? s₁.heap.objs.size with
        | none => rfl
        | some o => exact absurd (Heap.lt_size q) (Nat.lt_irrefl _)
      nd := fun _ _ _ => .nil
      apart := fun _ _ _ _ _ _ _ _ ha => nomatch ha
      aparts := fun _ _ _ _ ha => nomatch ha }
  refine wpAny_mono (hex _ _ [] _ _ ⟨h₁, s₁.gens, s₁.drawn, tk, s₁.os⟩ R ok rfl S) (fun f s' hp1 => ?_) fun _ _ x => x.elim
  obtain ⟨F', P', St', ⟨h', tk', es⟩, _, fr⟩ := hp1
  cases fr with
  | ret r =>
    cases r
    rw [hfl]
    subst es
    exact good_true h1 h2 (fun b o e => St'.keep b o (fun q => by subst q; exact absurd (Heap.lt_size e) (Nat.lt_irrefl _)) (F.keep b o e)) rfl hg
end Mine
end

section
open PySem PySem.Calls PyProof.Rows PySem.W
set_option maxRecDepth 100000
set_option linter.unusedVariables false
namespace Mine
/-! what the heap gives, one by one, is the sorted list -/
theorem ltP_ok : LtOk ltP okP := by
  refine ⟨fun a b ha hb h => ?_, fun a b e ha hb he h1 h2 => ?_⟩
  · exact ltK_asy (p := pairOf a) (q := pairOf b) h
  · exact ltK_tr (p := pairOf a) (q := pairOf b) (r := pairOf e) h1 h2
theorem push_all : ∀ (l : List Pair) (h : List D), (∀ p ∈ l, p.2.1 < 4 ∧ p.2.2 < 4) → (∀ d ∈ h, okP d) → HeapI ltP h →
    HeapI ltP (l.foldl (fun h p => hpush ltP h (pairD p)) h) ∧ (l.foldl (fun h p => hpush ltP h (pairD p)) h).Perm (l.map pairD ++ h) ∧ ∀ d ∈ l.foldl (fun h p => hpush ltP h (pairD p)) h, okP d
  | [], h, _, hok, H => ⟨H, .refl _, hok⟩
  | p :: r, h, hl, hok, H => by
    have hp : okP (pairD p) := ⟨p, rfl, hl p (.head _)⟩
    obtain ⟨a, b⟩ := hpush_heap ltP_ok hok hp H
    have hok' : ∀ d ∈ hpush ltP h (pairD p), okP d := fun d hd => by
      rcases List.mem_cons.mp (b.mem_iff.mp hd) with rfl | q
      · exact hp
      · exact hok d q
    obtain ⟨a2, b2, c2⟩ := push_all r (hpush ltP h (pairD p)) (fun q hq => hl q (.tail _ hq)) hok' a
    refine ⟨a2, b2.trans ?_, c2⟩
    have e1 : (List.map pairD r ++ hpush ltP h (pairD p)).Perm (List.map pairD r ++ (pairD p :: h)) := b.append_left _
    exact e1.trans List.perm_middle
theorem lock_pops : ∀ (f : Nat) (h : List D) (ps : List Pair) (es : List Edge), h.length ≤ f → HeapI ltP h → (∀ d ∈ h, okP d) → h.Perm (ps.map pairD) → lockGo f h es = (sortP ps).foldl lockStep es
  | f, [], ps, es, _, _, _, hp => by
    have e : ps = [] := List.map_eq_nil_iff.mp hp.nil_eq.symm
    subst e
    cases f <;> rfl
  | 0, d :: h, _, _, hf, _, _, _ => by simp at hf
  | f + 1, d :: h, ps, es, hf, H, hok, hp => by
    obtain ⟨a, b, m⟩ := hpop_heap ltP_ok (h := d :: h) nofun hok H
    unfold lockGo
    generalize hx : (hpop ltP (d :: h)).1 = x at *
    generalize hy : (hpop ltP (d :: h)).2 = h2 at *
    have hok2 : ∀ e ∈ x :: h2, okP e := fun e he => hok e (b.mem_iff.mpr he)
    obtain ⟨p, rfl, hp4⟩ := hok2 x (.head _)
    rw [pairOf_D]
    -- the pairs without the least one
    have hpm : (pairD p :: h2).Perm (ps.map pairD) := b.symm.trans hp
    have hq : (p :: h2.map pairOf).Perm ps := by
      have := hpm.map pairOf
      rw [List.map_cons, pairOf_D, List.map_map] at this
      have e : ps.map (pairOf ∘ pairD) = ps := by
        rw [show (pairOf ∘ pairD) = id from funext pairOf_D, List.map_id]
      rw [e] at this; exact this
    have e2 : h2.Perm ((h2.map pairOf).map pairD) := by
      rw [List.map_map]
      have : h2.map (pairD ∘ pairOf) = h2 := by
        have hh : ∀ z ∈ h2, (pairD ∘ pairOf) z = id z := fun z hz => by
          obtain ⟨q, rfl, _⟩ := hok2 z (.tail _ hz)
          show pairD (pairOf (pairD q)) = _
          rw [pairOf_D]; rfl
        rw [List.map_congr_left hh, List.map_id]
      rw [this]
    have ih := lock_pops f h2 (h2.map pairOf) (lockStep es p) (by have := b.length_eq; simp only [List.length_cons] at this hf; omega) a (fun e he => hok2 e (.tail _ he)) e2
    rw [ih]
    have hs : sortP ps = p :: sortP (h2.map pairOf) := by
      refine srt_eq _ _ ((sortP_perm ps).trans (hq.symm.trans ((sortP_perm _).symm.cons p))) (sortP_srt ps) (List.pairwise_cons.mpr ⟨fun z hz => ?_, sortP_srt _⟩)
      obtain ⟨e, he, rfl⟩ := List.mem_map.mp ((sortP_perm _).mem_iff.mp hz)
      have := m e (b.mem_iff.mpr (.tail _ he))
      have e3 : ltP e (pairD p) = ltK (pairOf e) p := by unfold ltP ltK; rw [pairOf_D]
      rw [e3] at this; exact this
    rw [hs]; rfl
theorem lockM_eq {l : List Pair} (hl : ∀ p ∈ l, p.2.1 < 4 ∧ p.2.2 < 4) : lockM l = (sortP l).foldl lockStep [] := by
  obtain ⟨a, b, d⟩ := push_all l [] hl (fun _ q => nomatch q) (fun i i0 il => by simp at il)
  rw [List.append_nil] at b
  exact lock_pops l.length (heapM l) l [] (by have := b.length_eq; simp only [List.length_map] at this; exact Nat.le_of_eq this) a d b
end Mine
end

section
open PySem PySem.Calls PyProof.Rows PySem.W
set_option maxRecDepth 100000
set_option linter.unusedVariables false
namespace Mine
/-! what is reached -/
theorem mem_addM {seen : List Nat} {o z : Nat} : z ∈ addM seen o ↔ z ∈ seen ∨ z = o := by
  unfold addM
  cases h : seen.contains o with
  | true =>
    have hm : o ∈ seen := List.contains_iff_mem.mp h
    exact ⟨.inl, fun q => q.elim id fun e => by rw [e]; exact hm⟩
  | false =>
    show z ∈ seen ++ [o] ↔ _
    rw [List.mem_append, List.mem_singleton]
theorem mem_addMs {z : Nat} : ∀ (l seen : List Nat), z ∈ l.foldl addM seen ↔ z ∈ seen ∨ z ∈ l
  | [], seen => by simp
  | o :: r, seen => by
    rw [List.foldl_cons, mem_addMs r (addM seen o), mem_addM, List.mem_cons]
    constructor
    · rintro ((q | q) | q)
      · exact .inl q
      · exact .inr (.inl q)
      · exact .inr (.inr q)
    · rintro (q | q | q)
      · exact .inl (.inl q)
      · exact .inl (.inr q)
      · exact .inr q
theorem addM_pre (seen : List Nat) (o : Nat) : ∃ t, addM seen o = seen ++ t := by
  unfold addM
  cases h : seen.contains o with
  | true => exact ⟨[], (List.append_nil _).symm⟩
  | false => exact ⟨[o], rfl⟩
theorem addMs_pre : ∀ (l seen : List Nat), ∃ t, l.foldl addM seen = seen ++ t
  | [], seen => ⟨[], (List.append_nil _).symm⟩
  | o :: r, seen => by
    obtain ⟨t, e⟩ := addM_pre seen o
    obtain ⟨t', e'⟩ := addMs_pre r (addM seen o)
    exact ⟨t ++ t', by rw [List.foldl_cons, e', e, List.append_assoc]⟩
theorem reach_pred {es : List Edge} {Q : Nat → Prop} (hs : ∀ a b, Q a → b ∈ outs es a → Q b) : ∀ (k : Nat) (seen : List Nat) (p : Nat), (∀ z ∈ seen, Q z) → ∀ z ∈ reachGo es k seen p, Q z
  | 0, seen, p, h => h
  | k + 1, seen, p, h => by
    unfold reachGo
    by_cases q : p < seen.length
    · rw [if_pos q]
      refine reach_pred hs k _ (p + 1) fun z hz => ?_
      rcases (mem_addMs _ _).mp hz with hz | hz
      · exact h z hz
      · exact hs _ z (h _ (by rw [List.getD_eq_getElem?_getD, List.getElem?_eq_getElem q]; exact List.getElem_mem q)) hz
    · rw [if_neg q]; exact h
theorem reach_closed {es : List Edge} (he : EdgeOk es) : ∀ (k : Nat) (seen : List Nat) (p : Nat), seen.Nodup → (∀ z ∈ seen, z < 4) → 4 < k + p → (∀ i, i < p → i < seen.length → ∀ b ∈ outs es (seen.getD i 0), b ∈ seen) →
    (∀ z ∈ seen, z ∈ reachGo es k seen p) ∧ ∀ a ∈ reachGo es k seen p, ∀ b ∈ outs es a, b ∈ reachGo es k seen p
  | k, seen, p, nd, lt, hk, hi => by
    have h4 := le4 nd lt
    have fin : seen.length ≤ p → ∀ a ∈ seen, ∀ b ∈ outs es a, b ∈ seen := fun hp a ha b hb => by
      obtain ⟨i, hil, e⟩ := List.mem_iff_getElem.mp ha
      refine hi i (by omega) hil b ?_
      rw [List.getD_eq_getElem?_getD, List.getElem?_eq_getElem hil]
      show b ∈ outs es seen[i]
      rw [e]; exact hb
    cases k with
    | zero => exact ⟨fun z hz => hz, fin (by omega)⟩
    | succ k =>
      unfold reachGo
      by_cases q : p < seen.length
      · rw [if_pos q]
        obtain ⟨t, et⟩ := addMs_pre (outs es (seen.getD p 0)) seen
        obtain ⟨a, b⟩ := addMs_ok (outs es (seen.getD p 0)) nd lt (outs_lt he _)
        obtain ⟨r1, r2⟩ := reach_closed he k ((outs es (seen.getD p 0)).foldl addM seen) (p + 1) a b (by omega) fun i hip hil z hz => by
          have hil' : i < seen.length := by omega
          have e : ((outs es (seen.getD p 0)).foldl addM seen).getD i 0 = seen.getD i 0 := by
            rw [et, List.getD_eq_getElem?_getD, List.getElem?_append_left hil', List.getD_eq_getElem?_getD]
          rw [e] at hz
          refine (mem_addMs _ _).mpr ?_
          by_cases hi' : i < p
          · exact .inl (hi i hi' hil' z hz)
          · have : i = p := by omega
            subst this; exact .inr hz
        exact ⟨fun z hz => r1 z ((mem_addMs _ _).mpr (.inl hz)), r2⟩
      · rw [if_neg q]; exact ⟨fun z hz => hz, fin (by omega)⟩
theorem reachM_pred {es : List Edge} {Q : Nat → Prop} {y : Nat} (hs : ∀ a b, Q a → b ∈ outs es a → Q b) (hy : Q y) : ∀ z ∈ reachM es y, Q z := reach_pred hs 5 [y] 0 fun z hz => by rw [List.mem_singleton.mp hz]; exact hy
theorem reachM_closed {es : List Edge} (he : EdgeOk es) {y : Nat} (hy : y < 4) : y ∈ reachM es y ∧ ∀ a ∈ reachM es y, ∀ b ∈ outs es a, b ∈ reachM es y := by
  obtain ⟨a, b⟩ := reach_closed he 5 [y] 0 (by simp) (fun z hz => by rw [List.mem_singleton.mp hz]; exact hy) (by decide) fun i hi => by omega
  exact ⟨a y (.head _), b⟩
theorem mem_outs {es : List Edge} {a b : Nat} : b ∈ outs es a ↔ ∃ e ∈ es, e.2.1 = a ∧ e.2.2 = b := by
  unfold outs
  rw [List.mem_map]
  constructor
  · rintro ⟨e, he, rfl⟩
    obtain ⟨h1, h2⟩ := List.mem_filter.mp he
    exact ⟨e, h1, by simpa using h2, rfl⟩
  · rintro ⟨e, he, h1, h2⟩
    exact ⟨e, List.mem_filter.mpr ⟨he, by simpa using h1⟩, h2⟩
/-! orders -/
theorem has_iff {o : Str} {x y : Nat} : hasM o x y = true ↔ Txt.find o (abcd x) < Txt.find o (abcd y) := decide_eq_true_iff
theorem has_tr {o : Str} {x y z : Nat} (h1 : hasM o x y = true) (h2 : hasM o y z = true) : hasM o x z = true := has_iff.mpr (Int.lt_trans (has_iff.mp h1) (has_iff.mp h2))
theorem has_asy {o : Str} {x y : Nat} (h : hasM o x y = true) : hasM o y x = false := by
  cases q : hasM o y x with
  | false => rfl
  | true => exact absurd (has_iff.mp (has_tr h q)) (Int.lt_irrefl _)
noncomputable def hasL (l : List Nat) (x y : Nat) : Bool := decide (l.idxOf (97 + x) < l.idxOf (97 + y))
theorem has_list : ∀ o ∈ ords, ∀ x, x < 4 → ∀ y, y < 4 → hasM o x y = hasL o.cps.toList x y := by decide +kernel
noncomputable def partO (m : Nat) (o : Str) : Str := ⟨(o.cps.toList.filter (fun cp => !m.testBit (cp - 97)) ++ o.cps.toList.filter fun cp => m.testBit (cp - 97)).toArray⟩
theorem part_ok : ∀ o ∈ ords, ∀ m, m < 16 → partO m o ∈ ords ∧ ∀ a, a < 4 → ∀ b, b < 4 → a ≠ b → hasL (partO m o).cps.toList a b = if m.testBit a = m.testBit b then hasL o.cps.toList a b else m.testBit b := by decide +kernel
theorem mask_of : ∀ b0 b1 b2 b3 : Bool, ∃ m, m < 16 ∧ m.testBit 0 = b0 ∧ m.testBit 1 = b1 ∧ m.testBit 2 = b2 ∧ m.testBit 3 = b3 := by decide +kernel
theorem mask_list (C : List Nat) : ∃ m, m < 16 ∧ ∀ a, a < 4 → m.testBit a = C.contains a := by
  obtain ⟨m, hm, h0, h1, h2, h3⟩ := mask_of (C.contains 0) (C.contains 1) (C.contains 2) (C.contains 3)
  refine ⟨m, hm, fun a ha => ?_⟩
  have : a = 0 ∨ a = 1 ∨ a = 2 ∨ a = 3 := by omega
  rcases this with rfl | rfl | rfl | rfl <;> assumption
noncomputable def rankL (l : List Nat) (x : Nat) : Nat := ((List.range 4).filter fun z => hasL l z x).length
noncomputable def ofRanks (r : Nat → Nat) : Str := ⟨((List.range 4).map fun p => 97 + (((List.range 4).find? fun x => r x == p).getD 0)).toArray⟩
theorem ord_ranks : ∀ o ∈ ords, ofRanks (rankL o.cps.toList) = o := by decide +kernel
theorem ord_uniq {o o' : Str} (h : o ∈ ords) (h' : o' ∈ ords) (e : ∀ x, x < 4 → ∀ y, y < 4 → hasM o x y = hasM o' x y) : o = o' := by
  rw [← ord_ranks o h, ← ord_ranks o' h']
  have hr : ∀ x, x < 4 → rankL o.cps.toList x = rankL o'.cps.toList x := fun x hx => by
    unfold rankL
    congr 1
    refine List.filter_congr fun z hz => ?_
    have hz := List.mem_range.mp hz
    rw [← has_list o h z hz x hx, ← has_list o' h' z hz x hx]; exact e z hz x hx
  unfold ofRanks
  congr 2
  refine List.map_congr_left fun p _ => ?_
  have hf : (List.range 4).find? (fun x => rankL o.cps.toList x == p) = (List.range 4).find? (fun x => rankL o'.cps.toList x == p) := by
    have h0 := hr 0 (by decide); have h1 := hr 1 (by decide); have h2 := hr 2 (by decide); have h3 := hr 3 (by decide)
    show List.find? _ [0, 1, 2, 3] = List.find? _ [0, 1, 2, 3]
    simp only [List.find?_cons, h0, h1, h2, h3]
    rfl
  rw [hf]
end Mine
end

section
open PySem PySem.Calls PyProof.Rows PySem.W
set_option maxRecDepth 100000
set_option linter.unusedVariables false
namespace Mine
/-! orders that agree with all that is laid down -/
noncomputable def Cons (o : Str) (es : List Edge) : Bool := es.all fun e => hasM o e.2.1 e.2.2
noncomputable def OrdE (es : List Edge) : List Str := ords.filter fun o => Cons o es
structure PairOk (p : Pair) : Prop where
  x : p.2.1 < 4
  y : p.2.2 < 4
  ne : p.2.1 ≠ p.2.2
theorem mem_OrdE {o : Str} {es : List Edge} : o ∈ OrdE es ↔ o ∈ ords ∧ Cons o es = true := List.mem_filter
theorem Cons.edge {o : Str} {es : List Edge} (h : Cons o es = true) {a b : Nat} (hb : b ∈ outs es a) : hasM o a b = true := by
  obtain ⟨e, he, rfl, rfl⟩ := mem_outs.mp hb
  exact List.all_eq_true.mp h e he
theorem cons_snoc (o : Str) (es : List Edge) (e : Edge) : Cons o (es ++ [e]) = (Cons o es && hasM o e.2.1 e.2.2) := by
  unfold Cons; rw [List.all_append, List.all_cons, List.all_nil, Bool.and_true]
theorem reject {o : Str} {es : List Edge} {p : Pair} (ho : Cons o es = true) (hp : PairOk p) (h : accB es p = false) : hasM o p.2.2 p.2.1 = true := by
  have hm : p.2.1 ∈ reachM es p.2.2 := by
    unfold accB at h
    exact List.contains_iff_mem.mp (by simpa using h)
  have := reachM_pred (Q := fun z => z = p.2.2 ∨ hasM o p.2.2 z = true) (fun a b ha hb => .inr ?_) (.inl rfl) _ hm
  · exact this.resolve_left hp.ne
  · have h1 := Cons.edge ho hb
    rcases ha with rfl | ha
    · exact h1
    · exact has_tr ha h1
theorem accept {o₀ : Str} {es : List Edge} {p : Pair} (he : EdgeOk es) (h0 : o₀ ∈ OrdE es) (hp : PairOk p) (h : accB es p = true) : ∃ o, o ∈ OrdE (es ++ [edgeOf p]) := by
  obtain ⟨h0, c0⟩ := mem_OrdE.mp h0
  obtain ⟨r1, r2⟩ := reachM_closed he hp.y
  have hx : (reachM es p.2.2).contains p.2.1 = false := by unfold accB at h; simpa using h
  have hy : (reachM es p.2.2).contains p.2.2 = true := List.contains_iff_mem.mpr r1
  obtain ⟨m, hm, hb⟩ := mask_list (reachM es p.2.2)
  obtain ⟨k1, k2⟩ := part_ok o₀ h0 m hm
  refine ⟨partO m o₀, mem_OrdE.mpr ⟨k1, ?_⟩⟩
  rw [cons_snoc]
  refine Bool.and_eq_true_iff.mpr ⟨List.all_eq_true.mpr fun e hee => ?_, ?_⟩
  · obtain ⟨a4, b4⟩ := he e hee
    have hab := List.all_eq_true.mp c0 e hee
    have hne : e.2.1 ≠ e.2.2 := fun z => by rw [z] at hab; exact absurd (has_iff.mp hab) (Int.lt_irrefl _)
    rw [has_list _ k1 _ a4 _ b4, k2 _ a4 _ b4 hne, hb _ a4, hb _ b4]
    by_cases q : (reachM es p.2.2).contains e.2.1 = (reachM es p.2.2).contains e.2.2
    · rw [if_pos q, ← has_list _ h0 _ a4 _ b4]; exact hab
    · rw [if_neg q]
      cases q2 : (reachM es p.2.2).contains e.2.2 with
      | true => rfl
      | false =>
        have q1 : (reachM es p.2.2).contains e.2.1 = true := by
          cases q3 : (reachM es p.2.2).contains e.2.1 with
          | true => rfl
          | false => exact absurd (q3.trans q2.symm) q
        have := r2 _ (List.contains_iff_mem.mp q1) e.2.2 (mem_outs.mpr ⟨e, hee, rfl, rfl⟩)
        rw [List.contains_iff_mem.mpr this] at q2; cases q2
  · show hasM (partO m o₀) p.2.1 p.2.2 = true
    rw [has_list _ k1 _ hp.x _ hp.y, k2 _ hp.x _ hp.y hp.ne, hb _ hp.x, hb _ hp.y, hx, hy]; rfl
theorem lockStep_yes {es : List Edge} {p : Pair} (h : accB es p = true) : lockStep es p = es ++ [edgeOf p] := if_pos h
theorem lockStep_no {es : List Edge} {p : Pair} (h : accB es p = false) : lockStep es p = es := if_neg (by rw [h]; decide)
theorem ordStep_eq {es : List Edge} {p : Pair} (he : EdgeOk es) (hp : PairOk p) (hn : OrdE es ≠ []) : ordStep (OrdE es) p = OrdE (lockStep es p) ∧ OrdE (lockStep es p) ≠ [] := by
  obtain ⟨o₀, h0⟩ := List.exists_mem_of_ne_nil _ hn
  have hf : (OrdE es).filter (fun o => hasM o p.2.1 p.2.2) = OrdE (es ++ [edgeOf p]) := by
    unfold OrdE
    rw [List.filter_filter]
    refine List.filter_congr fun o _ => ?_
    rw [cons_snoc, Bool.and_comm]; rfl
  unfold ordStep
  rw [hf]
  cases h : accB es p with
  | true =>
    obtain ⟨o, ho⟩ := accept he h0 hp h
    have hne : OrdE (es ++ [edgeOf p]) ≠ [] := fun z => by rw [z] at ho; cases ho
    rw [lockStep_yes h, if_neg (by simpa using hne)]
    exact ⟨rfl, hne⟩
  | false =>
    have hnil : OrdE (es ++ [edgeOf p]) = [] := by
      rw [← hf]
      refine List.filter_eq_nil_iff.mpr fun o ho => ?_
      have := has_asy (reject (mem_OrdE.mp ho).2 hp h)
      rw [this]; decide
    rw [lockStep_no h, hnil]
    exact ⟨rfl, hn⟩
theorem edgeOk_step {es : List Edge} {p : Pair} (he : EdgeOk es) (hp : PairOk p) : EdgeOk (lockStep es p) := (lockStep_ok he ⟨hp.x, hp.y⟩).1
theorem fold_eq : ∀ (ps : List Pair) (es : List Edge), EdgeOk es → (∀ p ∈ ps, PairOk p) → OrdE es ≠ [] → ps.foldl ordStep (OrdE es) = OrdE (ps.foldl lockStep es) ∧ OrdE (ps.foldl lockStep es) ≠ []
  | [], es, _, _, hn => ⟨rfl, hn⟩
  | p :: r, es, he, hp, hn => by
    obtain ⟨a, b⟩ := ordStep_eq he (hp p (.head _)) hn
    rw [List.foldl_cons, List.foldl_cons, a]
    exact fold_eq r _ (edgeOk_step he (hp p (.head _))) (fun q hq => hp q (.tail _ hq)) b
theorem cons_mono {o : Str} : ∀ (ps : List Pair) (es : List Edge), Cons o (ps.foldl lockStep es) = true → Cons o es = true
  | [], es, h => h
  | p :: r, es, h => by
    have h := cons_mono r (lockStep es p) h
    cases q : accB es p with
    | true => rw [lockStep_yes q, cons_snoc] at h; exact (Bool.and_eq_true_iff.mp h).1
    | false => rw [lockStep_no q] at h; exact h
theorem decided {o : Str} {p : Pair} : ∀ (ps : List Pair) (es : List Edge), (∀ q ∈ ps, PairOk q) → p ∈ ps → (∀ o, Cons o (ps.foldl lockStep es) = true → hasM o p.2.1 p.2.2 = true) ∨ (∀ o, Cons o (ps.foldl lockStep es) = true → hasM o p.2.2 p.2.1 = true)
  | q :: r, es, hp, hm => by
    rcases List.mem_cons.mp hm with rfl | hm
    · cases h : accB es p with
      | true =>
        refine .inl fun o ho => ?_
        have := cons_mono r (lockStep es p) ho
        rw [lockStep_yes h, cons_snoc] at this
        exact (Bool.and_eq_true_iff.mp this).2
      | false => exact .inr fun o ho => reject (cons_mono (p :: r) es ho) (hp p (.head _)) h
    · exact decided (o := o) r (lockStep es q) (fun z hz => hp z (.tail _ hz)) hm
theorem items_eq {o : Str} : ∀ (ps : List Pair) (es : List Edge), (∀ q ∈ ps, PairOk q) → Cons o (ps.foldl lockStep es) = true → ps.foldl lockStep es = es ++ (ps.filter fun p => hasM o p.2.1 p.2.2).map edgeOf
  | [], es, _, _ => by simp
  | p :: r, es, hp, h => by
    have ih := items_eq r (lockStep es p) (fun z hz => hp z (.tail _ hz)) h
    rw [List.foldl_cons, ih]
    have hc := cons_mono r (lockStep es p) h
    cases q : accB es p with
    | true =>
      rw [lockStep_yes q, cons_snoc] at hc
      have hh : hasM o p.2.1 p.2.2 = true := (Bool.and_eq_true_iff.mp hc).2
      rw [lockStep_yes q, List.filter_cons, if_pos hh, List.map_cons, List.append_assoc]; rfl
    | false =>
      rw [lockStep_no q] at hc
      have hh := has_asy (reject hc (hp p (.head _)) q)
      rw [lockStep_no q, List.filter_cons, if_neg (by rw [hh]; decide)]
theorem all_same {l : List Str} (nd : l.Nodup) (hn : l ≠ []) (h : ∀ a ∈ l, ∀ b ∈ l, a = b) : ∃ o, l = [o] := by
  cases l with
  | nil => exact absurd rfl hn
  | cons a r =>
    cases r with
    | nil => exact ⟨a, rfl⟩
    | cons b r =>
      have := h a (.head _) b (.tail _ (.head _))
      subst this
      exact absurd (List.mem_cons_self ..) (List.nodup_cons.mp nd).1
theorem ords_nodup : ords.Nodup := by decide +kernel
/-- the votes -/
structure Vt (M : Mat) : Prop where
  anti : ∀ x y, M x y = - M y x
  le : ∀ x y, M x y ≤ 5
  tr : ∀ x y z, M x y = 5 → M y z = 5 → M x z = 5
theorem mem_pairs {M : Mat} {p : Pair} : p ∈ pairsM M ↔ p.2.1 < 4 ∧ p.2.2 < 4 ∧ p.2.1 ≠ p.2.2 ∧ 0 ≤ M p.2.1 p.2.2 ∧ p.1 = - M p.2.1 p.2.2 := by
  unfold pairsM
  rw [List.mem_flatMap]
  constructor
  · rintro ⟨x, hx, hp⟩
    obtain ⟨y, hy, rfl⟩ := List.mem_map.mp hp
    obtain ⟨h1, h2⟩ := List.mem_filter.mp hy
    unfold inM at h2
    obtain ⟨h3, h4⟩ := Bool.and_eq_true_iff.mp h2
    exact ⟨List.mem_range.mp hx, List.mem_range.mp h1, by simpa using h3, of_decide_eq_true h4, rfl⟩
  · rintro ⟨h1, h2, h3, h4, h5⟩
    refine ⟨p.2.1, List.mem_range.mpr h1, List.mem_map.mpr ⟨p.2.2, List.mem_filter.mpr ⟨List.mem_range.mpr h2, ?_⟩, ?_⟩⟩
    · unfold inM; rw [decide_eq_true h4]; simpa using h3
    · rw [← h5]
theorem pair_ok {M : Mat} {p : Pair} (h : p ∈ sortP (pairsM M)) : PairOk p := by
  obtain ⟨h1, h2, h3, _⟩ := mem_pairs.mp ((sortP_perm _).mem_iff.mp h)
  exact ⟨h1, h2, h3⟩
theorem pair_in {M : Mat} {x y : Nat} (hx : x < 4) (hy : y < 4) (hne : x ≠ y) (h : 0 ≤ M x y) : (-M x y, x, y) ∈ sortP (pairsM M) := (sortP_perm _).mem_iff.mpr (mem_pairs.mpr ⟨hx, hy, hne, h, rfl⟩)
noncomputable abbrev lastE (M : Mat) : List Edge := (sortP (pairsM M)).foldl lockStep []
theorem one_left {M : Mat} (V : Vt M) : ∃ o, o ∈ ords ∧ ordersM (sortP (pairsM M)) = [o] ∧ Cons o (lastE M) = true := by
  have hn : OrdE [] ≠ [] := by decide +kernel
  have e0 : OrdE [] = ords := List.filter_eq_self.mpr fun _ _ => rfl
  obtain ⟨a, b⟩ := fold_eq (sortP (pairsM M)) [] (fun _ q => nomatch q) (fun p hp => pair_ok hp) hn
  rw [e0] at a
  obtain ⟨o, ho⟩ := all_same (l := OrdE (lastE M)) (List.Pairwise.filter _ ords_nodup) b fun o h o' h' => by
    obtain ⟨h1, h2⟩ := mem_OrdE.mp h
    obtain ⟨h3, h4⟩ := mem_OrdE.mp h'
    have key : ∀ x, x < 4 → ∀ y, y < 4 → x ≠ y → 0 ≤ M x y → hasM o x y = hasM o' x y ∧ hasM o y x = hasM o' y x := fun x hx y hy hne hm => by
      rcases decided (o := o) _ [] (fun p hp => pair_ok hp) (pair_in hx hy hne hm) with q | q
      · have q1 := q o h2; have q2 := q o' h4
        dsimp only at q1 q2
        rw [q1, q2, has_asy q1, has_asy q2]; exact ⟨rfl, rfl⟩
      · have q1 := q o h2; have q2 := q o' h4
        dsimp only at q1 q2
        rw [q1, q2, has_asy q1, has_asy q2]; exact ⟨rfl, rfl⟩
    refine ord_uniq h1 h3 fun x hx y hy => ?_
    by_cases hne : x = y
    · subst hne
      have irr : ∀ o, hasM o x x = false := fun o => decide_eq_false (Int.lt_irrefl _)
      rw [irr, irr]
    · have hanti := V.anti x y
      by_cases hm : 0 ≤ M x y
      · exact (key x hx y hy hne hm).1
      · exact (key y hy x hx (fun e => hne e.symm) (by omega)).2
  have hm : o ∈ OrdE (lastE M) := by rw [ho]; exact .head _
  exact ⟨o, (mem_OrdE.mp hm).1, a.trans ho, (mem_OrdE.mp hm).2⟩
theorem items_due {M : Mat} {o : Str} (h : Cons o (lastE M) = true) : tabOf (lockM (pairsM M)) = dueM o (sortP (pairsM M)) := by
  rw [lockM_eq (pairs_lt M)]
  have := items_eq (o := o) (sortP (pairsM M)) [] (fun p hp => pair_ok hp) h
  rw [this, List.nil_append]
  unfold tabOf dueM
  rw [List.map_map]; rfl
end Mine
end

section
open PySem PySem.Calls PyProof.Rows PySem.W
set_option maxRecDepth 100000
set_option linter.unusedVariables false
namespace Mine
/-! what was refused, and why -/
theorem edges_sub {e : Edge} : ∀ (ps : List Pair) (es : List Edge), e ∈ ps.foldl lockStep es → e ∈ es ∨ ∃ q ∈ ps, e = edgeOf q
  | [], es, h => .inl h
  | p :: r, es, h => by
    rcases edges_sub r (lockStep es p) h with h | ⟨q, hq, e⟩
    · cases hb : accB es p with
      | true =>
        rw [lockStep_yes hb] at h
        rcases List.mem_append.mp h with h | h
        · exact .inl h
        · exact .inr ⟨p, .head _, List.mem_singleton.mp h⟩
      | false => rw [lockStep_no hb] at h; exact .inl h
    · exact .inr ⟨q, .tail _ hq, e⟩
theorem ltK_le {p q : Pair} (h : ltK p q = false) : q.1 ≤ p.1 := by
  rw [ltK_eq] at h
  by_cases e : p.1 = q.1
  · omega
  · rw [if_neg e] at h
    have := of_decide_eq_false h
    omega
theorem rej_pred {M : Mat} {o : Str} (hc : Cons o (lastE M) = true) {x y : Nat} (hx : x < 4) (hy : y < 4) (hne : x ≠ y) (hm : 0 ≤ M x y) (hno : hasM o x y = false) {Q : Nat → Prop} (q0 : Q y)
    (hs : ∀ a b, Q a → a < 4 → b < 4 → hasM o a b = true → M x y ≤ M a b → Q b) : Q x := by
  obtain ⟨pre, post, e⟩ := List.append_of_mem (pair_in hx hy hne hm)
  have hsrt := sortP_srt (pairsM M)
  have hcc := hc
  unfold lastE at hcc
  rw [e] at hsrt hcc
  rw [List.foldl_append] at hcc
  have c1 := cons_mono _ _ hcc
  have hrej : accB (pre.foldl lockStep []) (-M x y, x, y) = false := by
    cases hb : accB (pre.foldl lockStep []) (-M x y, x, y) with
    | false => rfl
    | true =>
      have c2 := cons_mono post _ (show Cons o (post.foldl lockStep (lockStep (pre.foldl lockStep []) (-M x y, x, y))) = true from hcc)
      rw [lockStep_yes hb, cons_snoc] at c2
      have := (Bool.and_eq_true_iff.mp c2).2
      rw [show hasM o (edgeOf (-M x y, x, y)).2.1 (edgeOf (-M x y, x, y)).2.2 = hasM o x y from rfl, hno] at this
      cases this
  have hmx : x ∈ reachM (pre.foldl lockStep []) y := by
    unfold accB at hrej
    exact List.contains_iff_mem.mp (by simpa using hrej)
  refine reachM_pred (Q := Q) (fun a b ha hb => ?_) q0 x hmx
  have h1 := Cons.edge c1 hb
  obtain ⟨ed, hed, rfl, rfl⟩ := mem_outs.mp hb
  rcases edges_sub pre [] hed with h | ⟨q, hq, rfl⟩
  · cases h
  · have hqS : q ∈ sortP (pairsM M) := by rw [e]; exact List.mem_append_left _ hq
    obtain ⟨g1, g2, g3, g4, g5⟩ := mem_pairs.mp ((sortP_perm _).mem_iff.mp hqS)
    have hle := ltK_le ((List.pairwise_append.mp hsrt).2.2 q hq (-M x y, x, y) (.head _))
    exact hs _ _ ha g1 g2 h1 (by show M x y ≤ M q.2.1 q.2.2; have : q.1 ≤ -M x y := hle; omega)
theorem five_has {M : Mat} (V : Vt M) {o : Str} (hc : Cons o (lastE M) = true) {x y : Nat} (hx : x < 4) (hy : y < 4) (hne : x ≠ y) (h5 : M x y = 5) : hasM o x y = true := by
  cases h : hasM o x y with
  | true => rfl
  | false =>
    have := rej_pred (Q := fun z => z = y ∨ M y z = 5) hc hx hy hne (by omega) h (.inl rfl) fun a b ha _ _ _ hw => by
      have hl := V.le a b
      rcases ha with rfl | ha
      · exact .inr (by omega)
      · exact .inr (V.tr _ _ _ ha (by omega))
    rcases this with q | q
    · exact absurd q hne
    · have := V.anti x y; omega
/-! by steps -/
theorem plc_has : ∀ o ∈ ords, (∀ i, i < 4 → ∀ j, j < 4 → hasL o.cps.toList ((plc o).getD i 0) ((plc o).getD j 0) = decide (i < j)) ∧ ∀ z, z < 4 → ∃ i, i < 4 ∧ (plc o).getD i 0 = z := by decide +kernel
theorem bestStep_ge (N : Mat) (ws : Ways) (last : Nat) (b : Int) (mid : Nat) : b ≤ bestStep N ws last b mid ∧ minI (wl ws mid) (N mid last) ≤ bestStep N ws last b mid := by
  unfold bestStep maxI
  split <;> omega
theorem fold_ge (N : Mat) (ws : Ways) (last : Nat) : ∀ (l : List Nat) (b : Int), b ≤ l.foldl (bestStep N ws last) b ∧ ∀ mid ∈ l, minI (wl ws mid) (N mid last) ≤ l.foldl (bestStep N ws last) b
  | [], b => ⟨Int.le_refl _, fun _ q => nomatch q⟩
  | m :: r, b => by
    obtain ⟨h1, h2⟩ := bestStep_ge N ws last b m
    obtain ⟨h3, h4⟩ := fold_ge N ws last r (bestStep N ws last b m)
    refine ⟨Int.le_trans h1 h3, fun mid hm => ?_⟩
    rcases List.mem_cons.mp hm with rfl | hm
    · exact Int.le_trans h2 h3
    · exact h4 mid hm
noncomputable def wsUp (N : Mat) (f : Nat) : Nat → Ways
  | 0 => []
  | n + 1 => (((f + 1 + n : Nat) : Int), bestM N f (f + 1 + n) (wsUp N f n)) :: wsUp N f n
noncomputable def Wv (N : Mat) (f l : Nat) : Int := bestM N f l (wsUp N f (l - (f + 1)))
theorem wl_up (N : Mat) (f : Nat) : ∀ (n k : Nat), f < k → k < f + 1 + n → wl (wsUp N f n) k = Wv N f k
  | 0, k, h1, h2 => by omega
  | n + 1, k, h1, h2 => by
    unfold wl wsUp
    rw [List.lookup_cons]
    by_cases e : k = f + 1 + n
    · subst e
      rw [show (((f + 1 + n : Nat) : Int) == ((f + 1 + n : Nat) : Int)) = true by simp]
      unfold Wv
      rw [show f + 1 + n - (f + 1) = n by omega]; rfl
    · have e' : (((k : Nat) : Int) == ((f + 1 + n : Nat) : Int)) = false := by
        refine beq_eq_false_iff_ne.mpr fun z => e ?_
        omega
      rw [e']
      exact wl_up N f n k h1 (by omega)
theorem lastGo_up (N : Mat) (f : Nat) : ∀ (m n : Nat), (∀ l, f + 1 + n ≤ l → l < f + 1 + n + m → ¬ Wv N f l < N l f) → lastGo N f (List.range' (f + 1 + n) m) (wsUp N f n) = true
  | 0, n, _ => rfl
  | m + 1, n, h => by
    rw [List.range'_succ]
    unfold lastGo
    have h0 := h (f + 1 + n) (Nat.le_refl _) (by omega)
    unfold Wv at h0
    rw [show f + 1 + n - (f + 1) = n by omega] at h0
    rw [if_neg h0]
    exact lastGo_up N f m (n + 1) fun l h1 h2 => h l (by omega) (by omega)
theorem Wv_base (N : Mat) {f l : Nat} : N f l ≤ Wv N f l := (fold_ge N _ l _ _).1
theorem Wv_step (N : Mat) {f mid l : Nat} (h1 : f < mid) (h2 : mid < l) {t : Int} (ht : t ≤ Wv N f mid) (hn : t ≤ N mid l) : t ≤ Wv N f l := by
  have hm : mid ∈ List.range' (f + 1) (l - (f + 1)) := List.mem_range'_1.mpr (by omega)
  have := (fold_ge N (wsUp N f (l - (f + 1))) l (List.range' (f + 1) (l - (f + 1))) (N f l)).2 mid hm
  rw [wl_up N f _ mid h1 (by omega)] at this
  have e : t ≤ minI (Wv N f mid) (N mid l) := by unfold minI; split <;> assumption
  exact Int.le_trans e this
theorem steps_ok {M : Mat} (V : Vt M) {o : Str} (ho : o ∈ ords) (hc : Cons o (lastE M) = true) : byM (atP o M) = true := by
  obtain ⟨ph, pz⟩ := plc_has o ho
  obtain ⟨_, _, p4⟩ := plc_ok o ho
  have hh : ∀ i, i < 4 → ∀ j, j < 4 → hasM o ((plc o).getD i 0) ((plc o).getD j 0) = decide (i < j) := fun i hi j hj => by rw [has_list o ho _ (p4 i hi) _ (p4 j hj)]; exact ph i hi j hj
  have main : ∀ f l, f < l → l < 4 → ¬ Wv (atP o M) f l < atP o M l f := fun f l hfl hl => by
    have hb := Wv_base (atP o M) (f := f) (l := l)
    have ha : atP o M f l = - atP o M l f := V.anti _ _
    by_cases hm : 0 ≤ atP o M l f
    · have hne : (plc o).getD l 0 ≠ (plc o).getD f 0 := fun z => by
        have h1 := hh f (by omega) l hl
        rw [z, decide_eq_true hfl] at h1
        exact absurd (has_iff.mp h1) (Int.lt_irrefl _)
      have := rej_pred (Q := fun z => z = (plc o).getD f 0 ∨ ∃ i, f < i ∧ i < 4 ∧ (plc o).getD i 0 = z ∧ atP o M l f ≤ Wv (atP o M) f i) hc (p4 l hl) (p4 f (by omega)) hne hm (by rw [hh l hl f (by omega)]; exact decide_eq_false (by omega)) (.inl rfl) fun a b ha ha4 hb4 hab hw => by
        obtain ⟨j, hj, rfl⟩ := pz b hb4
        rcases ha with rfl | ⟨i, hi1, hi2, rfl, hi3⟩
        · have hlt : f < j := by
            have := hh f (by omega) j hj
            rw [hab] at this; exact of_decide_eq_true this.symm
          exact .inr ⟨j, hlt, hj, rfl, Int.le_trans hw (Wv_base (atP o M))⟩
        · have hlt : i < j := by
            have := hh i hi2 j hj
            rw [hab] at this; exact of_decide_eq_true this.symm
          exact .inr ⟨j, by omega, hj, rfl, Wv_step (atP o M) hi1 hlt hi3 hw⟩
      rcases this with q | ⟨i, h1, h2, h3, h4⟩
      · exact absurd q hne
      · have e : i = l := by
          have a1 := hh i h2 l hl
          have a2 := hh l hl i h2
          rw [h3] at a1 a2
          have irr : hasM o ((plc o).getD l 0) ((plc o).getD l 0) = false := decide_eq_false (Int.lt_irrefl _)
          rw [irr] at a1 a2
          have b1 := of_decide_eq_false a1.symm
          have b2 := of_decide_eq_false a2.symm
          omega
        subst e; omega
    · omega
  unfold byM
  refine List.all_eq_true.mpr fun f hf => ?_
  have hf := List.mem_range.mp hf
  have := lastGo_up (atP o M) f (3 - f) 0 fun l h1 h2 => main f l (by omega) (by omega)
  exact this
end Mine
end

section
open PySem PySem.Calls PyProof.Rows PySem.W
set_option maxRecDepth 100000
set_option linter.unusedVariables false
namespace Mine
/-! the votes -/
noncomputable def sgn (a b : List Nat) (k : Nat) : Int := if a.getD k 0 < b.getD k 0 then 1 else if b.getD k 0 < a.getD k 0 then -1 else 0
theorem voteStep_eq (a b : List Nat) (v : Int) (k : Nat) : voteStep a b v k = v + sgn a b k := by
  unfold voteStep sgn
  split
  · rfl
  · split <;> omega
theorem votes_eq (a b : List Nat) : votesM a b = sgn a b 0 + sgn a b 1 + sgn a b 2 + sgn a b 3 + sgn a b 4 := by
  show voteStep a b (voteStep a b (voteStep a b (voteStep a b (voteStep a b 0 0) 1) 2) 3) 4 = _
  simp only [voteStep_eq]
  omega
theorem sgn_le (a b : List Nat) (k : Nat) : sgn a b k ≤ 1 := by unfold sgn; split <;> (try split) <;> omega
theorem sgn_anti (a b : List Nat) (k : Nat) : sgn a b k = - sgn b a k := by unfold sgn; split <;> split <;> omega
theorem sgn_one (a b : List Nat) (k : Nat) : sgn a b k = 1 ↔ a.getD k 0 < b.getD k 0 := by unfold sgn; split <;> (try split) <;> omega
theorem five_iff (a b : List Nat) : votesM a b = 5 ↔ sgn a b 0 = 1 ∧ sgn a b 1 = 1 ∧ sgn a b 2 = 1 ∧ sgn a b 3 = 1 ∧ sgn a b 4 = 1 := by
  rw [votes_eq]
  have h0 := sgn_le a b 0; have h1 := sgn_le a b 1; have h2 := sgn_le a b 2; have h3 := sgn_le a b 3; have h4 := sgn_le a b 4
  omega
theorem sgn_tr {a b d : List Nat} {k : Nat} (h1 : sgn a b k = 1) (h2 : sgn b d k = 1) : sgn a d k = 1 := (sgn_one a d k).mpr (Nat.lt_trans ((sgn_one a b k).mp h1) ((sgn_one b d k).mp h2))
theorem vt_of (leads : List Str) : Vt (matOf leads) where
  anti x y := by
    unfold matOf
    rw [votes_eq, votes_eq]
    have h0 := sgn_anti (colsM (leadAt leads x)) (colsM (leadAt leads y)) 0; have h1 := sgn_anti (colsM (leadAt leads x)) (colsM (leadAt leads y)) 1; have h2 := sgn_anti (colsM (leadAt leads x)) (colsM (leadAt leads y)) 2
    have h3 := sgn_anti (colsM (leadAt leads x)) (colsM (leadAt leads y)) 3; have h4 := sgn_anti (colsM (leadAt leads x)) (colsM (leadAt leads y)) 4
    omega
  le x y := by
    unfold matOf
    rw [votes_eq]
    have h0 := sgn_le (colsM (leadAt leads x)) (colsM (leadAt leads y)) 0; have h1 := sgn_le (colsM (leadAt leads x)) (colsM (leadAt leads y)) 1; have h2 := sgn_le (colsM (leadAt leads x)) (colsM (leadAt leads y)) 2
    have h3 := sgn_le (colsM (leadAt leads x)) (colsM (leadAt leads y)) 3; have h4 := sgn_le (colsM (leadAt leads x)) (colsM (leadAt leads y)) 4
    omega
  tr x y z h1 h2 := by
    unfold matOf at *
    obtain ⟨a0, a1, a2, a3, a4⟩ := (five_iff _ _).mp h1
    obtain ⟨b0, b1, b2, b3, b4⟩ := (five_iff _ _).mp h2
    exact (five_iff _ _).mpr ⟨sgn_tr a0 b0, sgn_tr a1 b1, sgn_tr a2 b2, sgn_tr a3 b3, sgn_tr a4 b4⟩
/-! the forty kinds -/
theorem lev_all : ∀ q : Nat, q < 40 → levM (leadOf (q : Int)) = colsM (leadOf (q : Int)) := by decide +kernel
theorem less_all : ∀ q : Nat, q < 40 → ∀ r : Nat, r < 40 → lessW (wsOf (leadOf (q : Int))) (wsOf (leadOf (r : Int))) = (votesM (colsM (leadOf (q : Int))) (colsM (leadOf (r : Int))) == 5) := by decide +kernel
theorem four_at {q : Nat → Nat} {x : Nat} (hx : x < 4) : leadAt (fourL q) x = leadOf ((q x : Nat) : Int) := by
  unfold leadAt fourL
  rw [List.getD_eq_getElem?_getD, List.getElem?_map, List.getElem?_range hx]; rfl
theorem two_pairs {M : Mat} (V : Vt M) : 2 ≤ (pairsM M).length := by
  have key : ∀ x y, x < 4 → y < 4 → x ≠ y → ∃ p ∈ pairsM M, (p.2.1 = x ∧ p.2.2 = y) ∨ (p.2.1 = y ∧ p.2.2 = x) := fun x y hx hy hne => by
    have := V.anti x y
    by_cases h : 0 ≤ M x y
    · exact ⟨(-M x y, x, y), mem_pairs.mpr ⟨hx, hy, hne, h, rfl⟩, .inl ⟨rfl, rfl⟩⟩
    · exact ⟨(-M y x, y, x), mem_pairs.mpr ⟨hy, hx, fun e => hne e.symm, by show 0 ≤ M y x; omega, rfl⟩, .inr ⟨rfl, rfl⟩⟩
  obtain ⟨p, hp, ep⟩ := key 0 1 (by decide) (by decide) (by decide)
  obtain ⟨r, hr, er⟩ := key 2 3 (by decide) (by decide) (by decide)
  have hne : p ≠ r := fun e => by subst e; omega
  cases hl : pairsM M with
  | nil => rw [hl] at hp; cases hp
  | cons a t =>
    cases t with
    | nil =>
      rw [hl] at hp hr
      exact absurd ((List.mem_singleton.mp hp).trans (List.mem_singleton.mp hr).symm) hne
    | cons b t => simp
theorem plain_all : PlainAll := fun q hq => by
  have V := vt_of (fourL q)
  obtain ⟨o, ho, h1, hc⟩ := one_left V
  have hl : LeadsOk (fourL q) := ⟨by unfold fourL; simp, fun x hx => by
    obtain ⟨k, hk, rfl⟩ := List.mem_map.mp hx
    exact Nat.le_trans (lead_len (q k) (hq k)).2.2.2.2.2.2 (by decide)⟩
  refine ⟨hl, fun x hx => ?_, o, h1, items_due hc, steps_ok V ho hc, ⟨fun x hx y hy hne => ?_⟩, two_pairs V⟩
  · obtain ⟨k, hk, rfl⟩ := List.mem_map.mp hx
    exact lev_all (q k) (hq k)
  · have e : lessL (fourL q) x y = (matOf (fourL q) x y == 5) := by
      unfold lessL matOf
      rw [four_at hx, four_at hy]
      exact less_all (q x) (hq x) (q y) (hq y)
    refine ⟨e, fun h => ?_⟩
    rw [e] at h
    exact five_has V hc hx hy hne (by simpa using h)
end Mine
end

section
open PySem PySem.W PyProof.Rows
set_option maxRecDepth 100000
set_option maxHeartbeats 8000000
namespace Mine
theorem post_true (args : List WData) : PySem.Challenge.rw_pg0319_02.row.claim.post args (.bool true) args = true := by
  show (WShape.has PySem.Challenge.rw_pg0319_02.row.records (.bool true) .bool && WTm.holds PySem.Challenge.rw_pg0319_02.row.records (.eq .res (.lit (.bool true))) { args := args, res := some (.bool true), after := args }) = true
  have h1 : ∀ R : WRecords, WShape.has R (.bool true) .bool = true := fun R => by simp [WShape.has, WShape.arms]
  have h2 : ∀ (R : WRecords) (e : WCtx), e.res = some (.bool true) → WTm.holds R (.eq .res (.lit (.bool true))) e = true := fun R e he => by
    unfold WTm.holds
    have : WTm.value R (.eq .res (.lit (.bool true))) e = some (.bool true) := by simp [WTm.value, he, same]
    rw [this]
  rw [h1, h2 _ _ rfl]; rfl
theorem said1 : PySem.Challenge.rw_pg0319_02.wellSaid = true := by kernel_rfl

theorem all_holds (PA : PlainAll) : PySem.Challenge.rw_pg0319_02.Holds := by
  w_on
  refine holds_law said1 fun said => ?_
  refine holds_open (q := q1) (loose := loose1) (Xt := fun s => xlAt q1 [] s && recOk [] s) (XP := XL q1 []) (Yf := Hook.obs hook1) (Ya := Hook.val hook1) (YP := Hook.says hook1) (N := 4188) left1 (Hook.of hook1) (Hook.keeps hook1) (fun s e => xl_of s (Bool.and_eq_true_iff.mp e).1) XL.keeps (by rfl) (by rfl) (by rfl) (fun s e => recFacts_of (Bool.and_eq_true_iff.mp e).2) (by rfl) said (by decide +kernel) ⟨rfl, rfl, rfl, rfl, rfl, by decide +kernel⟩ ?hw ?hc
  case hw => w_witness2
  case hc =>
    generalize hq : q1 = q
    generalize hlo1 : loose1 = loose
    w_strict (k_go0
              subst hq
              exact law_end PA (by assumption) (topRead_of (by assumption)) (by assumption) (by assumption) (by assumption) rfl (by assumption) (by omega) (fun _ => rfl) (fun _ => rfl) (post_true _))
end Mine
end

section
set_option maxRecDepth 100000
namespace Mine
theorem done2 : PySem.Challenge.rw_pg0319_02.Holds := all_holds plain_all
end Mine
end
theorem PySem.Challenge.cw_pg0319_02_holds : PySem.Challenge.rw_pg0319_02.Holds :=
  Mine.done2
