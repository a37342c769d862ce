import PyProof.Rows.All
import Wide.All
import OpenK.AllK
import Wide.FinOn
import PyProof.Rows.ListMul
import PyProof.TupleKey
import PyProof.MeetsSeq3
import PyProof.Rows.SeqSliceW
import PyProof.Rows.SortRev
import Lean
import PySem.Challenge.RW_pg0319_01
set_option Elab.async false
section
set_option maxRecDepth 100000
set_option linter.unusedVariables false
namespace Mine
/-- first reckon n, then go on -/
noncomputable def fz {α : Type} (n : Nat) (f : Nat → α) : α := Nat.casesOn n (f 0) fun k => f (Nat.succ k)
theorem fz_eq {α : Type} (n : Nat) (f : Nat → α) : fz n f = f n := by cases n <;> rfl
/-- the j-th six bits -/
noncomputable def gW (W j : Nat) : Nat := Nat.land (Nat.shiftRight W (Nat.mul 6 j)) 63
noncomputable def bW (m j : Nat) : Nat := Nat.land (Nat.shiftRight m j) 1
/-- all that stand behind one of m -/
noncomputable def uW (W m : Nat) : Nat := Nat.lor (Nat.mul (bW m 0) (gW W 0)) (Nat.lor (Nat.mul (bW m 1) (gW W 1)) (Nat.lor (Nat.mul (bW m 2) (gW W 2)) (Nat.lor (Nat.mul (bW m 3) (gW W 3)) (Nat.lor (Nat.mul (bW m 4) (gW W 4)) (Nat.mul (bW m 5) (gW W 5))))))
/-- can k pairs be made of the n marked -/
noncomputable def hasM (W : Nat) : Nat → Nat → Nat → Nat → Bool
  | 0, k, _, _ => Nat.beq k 0
  | f + 1, k, n, m => bif Nat.beq k 0 then true else bif Nat.ble (Nat.mul 2 k) n then
      fz (Nat.log2 m) fun x => fz (Nat.xor m (Nat.shiftLeft 1 x)) fun r => fz (Nat.land r (Nat.xor 63 (gW W x))) fun c =>
        ((bif Nat.beq (bW c 0) 0 then false else hasM W f (Nat.pred k) (Nat.sub n 2) (Nat.xor r 1)) ||
        ((bif Nat.beq (bW c 1) 0 then false else hasM W f (Nat.pred k) (Nat.sub n 2) (Nat.xor r 2)) ||
        ((bif Nat.beq (bW c 2) 0 then false else hasM W f (Nat.pred k) (Nat.sub n 2) (Nat.xor r 4)) ||
        ((bif Nat.beq (bW c 3) 0 then false else hasM W f (Nat.pred k) (Nat.sub n 2) (Nat.xor r 8)) ||
        ((bif Nat.beq (bW c 4) 0 then false else hasM W f (Nat.pred k) (Nat.sub n 2) (Nat.xor r 16)) ||
        (bif Nat.beq (bW c 5) 0 then false else hasM W f (Nat.pred k) (Nat.sub n 2) (Nat.xor r 32))))))) || hasM W f k (Nat.pred n) r
      else false
noncomputable def runW (W : Nat) : Nat → Nat → Nat → Bool
  | 0, done, t => Nat.beq done 63 && not (hasM W 6 (Nat.sub 7 t) 6 63)
  | f + 1, done, t => fz (Nat.xor 63 (Nat.lor done (uW W (Nat.xor 63 done)))) fun av =>
      bif Nat.beq av 0 then Nat.beq done 63 && not (hasM W 6 (Nat.sub 7 t) 6 63) else
        fz (Nat.log2 av) fun x => fz (Nat.xor av (Nat.shiftLeft 1 x)) fun av2 =>
          bif Nat.beq av2 0 then fz (Nat.lor done (Nat.shiftLeft 1 x)) fun d => Nat.beq (Nat.lor (gW W x) d) 63 && runW W f d (Nat.succ t)
          else fz (Nat.log2 av2) fun y => fz (Nat.lor done (Nat.lor (Nat.shiftLeft 1 x) (Nat.shiftLeft 1 y))) fun d => runW W f d (Nat.succ t)
noncomputable def allW : Nat → Nat → Nat → Nat → Bool
  | 0, _, W, _ => runW W 6 0 0
  | f + 1, i, W, k => (List.range (2 ^ i)).all fun m => fz (uW W m) fun u => fz (Nat.xor m (Nat.land m u)) fun im => not (Nat.beq (Nat.land u m) u && Nat.ble k im) || fz (Nat.add W (Nat.shiftLeft m (Nat.mul 6 i))) fun W' => allW f (Nat.succ i) W' im
theorem all_ok : allW 6 0 0 0 = true := by decide +kernel

/-! masks -/
noncomputable def ofB (p : Nat → Bool) : Nat := (p 0).toNat + 2 * (p 1).toNat + 4 * (p 2).toNat + 8 * (p 3).toNat + 16 * (p 4).toNat + 32 * (p 5).toNat
theorem toNat_le (b : Bool) : b.toNat ≤ 1 := by cases b <;> decide
theorem ofB_lt (p : Nat → Bool) : ofB p < 64 := by
  unfold ofB
  have h0 := toNat_le (p 0); have h1 := toNat_le (p 1); have h2 := toNat_le (p 2); have h3 := toNat_le (p 3); have h4 := toNat_le (p 4); have h5 := toNat_le (p 5)
  omega
theorem lt6 {i : Nat} (h : i < 6) : i = 0 ∨ i = 1 ∨ i = 2 ∨ i = 3 ∨ i = 4 ∨ i = 5 := (by decide : ∀ i, i < 6 → i = 0 ∨ i = 1 ∨ i = 2 ∨ i = 3 ∨ i = 4 ∨ i = 5) i h
theorem ofB_test (p : Nat → Bool) (i : Nat) (hi : i < 6) : (ofB p).testBit i = p i := by
  have key : ∀ b0 b1 b2 b3 b4 b5 : Bool, let n := b0.toNat + 2 * b1.toNat + 4 * b2.toNat + 8 * b3.toNat + 16 * b4.toNat + 32 * b5.toNat
      n.testBit 0 = b0 ∧ n.testBit 1 = b1 ∧ n.testBit 2 = b2 ∧ n.testBit 3 = b3 ∧ n.testBit 4 = b4 ∧ n.testBit 5 = b5 := by decide +kernel
  obtain ⟨k0, k1, k2, k3, k4, k5⟩ := key (p 0) (p 1) (p 2) (p 3) (p 4) (p 5)
  rcases lt6 hi with rfl | rfl | rfl | rfl | rfl | rfl
  · exact k0
  · exact k1
  · exact k2
  · exact k3
  · exact k4
  · exact k5
theorem test_ge {m i : Nat} (h : m < 64) (hi : 6 ≤ i) : m.testBit i = false := Nat.testBit_lt_two_pow (Nat.lt_of_lt_of_le h (by
  show 2 ^ 6 ≤ 2 ^ i; exact Nat.pow_le_pow_right (by decide) hi))
theorem mask_ext {a b : Nat} (ha : a < 64) (hb : b < 64) (h : ∀ i, i < 6 → a.testBit i = b.testBit i) : a = b := Nat.eq_of_testBit_eq fun i => by
  by_cases hi : i < 6
  · exact h i hi
  · rw [test_ge ha (by omega), test_ge hb (by omega)]
theorem bW_eq (m j : Nat) : bW m j = (m.testBit j).toNat := by
  show (m >>> j) &&& 1 = _
  rw [Nat.and_one_is_mod, Nat.shiftRight_eq_div_pow, Nat.toNat_testBit]
theorem gW_lt (W j : Nat) : gW W j < 64 := by
  show (W >>> (6 * j)) &&& 63 < 64
  exact Nat.lt_of_le_of_lt Nat.and_le_right (by decide)
theorem gW_eq (W j : Nat) : gW W j = W / 2 ^ (6 * j) % 64 := by
  show (W >>> (6 * j)) &&& 63 = _
  rw [Nat.shiftRight_eq_div_pow]
  exact Nat.and_two_pow_sub_one_eq_mod _ 6
theorem mul_test (b : Bool) (x o : Nat) : (Nat.mul b.toNat x).testBit o = (b && x.testBit o) := by
  cases b
  · show (0 * x).testBit o = _; rw [Nat.zero_mul]; simp
  · show (1 * x).testBit o = _; rw [Nat.one_mul]; simp
theorem uW_test (W m o : Nat) : (uW W m).testBit o = (List.range 6).any fun j => m.testBit j && (gW W j).testBit o := by
  show (Nat.mul _ _ ||| (Nat.mul _ _ ||| (Nat.mul _ _ ||| (Nat.mul _ _ ||| (Nat.mul _ _ ||| Nat.mul _ _))))).testBit o = _
  simp only [Nat.testBit_or, bW_eq, mul_test]
  show _ = ([0, 1, 2, 3, 4, 5] : List Nat).any _
  simp only [List.any_cons, List.any_nil, Bool.or_false]
theorem lt_or {a b : Nat} (ha : a < 64) (hb : b < 64) : a ||| b < 64 := Nat.or_lt_two_pow (n := 6) ha hb
theorem uW_lt (W m : Nat) : uW W m < 64 := by
  have h : ∀ j, Nat.mul (bW m j) (gW W j) < 64 := fun j => by
    rw [bW_eq]
    cases m.testBit j
    · show 0 * _ < 64; rw [Nat.zero_mul]; decide
    · show 1 * _ < 64; rw [Nat.one_mul]; exact gW_lt W j
  exact lt_or (h 0) (lt_or (h 1) (lt_or (h 2) (lt_or (h 3) (lt_or (h 4) (h 5)))))
noncomputable def pack (R : Nat → Nat → Bool) : Nat → Nat
  | 0 => 0
  | i + 1 => pack R i + ofB (R i) * 2 ^ (6 * i)
theorem pack_lt (R : Nat → Nat → Bool) : ∀ i, pack R i < 2 ^ (6 * i)
  | 0 => Nat.one_pos
  | i + 1 => by
    have ih := pack_lt R i
    have h := ofB_lt (R i)
    show pack R i + ofB (R i) * 2 ^ (6 * i) < 2 ^ (6 * (i + 1))
    have e : 2 ^ (6 * (i + 1)) = 64 * 2 ^ (6 * i) := by rw [Nat.mul_add, Nat.pow_add]; omega
    rw [e]
    have h2 : ofB (R i) * 2 ^ (6 * i) ≤ 63 * 2 ^ (6 * i) := Nat.mul_le_mul_right _ (by omega)
    omega
theorem pack_get (R : Nat → Nat → Bool) (j : Nat) : ∀ i, j < i → gW (pack R i) j = ofB (R j)
  | 0, h => by omega
  | i + 1, h => by
    rw [gW_eq]
    show (pack R i + ofB (R i) * 2 ^ (6 * i)) / 2 ^ (6 * j) % 64 = _
    by_cases q : j = i
    · subst q
      rw [Nat.add_mul_div_right _ _ (Nat.two_pow_pos _), Nat.div_eq_of_lt (pack_lt R j), Nat.zero_add, Nat.mod_eq_of_lt (ofB_lt _)]
    · have hji : j < i := by omega
      have ih := pack_get R j i hji
      rw [gW_eq] at ih
      have e : ofB (R i) * 2 ^ (6 * i) = (ofB (R i) * 2 ^ (6 * (i - j - 1)) * 64) * 2 ^ (6 * j) := by
        have : (2 : Nat) ^ (6 * i) = 2 ^ (6 * (i - j - 1)) * 64 * 2 ^ (6 * j) := by
          have e3 : 6 * i = 6 * (i - j - 1) + 6 + 6 * j := by omega
          rw [e3, Nat.pow_add, Nat.pow_add]
        rw [this]; simp only [Nat.mul_assoc]
      rw [e, Nat.add_mul_div_right _ _ (Nat.two_pow_pos _), Nat.add_mul_mod_self_right]
      exact ih
theorem pack_get0 (R : Nat → Nat → Bool) (j i : Nat) (h : i ≤ j) : gW (pack R i) j = 0 := by
  rw [gW_eq, Nat.div_eq_of_lt (Nat.lt_of_lt_of_le (pack_lt R i) (Nat.pow_le_pow_right (by decide) (by omega)))]
/-- the nearest behind i -/
noncomputable def nearB (R : Nat → Nat → Bool) (i o : Nat) : Bool := R i o && !(List.range 6).any fun j => R i j && R j o
noncomputable def nearM (R : Nat → Nat → Bool) (i : Nat) : Nat := ofB (nearB R i)
structure Nato (R : Nat → Nat → Bool) : Prop where
  nat : ∀ i, i < 6 → ∀ j, j < 6 → R i j = true → j < i
  tr : ∀ i, i < 6 → ∀ j, j < 6 → ∀ k, k < 6 → R i j = true → R j k = true → R i k = true
theorem any6 {p : Nat → Bool} : (List.range 6).any p = true ↔ ∃ j, j < 6 ∧ p j = true := by
  rw [List.any_eq_true]
  exact ⟨fun hp1 => by obtain ⟨j, h, e⟩ := hp1; exact ⟨j, List.mem_range.mp h, e⟩, fun hp2 => by obtain ⟨j, h, e⟩ := hp2; exact ⟨j, List.mem_range.mpr h, e⟩⟩
theorem lt_pow_of {m i : Nat} (h6 : m < 64) (h : ∀ j, j < 6 → m.testBit j = true → j < i) : m < 2 ^ i := by
  refine Nat.lt_pow_two_of_testBit m fun j hj => ?_
  by_cases h' : j < 6
  · cases e : m.testBit j with
    | false => rfl
    | true => have := h j h' e; omega
  · exact test_ge h6 (by omega)
theorem allW_go (R : Nat → Nat → Bool) (N : Nato R) (cg : ∀ i, i + 1 < 6 → nearM R i ≤ nearM R (i + 1)) : ∀ (f i k : Nat), f + i = 6 → (i = 0 → k = 0) → (∀ t, i = t + 1 → k = nearM R t) → allW f i (pack R i) k = true → runW (pack R 6) 6 0 0 = true
  | 0, i, k, h, _, _, e => by
    have : i = 6 := by omega
    subst this; exact e
  | f + 1, i, k, h, h0, h1, e => by
    have hi : i < 6 := by omega
    have e' := List.all_eq_true.mp e (ofB (R i)) (List.mem_range.mpr (lt_pow_of (ofB_lt _) fun j hj t => N.nat i hi j hj (by rw [ofB_test _ j hj] at t; exact t)))
    rw [fz_eq, fz_eq, fz_eq] at e'
    have hu : ∀ o, o < 6 → (uW (pack R i) (ofB (R i))).testBit o = (List.range 6).any fun j => R i j && R j o := fun o ho => by
      rw [uW_test]
      rw [Bool.eq_iff_iff, any6, any6]
      constructor
      · rintro ⟨j, hj, q⟩
        rw [Bool.and_eq_true, ofB_test _ j hj] at q
        have hji := N.nat i hi j hj q.1
        rw [pack_get R j i hji, ofB_test _ o ho] at q
        exact ⟨j, hj, by rw [q.1, q.2]; rfl⟩
      · rintro ⟨j, hj, q⟩
        rw [Bool.and_eq_true] at q
        have hji := N.nat i hi j hj q.1
        exact ⟨j, hj, by rw [ofB_test _ j hj, pack_get R j i hji, ofB_test _ o ho, q.1, q.2]; rfl⟩
    have him : Nat.xor (ofB (R i)) (Nat.land (ofB (R i)) (uW (pack R i) (ofB (R i)))) = nearM R i := by
      show ofB (R i) ^^^ (ofB (R i) &&& uW (pack R i) (ofB (R i))) = _
      refine mask_ext (Nat.xor_lt_two_pow (n := 6) (ofB_lt _) (Nat.lt_of_le_of_lt Nat.and_le_left (ofB_lt _))) (ofB_lt _) fun o ho => ?_
      unfold nearM
      rw [Nat.testBit_xor, Nat.testBit_and, hu o ho, ofB_test _ o ho, ofB_test _ o ho]
      unfold nearB
      cases R i o <;> cases (List.range 6).any fun j => R i j && R j o <;> rfl
    have hcl : Nat.beq (Nat.land (uW (pack R i) (ofB (R i))) (ofB (R i))) (uW (pack R i) (ofB (R i))) = true := by
      rw [Nat.beq_eq]
      show uW (pack R i) (ofB (R i)) &&& ofB (R i) = _
      refine mask_ext (Nat.lt_of_le_of_lt Nat.and_le_left (uW_lt _ _)) (uW_lt _ _) fun o ho => ?_
      rw [Nat.testBit_and, hu o ho, ofB_test _ o ho]
      cases q : (List.range 6).any fun j => R i j && R j o with
      | false => rfl
      | true =>
        obtain ⟨j, hj, q⟩ := any6.mp q
        rw [Bool.and_eq_true] at q
        rw [N.tr i hi j hj o ho q.1 q.2]; rfl
    have hk : Nat.ble k (nearM R i) = true := by
      rw [Nat.ble_eq]
      cases i with
      | zero => rw [h0 rfl]; exact Nat.zero_le _
      | succ t => rw [h1 t rfl]; exact cg t hi
    rw [him, hcl, hk] at e'
    have e2 : allW f (i + 1) (pack R i + ofB (R i) <<< (6 * i)) (nearM R i) = true := by simpa using e'
    rw [Nat.shiftLeft_eq] at e2
    have h1' : ∀ t, i + 1 = t + 1 → nearM R i = nearM R t := fun t q => by
      have : i = t := by omega
      rw [this]
    exact allW_go R N cg f (i + 1) (nearM R i) (by omega) (fun q => by omega) h1' e2
theorem runW_all (R : Nat → Nat → Bool) (N : Nato R) (cg : ∀ i, i + 1 < 6 → nearM R i ≤ nearM R (i + 1)) : runW (pack R 6) 6 0 0 = true :=
  allW_go R N cg 6 0 0 rfl (fun _ => rfl) (fun t q => by omega) all_ok
end Mine
end

section
set_option maxRecDepth 100000
set_option linter.unusedVariables false
namespace Mine
/-! the hours, as the masks run them -/
noncomputable def upd (d : Nat → Bool) (x : Nat) : Nat → Bool := fun i => d i || i == x
noncomputable def Av (R : Nat → Nat → Bool) (d : Nat → Bool) (i : Nat) : Prop := d i = false ∧ ∀ j, j < 6 → d j = false → R j i = false
inductive Run (R : Nat → Nat → Bool) (W : Nat) : (Nat → Bool) → Nat → List (List Nat) → Prop
  | fin {d : Nat → Bool} {t : Nat} : (∀ i, i < 6 → d i = true) → hasM W 6 (7 - t) 6 63 = false → Run R W d t []
  | one {d : Nat → Bool} {t x : Nat} {rest : List (List Nat)} : x < 6 → Av R d x → (∀ i, i < 6 → Av R d i → i = x) → (∀ i, i < 6 → d i = false → i ≠ x → R x i = true) → Run R W (upd d x) (t + 1) rest → Run R W d t ([x] :: rest)
  | two {d : Nat → Bool} {t x y : Nat} {rest : List (List Nat)} : x < 6 → y < 6 → Av R d x → Av R d y → (∀ i, i < 6 → Av R d i → i ≤ x) → (∀ i, i < 6 → Av R d i → i ≠ x → i ≤ y) → y < x → Run R W (upd (upd d x) y) (t + 1) rest → Run R W d t ([x, y] :: rest)
theorem log_facts : ∀ a, a < 64 → a ≠ 0 → a.testBit (Nat.log2 a) = true ∧ Nat.log2 a < 6 ∧ (∀ i, i < 6 → a.testBit i = true → i ≤ Nat.log2 a) ∧ Nat.xor a (Nat.shiftLeft 1 (Nat.log2 a)) < 64 ∧ ∀ i, i < 6 → (Nat.xor a (Nat.shiftLeft 1 (Nat.log2 a))).testBit i = (a.testBit i && !(i == Nat.log2 a)) := by decide +kernel
theorem shl_test {x : Nat} (hx : x < 6) : Nat.shiftLeft 1 x < 64 ∧ ∀ i, i < 6 → (Nat.shiftLeft 1 x).testBit i = (i == x) := by
  have : ∀ x, x < 6 → Nat.shiftLeft 1 x < 64 ∧ ∀ i, i < 6 → (Nat.shiftLeft 1 x).testBit i = (i == x) := by decide +kernel
  exact this x hx
theorem t63 : ∀ i, i < 6 → (63 : Nat).testBit i = true := by decide
theorem xor_lt6 {a b : Nat} (ha : a < 64) (hb : b < 64) : Nat.xor a b < 64 := Nat.xor_lt_two_pow (n := 6) ha hb
theorem mask0 {a : Nat} (ha : a < 64) (h : ∀ i, i < 6 → a.testBit i = false) : a = 0 := mask_ext ha (by decide) fun i hi => by rw [h i hi]; simp
theorem mask63 {a : Nat} (ha : a < 64) (h : ∀ i, i < 6 → a.testBit i = true) : a = 63 := mask_ext ha (by decide) fun i hi => by rw [h i hi, t63 i hi]
/-- the mask says what d says -/
noncomputable def Says (D : Nat) (d : Nat → Bool) : Prop := D < 64 ∧ ∀ i, i < 6 → D.testBit i = d i
theorem Says.upd {D : Nat} {d : Nat → Bool} (h : Says D d) {x : Nat} (hx : x < 6) : Says (Nat.lor D (Nat.shiftLeft 1 x)) (upd d x) :=
  ⟨lt_or h.1 (shl_test hx).1, fun i hi => by
    show (D ||| Nat.shiftLeft 1 x).testBit i = (d i || i == x)
    rw [Nat.testBit_or, h.2 i hi, (shl_test hx).2 i hi]⟩
theorem av_says {R : Nat → Nat → Bool} {D : Nat} {d : Nat → Bool} (h : Says D d) : Nat.xor 63 (Nat.lor D (uW (pack R 6) (Nat.xor 63 D))) < 64 ∧ ∀ i, i < 6 → ((Nat.xor 63 (Nat.lor D (uW (pack R 6) (Nat.xor 63 D)))).testBit i = true ↔ Av R d i) := by
  refine ⟨xor_lt6 (by decide) (lt_or h.1 (uW_lt _ _)), fun i hi => ?_⟩
  show (63 ^^^ (D ||| uW (pack R 6) (63 ^^^ D))).testBit i = true ↔ _
  rw [Nat.testBit_xor, Nat.testBit_or, t63 i hi, h.2 i hi]
  have hu : (uW (pack R 6) (63 ^^^ D)).testBit i = true ↔ ∃ j, j < 6 ∧ d j = false ∧ R j i = true := by
    rw [uW_test, any6]
    refine ⟨fun ⟨j, hj, q⟩ => ⟨j, hj, ?_⟩, fun ⟨j, hj, q1, q2⟩ => ⟨j, hj, ?_⟩⟩
    · rw [Bool.and_eq_true, Nat.testBit_xor, t63 j hj, h.2 j hj, pack_get R j 6 hj, ofB_test _ i hi] at q
      exact ⟨by simpa using q.1, q.2⟩
    · rw [Bool.and_eq_true, Nat.testBit_xor, t63 j hj, h.2 j hj, pack_get R j 6 hj, ofB_test _ i hi, q1]
      exact ⟨rfl, q2⟩
  unfold Av
  cases hd : d i with
  | true => simp
  | false =>
    cases hq : (uW (pack R 6) (63 ^^^ D)).testBit i with
    | true =>
      obtain ⟨j, hj, q1, q2⟩ := hu.mp hq
      refine ⟨fun e => (by cases e), fun e => ?_⟩
      have := e.2 j hj q1
      rw [q2] at this; cases this
    | false =>
      refine ⟨fun _ => ⟨rfl, fun j hj q => ?_⟩, fun _ => rfl⟩
      cases q2 : R j i with
      | false => rfl
      | true => have := hu.mpr ⟨j, hj, q, q2⟩; rw [hq] at this; cases this
theorem run_of (R : Nat → Nat → Bool) : ∀ (f D t : Nat) (d : Nat → Bool), Says D d → runW (pack R 6) f D t = true → ∃ sc, Run R (pack R 6) d t sc := by
  have fin : ∀ (D t : Nat) (d : Nat → Bool), Says D d → (Nat.beq D 63 && not (hasM (pack R 6) 6 (Nat.sub 7 t) 6 63)) = true → ∃ sc, Run R (pack R 6) d t sc := by
    intro D t d h e
    rw [Bool.and_eq_true, Nat.beq_eq] at e
    refine ⟨[], .fin (fun i hi => ?_) ?_⟩
    · rw [← h.2 i hi, e.1]; exact t63 i hi
    · have := e.2
      simpa using this
  intro f
  induction f with
  | zero => intro D t d h e; exact fin D t d h e
  | succ f ih =>
    intro D t d h e
    unfold runW at e
    rw [fz_eq] at e
    obtain ⟨al, at_⟩ := av_says (R := R) h
    generalize Nat.xor 63 (Nat.lor D (uW (pack R 6) (Nat.xor 63 D))) = av at e al at_
    by_cases h0 : av = 0
    · subst h0
      exact fin D t d h (by simpa using e)
    · have hb : Nat.beq av 0 = false := by
        cases q : Nat.beq av 0 with
        | false => rfl
        | true => exact absurd (Nat.beq_eq.mp q) h0
      rw [hb, cond_false, fz_eq, fz_eq] at e
      obtain ⟨l1, l2, l3, l4, l5⟩ := log_facts av al h0
      generalize Nat.log2 av = x at e l1 l2 l3 l4 l5
      generalize Nat.xor av (Nat.shiftLeft 1 x) = av2 at e l4 l5
      have hx := (at_ x l2).mp l1
      by_cases h2 : av2 = 0
      · subst h2
        rw [show Nat.beq 0 0 = true from rfl, cond_true, fz_eq, Bool.and_eq_true, Nat.beq_eq] at e
        have hs := h.upd l2
        obtain ⟨sc, hr⟩ := ih _ (t + 1) _ hs e.2
        refine ⟨[x] :: sc, .one l2 hx (fun i hi q => ?_) (fun i hi q1 q2 => ?_) hr⟩
        · have := l5 i hi
          rw [(at_ i hi).mpr q] at this
          simpa using this
        · have e1 := congrArg (fun n => Nat.testBit n i) e.1
          have e2 : (gW (pack R 6) x ||| Nat.lor D (Nat.shiftLeft 1 x)).testBit i = true := by
            show (Nat.lor _ _).testBit i = true
            exact e1.trans (t63 i hi)
          rw [Nat.testBit_or, hs.2 i hi, pack_get R x 6 l2, ofB_test _ i hi] at e2
          unfold upd at e2
          rw [q1] at e2
          simpa [q2] using e2
      · have hb2 : Nat.beq av2 0 = false := by
          cases q : Nat.beq av2 0 with
          | false => rfl
          | true => exact absurd (Nat.beq_eq.mp q) h2
        rw [hb2, cond_false, fz_eq, fz_eq] at e
        obtain ⟨m1, m2, m3, m4, m5⟩ := log_facts av2 l4 h2
        generalize Nat.log2 av2 = y at e m1 m2 m3 m4 m5
        have hy5 := l5 y m2
        rw [m1] at hy5
        have hyv : av.testBit y = true ∧ y ≠ x := by simpa using hy5.symm
        have hyx : y < x := by have := l3 y m2 hyv.1; omega
        have hs : Says (Nat.lor D (Nat.lor (Nat.shiftLeft 1 x) (Nat.shiftLeft 1 y))) (upd (upd d x) y) := by
          have := (h.upd l2).upd m2
          have e2 : Nat.lor (Nat.lor D (Nat.shiftLeft 1 x)) (Nat.shiftLeft 1 y) = Nat.lor D (Nat.lor (Nat.shiftLeft 1 x) (Nat.shiftLeft 1 y)) := Nat.or_assoc _ _ _
          rw [e2] at this; exact this
        obtain ⟨sc, hr⟩ := ih _ (t + 1) _ hs e
        refine ⟨[x, y] :: sc, .two l2 m2 hx ((at_ y m2).mp hyv.1) (fun i hi q => l3 i hi ((at_ i hi).mpr q)) (fun i hi q1 q2 => m3 i hi ?_) hyx hr⟩
        rw [l5 i hi, (at_ i hi).mpr q1]; simpa using q2
theorem run_all (R : Nat → Nat → Bool) (N : Nato R) (cg : ∀ i, i + 1 < 6 → nearM R i ≤ nearM R (i + 1)) : ∃ sc, Run R (pack R 6) (fun _ => false) 0 sc :=
  run_of R 6 0 0 (fun _ => false) ⟨by decide, fun i _ => by simp⟩ (runW_all R N cg)
/-- what may stand where -/
noncomputable def Good (R : Nat → Nat → Bool) : List (List Nat) → Prop
  | [] => True
  | r :: rest => (∀ x ∈ r, ∀ y ∈ r, R x y = false) ∧ (∀ y ∈ r, ∀ x ∈ rest.flatten, R x y = false) ∧ (r.length = 1 → ∀ x ∈ r, ∀ y ∈ rest.flatten, R x y = true) ∧ Good R rest
structure Facts (R : Nat → Nat → Bool) (W : Nat) (d : Nat → Bool) (t : Nat) (sc : List (List Nat)) : Prop where
  nd : sc.flatten.Nodup
  inn : ∀ i ∈ sc.flatten, i < 6 ∧ d i = false
  all : ∀ i, i < 6 → d i = false → i ∈ sc.flatten
  row : ∀ r ∈ sc, 1 ≤ r.length ∧ r.length ≤ 2
  good : Good R sc
  best : hasM W 6 (7 - (t + sc.length)) 6 63 = false
theorem run_facts {R : Nat → Nat → Bool} {W : Nat} {d : Nat → Bool} {t : Nat} {sc : List (List Nat)} (h : Run R W d t sc) : Facts R W d t sc := by
  induction h with
  | fin h1 h2 => exact ⟨.nil, fun _ q => (nomatch q), fun i hi q => absurd ((h1 i hi).symm.trans q) (by decide), fun _ q => (nomatch q), trivial, h2⟩
  | @one d t x rest hx hav ho hal _ ih =>
    have hd : ∀ i ∈ rest.flatten, i < 6 ∧ d i = false ∧ i ≠ x := fun i hi => by
      obtain ⟨a, b⟩ := ih.inn i hi
      unfold upd at b
      rw [Bool.or_eq_false_iff] at b
      exact ⟨a, b.1, by simpa using b.2⟩
    refine ⟨?_, ?_, ?_, ?_, ?_, ?_⟩
    · show (x :: rest.flatten).Nodup
      exact List.nodup_cons.mpr ⟨fun q => (hd x q).2.2 rfl, ih.nd⟩
    · intro i hi
      rcases List.mem_cons.mp (show i ∈ x :: rest.flatten from hi) with rfl | q
      · exact ⟨hx, hav.1⟩
      · exact ⟨(hd i q).1, (hd i q).2.1⟩
    · intro i hi q
      show i ∈ x :: rest.flatten
      by_cases e : i = x
      · rw [e]; exact .head _
      · exact .tail _ (ih.all i hi (by unfold upd; rw [q]; simpa using e))
    · intro r hr
      rcases List.mem_cons.mp hr with rfl | q
      · exact ⟨by simp, by simp⟩
      · exact ih.row r q
    · refine ⟨fun a ha b hb => ?_, fun b hb a ha => ?_, fun _ a ha b hb => ?_, ih.good⟩
      · rw [List.mem_singleton.mp ha, List.mem_singleton.mp hb]; exact hav.2 x hx hav.1
      · rw [List.mem_singleton.mp hb]; exact hav.2 a (hd a ha).1 (hd a ha).2.1
      · rw [List.mem_singleton.mp ha]; exact hal b (hd b hb).1 (hd b hb).2.1 (hd b hb).2.2
    · have := ih.best
      rw [List.length_cons]
      have e : t + (rest.length + 1) = t + 1 + rest.length := by omega
      rw [e]; exact this
  | @two d t x y rest hx hy hax hay hmx hmy hyx _ ih =>
    have hd : ∀ i ∈ rest.flatten, i < 6 ∧ d i = false ∧ i ≠ x ∧ i ≠ y := fun i hi => by
      obtain ⟨a, b⟩ := ih.inn i hi
      unfold upd at b
      rw [Bool.or_eq_false_iff, Bool.or_eq_false_iff] at b
      exact ⟨a, b.1.1, by simpa using b.1.2, by simpa using b.2⟩
    have hav : ∀ b ∈ [x, y], b < 6 ∧ Av R d b := fun b hb => by
      rcases List.mem_cons.mp hb with rfl | hb
      · exact ⟨hx, hax⟩
      · rw [List.mem_singleton.mp hb]; exact ⟨hy, hay⟩
    refine ⟨?_, ?_, ?_, ?_, ?_, ?_⟩
    · show (x :: y :: rest.flatten).Nodup
      refine List.nodup_cons.mpr ⟨fun q => ?_, List.nodup_cons.mpr ⟨fun q => (hd y q).2.2.2 rfl, ih.nd⟩⟩
      rcases List.mem_cons.mp q with q | q
      · omega
      · exact (hd x q).2.2.1 rfl
    · intro i hi
      rcases List.mem_append.mp (show i ∈ [x, y] ++ rest.flatten from hi) with q | q
      · exact ⟨(hav i q).1, (hav i q).2.1⟩
      · exact ⟨(hd i q).1, (hd i q).2.1⟩
    · intro i hi q
      show i ∈ x :: y :: rest.flatten
      by_cases e : i = x
      · rw [e]; exact .head _
      · by_cases e2 : i = y
        · rw [e2]; exact .tail _ (.head _)
        · exact .tail _ (.tail _ (ih.all i hi (by unfold upd; rw [q]; simp [e, e2])))
    · intro r hr
      rcases List.mem_cons.mp hr with rfl | q
      · exact ⟨by simp, by simp⟩
      · exact ih.row r q
    · refine ⟨fun a ha b hb => (hav b hb).2.2 a (hav a ha).1 (hav a ha).2.1, fun b hb a ha => (hav b hb).2.2 a (hd a ha).1 (hd a ha).2.1, fun q => by simp at q, ih.good⟩
    · have := ih.best
      rw [List.length_cons]
      have e : t + (rest.length + 1) = t + 1 + rest.length := by omega
      rw [e]; exact this
end Mine
end

section
set_option maxRecDepth 100000
set_option linter.unusedVariables false
namespace Mine
/-! pairs, no one in two of them -/
noncomputable def flatP (ps : List (Nat × Nat)) : List Nat := ps.flatMap fun p => [p.1, p.2]
theorem flatP_cons (p : Nat × Nat) (ps : List (Nat × Nat)) : flatP (p :: ps) = p.1 :: p.2 :: flatP ps := rfl
theorem flatP_len : ∀ ps : List (Nat × Nat), (flatP ps).length = 2 * ps.length
  | [] => rfl
  | p :: r => by rw [flatP_cons, List.length_cons, List.length_cons, flatP_len r, List.length_cons]; omega
theorem flatP_perm {ps qs : List (Nat × Nat)} (h : ps.Perm qs) : (flatP ps).Perm (flatP qs) := h.flatMap_right _
theorem nodup_le {l : List Nat} : ∀ {l' : List Nat}, l.Nodup → (∀ x ∈ l, x ∈ l') → l.length ≤ l'.length := by
  induction l with
  | nil => intro l' _ _; exact Nat.zero_le _
  | cons a r ih =>
    intro l' nd h
    obtain ⟨n1, n2⟩ := List.nodup_cons.mp nd
    have ha := h a (.head _)
    have := ih (l' := l'.erase a) n2 fun x hx => (List.mem_erase_of_ne (fun (e : x = a) => n1 (e ▸ hx))).mpr (h x (.tail _ hx))
    rw [List.length_erase_of_mem ha] at this
    have hpos := List.length_pos_of_mem ha
    rw [List.length_cons]; omega
structure Mat (inc : Nat → Nat → Prop) (S : Nat → Prop) (ps : List (Nat × Nat)) : Prop where
  nd : (flatP ps).Nodup
  inn : ∀ z ∈ flatP ps, S z
  inc : ∀ p ∈ ps, inc p.1 p.2
theorem Mat.perm {inc : Nat → Nat → Prop} {S : Nat → Prop} {ps qs : List (Nat × Nat)} (h : Mat inc S ps) (p : ps.Perm qs) : Mat inc S qs :=
  ⟨(flatP_perm p).nodup_iff.mp h.nd, fun z hz => h.inn z ((flatP_perm p).mem_iff.mpr hz), fun q hq => h.inc q (p.mem_iff.mpr hq)⟩
/-- one is in a pair: that pair first, and the rest without the two -/
theorem Mat.split {inc : Nat → Nat → Prop} (sym : ∀ a b, inc a b → inc b a) {S : Nat → Prop} {ps : List (Nat × Nat)} (h : Mat inc S ps) {x : Nat} (hx : x ∈ flatP ps) : ∃ y qs, S x ∧ S y ∧ y ≠ x ∧ inc x y ∧ qs.length + 1 = ps.length ∧ Mat inc (fun z => S z ∧ z ≠ x ∧ z ≠ y) qs := by
  obtain ⟨p, hp, hxp⟩ := List.mem_flatMap.mp hx
  have pm := List.perm_cons_erase hp
  have h2 := h.perm pm
  have nd := h2.nd
  rw [flatP_cons] at nd
  obtain ⟨n1, n2⟩ := List.nodup_cons.mp nd
  obtain ⟨n3, n4⟩ := List.nodup_cons.mp n2
  have hl : (ps.erase p).length + 1 = ps.length := by have := pm.length_eq; simpa using this.symm
  have inn : ∀ z ∈ flatP (p :: ps.erase p), S z := h2.inn
  have s1 : S p.1 := inn _ (.head _)
  have s2 : S p.2 := inn _ (.tail _ (.head _))
  have ne : p.1 ≠ p.2 := fun e => n1 (e ▸ .head _)
  have tl : ∀ z ∈ flatP (ps.erase p), S z ∧ z ≠ p.1 ∧ z ≠ p.2 := fun z hz => ⟨inn z (.tail _ (.tail _ hz)), fun e => n1 (.tail _ (e ▸ hz)), fun e => n3 (e ▸ hz)⟩
  have hi : ∀ q ∈ ps.erase p, inc q.1 q.2 := fun q hq => h2.inc q (.tail _ hq)
  rcases List.mem_cons.mp hxp with e | e
  · subst e
    exact ⟨p.2, ps.erase p, s1, s2, fun e => ne e.symm, h.inc p hp, hl, n4, tl, hi⟩
  · have e := List.mem_singleton.mp e
    subst e
    exact ⟨p.1, ps.erase p, s2, s1, ne, sym _ _ (h.inc p hp), hl, n4, fun z hz => ⟨(tl z hz).1, (tl z hz).2.2, (tl z hz).2.1⟩, hi⟩
theorem Mat.le {inc : Nat → Nat → Prop} {S S' : Nat → Prop} {ps : List (Nat × Nat)} (h : Mat inc S ps) (k : ∀ z ∈ flatP ps, S z → S' z) : Mat inc S' ps := ⟨h.nd, fun z hz => k z hz (h.inn z hz), h.inc⟩
theorem Mat.take {inc : Nat → Nat → Prop} {S : Nat → Prop} {ps : List (Nat × Nat)} (h : Mat inc S ps) (k : Nat) : Mat inc S (ps.take k) := by
  have e : flatP ps = flatP (ps.take k) ++ flatP (ps.drop k) := by
    unfold flatP; rw [← List.flatMap_append, List.take_append_drop]
  refine ⟨?_, fun z hz => h.inn z (by rw [e]; exact List.mem_append_left _ hz), fun p hp => h.inc p (List.mem_of_mem_take hp)⟩
  have := h.nd
  rw [e] at this
  exact (List.nodup_append.mp this).1
noncomputable def pc (m : Nat) : Nat := ((List.range 6).filter fun i => m.testBit i).length
theorem pc_one : ∀ m, m < 64 → m ≠ 0 → pc (Nat.xor m (Nat.shiftLeft 1 (Nat.log2 m))) + 1 = pc m := by decide +kernel
theorem pc_two : ∀ r, r < 64 → ∀ y, y < 6 → r.testBit y = true → pc (Nat.xor r (Nat.shiftLeft 1 y)) + 1 = pc r ∧ Nat.xor r (Nat.shiftLeft 1 y) < 64 ∧ ∀ i, i < 6 → (Nat.xor r (Nat.shiftLeft 1 y)).testBit i = (r.testBit i && !(i == y)) := by decide +kernel
theorem pc_facts (m : Nat) (hm : m < 64) (h0 : m ≠ 0) : pc (Nat.xor m (Nat.shiftLeft 1 (Nat.log2 m))) + 1 = pc m ∧ ∀ y, y < 6 → (Nat.xor m (Nat.shiftLeft 1 (Nat.log2 m))).testBit y = true →
    (pc (Nat.xor (Nat.xor m (Nat.shiftLeft 1 (Nat.log2 m))) (Nat.shiftLeft 1 y)) + 2 = pc m ∧ Nat.xor (Nat.xor m (Nat.shiftLeft 1 (Nat.log2 m))) (Nat.shiftLeft 1 y) < 64 ∧ ∀ i, i < 6 → (Nat.xor (Nat.xor m (Nat.shiftLeft 1 (Nat.log2 m))) (Nat.shiftLeft 1 y)).testBit i = ((Nat.xor m (Nat.shiftLeft 1 (Nat.log2 m))).testBit i && !(i == y))) := by
  have h1 := pc_one m hm h0
  obtain ⟨_, _, _, l4, _⟩ := log_facts m hm h0
  refine ⟨h1, fun y hy q => ?_⟩
  obtain ⟨a, b, e⟩ := pc_two _ l4 y hy q
  exact ⟨by omega, b, e⟩
noncomputable def incR (R : Nat → Nat → Bool) (a b : Nat) : Prop := R a b = false ∧ R b a = false
theorem or6 {b : Nat → Bool} {j : Nat} (hj : j < 6) (h : b j = true) : (b 0 || (b 1 || (b 2 || (b 3 || (b 4 || b 5))))) = true := by
  rcases lt6 hj with rfl | rfl | rfl | rfl | rfl | rfl <;> simp [h]
theorem hasM_true (R : Nat → Nat → Bool) : ∀ (f k m : Nat) (ps : List (Nat × Nat)), m < 64 → pc m ≤ f → ps.length = k → Mat (incR R) (fun z => z < 6 ∧ m.testBit z = true) ps → hasM (pack R 6) f k (pc m) m = true := by
  have two : ∀ (m : Nat) (ps : List (Nat × Nat)), Mat (incR R) (fun z => z < 6 ∧ m.testBit z = true) ps → 2 * ps.length ≤ pc m := fun m ps h => by
    rw [← flatP_len]
    exact nodup_le h.nd fun x hx => List.mem_filter.mpr ⟨List.mem_range.mpr (h.inn x hx).1, (h.inn x hx).2⟩
  intro f
  induction f with
  | zero =>
    intro k m ps hm hp hk h
    have := two m ps h
    have : k = 0 := by omega
    subst this; rfl
  | succ f ih =>
    intro k m ps hm hp hk h
    have h2 := two m ps h
    unfold hasM
    cases k with
    | zero => rfl
    | succ k =>
      rw [show Nat.beq (k + 1) 0 = false from rfl, cond_false]
      have hb : Nat.ble (Nat.mul 2 (k + 1)) (pc m) = true := by rw [Nat.ble_eq, ← hk]; exact h2
      rw [hb, cond_true, fz_eq, fz_eq, fz_eq]
      have h0 : m ≠ 0 := fun e => by
        subst e
        have : pc 0 = 0 := by decide
        omega
      obtain ⟨l1, l2, l3, l4, l5⟩ := log_facts m hm h0
      obtain ⟨p1, p2⟩ := pc_facts m hm h0
      generalize Nat.log2 m = x at *
      generalize Nat.xor m (Nat.shiftLeft 1 x) = r at *
      by_cases hx : x ∈ flatP ps
      · obtain ⟨y, qs, s1, s2, hne, hinc, hl, hq⟩ := h.split (fun a b q => ⟨q.2, q.1⟩) hx
        have hry : r.testBit y = true := by rw [l5 y s2.1, s2.2]; simpa using hne
        obtain ⟨q1, q2, q3⟩ := p2 y s2.1 hry
        have hrec := ih k (Nat.xor r (Nat.shiftLeft 1 y)) qs q2 (by omega) (by omega) (hq.le fun z _ hz => ⟨hz.1.1, by
          rw [q3 z hz.1.1, l5 z hz.1.1, hz.1.2]; simp [hz.2.1, hz.2.2]⟩)
        have epc : pc (Nat.xor r (Nat.shiftLeft 1 y)) = Nat.sub (pc m) 2 := by show _ = pc m - 2; omega
        rw [epc] at hrec
        have hc : ∀ j, j < 6 → Nat.beq (bW (Nat.land r (Nat.xor 63 (gW (pack R 6) x))) j) 0 = !(r.testBit j && !R x j) := fun j hj => by
          rw [bW_eq]
          have : (Nat.land r (Nat.xor 63 (gW (pack R 6) x))).testBit j = (r.testBit j && !R x j) := by
            show (r &&& (63 ^^^ gW (pack R 6) x)).testBit j = _
            rw [Nat.testBit_and, Nat.testBit_xor, t63 j hj, pack_get R x 6 l2, ofB_test _ j hj]; simp
          rw [this]
          cases r.testBit j && !R x j <;> rfl
        have hcy : (r.testBit y && !R x y) = true := by rw [hry, hinc.1]; rfl
        have hcb := hc y s2.1
        rw [hcy] at hcb
        rw [Bool.or_eq_true]; left
        exact or6 (b := fun j => bif Nat.beq (bW (Nat.land r (Nat.xor 63 (gW (pack R 6) x))) j) 0 then false else hasM (pack R 6) f (Nat.pred (k + 1)) (Nat.sub (pc m) 2) (Nat.xor r (Nat.shiftLeft 1 j))) s2.1 (by rw [hcb]; exact hrec)
      · rw [Bool.or_eq_true]; right
        have epc : pc r = Nat.pred (pc m) := by show _ = pc m - 1; omega
        rw [← epc]
        refine ih (k + 1) r ps l4 (by omega) hk (h.le fun z hz q => ⟨q.1, ?_⟩)
        rw [l5 z q.1, q.2]
        have : z ≠ x := fun e => hx (e ▸ hz)
        simpa using this
/-- no more pairs than that -/
theorem hasM_best {R : Nat → Nat → Bool} {k : Nat} (h : hasM (pack R 6) 6 k 6 63 = false) {ps : List (Nat × Nat)} (hp : Mat (incR R) (fun z => z < 6) ps) : ps.length < k := by
  refine Nat.lt_of_not_le fun hk => ?_
  have h1 := (hp.take k).le (S' := fun z => z < 6 ∧ (63 : Nat).testBit z = true) fun z _ q => ⟨q, t63 z q⟩
  have := hasM_true R 6 k 63 (ps.take k) (by decide) (by decide) (by rw [List.length_take]; omega) h1
  rw [show pc 63 = 6 by decide, h] at this
  cases this
end Mine
end

section
open PySem PySem.W PyProof.Rows
set_option maxRecDepth 100000
namespace Mine
/-! the top, run over a tree of objects -/
noncomputable def topRunT (tb : String → Option Builtin) (p : Program) (w : World) (n₀ : Nat) (ann : Option Value) : Nat → SharedT → Thread → Option SharedT
  | 0, _, _ => none
  | n + 1, s, t => match through t with
    | true => some s
    | false => match stepOk n₀ ann t with
      | false => none
      | true => match stepT (denote tb) p w s t with
        | some (s', t') => topRunT tb p w n₀ ann n s' t'
        | none => none
theorem topRun_ofT {tb : String → Option Builtin} {p : Program} {w : World} {n₀ : Nat} {ann : Option Value} : ∀ {n : Nat} {s r : SharedT} {t : Thread}, topRunT tb p w n₀ ann n s t = some r → topRun tb p w n₀ ann n s.abs t = some r.abs
  | 0, _, _, _, h => nomatch h
  | n + 1, s, r, t, h => by
    unfold topRunT at h
    unfold topRun
    cases ht : through t with
    | true => rw [ht] at h; cases h; rfl
    | false =>
      rw [ht] at h
      cases hk : stepOk n₀ ann t with
      | false => rw [hk] at h; cases h
      | true =>
        rw [hk] at h
        cases hs : stepT (denote tb) p w s t with
        | none => rw [hs] at h; cases h
        | some q => obtain ⟨s₂, t₂⟩ := q; rw [hs] at h; dsimp only; rw [stepT_spec hs]; exact topRun_ofT h
noncomputable def growT : List Obj → Nat → BT → Option BT
  | [], _, t => some t
  | o :: r, n, t => match ((t.ins n o).get n).isSome with
    | true => growT r (n + 1) (t.ins n o)
    | false => none
theorem growT_abs (life : Life) : ∀ (l : List Obj) (n : Nat) (t t' : BT), growT l n t = some t' → (absHeap t' (n + l.length) life) = ⟨(absHeap t n life).objs ++ l.toArray, life⟩
  | [], n, t, t', h => by cases h; simp [absHeap]
  | o :: r, n, t, t', h => by
    unfold growT at h
    cases hs : ((t.ins n o).get n).isSome with
    | false => rw [hs] at h; cases h
    | true =>
      rw [hs] at h
      have ih := growT_abs life r (n + 1) (t.ins n o) t' h
      rw [absHeap_ins hs] at ih
      rw [List.length_cons, show n + (r.length + 1) = n + 1 + r.length by omega, ih]
      simp [Heap.push]
noncomputable def topFromT (tb : String → Option Builtin) (p : Program) (w : World) (N : Nat) (s₀ : Shared) : Option Shared :=
  match s₀.heap.isNs mainGlobals && s₀.gens.size == 0 with
  | true => match growT s₀.heap.objs.toList 0 .nil with
    | some T => (topRunT tb p w s₀.heap.objs.size (s₀.heap.nsMap mainGlobals "__annotations__") N ⟨T, s₀.heap.objs.toList.length, s₀.heap.life, s₀.gens, s₀.drawn, s₀.toks, s₀.os⟩ (topStub p)).bind fun r => match staticsOk (importedModules p.main.body) s₀.heap r.abs.heap && namesBound p r.abs.heap && gensDone r.abs && laidKept s₀.heap r.abs.heap with
      | true => some r.abs
      | false => none
    | none => none
  | false => none
theorem topFrom_ofT {tb : String → Option Builtin} {p : Program} {w : World} {N : Nat} {s₀ s : Shared} (h : topFromT tb p w N s₀ = some s) : topFrom tb p w N s₀ = some s := by
  unfold topFromT at h
  unfold topFrom
  cases h1 : s₀.heap.isNs mainGlobals && s₀.gens.size == 0 with
  | false => rw [h1] at h; cases h
  | true =>
    rw [h1] at h
    dsimp only at h ⊢
    cases h2 : growT s₀.heap.objs.toList 0 .nil with
    | none => rw [h2] at h; cases h
    | some T =>
      rw [h2] at h
      dsimp only at h
      obtain ⟨r, hr, h3⟩ := Option.bind_eq_some_iff.mp h
      have ha := growT_abs s₀.heap.life _ _ _ _ h2
      rw [Nat.zero_add] at ha
      have e : (⟨T, s₀.heap.objs.toList.length, s₀.heap.life, s₀.gens, s₀.drawn, s₀.toks, s₀.os⟩ : SharedT).abs = s₀ := by
        unfold SharedT.abs
        dsimp only
        rw [ha]
        obtain ⟨⟨objs, life⟩, gens, drawn, toks, os⟩ := s₀
        simp [absHeap, BT.list]
      have := topRun_ofT hr
      rw [e] at this
      rw [this]
      exact h3
noncomputable def openEndsT (tb : String → Option Builtin) (p : Program) (w : World) (N : Nat) : Option Shared := (fencedOpening tb p w N).bind (topFromT tb p w N)
theorem ends_ofT {p : Program} {w : World} {N : Nat} {β : Type} {f : Shared → β} {b : β} (h : (openEndsT treeTable p w N).map f = some b) : (openEnds treeTable p w N).map f = some b := by
  obtain ⟨s, h1, h2⟩ := Option.map_eq_some_iff.mp h
  obtain ⟨s₀, h3, h4⟩ := Option.bind_eq_some_iff.mp h1
  unfold openEnds
  rw [h3]
  show (topFrom treeTable p w N s₀).map f = _
  rw [topFrom_ofT h4, ← h2]; rfl
end Mine
end

section
open PySem PySem.Calls PyProof.Rows PySem.W
set_option maxRecDepth 100000
set_option linter.unusedVariables false
namespace Mine

/-- plain data, and own instances with their fields -/
inductive D where
  | none
  | bool (b : Bool)
  | int (i : Int)
  | str (s : Str)
  | tup (xs : List D)
  | lst (xs : List D)
  | inst (C : Addr) (fs : List (Str × D))
  | rng (a b : Int)
  | opq (a : Addr)

noncomputable abbrev Fz := Addr → Option Obj
noncomputable def Fle (F G : Fz) : Prop := ∀ a o, F a = some o → G a = some o
theorem Fle.refl (F : Fz) : Fle F F := fun _ _ e => e
theorem Fle.trans {F G H : Fz} (x : Fle F G) (y : Fle G H) : Fle F H := fun a o e => y a o (x a o e)

noncomputable def NoMore (fs : List (Str × D)) (es : Array DictEntry) : Prop := ∀ y, fs.lookup y = none → nsFind es y = none
mutual
inductive Rd (F : Fz) : D → Value → Prop
  | none : Rd F .none .none
  | bool (b : Bool) : Rd F (.bool b) (.bool b)
  | int (i : Int) (t : Tok) : Rd F (.int i) (.int i t)
  | str (x : Str) (t : Tok) : Rd F (.str x) (.str x t)
  | lst {a : Addr} {o : Obj} {vs : Array Value} {n : Nat} {ds : List D} : F a = some o → o.cls = .type "list" → o.data = .seq vs n → RdL F ds vs.toList → Rd F (.lst ds) (.ref a)
  | tup {a : Addr} {o : Obj} {vs : Array Value} {n : Nat} {ds : List D} : F a = some o → o.cls = .type "tuple" → o.data = .seq vs n → RdL F ds vs.toList → Rd F (.tup ds) (.ref a)
  | inst {x dx C : Addr} {od : Obj} {es : Array DictEntry} {k : Nat} {fs : List (Str × D)} : F x = some (instObj C dx) → F dx = some od → od.data = .dict es k → StrKeys es → RdF F fs es → NoMore fs es → Rd F (.inst C fs) (.ref x)
  | rng {r : Addr} {a b : Int} {t u v : Tok} : F r = some { cls := .type "range", dict := .none, data := .fields #[.int a t, .int b u, .int 1 v], slots := #[] } → Rd F (.rng a b) (.ref r)
  | opq {a : Addr} {o : Obj} : F a = some o → Rd F (.opq a) (.ref a)
inductive RdL (F : Fz) : List D → List Value → Prop
  | nil : RdL F [] []
  | cons {d : D} {v : Value} {ds : List D} {vs : List Value} : Rd F d v → RdL F ds vs → RdL F (d :: ds) (v :: vs)
inductive RdF (F : Fz) : List (Str × D) → Array DictEntry → Prop
  | nil {es : Array DictEntry} : RdF F [] es
  | cons {x : Str} {d : D} {v : Value} {r : List (Str × D)} {es : Array DictEntry} : nsFind es x = some v → Rd F d v → RdF F r es → RdF F ((x, d) :: r) es
end

theorem Rd.mono {F G : Fz} (h : Fle F G) {d : D} {v : Value} (r : Rd F d v) : Rd G d v :=
  Rd.rec (motive_1 := fun d v _ => Rd G d v) (motive_2 := fun ds vs _ => RdL G ds vs) (motive_3 := fun fs es _ => RdF G fs es) .none .bool .int .str
    (fun a b c _ r => .lst (h _ _ a) b c r) (fun a b c _ r => .tup (h _ _ a) b c r) (fun a b c d _ z r => .inst (h _ _ a) (h _ _ b) c d r z) (fun a => .rng (h _ _ a)) (fun a => .opq (h _ _ a)) .nil (fun _ _ a r => .cons a r) .nil (fun e _ _ a r => .cons e a r) r
theorem RdL.ind {F : Fz} {P : List D → List Value → Prop} (hn : P [] []) (hc : ∀ {d : D} {v : Value} {ds : List D} {vs : List Value}, Rd F d v → RdL F ds vs → P ds vs → P (d :: ds) (v :: vs)) {ds : List D} {vs : List Value} (r : RdL F ds vs) : P ds vs :=
  RdL.rec (motive_1 := fun _ _ _ => True) (motive_2 := fun ds vs _ => P ds vs) (motive_3 := fun _ _ _ => True) trivial (fun _ => trivial) (fun _ _ => trivial) (fun _ _ => trivial)
    (fun _ _ _ _ _ => trivial) (fun _ _ _ _ _ => trivial) (fun _ _ _ _ _ _ _ => trivial) (fun _ => trivial) (fun _ => trivial) hn (fun a r _ q => hc a r q) trivial (fun _ _ _ _ _ => trivial) r
theorem RdF.ind {F : Fz} {P : List (Str × D) → Array DictEntry → Prop} (hn : ∀ {es : Array DictEntry}, P [] es) (hc : ∀ {x : Str} {d : D} {v : Value} {r : List (Str × D)} {es : Array DictEntry}, nsFind es x = some v → Rd F d v → RdF F r es → P r es → P ((x, d) :: r) es) {fs : List (Str × D)} {es : Array DictEntry} (r : RdF F fs es) : P fs es :=
  RdF.rec (motive_1 := fun _ _ _ => True) (motive_2 := fun _ _ _ => True) (motive_3 := fun fs es _ => P fs es) trivial (fun _ => trivial) (fun _ _ => trivial) (fun _ _ => trivial)
    (fun _ _ _ _ _ => trivial) (fun _ _ _ _ _ => trivial) (fun _ _ _ _ _ _ _ => trivial) (fun _ => trivial) (fun _ => trivial) trivial (fun _ _ _ _ => trivial) hn (fun e a r _ q => hc e a r q) r
theorem RdL.mono {F G : Fz} (h : Fle F G) {ds : List D} {vs : List Value} (r : RdL F ds vs) : RdL G ds vs := RdL.ind (P := RdL G) .nil (fun a _ r => .cons (a.mono h) r) r
theorem RdF.mono {F G : Fz} (h : Fle F G) {fs : List (Str × D)} {es : Array DictEntry} (r : RdF F fs es) : RdF G fs es := RdF.ind (P := RdF G) .nil (fun e a _ r => .cons e (a.mono h) r) r

namespace RdL
variable {F : Fz} {ds : List D} {vs : List Value}
theorem length (r : RdL F ds vs) : vs.length = ds.length := RdL.ind (P := fun ds vs => vs.length = ds.length) rfl (fun _ _ q => congrArg Nat.succ q) r
theorem get (r : RdL F ds vs) : ∀ {i : Nat} {v : Value}, vs[i]? = some v → ∃ d, ds[i]? = some d ∧ Rd F d v :=
  RdL.ind (P := fun ds vs => ∀ {i : Nat} {v : Value}, vs[i]? = some v → ∃ d, ds[i]? = some d ∧ Rd F d v) (fun e => nomatch e) (@fun _ _ _ _ a _ ih i _ e => by
    cases i with
    | zero => cases e; exact ⟨_, rfl, a⟩
    | succ i => exact ih e) r
theorem get' (r : RdL F ds vs) : ∀ {i : Nat} {d : D}, ds[i]? = some d → ∃ v, vs[i]? = some v ∧ Rd F d v :=
  RdL.ind (P := fun ds vs => ∀ {i : Nat} {d : D}, ds[i]? = some d → ∃ v, vs[i]? = some v ∧ Rd F d v) (fun e => nomatch e) (@fun _ _ _ _ a _ ih i _ e => by
    cases i with
    | zero => cases e; exact ⟨_, rfl, a⟩
    | succ i => exact ih e) r
theorem append {es : List D} {ws : List Value} (r : RdL F ds vs) (s : RdL F es ws) : RdL F (ds ++ es) (vs ++ ws) := RdL.ind (P := fun ds vs => RdL F (ds ++ es) (vs ++ ws)) s (fun a _ q => .cons a q) r
theorem snoc {d : D} {v : Value} (r : RdL F ds vs) (a : Rd F d v) : RdL F (ds ++ [d]) (vs ++ [v]) := r.append (.cons a .nil)
theorem take (r : RdL F ds vs) : ∀ n, RdL F (ds.take n) (vs.take n) := RdL.ind (P := fun ds vs => ∀ n, RdL F (ds.take n) (vs.take n)) (fun n => by rw [List.take_nil, List.take_nil]; exact .nil) (fun a _ q n => by
  cases n with
  | zero => exact .nil
  | succ n => exact .cons a (q n)) r
theorem drop (r : RdL F ds vs) : ∀ n, RdL F (ds.drop n) (vs.drop n) := RdL.ind (P := fun ds vs => ∀ n, RdL F (ds.drop n) (vs.drop n)) (fun n => by rw [List.drop_nil, List.drop_nil]; exact .nil) (fun a r q n => by
  cases n with
  | zero => exact .cons a r
  | succ n => exact q n) r
theorem set (r : RdL F ds vs) : ∀ (i : Nat) {d : D} {v : Value}, Rd F d v → RdL F (ds.set i d) (vs.set i v) := RdL.ind (P := fun ds vs => ∀ (i : Nat) {d : D} {v : Value}, Rd F d v → RdL F (ds.set i d) (vs.set i v)) (fun i _ _ _ => .nil) (@fun _ _ _ _ a r q i d v b => by
  cases i with
  | zero => exact .cons b r
  | succ i => exact .cons a (q i b)) r
end RdL

/-- from frozen to the library's own reading -/
noncomputable def D.py : D → PyData
  | .none => .none
  | .bool b => .bool b
  | .int i => .int i
  | .str s => .str s
  | .tup xs => .tuple (pyAll xs)
  | .lst xs => .list (pyAll xs)
  | .inst _ _ => .none
  | .rng _ _ => .none
  | .opq _ => .none
where pyAll : List D → List PyData
  | [] => []
  | x :: xs => x.py :: pyAll xs
noncomputable def D.plain : D → Bool
  | .none | .bool _ | .int _ | .str _ => true
  | .tup xs | .lst xs => plainAll xs
  | .inst _ _ | .rng _ _ | .opq _ => false
where plainAll : List D → Bool
  | [] => true
  | x :: xs => x.plain && plainAll xs

theorem Rd.reads {F : Fz} {h : Heap} (hk : Fle F h.get?) {d : D} {v : Value} (r : Rd F d v) : d.plain = true → ∃ as, Reads h v d.py as :=
  Rd.rec (motive_1 := fun d v _ => d.plain = true → ∃ as, Reads h v d.py as) (motive_2 := fun ds vs _ => D.plain.plainAll ds = true → ∃ as, ReadsAll h vs (D.py.pyAll ds) as) (motive_3 := fun _ _ _ => True)
    (fun _ => ⟨_, .none⟩) (fun b _ => ⟨_, .bool b⟩) (fun i t _ => ⟨_, .int i t⟩) (fun x t _ => ⟨_, .str x t⟩)
    (fun a b c _ ih p => (ih p).elim fun _ q => ⟨_, .list (hk _ _ a) b c q⟩) (fun a b c _ ih p => (ih p).elim fun _ q => ⟨_, .tuple (hk _ _ a) b c q⟩)
    (fun _ _ _ _ _ _ _ p => nomatch p) (fun _ p => nomatch p) (fun _ p => nomatch p) (fun _ => ⟨_, .nil⟩)
    (fun _ _ ih1 ih2 p => (ih1 (Bool.and_eq_true_iff.mp p).1).elim fun _ q => (ih2 (Bool.and_eq_true_iff.mp p).2).elim fun _ q' => ⟨_, .cons q q'⟩) trivial (fun _ _ _ _ _ => trivial) r

theorem RdL.reads {F : Fz} {h : Heap} (hk : Fle F h.get?) {ds : List D} {vs : List Value} (r : RdL F ds vs) : D.plain.plainAll ds = true → ∃ as, ReadsAll h vs (D.py.pyAll ds) as :=
  RdL.ind (P := fun ds vs => D.plain.plainAll ds = true → ∃ as, ReadsAll h vs (D.py.pyAll ds) as) (fun _ => ⟨_, .nil⟩)
    (fun a _ ih p => (a.reads hk (Bool.and_eq_true_iff.mp p).1).elim fun _ q => (ih (Bool.and_eq_true_iff.mp p).2).elim fun _ q' => ⟨_, .cons q q'⟩) r

/-- what a variable holds -/
inductive Slot where
  | val (d : D)
  | lst (xs : List D)
  | hdr (C : Addr) (xs : List D)
  | nest (xs : List (List D))
  | self (C : Addr) (fs : List (Str × D))
  | dict (kvs : List (Int × D))

noncomputable abbrev Vars := List (Str × Slot)

/-- an exact list object -/
noncomputable def LstAt (h : Heap) (F : Fz) (xs : List D) (a : Addr) : Prop := ∃ vs, h.PlainList a vs ∧ RdL F xs vs.toList
noncomputable def DictAt (h : Heap) (a : Addr) (es : Array DictEntry) : Prop := ∃ o k, h.get? a = some o ∧ o = { cls := .type "dict", data := .dict es k } ∧ StrKeys es

theorem LstAt.mono {h h' : Heap} {F F' : Fz} {xs : List D} {a : Addr} (x : LstAt h F xs a) (e : ∀ o, h.get? a = some o → h'.get? a = some o) (f : Fle F F') : LstAt h' F' xs a := by
  obtain ⟨vs, p, r⟩ := x
  exact ⟨vs, p.at e, r.mono f⟩
theorem DictAt.mono {h h' : Heap} {a : Addr} {es : Array DictEntry} (x : DictAt h a es) (e : ∀ o, h.get? a = some o → h'.get? a = some o) : DictAt h' a es := by
  obtain ⟨o, k, p, q, r⟩ := x
  exact ⟨o, k, e _ p, q, r⟩

/-- the slot's object stands at v, its changeable addresses are as -/
inductive Own (h : Heap) (F : Fz) : Slot → Value → List Addr → Prop
  | val {d : D} {v : Value} : Rd F d v → Own h F (.val d) v []
  | lst {a : Addr} {xs : List D} : LstAt h F xs a → Own h F (.lst xs) (.ref a) [a]
  | hdr {x dx l C : Addr} {od : Obj} {es : Array DictEntry} {k : Nat} {xs : List D} : F x = some (instObj C dx) → F dx = some od → od.data = .dict es k → StrKeys es → nsFind es "_headers" = some (.ref l) → (∀ y : Str, y ≠ "_headers" → nsFind es y = none) → LstAt h F xs l → Own h F (.hdr C xs) (.ref x) [l]
  | self {x dx C : Addr} {es : Array DictEntry} {fs : List (Str × D)} : h.get? x = some (instObj C dx) → DictAt h dx es → es.size ≤ fs.length → RdF F fs es → NoMore fs es → Own h F (.self C fs) (.ref x) [x, dx]
  | dict0 {a : Addr} : h.get? a = some emptyDict → (a == sysModules) = false → Own h F (.dict []) (.ref a) [a]

theorem Own.mono {h h' : Heap} {F F' : Fz} {sl : Slot} {v : Value} {as : List Addr} (x : Own h F sl v as) (e : ∀ a ∈ as, ∀ o, h.get? a = some o → h'.get? a = some o) (f : Fle F F') : Own h' F' sl v as := by
  cases x with
  | val r => exact .val (r.mono f)
  | lst l => exact .lst (l.mono (e _ (by simp)) f)
  | hdr a b c q r z d => exact .hdr (f _ _ a) (f _ _ b) c q r z (d.mono (e _ (by simp)) f)
  | self a b z c q => exact .self (e _ (by simp) _ a) (b.mono (e _ (by simp))) z (c.mono f) q
  | dict0 a z => exact .dict0 (e _ (by simp) _ a) z
theorem Own.lt {h : Heap} {F : Fz} {sl : Slot} {v : Value} {as : List Addr} (x : Own h F sl v as) : ∀ a ∈ as, a < h.objs.size := by
  intro a ha
  cases x with
  | val r => cases ha
  | lst l => obtain ⟨vs, ⟨n, p⟩, _⟩ := l; simp at ha; subst ha; exact Heap.lt_size p
  | hdr _ _ _ _ _ _ d => obtain ⟨vs, ⟨n, p⟩, _⟩ := d; simp at ha; subst ha; exact Heap.lt_size p
  | self p b _ c _ =>
    obtain ⟨o, k, q, _⟩ := b
    simp at ha
    rcases ha with rfl | rfl
    · exact Heap.lt_size p
    · exact Heap.lt_size q
  | dict0 p _ => simp at ha; subst ha; exact Heap.lt_size p

/-- the world: the program, the heap under the law's call, the written part -/
structure Cx where
  prog : Program
  w : World
  K : Frag
  p : Program
  loose : List Str
  mg : Str → Option Value
  mb : Str → Option Value
  hB : Heap
structure Cx.Ok (c : Cx) : Prop where
  inK : c.K.In c.hB
  top : TopRead c.p c.loose c.mg c.mb c.hB

/-- the storage of an env -/
noncomputable def stor (env : Env) : List Addr := env.locals :: env.cells.map (·.2)
structure Stor (env : Env) (h : Heap) (vm : Str → Option Value) : Prop where
  loc : ∃ m, h.Ns env.locals m ∧ ∀ x, env.kindOf x = some .local → m x = vm x
  cel : ∀ x, env.kindOf x = some .cell ∨ env.kindOf x = some .free → ∃ c, env.cells.lookup x = some c ∧ h.IsCell c (vm x)
structure EnvOk (env : Env) (sc : Scope) : Prop where
  scope : env.scope = sc
  kind : sc.kind = .function
  globals : env.globals = mainGlobals
  builtins : env.builtins = builtinsNs
  nd : (stor env).Nodup

noncomputable abbrev Pins := List (Str × Value)

/-- the state of a frame: ρ what the variables hold, F what is frozen, P what may be changed -/
structure StV (c : Cx) (env : Env) (pins : Pins) (ρ : Vars) (F : Fz) (P : Addr → Prop) (h : Heap) (vm : Str → Option Value) (fp : Str → List Addr) : Prop where
  base : Fle c.hB.get? F
  le : Fle F h.get?
  sto : Stor env h vm
  own : ∀ x s, ρ.lookup x = some s → ∃ v, vm x = some v ∧ Own h F s v (fp x)
  pin : ∀ q ∈ pins, vm q.1 = some q.2
  mem : ∀ a, P a ↔ (a ∈ stor env ∨ ∃ x s, ρ.lookup x = some s ∧ a ∈ fp x)
  lt : ∀ a, P a → a < h.objs.size
  out : ∀ a, P a → F a = none
  nd : ∀ x s, ρ.lookup x = some s → (fp x).Nodup
  apart : ∀ x s y t, ρ.lookup x = some s → ρ.lookup y = some t → x ≠ y → ∀ a ∈ fp x, a ∉ fp y
  aparts : ∀ x s, ρ.lookup x = some s → ∀ a ∈ fp x, a ∉ stor env
noncomputable def St (c : Cx) (env : Env) (pins : Pins) (ρ : Vars) (F : Fz) (P : Addr → Prop) (h : Heap) : Prop := ∃ vm fp, StV c env pins ρ F P h vm fp

theorem Stor.lt {env : Env} {h : Heap} {vm : Str → Option Value} (x : Stor env h vm) (hc : ∀ q ∈ env.cells, h.get? q.2 ≠ none) : ∀ a ∈ stor env, a < h.objs.size := by
  intro a ha
  rcases List.mem_cons.mp ha with rfl | ha
  · obtain ⟨m, n, _⟩ := x.loc; exact n.lt
  · obtain ⟨q, hq, rfl⟩ := List.mem_map.mp ha
    have := hc q hq
    cases e : h.get? q.2 with
    | none => exact absurd e this
    | some o => exact Heap.lt_size e

/-- nothing old is touched -/
structure Grow (F : Fz) (h : Heap) (F' : Fz) (h' : Heap) : Prop where
  fle : Fle F F'
  new : ∀ a o, F' a = some o → F a = some o ∨ h.objs.size ≤ a
  keep : Fle h.get? h'.get?
  le : Fle F' h'.get?
  size : h.objs.size ≤ h'.objs.size
noncomputable def Same (s s' : Shared) : Prop := ∃ h' tk, s' = { s with heap := h', toks := tk }
theorem Same.refl (s : Shared) : Same s s := ⟨s.heap, s.toks, rfl⟩
theorem Same.trans {s s' s'' : Shared} (x : Same s s') (y : Same s' s'') : Same s s'' := by
  obtain ⟨h, tk, rfl⟩ := x; obtain ⟨h', tk', rfl⟩ := y; exact ⟨h', tk', rfl⟩

theorem Grow.refl {F : Fz} {h : Heap} (l : Fle F h.get?) : Grow F h F h := ⟨.refl _, fun _ _ e => .inl e, .refl _, l, Nat.le_refl _⟩
theorem Grow.trans {F F' F'' : Fz} {h h' h'' : Heap} (x : Grow F h F' h') (y : Grow F' h' F'' h'') : Grow F h F'' h'' where
  fle := x.fle.trans y.fle
  new a o e := by
    rcases y.new a o e with q | q
    · exact x.new a o q
    · exact .inr (Nat.le_trans x.size q)
  keep := x.keep.trans y.keep
  le := y.le
  size := Nat.le_trans x.size y.size

/-- what statements may do -/
structure Step (F : Fz) (P : Addr → Prop) (h : Heap) (F' : Fz) (P' : Addr → Prop) (h' : Heap) : Prop where
  fle : Fle F F'
  new : ∀ a o, F' a = some o → F a = some o ∨ P a ∨ h.objs.size ≤ a
  keep : ∀ a o, ¬ P a → h.get? a = some o → h'.get? a = some o
  mem : ∀ a, P' a → P a ∨ h.objs.size ≤ a
  size : h.objs.size ≤ h'.objs.size
theorem Step.trans {F F' F'' : Fz} {P P' P'' : Addr → Prop} {h h' h'' : Heap} (x : Step F P h F' P' h') (y : Step F' P' h' F'' P'' h'') : Step F P h F'' P'' h'' where
  fle := x.fle.trans y.fle
  new a o e := by
    rcases y.new a o e with q | q | q
    · exact x.new a o q
    · rcases x.mem a q with q | q
      · exact .inr (.inl q)
      · exact .inr (.inr q)
    · exact .inr (.inr (Nat.le_trans x.size q))
  keep a o n e := y.keep a o (fun q => (x.mem a q).elim n fun q => Nat.not_lt.mpr q (Heap.lt_size e)) (x.keep a o n e)
  mem a q := by
    rcases y.mem a q with q | q
    · exact x.mem a q
    · exact .inr (Nat.le_trans x.size q)
  size := Nat.le_trans x.size y.size
theorem Step.refl {F : Fz} {P : Addr → Prop} {h : Heap} : Step F P h F P h := ⟨.refl _, fun _ _ e => .inl e, fun _ _ _ e => e, fun _ q => .inl q, Nat.le_refl _⟩
theorem Grow.step {F F' : Fz} {P : Addr → Prop} {h h' : Heap} (x : Grow F h F' h') : Step F P h F' P h' :=
  ⟨x.fle, fun a o e => (x.new a o e).imp id .inr, fun a o _ e => x.keep a o e, fun _ q => .inl q, x.size⟩

theorem StV.grow {c : Cx} {env : Env} {pins : Pins} {ρ : Vars} {F F' : Fz} {P : Addr → Prop} {h h' : Heap} {vm : Str → Option Value} {fp : Str → List Addr} (S : StV c env pins ρ F P h vm fp) (G : Grow F h F' h') : StV c env pins ρ F' P h' vm fp := {
    base := S.base.trans G.fle
    le := G.le
    sto := ⟨let ⟨m, n, e⟩ := S.sto.loc; ⟨m, n.keeps G.keep, e⟩, fun x hx => let ⟨cc, e, i⟩ := S.sto.cel x hx; ⟨cc, e, i.keeps G.keep⟩⟩
    own := fun x s e => let ⟨v, a, b⟩ := S.own x s e; ⟨v, a, b.mono (fun a _ => G.keep a) G.fle⟩
    pin := S.pin
    mem := S.mem
    lt := fun a q => Nat.lt_of_lt_of_le (S.lt a q) G.size
    out := fun a q => by
      cases e : F' a with
      | none => rfl
      | some o =>
        rcases G.new a o e with z | z
        · rw [S.out a q] at z; cases z
        · exact absurd (S.lt a q) (Nat.not_lt.mpr z)
    nd := S.nd
    apart := S.apart
    aparts := S.aparts }
theorem St.grow {c : Cx} {env : Env} {pins : Pins} {ρ : Vars} {F F' : Fz} {P : Addr → Prop} {h h' : Heap} (S : St c env pins ρ F P h) (G : Grow F h F' h') : St c env pins ρ F' P h' := by
  obtain ⟨vm, fp, S⟩ := S
  exact ⟨vm, fp, S.grow G⟩
end Mine
end

section
open PySem PySem.Calls PyProof.Rows PySem.W
set_option maxRecDepth 100000
set_option linter.unusedVariables false
namespace Mine

noncomputable def Room (n : Nat) (A : Around) : Prop := A.handled = none ∧ A.depth + n ≤ 700 ∧ A.units + 3 * n ≤ 9000
theorem Room.le {n m : Nat} {A : Around} (r : Room n A) (h : m ≤ n) : Room m A := ⟨r.1, by have := r.2.1; omega, by have := r.2.2; omega⟩
theorem Room.depth {n : Nat} {A : Around} (r : Room n A) : A.depth < recursionLimit := by have := r.2.1; unfold recursionLimit; omega
theorem Room.deeper {n : Nat} {A : Around} {env : Env} (r : Room (n + 1) A) : Room n (A.deeper env) := ⟨r.1, by have := r.2.1; show A.depth + 1 + n ≤ 700; omega, by have := r.2.2; show A.units + 3 + 3 * n ≤ 9000; omega⟩
theorem Room.units {n : Nat} {A : Around} (r : Room n A) : A.units + 200 < cLine := by have := r.2.2; unfold cLine; omega

/-- the value reads as d in what is frozen -/
noncomputable def Gives (F : Fz) (s : Shared) (d : D) : Value → Shared → Prop := fun v s' => ∃ F', Grow F s.heap F' s'.heap ∧ Same s s' ∧ Rd F' d v
/-- a truth -/
noncomputable def GivesB (F : Fz) (s : Shared) (b : Bool) : Bool → Shared → Prop := fun b' s' => b' = b ∧ ∃ F', Grow F s.heap F' s'.heap ∧ Same s s'

theorem Gives.flat {F : Fz} {s : Shared} {d : D} {v : Value} {k : Nat} (l : Fle F s.heap.get?) (r : Rd F d v) : Gives F s d v { s with toks := k } := ⟨F, .refl l, ⟨_, _, rfl⟩, r⟩
theorem Gives.now {F : Fz} {s : Shared} {d : D} {v : Value} (l : Fle F s.heap.get?) (r : Rd F d v) : Gives F s d v s := ⟨F, .refl l, .refl s, r⟩
theorem Gives.after {F F₁ : Fz} {s s₁ : Shared} {d : D} {v : Value} {s' : Shared} (G : Grow F s.heap F₁ s₁.heap) (S : Same s s₁) (x : Gives F₁ s₁ d v s') : Gives F s d v s' := by
  obtain ⟨F', G', S', r⟩ := x
  exact ⟨F', G.trans G', S.trans S', r⟩
theorem GivesB.after {F F₁ : Fz} {s s₁ : Shared} {b b' : Bool} {s' : Shared} (G : Grow F s.heap F₁ s₁.heap) (S : Same s s₁) (x : GivesB F₁ s₁ b b' s') : GivesB F s b b' s' := by
  obtain ⟨e, F', G', S'⟩ := x
  exact ⟨e, F', G.trans G', S.trans S'⟩

noncomputable def Fz.ins (F : Fz) (a : Addr) (o : Obj) : Fz := fun b => if b = a then some o else F b
theorem Fz.ins_self (F : Fz) (a : Addr) (o : Obj) : F.ins a o a = some o := if_pos rfl
theorem Fz.ins_le {F : Fz} {a : Addr} {o : Obj} (n : F a = none) : Fle F (F.ins a o) := fun b o' e => by
  unfold Fz.ins
  by_cases h : b = a
  · subst h; rw [n] at e; cases e
  · rw [if_neg h]; exact e
theorem none_of_le {F : Fz} {h : Heap} (l : Fle F h.get?) {a : Addr} (ha : h.objs.size ≤ a) : F a = none := by
  cases e : F a with
  | none => rfl
  | some o => exact absurd (Heap.lt_size (l _ _ e)) (Nat.not_lt.mpr ha)
theorem Grow.push {F : Fz} {h : Heap} (l : Fle F h.get?) (o : Obj) (hf : o.isFreed = false) : Grow F h (F.ins h.objs.size o) (h.push o) where
  fle := Fz.ins_le (none_of_le l (Nat.le_refl _))
  new a o' e := by
    by_cases q : a = h.objs.size
    · exact .inr (Nat.le_of_eq q.symm)
    · unfold Fz.ins at e; rw [if_neg q] at e; exact .inl e
  keep a o' e := Heap.get?_push_of_some _ e
  le a o' e := by
    by_cases q : a = h.objs.size
    · subst q; rw [Fz.ins_self] at e; cases e; exact Heap.get?_push_size _ hf
    · unfold Fz.ins at e; rw [if_neg q] at e; exact Heap.get?_push_of_some _ (l _ _ e)
  size := by rw [Heap.size_push]; exact Nat.le_succ _

/-- readable now: frozen, or an own list -/
inductive Rd1 (h : Heap) (F : Fz) : D → Value → Prop
  | fz {d : D} {v : Value} : Rd F d v → Rd1 h F d v
  | own {xs : List D} {a : Addr} : LstAt h F xs a → Rd1 h F (.lst xs) (.ref a)
theorem Rd1.mono {h h' : Heap} {F F' : Fz} {d : D} {v : Value} (x : Rd1 h F d v) (k : Fle h.get? h'.get?) (f : Fle F F') : Rd1 h' F' d v := by
  cases x with
  | fz r => exact .fz (r.mono f)
  | own l => exact .own (l.mono (k _) f)
theorem Rd1.int {h : Heap} {F : Fz} {i : Int} {v : Value} (x : Rd1 h F (.int i) v) : ∃ t, v = .int i t := by cases x with | fz r => cases r; exact ⟨_, rfl⟩
theorem Rd1.str {h : Heap} {F : Fz} {x : Str} {v : Value} (r : Rd1 h F (.str x) v) : ∃ t, v = .str x t := by cases r with | fz r => cases r; exact ⟨_, rfl⟩
theorem Rd1.bool {h : Heap} {F : Fz} {x : Bool} {v : Value} (r : Rd1 h F (.bool x) v) : v = .bool x := by cases r with | fz r => cases r; rfl
theorem Rd1.none {h : Heap} {F : Fz} {v : Value} (r : Rd1 h F .none v) : v = .none := by cases r with | fz r => cases r; rfl
theorem Rd1.lst {h : Heap} {F : Fz} {xs : List D} {v : Value} (r : Rd1 h F (.lst xs) v) (l : Fle F h.get?) : ∃ a vs, v = .ref a ∧ h.IsList a vs ∧ RdL F xs vs.toList := by
  cases r with
  | fz r => cases r with | lst a b c r => exact ⟨_, _, rfl, ⟨_, l _ _ a, b, _, c⟩, r⟩
  | own x => obtain ⟨vs, p, r⟩ := x; exact ⟨_, vs, rfl, p.isList, r⟩
theorem Rd1.tup {h : Heap} {F : Fz} {xs : List D} {v : Value} (r : Rd1 h F (.tup xs) v) (l : Fle F h.get?) : ∃ a o vs n, v = .ref a ∧ h.get? a = some o ∧ o.cls = .type "tuple" ∧ o.data = .seq vs n ∧ RdL F xs vs.toList := by
  cases r with
  | fz r => cases r with | tup a b c r => exact ⟨_, _, _, _, rfl, l _ _ a, b, c, r⟩
theorem Rd1.reads {h : Heap} {F : Fz} {d : D} {v : Value} (r : Rd1 h F d v) (l : Fle F h.get?) (p : d.plain = true) : ∃ as, Reads h v d.py as := by
  cases r with
  | fz r => exact r.reads l p
  | own x =>
    obtain ⟨vs, ⟨n, q⟩, r⟩ := x
    unfold D.plain at p
    obtain ⟨as, z⟩ := r.reads l p
    exact ⟨_, by unfold D.py; exact .list q rfl rfl z⟩

variable (c : Cx)

/-- an expression gives d, whatever the state that has ρ -/
noncomputable def Ev (n : Nat) (sc : Scope) (ρ : Vars) (e : Expr) (d : D) : Prop :=
  ∀ A env pins F P s, Room n A → EnvOk env sc → St c env pins ρ F P s.heap → wpAny (model c.prog c.w) A (eval e env) (Gives F s d) (fun _ _ => False) s
/-- .. that is looked at, not kept -/
noncomputable def EvR (n : Nat) (sc : Scope) (ρ : Vars) (e : Expr) (d : D) : Prop :=
  ∀ A env pins F P s, Room n A → EnvOk env sc → St c env pins ρ F P s.heap →
    wpAny (model c.prog c.w) A (eval e env) (fun v s' => ∃ F', Grow F s.heap F' s'.heap ∧ Same s s' ∧ Rd1 s'.heap F' d v) (fun _ _ => False) s
/-- a test -/
noncomputable def Te (n : Nat) (sc : Scope) (ρ : Vars) (e : Expr) (b : Bool) : Prop :=
  ∀ A env pins F P s, Room n A → EnvOk env sc → St c env pins ρ F P s.heap → wpAny (model c.prog c.w) A (isTrue e env (eval e env)) (GivesB F s b) (fun _ _ => False) s
/-- a list of expressions -/
noncomputable def EvL (n : Nat) (sc : Scope) (ρ : Vars) (es : List Expr) (ds : List D) : Prop :=
  ∀ A env pins F P s, Room n A → EnvOk env sc → St c env pins ρ F P s.heap → ∀ pos,
    wpAny (model c.prog c.w) A (spliced (backTo pos (starEach es env))) (fun vs s' => ∃ F', Grow F s.heap F' s'.heap ∧ Same s s' ∧ RdL F' ds vs) (fun _ _ => False) s

noncomputable def Bin (op : Operator) (a b d : D) : Prop := ∀ A F s va vb, Room 0 A → Fle c.hB.get? F → Fle F s.heap.get? → Rd1 s.heap F a va → Rd1 s.heap F b vb → wpAny (model c.prog c.w) A (binaryOp op va vb) (Gives F s d) (fun _ _ => False) s
noncomputable def Cmp (op : CmpOp) (a b : D) (r : Bool) : Prop := ∀ A F s va vb, Room 0 A → Fle c.hB.get? F → Fle F s.heap.get? → Rd1 s.heap F a va → Rd1 s.heap F b vb → wpAny (model c.prog c.w) A (compareOp op va vb) (Gives F s (.bool r)) (fun _ _ => False) s
noncomputable def Una (op : UnaryOp) (a d : D) : Prop := ∀ A F s va, Room 0 A → Fle c.hB.get? F → Fle F s.heap.get? → Rd1 s.heap F a va → wpAny (model c.prog c.w) A (unaryOp op va) (Gives F s d) (fun _ _ => False) s
noncomputable def Tru (a : D) (b : Bool) : Prop := ∀ A F s va, Room 0 A → Fle c.hB.get? F → Fle F s.heap.get? → Rd1 s.heap F a va → wpAny (model c.prog c.w) A (truthy va) (GivesB F s b) (fun _ _ => False) s

variable {c} {n : Nat} {sc : Scope} {ρ : Vars}

theorem St.base {env : Env} {pins : Pins} {F : Fz} {P : Addr → Prop} {h : Heap} (S : St c env pins ρ F P h) : Fle c.hB.get? F := let ⟨_, _, S⟩ := S; S.base
theorem St.le {env : Env} {pins : Pins} {F : Fz} {P : Addr → Prop} {h : Heap} (S : St c env pins ρ F P h) : Fle F h.get? := let ⟨_, _, S⟩ := S; S.le

theorem EvR.of {e : Expr} {d : D} (h : Ev c n sc ρ e d) : EvR c n sc ρ e d := fun A env pins F P s r ok S =>
  wpAny_mono (h A env pins F P s r ok S) (fun v s' hp1 => by obtain ⟨F', G, X, q⟩ := hp1; exact ⟨F', G, X, .fz q⟩) fun _ _ x => x

noncomputable def isLoc (sc : Scope) (x : Str) : Bool := match sc.names.lookup x with
  | some .local | some .cell | some .free => !(x == ("__debug__" : Str)) && !(x == ("__classdict__" : Str))
  | _ => false

theorem load_var {env : Env} {h : Heap} {vm : Str → Option Value} {x : Str} {v : Value} {M : Model} {A : Around} {E : Value → Shared → Prop} {s : Shared} {pos : Pos} {Q : Value → Shared → Prop} (ok : EnvOk env sc) (S : Stor env s.heap vm) (hl : isLoc sc x = true) (hv : vm x = some v) (q : Q v s) :
    wpAny M A (eval (.Name x pos) env) Q E s := by
  unfold isLoc at hl
  have hk : env.scope.kind = .function := by rw [ok.scope]; exact ok.kind
  have kx : env.kindOf x = sc.names.lookup x := by unfold Env.kindOf; rw [ok.scope]
  split at hl
  · rename_i e
    obtain ⟨h1, h2⟩ := Bool.and_eq_true_iff.mp hl
    obtain ⟨m, n, em⟩ := S.loc
    exact wpAny_Name (wpAny_loadName_local hk (kx.trans e) n ((em x (kx.trans e)).trans hv) q) (by simpa using h1)
  · rename_i e
    obtain ⟨h1, h2⟩ := Bool.and_eq_true_iff.mp hl
    obtain ⟨cc, e1, e2⟩ := S.cel x (.inl (kx.trans e))
    rw [hv] at e2
    exact wpAny_Name (wpAny_loadName_cell hk (kx.trans e) e1 e2 q) (by simpa using h1)
  · rename_i e
    obtain ⟨h1, h2⟩ := Bool.and_eq_true_iff.mp hl
    obtain ⟨cc, e1, e2⟩ := S.cel x (.inr (kx.trans e))
    rw [hv] at e2
    exact wpAny_Name (wpAny_loadName_free hk (kx.trans e) e1 e2 q (by simpa using h2)) (by simpa using h1)
  · cases hl

theorem Ev_name {x : Str} {pos : Pos} {d : D} (e : ρ.lookup x = some (.val d)) (hl : isLoc sc x = true) : Ev c n sc ρ (.Name x pos) d := fun A env pins F P s r ok S => by
  obtain ⟨vm, fp, S⟩ := S
  obtain ⟨v, hv, o⟩ := S.own x _ e
  generalize fp x = as at o
  cases o with
  | val q => exact load_var (h := s.heap) ok S.sto hl hv (.now S.le q)
theorem EvR_own {x : Str} {pos : Pos} {xs : List D} (e : ρ.lookup x = some (.lst xs)) (hl : isLoc sc x = true) : EvR c n sc ρ (.Name x pos) (.lst xs) := fun A env pins F P s r ok S => by
  obtain ⟨vm, fp, S⟩ := S
  obtain ⟨v, hv, o⟩ := S.own x _ e
  generalize fp x = as at o
  cases o with
  | lst q => exact load_var (h := s.heap) ok S.sto hl hv ⟨F, .refl S.le, .refl s, .own q⟩

theorem Ev_int {i : Int} {k : Nat} {pos : Pos} : Ev c n sc ρ (.Constant (.int i) k pos) (.int i) := fun A env pins F P s r ok S => wpAny_Constant_int (.flat S.le (.int i _))
theorem Ev_str {x : Str} {k : Nat} {pos : Pos} : Ev c n sc ρ (.Constant (.str x) k pos) (.str x) := fun A env pins F P s r ok S => Constant_str (.flat S.le (.str x _))
theorem Ev_bool {b : Bool} {k : Nat} {pos : Pos} : Ev c n sc ρ (.Constant (.bool b) k pos) (.bool b) := fun A env pins F P s r ok S => Constant_bool (.now S.le (.bool b))
theorem Ev_none {k : Nat} {pos : Pos} : Ev c n sc ρ (.Constant .none k pos) .none := fun A env pins F P s r ok S => Constant_none (.now S.le .none)

theorem Ev_BinOp {l r : Expr} {op : Operator} {pos : Pos} {a b d : D} (hl : EvR c n sc ρ l a) (hr : EvR c n sc ρ r b) (ho : Bin c op a b d) : Ev c n sc ρ (.BinOp l op r pos) d := fun A env pins F P s R ok S => by
  refine wpAny_BinOp (wpAny_mono (hl A env pins F P s R ok S) (fun v s₁ hp2 => ?_) fun _ _ x => x)
  obtain ⟨F₁, G₁, X₁, r₁⟩ := hp2
  have S₁ := S.grow G₁
  refine wpAny_mono (hr A env pins F₁ P s₁ R ok S₁) (fun w s₂ hp3 => ?_) fun _ _ x => x
  obtain ⟨F₂, G₂, X₂, r₂⟩ := hp3
  exact wpAny_mono (ho A F₂ s₂ v w (R.le (Nat.zero_le _)) (S₁.grow G₂).base G₂.le (r₁.mono G₂.keep G₂.fle) r₂) (fun z s₃ q => (q.after G₂ X₂).after G₁ X₁) fun _ _ x => x
theorem Ev_Compare {l r : Expr} {op : CmpOp} {pos : Pos} {a b : D} {t : Bool} (hl : EvR c n sc ρ l a) (hr : EvR c n sc ρ r b) (ho : Cmp c op a b t) (hm : behindInMarks op r = false := by rfl) : Ev c n sc ρ (.Compare l [op] [r] pos) (.bool t) := fun A env pins F P s R ok S => by
  refine wpAny_Compare1 (wpAny_mono (hl A env pins F P s R ok S) (fun v s₁ hp4 => ?_) fun _ _ x => x) hm
  obtain ⟨F₁, G₁, X₁, r₁⟩ := hp4
  have S₁ := S.grow G₁
  refine wpAny_mono (hr A env pins F₁ P s₁ R ok S₁) (fun w s₂ hp5 => ?_) fun _ _ x => x
  obtain ⟨F₂, G₂, X₂, r₂⟩ := hp5
  exact wpAny_mono (ho A F₂ s₂ v w (R.le (Nat.zero_le _)) (S₁.grow G₂).base G₂.le (r₁.mono G₂.keep G₂.fle) r₂) (fun z s₃ q => (q.after G₂ X₂).after G₁ X₁) fun _ _ x => x
theorem Te_Compare {l r : Expr} {op : CmpOp} {pos : Pos} {a b : D} {t : Bool} (hl : EvR c n sc ρ l a) (hr : EvR c n sc ρ r b) (ho : Cmp c op a b t) (hm : behindInMarks op r = false := by rfl) : Te c n sc ρ (.Compare l [op] [r] pos) t := fun A env pins F P s R ok S => by
  refine wpAny_isTrue_Compare1 (wpAny_mono (hl A env pins F P s R ok S) (fun v s₁ hp6 => ?_) fun _ _ x => x) hm
  obtain ⟨F₁, G₁, X₁, r₁⟩ := hp6
  have S₁ := S.grow G₁
  refine wpAny_mono (hr A env pins F₁ P s₁ R ok S₁) (fun w s₂ hp7 => ?_) fun _ _ x => x
  obtain ⟨F₂, G₂, X₂, r₂⟩ := hp7
  refine wpAny_mono (ho A F₂ s₂ v w (R.le (Nat.zero_le _)) (S₁.grow G₂).base G₂.le (r₁.mono G₂.keep G₂.fle) r₂) (fun z s₃ q => ?_) fun _ _ x => x
  obtain ⟨F₃, G₃, X₃, r₃⟩ := (q.after G₂ X₂).after G₁ X₁
  cases r₃
  exact wpAny_truthy_bool ⟨rfl, F₃, G₃, X₃⟩
theorem Ev_UnaryOp {x : Expr} {op : UnaryOp} {pos : Pos} {a d : D} (hx : EvR c n sc ρ x a) (ho : Una c op a d) : Ev c n sc ρ (.UnaryOp op x pos) d := fun A env pins F P s R ok S => by
  refine UnaryOp_ (wpAny_mono (hx A env pins F P s R ok S) (fun v s₁ hp8 => ?_) fun _ _ x => x)
  obtain ⟨F₁, G₁, X₁, r₁⟩ := hp8
  exact wpAny_mono (ho A F₁ s₁ v (R.le (Nat.zero_le _)) (S.grow G₁).base G₁.le r₁) (fun z s₃ q => q.after G₁ X₁) fun _ _ x => x
theorem Te_not {x : Expr} {pos : Pos} {b : Bool} (hx : Te c n sc ρ x b) : Te c n sc ρ (.UnaryOp .Not x pos) (!b) := fun A env pins F P s R ok S =>
  isTrue_not (wpAny_mono (hx A env pins F P s R ok S) (fun _ _ hp9 => by obtain ⟨e, q⟩ := hp9; exact ⟨by rw [e], q⟩) fun _ _ x => x)
noncomputable def plainTest : Expr → Bool
  | .UnaryOp .Not _ _ => false
  | .BoolOp .. | .IfExp .. | .Compare .. => false
  | _ => true
theorem isTrue_of_plain {e : Expr} {env : Env} {whole : Sem Value} (h : plainTest e = true) : isTrue e env whole = (do let v ← whole; standAt e.pos; holding [v] (truthy v)) := by
  cases e with
  | UnaryOp op x pos => cases op <;> first | rfl | cases h
  | _ => first | rfl | cases h
theorem Te_plain {e : Expr} {d : D} {b : Bool} (he : EvR c n sc ρ e d) (ht : Tru c d b) (hp : plainTest e = true := by rfl) : Te c n sc ρ e b := fun A env pins F P s R ok S => by
  refine isTrue_plain (wpAny_mono (he A env pins F P s R ok S) (fun v s₁ hp10 => ?_) fun _ _ x => x) (isTrue_of_plain hp)
  obtain ⟨F₁, G₁, X₁, r₁⟩ := hp10
  exact wpAny_mono (ht A F₁ s₁ v (R.le (Nat.zero_le _)) (S.grow G₁).base G₁.le r₁) (fun z s₃ q => q.after G₁ X₁) fun _ _ x => x
theorem Te_and_nil {pos : Pos} : Te c n sc ρ (.BoolOp .And [] pos) true := fun A env pins F P s R ok S => isTrue_and_nil ⟨rfl, F, .refl S.le, .refl s⟩
theorem Te_and {x : Expr} {xs : List Expr} {pos : Pos} {b b' : Bool} (hx : Te c n sc ρ x b) (hr : b = true → Te c n sc ρ (.BoolOp .And xs pos) b') : Te c n sc ρ (.BoolOp .And (x :: xs) pos) (b && b') := fun A env pins F P s R ok S => by
  refine PyProof.Rows.isTrue_and (wpAny_mono (hx A env pins F P s R ok S) (fun t s₁ hp11 => ?_) fun _ _ x => x)
  obtain ⟨e, F₁, G₁, X₁⟩ := hp11
  subst e
  cases t with
  | false => exact ⟨rfl, F₁, G₁, X₁⟩
  | true => exact wpAny_mono (hr rfl A env pins F₁ P s₁ R ok (S.grow G₁)) (fun z s₃ q => q.after G₁ X₁) fun _ _ x => x
theorem Te_or_nil {pos : Pos} : Te c n sc ρ (.BoolOp .Or [] pos) false := fun A env pins F P s R ok S => isTrue_or_nil ⟨rfl, F, .refl S.le, .refl s⟩
theorem Te_or {x : Expr} {xs : List Expr} {pos : Pos} {b b' : Bool} (hx : Te c n sc ρ x b) (hr : b = false → Te c n sc ρ (.BoolOp .Or xs pos) b') : Te c n sc ρ (.BoolOp .Or (x :: xs) pos) (b || b') := fun A env pins F P s R ok S => by
  refine PyProof.Rows.isTrue_or (wpAny_mono (hx A env pins F P s R ok S) (fun t s₁ hp12 => ?_) fun _ _ x => x)
  obtain ⟨e, F₁, G₁, X₁⟩ := hp12
  subst e
  cases t with
  | true => exact ⟨rfl, F₁, G₁, X₁⟩
  | false => exact wpAny_mono (hr rfl A env pins F₁ P s₁ R ok (S.grow G₁)) (fun z s₃ q => q.after G₁ X₁) fun _ _ x => x
theorem Ev_IfExp {t a b : Expr} {pos : Pos} {x : Bool} {d : D} (ht : Te c n sc ρ t x) (ha : x = true → Ev c n sc ρ a d) (hb : x = false → Ev c n sc ρ b d) : Ev c n sc ρ (.IfExp t a b pos) d := fun A env pins F P s R ok S => by
  refine IfExp_ (wpAny_mono (ht A env pins F P s R ok S) (fun t s₁ hp13 => ?_) fun _ _ x => x)
  obtain ⟨e, F₁, G₁, X₁⟩ := hp13
  subst e
  cases t with
  | true => exact wpAny_mono (ha rfl A env pins F₁ P s₁ R ok (S.grow G₁)) (fun z s₃ q => q.after G₁ X₁) fun _ _ x => x
  | false => exact wpAny_mono (hb rfl A env pins F₁ P s₁ R ok (S.grow G₁)) (fun z s₃ q => q.after G₁ X₁) fun _ _ x => x
theorem EvL_nil : EvL c n sc ρ [] [] := fun A env pins F P s R ok S pos => spliced_nil ⟨F, .refl S.le, .refl s, .nil⟩
noncomputable def plainArg : Expr → Bool
  | .Starred .. => false
  | _ => true
theorem starEach_plain {e : Expr} {r : List Expr} {env : Env} (h : plainArg e = true) : starEach (e :: r) env = (false, eval e env) :: starEach r env := by
  cases e <;> first | rfl | cases h
theorem EvL_cons {e : Expr} {es : List Expr} {d : D} {ds : List D} (h1 : Ev c n sc ρ e d) (h2 : EvL c n sc ρ es ds) (hp : plainArg e = true := by rfl) : EvL c n sc ρ (e :: es) (d :: ds) := fun A env pins F P s R ok S pos => by
  rw [starEach_plain hp]
  show wpAny _ _ (spliced ((false, eval e env) :: backTo pos (starEach es env))) _ _ _
  refine spliced_cons (wpAny_mono (h1 A env pins F P s R ok S) (fun v s₁ hp14 => ?_) fun _ _ x => x)
  obtain ⟨F₁, G₁, X₁, r₁⟩ := hp14
  refine wpAny_mono (h2 A env pins F₁ P s₁ R ok (S.grow G₁) pos) (fun vs s₂ hp15 => ?_) fun _ _ x => x
  obtain ⟨F₂, G₂, X₂, r₂⟩ := hp15
  exact ⟨F₂, G₁.trans G₂, X₁.trans X₂, .cons (r₁.mono G₂.fle) r₂⟩
theorem Ev_Tuple {es : List Expr} {k : Nat} {pos : Pos} {ds : List D} (h : EvL c n sc ρ es ds) (hl : ds.length ≤ 1000) : Ev c n sc ρ (.Tuple es k pos) (.tup ds) := fun A env pins F P s R ok S => by
  refine Tuple_ (wpAny_mono (h A env pins F P s R ok S pos) (fun vs s₁ hp16 => ?_) fun _ _ x => x)
  obtain ⟨F₁, G₁, X₁, r₁⟩ := hp16
  refine wpAny_newObj_type ⟨_, G₁.trans (Grow.push G₁.le _ rfl), X₁.trans ⟨_, _, rfl⟩, .tup (Fz.ins_self _ _ _) rfl rfl ?_⟩ ?_
  · exact RdL.mono (Fz.ins_le (none_of_le G₁.le (Nat.le_refl _))) (by simpa using r₁)
  · show vs.toArray.size ≤ sizeLine
    rw [List.size_toArray, r₁.length]; exact Nat.le_trans hl (by decide)
theorem Ev_List {es : List Expr} {pos : Pos} {ds : List D} (h : EvL c n sc ρ es ds) (hl : ds.length ≤ 1000) : Ev c n sc ρ (.List es pos) (.lst ds) := fun A env pins F P s R ok S => by
  refine List_ (wpAny_mono (h A env pins F P s R ok S pos) (fun vs s₁ hp17 => ?_) fun _ _ x => x)
  obtain ⟨F₁, G₁, X₁, r₁⟩ := hp17
  refine wpAny_newObj_type ⟨_, G₁.trans (Grow.push G₁.le _ rfl), X₁.trans ⟨_, _, rfl⟩, .lst (Fz.ins_self _ _ _) rfl rfl ?_⟩ ?_
  · exact RdL.mono (Fz.ins_le (none_of_le G₁.le (Nat.le_refl _))) (by simpa using r₁)
  · show vs.toArray.size ≤ sizeLine
    rw [List.size_toArray, r₁.length]; exact Nat.le_trans hl (by decide)
end Mine
end

section
open PySem PySem.Calls PyProof.Rows PySem.W
set_option maxRecDepth 100000
set_option linter.unusedVariables false
namespace Mine
variable {c : Cx} {n : Nat} {sc : Scope} {ρ : Vars}

theorem Bin.add {a b : Int} : Bin c .Add (.int a) (.int b) (.int (a + b)) := fun A F s va vb R hb l ra rb => by
  obtain ⟨t, rfl⟩ := ra.int; obtain ⟨u, rfl⟩ := rb.int
  exact PyProof.Rows.add_int (.flat l (.int _ _))
theorem Bin.sub {a b : Int} : Bin c .Sub (.int a) (.int b) (.int (a - b)) := fun A F s va vb R hb l ra rb => by
  obtain ⟨t, rfl⟩ := ra.int; obtain ⟨u, rfl⟩ := rb.int
  exact PyProof.Rows.sub_int (.flat l (.int _ _))
theorem Bin.mul {a b : Int} (h : a.natAbs < 2 ^ 60) : Bin c .Mult (.int a) (.int b) (.int (a * b)) := fun A F s va vb R hb l ra rb => by
  obtain ⟨t, rfl⟩ := ra.int; obtain ⟨u, rfl⟩ := rb.int
  refine PyProof.Rows.mul_int (.flat l (.int _ _)) (.of_left ?_)
  unfold Builtin.Int.intBits
  split
  · exact Nat.zero_le _
  · have : a.natAbs.log2 < 60 := (Nat.log2_lt (by simp_all)).mpr h
    omega
theorem Bin.mod {a b : Int} (h : b ≠ 0) : Bin c .Mod (.int a) (.int b) (.int (a.fmod b)) := fun A F s va vb R hb l ra rb => by
  obtain ⟨t, rfl⟩ := ra.int; obtain ⟨u, rfl⟩ := rb.int
  exact PyProof.Rows.mod_int' h (.flat l (.int _ _))
theorem Bin.fdiv {a b : Int} (h : b ≠ 0) (hs : b.natAbs < 1073741824) : Bin c .FloorDiv (.int a) (.int b) (.int (a.fdiv b)) := fun A F s va vb R hb l ra rb => by
  obtain ⟨t, rfl⟩ := ra.int; obtain ⟨u, rfl⟩ := rb.int
  exact PyProof.Rows.floordiv_int h (.flat l (.int _ _)) (.inl (PyProof.noPylong_small hs))
theorem Bin.shr {a b : Int} (h : 0 ≤ b) : Bin c .RShift (.int a) (.int b) (.int (a.fdiv (2 ^ b.toNat))) := fun A F s va vb R hb l ra rb => by
  obtain ⟨t, rfl⟩ := ra.int; obtain ⟨u, rfl⟩ := rb.int
  exact PyProof.Rows.rshift_int h (.flat l (.int _ _))
theorem Una.neg {a : Int} : Una c .USub (.int a) (.int (-a)) := fun A F s va R hb l ra => by
  obtain ⟨t, rfl⟩ := ra.int
  exact P.neg_int (.flat l (.int _ _))

theorem Cmp.lt {a b : Int} : Cmp c .Lt (.int a) (.int b) (decide (a < b)) := fun A F s va vb R hb l ra rb => by
  obtain ⟨t, rfl⟩ := ra.int; obtain ⟨u, rfl⟩ := rb.int
  exact PyProof.Rows.lt_int (.now l (.bool _))
theorem Cmp.gt {a b : Int} : Cmp c .Gt (.int a) (.int b) (decide (b < a)) := fun A F s va vb R hb l ra rb => by
  obtain ⟨t, rfl⟩ := ra.int; obtain ⟨u, rfl⟩ := rb.int
  exact PyProof.Rows.gt_int (.now l (.bool _))
theorem Cmp.le {a b : Int} : Cmp c .LtE (.int a) (.int b) (decide (a ≤ b)) := fun A F s va vb R hb l ra rb => by
  obtain ⟨t, rfl⟩ := ra.int; obtain ⟨u, rfl⟩ := rb.int
  exact PyProof.Rows.le_int (.now l (.bool _))
theorem Cmp.ge {a b : Int} : Cmp c .GtE (.int a) (.int b) (decide (b ≤ a)) := fun A F s va vb R hb l ra rb => by
  obtain ⟨t, rfl⟩ := ra.int; obtain ⟨u, rfl⟩ := rb.int
  exact PyProof.Rows.ge_int (.now l (.bool _))
theorem Cmp.eqI {a b : Int} : Cmp c .Eq (.int a) (.int b) (a == b) := fun A F s va vb R hb l ra rb => by
  obtain ⟨t, rfl⟩ := ra.int; obtain ⟨u, rfl⟩ := rb.int
  exact PyProof.Rows.eq_int (.now l (.bool _))
theorem Cmp.neI {a b : Int} : Cmp c .NotEq (.int a) (.int b) (a != b) := fun A F s va vb R hb l ra rb => by
  obtain ⟨t, rfl⟩ := ra.int; obtain ⟨u, rfl⟩ := rb.int
  exact PyProof.Rows.ne_int (.now l (.bool _))
theorem Cmp.eqS {a b : Str} : Cmp c .Eq (.str a) (.str b) (a == b) := fun A F s va vb R hb l ra rb => by
  obtain ⟨t, rfl⟩ := ra.str; obtain ⟨u, rfl⟩ := rb.str
  exact PyProof.Rows.eq_str (.now l (.bool _))
theorem Cmp.neS {a b : Str} : Cmp c .NotEq (.str a) (.str b) (a != b) := fun A F s va vb R hb l ra rb => by
  obtain ⟨t, rfl⟩ := ra.str; obtain ⟨u, rfl⟩ := rb.str
  exact PyProof.Rows.ne_str (.now l (.bool _))

/-- whether the library's own comparison takes it -/
noncomputable def okEq (d : D) : Bool := d.plain && d.py.canLay0 && decide (d.py.depth ≤ 64)
theorem Room.eq {n : Nat} {A : Around} (r : Room n A) : A.units + 64 < cLine := by have := r.units; omega
theorem Cmp.eqD {a b : D} (ha : okEq a = true) (hb' : okEq b = true) : Cmp c .Eq a b (PyData.eqv a.py b.py) := fun A F s va vb R hb l ra rb => by
  unfold okEq at ha hb'
  simp only [Bool.and_eq_true, decide_eq_true_eq] at ha hb'
  obtain ⟨as, qa⟩ := ra.reads l ha.1.1
  obtain ⟨bs, qb⟩ := rb.reads l hb'.1.1
  exact SeqAt.compareEq_shaped qa qb (by unfold SeqAt.shaped; simp [ha]) (by unfold SeqAt.shaped; simp [hb']) R.eq (.now l (.bool _))
theorem Cmp.neD {a b : D} (ha : okEq a = true) (hb' : okEq b = true) : Cmp c .NotEq a b (!PyData.eqv a.py b.py) := fun A F s va vb R hb l ra rb => by
  unfold okEq at ha hb'
  simp only [Bool.and_eq_true, decide_eq_true_eq] at ha hb'
  obtain ⟨as, qa⟩ := ra.reads l ha.1.1
  obtain ⟨bs, qb⟩ := rb.reads l hb'.1.1
  exact SeqAt.compareNe_shaped qa qb (by unfold SeqAt.shaped; simp [ha]) (by unfold SeqAt.shaped; simp [hb']) R.eq (.now l (.bool _))
theorem Cmp.inL {a : D} {xs : List D} (ha : okEq a = true) (hx : okEq (.lst xs) = true) : Cmp c .In a (.lst xs) ((D.py.pyAll xs).any fun y => PyData.eqv y a.py) := fun A F s va vb R hb l ra rb => by
  unfold okEq at ha hx
  simp only [Bool.and_eq_true, decide_eq_true_eq] at ha hx
  obtain ⟨as, qa⟩ := ra.reads l ha.1.1
  obtain ⟨bs, qb⟩ := rb.reads l hx.1.1
  have e : (D.lst xs).py = .list (D.py.pyAll xs) := by unfold D.py; rfl
  rw [e] at qb hx
  refine SeqAt.in_list_reads qb qa ?_ ha.1.2 ?_ (.now l (.bool _))
  · have := hx.1.2; unfold PyData.canLay0 at this; exact this
  · have := R.units; have := ha.2; have := Nat.min_le_right (PyData.depthAll (D.py.pyAll xs)) a.py.depth; omega
theorem Cmp.notInL {a : D} {xs : List D} (ha : okEq a = true) (hx : okEq (.lst xs) = true) : Cmp c .NotIn a (.lst xs) (!(D.py.pyAll xs).any fun y => PyData.eqv y a.py) := fun A F s va vb R hb l ra rb => by
  unfold okEq at ha hx
  simp only [Bool.and_eq_true, decide_eq_true_eq] at ha hx
  obtain ⟨as, qa⟩ := ra.reads l ha.1.1
  obtain ⟨bs, qb⟩ := rb.reads l hx.1.1
  have e : (D.lst xs).py = .list (D.py.pyAll xs) := by unfold D.py; rfl
  rw [e] at qb hx
  refine SeqAt.notIn_list_reads qb qa ?_ ha.1.2 ?_ (.now l (.bool _))
  · have := hx.1.2; unfold PyData.canLay0 at this; exact this
  · have := R.units; have := ha.2; have := Nat.min_le_right (PyData.depthAll (D.py.pyAll xs)) a.py.depth; omega

theorem Rd1.notRef {h : Heap} {F : Fz} {d : D} {v : Value} (x : Rd1 h F d v) : (∃ a, v = .ref a) ∨ v.onHeap = false := by
  cases x with
  | fz r => cases r <;> first | exact .inl ⟨_, rfl⟩ | exact .inr rfl
  | own l => exact .inl ⟨_, rfl⟩
noncomputable def D.isNone : D → Bool
  | .none => true
  | _ => false
theorem Rd1.beqNone {h : Heap} {F : Fz} {d : D} {v : Value} (x : Rd1 h F d v) : (v == Value.none) = d.isNone := by
  cases x with
  | fz r => cases r <;> rfl
  | own l => rfl
theorem Rd1.plainIs {h : Heap} {F : Fz} {d : D} {v : Value} (x : Rd1 h F d v) : PySem.plainIs v .none = true := by
  cases x with
  | fz r => cases r <;> rfl
  | own l => rfl
theorem Cmp.isNone {d : D} : Cmp c .Is d .none d.isNone := fun A F s va vb R hb l ra rb => by
  have := rb.none; subst this
  refine wpAny_is_plain ra.plainIs ?_
  rw [ra.beqNone]
  exact .now l (.bool _)
theorem Cmp.isNotNone {d : D} : Cmp c .IsNot d .none (!d.isNone) := fun A F s va vb R hb l ra rb => by
  have := rb.none; subst this
  refine wpAny_isNot_plain ra.plainIs ?_
  rw [ra.beqNone]
  exact .now l (.bool _)

theorem Tru.bool {b : Bool} : Tru c (.bool b) b := fun A F s va R hb l ra => by
  have := ra.bool; subst this
  exact wpAny_truthy_bool ⟨rfl, F, .refl l, .refl s⟩
theorem Tru.lst {xs : List D} (hl : xs.length ≤ 1000) : Tru c (.lst xs) (!xs.isEmpty) := fun A F s va R hb l ra => by
  obtain ⟨a, vs, rfl, i, r⟩ := ra.lst l
  have e : vs.toList.length = xs.length := r.length
  refine wpAny_truthy_list i (by rw [← Array.length_toList, e]; omega) ⟨?_, F, .refl l, _, _, rfl⟩
  rw [← Array.isEmpty_toList]
  cases xs <;> cases h : vs.toList <;> simp_all

/-- texts -/
noncomputable def strRep (x : Str) (k : Int) : Str := if k < 1 then Str.empty else ⟨(List.replicate k.toNat x.cps).foldl (· ++ ·) #[]⟩
theorem foldl_len : ∀ (k : Nat) (x : Array Nat) (acc : Array Nat), ((List.replicate k x).foldl (· ++ ·) acc).size = acc.size + k * x.size
  | 0, x, acc => by simp
  | k + 1, x, acc => by rw [List.replicate_succ, List.foldl_cons, foldl_len k]; rw [Array.size_append, Nat.add_mul]; omega
theorem Bin.mulS {x : Str} {k : Int} (h1 : k ≤ 1000) (h0 : -1000 ≤ k) (hx : 0 < x.length) (hx2 : x.length ≤ 1000) : Bin c .Mult (.str x) (.int k) (.str (strRep x k)) := fun A F s va vb R hb l ra rb => by
  obtain ⟨t, rfl⟩ := ra.str; obtain ⟨u, rfl⟩ := rb.int
  have hx3 : (x.length == 0) = false := by simp; omega
  refine P.mul_str ?_ (fun hk _ => ?_) (fun hk _ => ?_) ?_
  · simp; omega
  · intro hq
    have : (2 : Int) ^ 63 = 9223372036854775808 := by decide
    rw [this] at hq
    have h3 : (x.length : Int) * k ≤ 1000 * 1000 := Int.mul_le_mul (by omega) h1 (by omega) (by omega)
    have h4 : (x.length : Int) ≤ (9223372036854775808 - 1) / k := (Int.le_ediv_iff_mul_le (by omega)).mpr (by omega)
    omega
  · unfold Builtin.Str.tooLong
    have : x.length * k.toNat ≤ 1000 * 1000 := Nat.mul_le_mul hx2 (by omega)
    have e : sizeLine = 16777216 := by decide
    simp only [decide_eq_false_iff_not]; omega
  · unfold strRep
    by_cases hk : k < 1
    · simp only [if_pos hk]
      exact ⟨by decide, .flat l (.str _ _)⟩
    · simp only [if_neg hk, hx3, Bool.or_false]
      by_cases h1' : (k == 1) = true
      · rw [if_pos h1']
        have hk1 : k = 1 := by simpa using h1'
        subst hk1
        have e : (⟨(List.replicate (1 : Int).toNat x.cps).foldl (· ++ ·) #[]⟩ : Str) = x := by simp
        rw [e]
        exact .now l (.str _ _)
      · rw [if_neg h1']
        refine ⟨?_, .flat l (.str _ _)⟩
        show ((List.replicate k.toNat x.cps).foldl (· ++ ·) #[]).size ≤ sizeLine
        rw [foldl_len]
        have : k.toNat * x.cps.size ≤ 1000 * 1000 := Nat.mul_le_mul (by omega) hx2
        have e : sizeLine = 16777216 := by decide
        simp; omega
theorem Bin.addS {x y : Str} (hx : x.length + y.length ≤ 100000) : Bin c .Add (.str x) (.str y) (.str (x ++ y)) := fun A F s va vb R hb l ra rb => by
  obtain ⟨t, rfl⟩ := ra.str; obtain ⟨u, rfl⟩ := rb.str
  refine P.add_str ?_
  by_cases h1 : (x.length == 0) = true
  · rw [if_pos h1]
    have : x ++ y = y := by
      have hx0 : x.cps = #[] := by have : x.length = 0 := by simpa using h1
                                   exact Array.eq_empty_of_size_eq_zero this
      apply Str.ext'; rw [Str.cps_append, hx0]; simp
    rw [this]; exact .now l (.str _ _)
  · rw [if_neg h1]
    by_cases h2 : (y.length == 0) = true
    · rw [if_pos h2]
      have : x ++ y = x := by
        have hy0 : y.cps = #[] := by have : y.length = 0 := by simpa using h2
                                     exact Array.eq_empty_of_size_eq_zero this
        apply Str.ext'; rw [Str.cps_append, hy0]; simp
      rw [this]; exact .now l (.str _ _)
    · rw [if_neg h2]
      refine ⟨?_, .flat l (.str _ _)⟩
      rw [Str.length_append]; have e : sizeLine = 16777216 := by decide
      omega
theorem RdL.ofPush {F : Fz} {h : Heap} {o : Obj} {ds : List D} {vs : List Value} (l : Fle F h.get?) (r : RdL F ds vs) : RdL (F.ins h.objs.size o) ds vs := r.mono (Fz.ins_le (none_of_le l (Nat.le_refl _)))
theorem Gives.newList {F : Fz} {s : Shared} {vs : Array Value} {ds : List D} {k : Nat} (l : Fle F s.heap.get?) (r : RdL F ds vs.toList) :
    Gives F s (.lst ds) (.ref s.heap.objs.size) { s with heap := s.heap.push { cls := .type "list", data := .seq vs }, toks := k } :=
  ⟨_, Grow.push l _ rfl, ⟨_, _, rfl⟩, .lst (Fz.ins_self _ _ _) rfl rfl (r.ofPush l)⟩
theorem Bin.addL {xs ys : List D} (hl : xs.length + ys.length ≤ 100000) : Bin c .Add (.lst xs) (.lst ys) (.lst (xs ++ ys)) := fun A F s va vb R hb l ra rb => by
  obtain ⟨a, vs, rfl, ⟨⟨cls, dd, data, sl⟩, ho, hc, k, hd⟩, r⟩ := ra.lst l
  obtain ⟨b, ws, rfl, ⟨⟨cls2, dd2, data2, sl2⟩, ho2, hc2, k2, hd2⟩, r2⟩ := rb.lst l
  simp only at hc hd hc2 hd2
  subst hc hd hc2 hd2
  have e1 : vs.size = xs.length := by rw [← Array.length_toList]; exact r.length
  have e2 : ws.size = ys.length := by rw [← Array.length_toList]; exact r2.length
  have hz : vs.size + ws.size ≤ sizeLine := by
    have e : sizeLine = 16777216 := by decide
    omega
  refine concat_meets (T := "list") (id := "list.__add__") ⟨_, ho, rfl⟩ ⟨_, ho2, rfl⟩ noFill_list_add seq_list_add PySem.F.slot_list_add PySem.F.entry_list_add (PySem.F.args_list_add_2 _ _) (list_addW a b vs ws k k2 dd dd2 sl sl2 hz) ⟨ho, ho2, ?_⟩
  exact .newList l (by rw [Array.toList_append]; exact r.append r2)
end Mine
end

section
open PySem PySem.Calls PyProof.Rows PySem.W
set_option maxRecDepth 100000
set_option linter.unusedVariables false
namespace Mine
theorem runs_size {M : Model} {Γ : Ctx} {p : Pos} {t : Sem Fin} {fs : List Frame} {s s' : Shared} {e : End} (h : Runs M Γ p t fs s e s') : s.heap.objs.size ≤ s'.heap.objs.size := by
  induction h <;> (try simp only [Shared.setGen, Heap.size_push, Heap.size_after_update] at *) <;> (first | omega | exact Nat.le_refl _ | assumption)
theorem returns_size {M : Model} {Γ : Ctx} {p : Pos} {s s' : Shared} {r : Result} (h : Returns M Γ p s r s') : s.heap.objs.size ≤ s'.heap.objs.size := runs_size h
theorem wakes_size {M : Model} {Γ : Ctx} {p : Pos} {g : Nat} {r : Resume} {s s' : Shared} {res : GenResult} (h : Wakes M Γ p g r s res s') : s.heap.objs.size ≤ s'.heap.objs.size := by
  unfold Wakes at h
  split at h
  · exact h.elim
  · split at h
    · obtain ⟨e₁, s₁, hr, _, _, rfl⟩ := h; exact (runs_size hr : (s.setGen g .running).heap.objs.size ≤ s₁.heap.objs.size)
    · rw [h.2]; exact Nat.le_refl _
    · rw [h.2]; exact Nat.le_refl _
  · obtain ⟨e₁, s₁, hr, _, _, rfl⟩ := h; exact (runs_size hr : (s.setGen g .running).heap.objs.size ≤ s₁.heap.objs.size)
  · rw [h.2]; exact Nat.le_refl _
  · rw [h.2]; exact Nat.le_refl _
theorem wp_size {α : Type} (M : Model) (Γ : Ctx) (n : Nat) (t : Sem α) : ∀ (Q : α → Pos → Shared → Prop) (E : Value → Pos → Shared → Prop) (p : Pos) (s : Shared), n ≤ s.heap.objs.size → Sem.wp M Γ t Q E p s →
    Sem.wp M Γ t (fun a p' s' => n ≤ s'.heap.objs.size ∧ Q a p' s') (fun e p' s' => n ≤ s'.heap.objs.size ∧ E e p' s') p s := by
  induction t with
  | pure a => intro Q E p s hn h; exact ⟨hn, h⟩
  | raise e => intro Q E p s hn h; exact ⟨hn, h⟩
  | unsupported _ => intro Q E p s _ h; exact h
  | finish _ => intro Q E p s _ h; exact h
  | rule _ k ih => intro Q E p s hn h; exact ih () Q E p s hn h
  | «at» p' k ih => intro Q E p s hn h; exact ih () Q E p' s hn h
  | load a _ k ih => intro Q E p s hn h; obtain ⟨o, ho, h⟩ := h; exact ⟨o, ho, ih o Q E p s hn h⟩
  | update a _ f k ih => intro Q E p s hn h; exact ⟨h.1, ih () Q E p _ (by show n ≤ (s.heap.update a f).objs.size; rw [Heap.size_after_update]; exact hn) h.2⟩
  | loadIfAlive a k ih => intro Q E p s hn h; exact ih _ Q E p s hn h
  | point _ k ih => intro Q E p s hn h; exact ih () Q E p s hn h
  | register _ _ => intro Q E p s _ h; exact h
  | alloc o k ih => intro Q E p s hn h; exact ih _ Q E p _ (by show n ≤ (s.heap.push o).objs.size; rw [Heap.size_push]; omega) h
  | fresh k ih => intro Q E p s hn h; exact ih _ Q E p _ hn h
  | ask k ih => intro Q E p s hn h; exact ih _ Q E p s hn h
  | choose src m k ih => intro Q E p s hn h; exact ⟨h.1, ih _ Q E p _ hn h.2⟩
  | os q _ k ih => intro Q E p s hn h; exact ih _ Q E p _ hn h
  | call c hd _ _ k ih => intro Q E p s hn h; obtain ⟨r, s', hr, h⟩ := h; exact ⟨r, s', hr, ih r Q E p s' (Nat.le_trans hn (returns_size hr)) h⟩
  | handled own k ih => intro Q E p s hn h; exact ih _ Q E p s hn h
  | genState g k ih => intro Q E p s hn h; obtain ⟨st, hs, h⟩ := h; exact ⟨st, hs, ih _ Q E p s hn h⟩
  | newGen c k ih => intro Q E p s hn h; exact ih _ Q E p _ hn h
  | resume g r _ k ih => intro Q E p s hn h; obtain ⟨res, s', hw, h⟩ := h; exact ⟨res, s', hw, ih res Q E p s' (Nat.le_trans hn (wakes_size hw)) h⟩
  | yield _ _ _ _ => intro Q E p s _ h; exact h
  | stack k ih => intro Q E p s hn h; exact ih _ Q E p s hn h
  | fork _ _ => intro Q E p s _ h; exact h
  | thread k ih => intro Q E p s hn h; exact ih _ Q E p s hn h
  | await _ _ _ _ _ => intro Q E p s _ h; exact h
theorem wpAny_sz {α : Type} {M : Model} {A : Around} {s : Shared} {t : Sem α} {Q : α → Shared → Prop} {E : Value → Shared → Prop} {n : Nat} (hn : n ≤ s.heap.objs.size) (h : wpAny M A t Q E s) :
    wpAny M A t (fun a s' => n ≤ s'.heap.objs.size ∧ Q a s') (fun e s' => n ≤ s'.heap.objs.size ∧ E e s') s :=
  fun Γ p hΓ => wp_size M Γ n t _ _ p s hn (h Γ p hΓ)
/-- only what is kept has to be shown -/
theorem gives_keep {M : Model} {A : Around} {s : Shared} {t : Sem Value} {F : Fz} {d : D} (h : wpAny M A t (fun v s' => Same s s' ∧ Fle s.heap.get? s'.heap.get? ∧ (Fle F s.heap.get?) ∧ Rd F d v) (fun _ _ => False) s) : wpAny M A t (Gives F s d) (fun _ _ => False) s :=
  wpAny_mono (wpAny_sz (Nat.le_refl _) h) (fun v s' hp1 => by obtain ⟨z, S, k, l, r⟩ := hp1; exact ⟨F, ⟨.refl _, fun _ _ e => .inl e, k, l.trans k, z⟩, S, r⟩) fun _ _ x => x.2
end Mine
end

section
open PySem PySem.Calls PyProof.Rows PySem.W
set_option maxRecDepth 100000
namespace Mine
noncomputable def Dead (g h : Heap) : Prop := g.objs.size ≤ h.objs.size ∧ ∀ a, a < g.objs.size → g.get? a = none → h.get? a = none
theorem Dead.push {g h : Heap} (d : Dead g h) (o : Obj) : Dead g (h.push o) := by
  refine ⟨by rw [Heap.size_push]; exact Nat.le_succ_of_le d.1, fun a ha hn => ?_⟩
  cases e : (h.push o).get? a with
  | none => rfl
  | some x =>
    obtain ⟨e1, e2⟩ := Heap.get?_some_iff.mp e
    have : h.get? a = some x := Heap.get?_some_iff.mpr ⟨by
      have hl : a < h.objs.size := Nat.lt_of_lt_of_le ha d.1
      obtain ⟨os⟩ := h
      simp only [Heap.push] at e1
      rwa [Array.getElem?_push_lt hl, ← Array.getElem?_eq_getElem] at e1, e2⟩
    rw [d.2 a ha hn] at this; cases this
theorem Dead.update {b : Addr} {g h : Heap} {f : Obj → Obj} (d : Dead g h) (hb : (h.get? b).isSome = true) : Dead g (h.update b f) := by
  refine ⟨by rw [Heap.size_after_update]; exact d.1, fun a ha hn => ?_⟩
  have hz := d.2 a ha hn
  have hne : a ≠ b := fun q => by rw [← q, hz] at hb; cases hb
  rw [Heap.get?_update_ne _ _ _ _ hne]; exact hz
theorem runs_dead {a : Heap} {M : Model} {Γ : Ctx} {p : Pos} {t : Sem Fin} {fs : List Frame} {s s' : Shared} {e : End} (h : Runs M Γ p t fs s e s') : Dead a s.heap → Dead a s'.heap := by
  induction h <;> (try simp only [Shared.setGen] at *) <;> intro d <;> (first | exact d | (apply_assumption; exact d) | (apply_assumption; exact d.push _) | (apply_assumption; exact d.update (by assumption)) | (apply_assumption; apply_assumption; exact d) | (apply_assumption; apply_assumption; apply_assumption; exact d))
theorem returns_dead {a : Heap} {M : Model} {Γ : Ctx} {p : Pos} {s s' : Shared} {r : Result} (h : Returns M Γ p s r s') : Dead a s.heap → Dead a s'.heap := runs_dead h
theorem wakes_dead {a : Heap} {M : Model} {Γ : Ctx} {p : Pos} {g : Nat} {r : Resume} {s s' : Shared} {res : GenResult} (h : Wakes M Γ p g r s res s') (d : Dead a s.heap) : Dead a s'.heap := by
  unfold Wakes at h
  split at h
  · exact h.elim
  · split at h
    · obtain ⟨e₁, s₁, hr, _, _, rfl⟩ := h; exact (runs_dead hr : Dead a (s.setGen g .running).heap → Dead a s₁.heap) d
    · rw [h.2]; exact d
    · rw [h.2]; exact d
  · obtain ⟨e₁, s₁, hr, _, _, rfl⟩ := h; exact (runs_dead hr : Dead a (s.setGen g .running).heap → Dead a s₁.heap) d
  · rw [h.2]; exact d
  · rw [h.2]; exact d
theorem wp_dead {a : Heap} {α : Type} (M : Model) (Γ : Ctx) (t : Sem α) : ∀ (Q : α → Pos → Shared → Prop) (E : Value → Pos → Shared → Prop) (p : Pos) (s : Shared), Dead a s.heap → Sem.wp M Γ t Q E p s →
    Sem.wp M Γ t (fun v p' s' => Dead a s'.heap ∧ Q v p' s') (fun e p' s' => Dead a s'.heap ∧ E e p' s') p s := by
  induction t with
  | pure a => intro Q E p s hn h; exact ⟨hn, h⟩
  | raise e => intro Q E p s hn h; exact ⟨hn, h⟩
  | unsupported _ => intro Q E p s _ h; exact h
  | finish _ => intro Q E p s _ h; exact h
  | rule _ k ih => intro Q E p s hn h; exact ih () Q E p s hn h
  | «at» p' k ih => intro Q E p s hn h; exact ih () Q E p' s hn h
  | load a _ k ih => intro Q E p s hn h; obtain ⟨o, ho, h⟩ := h; exact ⟨o, ho, ih o Q E p s hn h⟩
  | update a _ f k ih => intro Q E p s hn h; exact ⟨h.1, ih () Q E p _ (hn.update h.1) h.2⟩
  | loadIfAlive a k ih => intro Q E p s hn h; exact ih _ Q E p s hn h
  | point _ k ih => intro Q E p s hn h; exact ih () Q E p s hn h
  | register _ _ => intro Q E p s _ h; exact h
  | alloc o k ih => intro Q E p s hn h; exact ih _ Q E p _ (hn.push o) h
  | fresh k ih => intro Q E p s hn h; exact ih _ Q E p _ hn h
  | ask k ih => intro Q E p s hn h; exact ih _ Q E p s hn h
  | choose src m k ih => intro Q E p s hn h; exact ⟨h.1, ih _ Q E p _ hn h.2⟩
  | os q _ k ih => intro Q E p s hn h; exact ih _ Q E p _ hn h
  | call c hd _ _ k ih => intro Q E p s hn h; obtain ⟨r, s', hr, h⟩ := h; exact ⟨r, s', hr, ih r Q E p s' (returns_dead hr hn) h⟩
  | handled own k ih => intro Q E p s hn h; exact ih _ Q E p s hn h
  | genState g k ih => intro Q E p s hn h; obtain ⟨st, hs, h⟩ := h; exact ⟨st, hs, ih _ Q E p s hn h⟩
  | newGen c k ih => intro Q E p s hn h; exact ih _ Q E p _ hn h
  | resume g r _ k ih => intro Q E p s hn h; obtain ⟨res, s', hw, h⟩ := h; exact ⟨res, s', hw, ih res Q E p s' (wakes_dead hw hn) h⟩
  | yield _ _ _ _ => intro Q E p s _ h; exact h
  | stack k ih => intro Q E p s hn h; exact ih _ Q E p s hn h
  | fork _ _ => intro Q E p s _ h; exact h
  | thread k ih => intro Q E p s hn h; exact ih _ Q E p s hn h
  | await _ _ _ _ _ => intro Q E p s _ h; exact h
theorem wpAny_dead {a : Heap} {α : Type} {M : Model} {A : Around} {s : Shared} {t : Sem α} {Q : α → Shared → Prop} {E : Value → Shared → Prop} (d : Dead a s.heap) (h : wpAny M A t Q E s) :
    wpAny M A t (fun v s' => Dead a s'.heap ∧ Q v s') (fun e s' => Dead a s'.heap ∧ E e s') s :=
  fun Γ p hΓ => wp_dead M Γ t _ _ p s d (h Γ p hΓ)
/-- what stands at the end of a run, and stood not at its beginning, is new -/
theorem wpAny_new {M : Model} {A : Around} {s : Shared} {t : Sem Value} {Q : Value → Shared → Prop} (h : wpAny M A t Q (fun _ _ => False) s) : wpAny M A t (fun v s' => (∀ a, s.heap.get? a = none → s'.heap.get? a ≠ none → s.heap.objs.size ≤ a) ∧ Q v s') (fun _ _ => False) s := fun Γ p hΓ => by
  refine Sem.wp_mono M Γ _ (fun v s' p' q => ⟨fun a h1 h2 => ?_, q.2⟩) (fun _ _ _ q => q.2) _ _ (wp_dead (a := s.heap) M Γ t _ _ p s ⟨Nat.le_refl _, fun _ _ e => e⟩ (h Γ p hΓ))
  by_cases hl : a < s.heap.objs.size
  · exact absurd (q.1.2 a hl h1) h2
  · exact Nat.le_of_not_lt hl
end Mine
end

section
open PySem PySem.Calls PyProof.Rows PySem.W
set_option maxRecDepth 100000
set_option linter.unusedVariables false
namespace Mine
variable {c : Cx} {n : Nat} {sc : Scope} {ρ : Vars}

/-- several, looked at -/
inductive RdL1 (h : Heap) (F : Fz) : List D → List Value → Prop
  | nil : RdL1 h F [] []
  | cons {d : D} {v : Value} {ds : List D} {vs : List Value} : Rd1 h F d v → RdL1 h F ds vs → RdL1 h F (d :: ds) (v :: vs)
variable (c n sc ρ) in
noncomputable def EvLR (es : List Expr) (ds : List D) : Prop :=
  ∀ A env pins F P s, Room n A → EnvOk env sc → St c env pins ρ F P s.heap → ∀ pos,
    wpAny (model c.prog c.w) A (spliced (backTo pos (starEach es env))) (fun vs s' => ∃ F', Grow F s.heap F' s'.heap ∧ Same s s' ∧ RdL1 s'.heap F' ds vs) (fun _ _ => False) s
theorem EvLR_nil : EvLR c n sc ρ [] [] := fun A env pins F P s R ok S pos => spliced_nil ⟨F, .refl S.le, .refl s, .nil⟩
theorem EvLR_cons {e : Expr} {es : List Expr} {d : D} {ds : List D} (h1 : EvR c n sc ρ e d) (h2 : EvLR c n sc ρ es ds) (hp : plainArg e = true := by rfl) : EvLR c n sc ρ (e :: es) (d :: ds) := fun A env pins F P s R ok S pos => by
  rw [starEach_plain hp]
  show wpAny _ _ (spliced ((false, eval e env) :: backTo pos (starEach es env))) _ _ _
  refine spliced_cons (wpAny_mono (h1 A env pins F P s R ok S) (fun v s₁ hp1 => ?_) fun _ _ x => x)
  obtain ⟨F₁, G₁, X₁, r₁⟩ := hp1
  refine wpAny_mono (h2 A env pins F₁ P s₁ R ok (S.grow G₁) pos) (fun vs s₂ hp2 => ?_) fun _ _ x => x
  obtain ⟨F₂, G₂, X₂, r₂⟩ := hp2
  exact ⟨F₂, G₁.trans G₂, X₁.trans X₂, .cons (r₁.mono G₂.keep G₂.fle) r₂⟩

/-- a name of the module or a built-in -/
noncomputable def Glb (c : Cx) (x : Str) (v : Value) : Prop := c.mg x = some v ∨ (c.mg x = none ∧ bootBuiltins x = some v ∧ x ≠ "__name__")
noncomputable def isGlb (sc : Scope) (x : Str) : Bool := sc.names.lookup x == some .globalImplicit && !(x == ("__debug__" : Str))
theorem load_glob {env : Env} {x : Str} {v : Value} {A : Around} {E : Value → Shared → Prop} {s : Shared} {pos : Pos} {Q : Value → Shared → Prop} (hc : c.Ok) (ok : EnvOk env sc) (hk : Fle c.hB.get? s.heap.get?) (hl : isGlb sc x = true) (hv : Glb c x v) (q : Q v s) :
    wpAny (model c.prog c.w) A (eval (.Name x pos) env) Q E s := by
  unfold isGlb at hl
  obtain ⟨h1, h2⟩ := Bool.and_eq_true_iff.mp hl
  have hkind : env.scope.kind = .function := by rw [ok.scope]; exact ok.kind
  have kx : env.kindOf x = some .globalImplicit := by unfold Env.kindOf; rw [ok.scope]; exact beq_iff_eq.mp h1
  have hd : (x == ("__debug__" : Str)) = false := by simpa using h2
  have T := hc.top.keeps hk
  rcases hv with e | ⟨e1, e2, e3⟩
  · exact Name_function_global hkind kx (loadGlobal_global (by rw [ok.globals]; exact T.g) e q) hd
  · exact Name_function_global hkind kx (loadGlobal_builtin (by rw [ok.globals]; exact T.g) e1 (by rw [ok.builtins]; exact T.b) ((T.builtins x e3).trans e2) q) hd
theorem St.keep {env : Env} {pins : Pins} {F : Fz} {P : Addr → Prop} {h : Heap} (S : St c env pins ρ F P h) : Fle c.hB.get? h.get? := S.base.trans S.le

theorem tail_bind {M : Model} {A : Around} {E : Value → Shared → Prop} {s : Shared} {t : Sem Value} {Q : Value → Shared → Prop} (ht : wpAny M A t Q E s) : wpAny M A (t >>= fun r => holding [r] point >>= fun _ => pure r) Q E s :=
  wpAny_bind (wpAny_mono ht (fun r s₂ hr => wpAny_bind (wpAny_holding (wpAny_point (wpAny_pure hr)))) fun _ _ x => x)
theorem starFalse {es : List Expr} {env : Env} {pos : Pos} (h : es.all plainArg = true) : (backTo pos (starEach es env)).any (·.1) = false := by
  induction es with
  | nil => rfl
  | cons e r ih =>
    simp only [List.all_cons, Bool.and_eq_true] at h
    rw [starEach_plain h.1]
    show ((false, _) :: backTo pos (starEach r env)).any (·.1) = false
    rw [List.any_cons, ih h.2]; rfl
theorem evalArgs_any {M : Model} {A : Around} {E : Value → Shared → Prop} {s : Shared} {f : Value} {args : List (Bool × Sem Value)} {Q : Args → Shared → Prop} (hp : args.any (·.1) = false)
    (h : wpAny M A (spliced args) (fun vs s' => Q ⟨vs, []⟩ s') E s) : wpAny M A (evalArgs f true args []) Q E s := by
  cases args with
  | nil =>
    unfold evalArgs
    show wpAny M A (spliced [] >>= _) Q E s
    refine wpAny_bind (wpAny_mono h (fun vs s' h' => ?_) fun _ _ x => x)
    refine wpAny_bind (wpAny_pure ?_)
    refine wpAny_holding ?_
    exact wpAny_bind (wpAny_pure (wpAny_bind (wpAny_pure (wpAny_pure h'))))
  | cons a r =>
    obtain ⟨b, x⟩ := a
    simp only [List.any_cons, Bool.or_eq_false_iff] at hp
    obtain ⟨rfl, _⟩ := hp
    exact evalArgs_plain h
theorem callWith_val {M : Model} {A : Around} {E : Value → Shared → Prop} {s : Shared} {pos : Pos} {f : Value} {first : List Value} {args : List (Bool × Sem Value)} {Q : Value → Shared → Prop} (hp : args.any (·.1) = false) (hf : ∀ a, f ≠ .ref a)
    (h : wpAny M A (spliced args) (fun vs s₁ => wpAny M A (call f (first ++ vs) []) Q E s₁) E s) : wpAny M A (callWith pos f first args []) Q E s := by
  unfold callWith
  refine wpAny_bind (wpAny_holding (evalArgs_any hp (wpAny_mono h (fun vs s₁ h₁ => wpAny_bind (wpAny_standAt ?_)) fun _ _ x => x)))
  simp only [hp, List.any_nil, Bool.or_false]
  have hk : keeperOf f = pure .machine := by
    unfold keeperOf
    cases f <;> first | rfl | exact absurd rfl (hf _)
  rw [hk]
  refine wpAny_bind (wpAny_pure ?_)
  exact tail_bind h₁
theorem callWith_fn {M : Model} {A : Around} {E : Value → Shared → Prop} {s : Shared} {pos : Pos} {a : Addr} {first : List Value} {args : List (Bool × Sem Value)} {Q : Value → Shared → Prop} (hp : args.any (·.1) = false)
    (h : wpAny M A (spliced args) (fun vs s₁ => (∃ o fd, s₁.heap.get? a = some o ∧ o.data = .func fd) ∧ wpAny M A (call (.ref a) (first ++ vs) []) Q E s₁) E s) : wpAny M A (callWith pos (.ref a) first args []) Q E s := by
  unfold callWith
  refine wpAny_bind (wpAny_holding (evalArgs_any hp (wpAny_mono h (fun vs s₁ h₁ => wpAny_bind (wpAny_standAt ?_)) fun _ _ x => x)))
  obtain ⟨⟨o, fd, ho, hd⟩, h₁⟩ := h₁
  simp only [hp, List.any_nil, Bool.or_false]
  refine wpAny_bind (m := keeperOf (.ref a)) ?_
  unfold keeperOf
  refine wpAny_bind (wpAny_load ho ?_)
  rw [hd]
  refine wpAny_pure ?_
  dsimp only
  split
  · exact tail_bind h₁
  · exact tail_bind (by unfold callMarked; exact wpAny_keep h₁)

/-- calls of built-ins that look at their arguments -/
noncomputable def CallR (c : Cx) (f : Value) (ds : List D) (d : D) : Prop := ∀ A F s vs, Room 0 A → Fle c.hB.get? F → Fle F s.heap.get? → RdL1 s.heap F ds vs → wpAny (model c.prog c.w) A (call f vs) (Gives F s d) (fun _ _ => False) s
theorem Ev_callB {f : Str} {p pos : Pos} {args : List Expr} {fv : Value} {ds : List D} {d : D} (hc : c.Ok) (hg : Glb c f fv) (hi : isGlb sc f = true) (hf : ∀ a, fv ≠ .ref a) (ha : EvLR c n sc ρ args ds) (hcall : CallR c fv ds d) (hp : args.all plainArg = true := by rfl) :
    Ev c n sc ρ (.Call (.Name f p) args [] pos) d := fun A env pins F P s R ok S => by
  refine wpAny_Call_Name_kw (load_glob hc ok S.keep hi hg ?_)
  show wpAny _ _ (callWith pos fv [] (backTo pos (starEach args env)) []) _ _ _
  refine callWith_val (starFalse hp) hf (wpAny_mono (ha A env pins F P s R ok S pos) (fun vs s₁ hp3 => ?_) fun _ _ x => x)
  obtain ⟨F₁, G₁, X₁, r₁⟩ := hp3
  exact wpAny_mono (hcall A F₁ s₁ vs (R.le (Nat.zero_le _)) (S.grow G₁).base G₁.le r₁) (fun z s₃ q => q.after G₁ X₁) fun _ _ x => x

theorem RdL1.one {h : Heap} {F : Fz} {d : D} {vs : List Value} (r : RdL1 h F [d] vs) : ∃ v, vs = [v] ∧ Rd1 h F d v := by
  cases r with | cons a r => cases r; exact ⟨_, rfl, a⟩
theorem RdL1.two {h : Heap} {F : Fz} {d e : D} {vs : List Value} (r : RdL1 h F [d, e] vs) : ∃ v w, vs = [v, w] ∧ Rd1 h F d v ∧ Rd1 h F e w := by
  cases r with | cons a r => obtain ⟨w, rfl, b⟩ := r.one; exact ⟨_, _, rfl, a, b⟩
theorem CallR.lenL {xs : List D} (hl : xs.length ≤ 100000) : CallR c (.builtin "len") [.lst xs] (.int xs.length) := fun A F s vs R hb l r => by
  obtain ⟨v, rfl, q⟩ := r.one
  obtain ⟨a, its, rfl, i, q⟩ := q.lst l
  have e : its.size = xs.length := by rw [← Array.length_toList]; exact q.length
  exact PyProof.Rows.len_list i (by rw [e]; omega) (by rw [e]; exact .flat l (.int _ _))
theorem CallR.range1 {b : Int} : CallR c (.type "range") [.int b] (.rng 0 b) := fun A F s vs R hb l r => by
  obtain ⟨v, rfl, q⟩ := r.one
  obtain ⟨t, rfl⟩ := q.int
  exact call_range_1 ⟨_, Grow.push l _ rfl, ⟨_, _, rfl⟩, .rng (Fz.ins_self _ _ _)⟩
theorem CallR.range2 {a b : Int} : CallR c (.type "range") [.int a, .int b] (.rng a b) := fun A F s vs R hb l r => by
  obtain ⟨v, w, rfl, q, q'⟩ := r.two
  obtain ⟨t, rfl⟩ := q.int; obtain ⟨t, rfl⟩ := q'.int
  exact call_range_2 ⟨_, Grow.push l _ rfl, ⟨_, _, rfl⟩, .rng (Fz.ins_self _ _ _)⟩
theorem Rd.ofInts {F : Fz} {b : Bool} {x y : Int} {t u : Tok} : Rd F (.int (if b then x else y)) (if b then .int x t else .int y u) := by cases b <;> exact .int _ _
theorem CallR.max2 {a b : Int} : CallR c (.builtin "max") [.int a, .int b] (.int (if b > a then b else a)) := fun A F s vs R hb l r => by
  obtain ⟨v, w, rfl, q, q'⟩ := r.two
  obtain ⟨t, rfl⟩ := q.int; obtain ⟨u, rfl⟩ := q'.int
  refine gives_keep (max_two_ints R.1 fun h' tk k => ⟨⟨_, _, rfl⟩, k, l, ?_⟩)
  by_cases h : b > a
  · rw [if_pos h, if_pos h]; exact .int _ _
  · rw [if_neg h, if_neg h]; exact .int _ _
theorem CallR.min2 {a b : Int} : CallR c (.builtin "min") [.int a, .int b] (.int (if b < a then b else a)) := fun A F s vs R hb l r => by
  obtain ⟨v, w, rfl, q, q'⟩ := r.two
  obtain ⟨t, rfl⟩ := q.int; obtain ⟨u, rfl⟩ := q'.int
  refine gives_keep (min_two_ints R.1 fun h' tk k => ⟨⟨_, _, rfl⟩, k, l, ?_⟩)
  by_cases h : b < a
  · rw [if_pos h, if_pos h]; exact .int _ _
  · rw [if_neg h, if_neg h]; exact .int _ _
theorem CallR.intOf {x : Str} {k : Int} (h : PySem.intText? x = some k) (hl : x.length ≤ 640) : CallR c (.type "int") [.str x] (.int k) := fun A F s vs R hb l r => by
  obtain ⟨v, rfl, q⟩ := r.one
  obtain ⟨t, rfl⟩ := q.str
  exact PySem.W.KIN.call_text h hl (.flat l (.int _ _))
theorem CallR.strOf {a : Int} (ha : a.natAbs.log2 < 1920) : CallR c (.type "str") [.int a] (.str (toString a)) := fun A F s vs R hb l r => by
  obtain ⟨v, rfl, q⟩ := r.one
  obtain ⟨t, rfl⟩ := q.int
  exact P.str_of_int ha (.flat l (.str _ _))

/-- an item -/
noncomputable def notSlice : Expr → Bool
  | .Slice .. => false
  | _ => true
theorem subscripted_not {slice : Expr} (h : notSlice slice = true) (o i : Value) : subscripted slice false o i = operate [o, i] (getItem o i) := by
  cases slice <;> first | rfl | cases h
noncomputable def Itm (c : Cx) (a i d : D) : Prop := ∀ A F s va vi value slice, Room 0 A → Fle c.hB.get? F → Fle F s.heap.get? → Rd1 s.heap F a va → Rd1 s.heap F i vi → notSlice slice = true → wpAny (model c.prog c.w) A (subscriptTail value slice va vi) (Gives F s d) (fun _ _ => False) s
theorem Ev_Sub {value slice : Expr} {pos : Pos} {a i d : D} (hv : EvR c n sc ρ value a) (hi : EvR c n sc ρ slice i) (h : Itm c a i d) (hs : notSlice slice = true := by rfl) : Ev c n sc ρ (.Subscript value slice pos) d := fun A env pins F P s R ok S => by
  refine Subscript_ (wpAny_mono (hv A env pins F P s R ok S) (fun v s₁ hp4 => ?_) fun _ _ x => x)
  obtain ⟨F₁, G₁, X₁, r₁⟩ := hp4
  have S₁ := S.grow G₁
  refine wpAny_mono (hi A env pins F₁ P s₁ R ok S₁) (fun w s₂ hp5 => ?_) fun _ _ x => x
  obtain ⟨F₂, G₂, X₂, r₂⟩ := hp5
  exact wpAny_mono (h A F₂ s₂ v w value slice (R.le (Nat.zero_le _)) (S₁.grow G₂).base G₂.le (r₁.mono G₂.keep G₂.fle) r₂ hs) (fun z s₃ q => (q.after G₂ X₂).after G₁ X₁) fun _ _ x => x
theorem Itm.lst {xs : List D} {i : Int} {d : D} (h0 : 0 ≤ i) (hx : xs[i.toNat]? = some d) (hi : i < 2 ^ 62) : Itm c (.lst xs) (.int i) d := fun A F s va vi value slice R hb l ra ri hs => by
  obtain ⟨a, its, rfl, il, q⟩ := ra.lst l
  obtain ⟨t, rfl⟩ := ri.int
  obtain ⟨v, e, r⟩ := q.get' hx
  exact tail_any il.typeIs slot_list_getitem.lookup (wpAny_getItem_list il h0 (by omega) (by rw [← Array.getElem?_toList]; exact e) (.now l r)) (subscripted_not hs _ _)
theorem Itm.tup {xs : List D} {i : Int} {d : D} (h0 : 0 ≤ i) (hx : xs[i.toNat]? = some d) (hi : i < 2 ^ 62) : Itm c (.tup xs) (.int i) d := fun A F s va vi value slice R hb l ra ri hs => by
  obtain ⟨a, o, its, k, rfl, e1, e2, e3, q⟩ := ra.tup l
  obtain ⟨t, rfl⟩ := ri.int
  obtain ⟨v, e, r⟩ := q.get' hx
  have it : IsTup s.heap a its := ⟨o, e1, e2, k, e3⟩
  have hlt : i.toNat < its.size := by
    have := List.getElem?_eq_some_iff.mp e
    rw [← Array.length_toList]; exact this.1
  refine tail_any it.typeIs slot_tuple_getitem.lookup (getItem_tuple it (by omega) (by omega) (j := i.toNat) ?_ (by rw [← Array.getElem?_toList]; exact e) (.now l r)) (subscripted_not hs _ _)
  unfold seqIndex?
  have h1 : ¬ i < 0 := by omega
  simp only [h1, if_false, h0, decide_true, Bool.true_and]
  rw [if_pos (by simp; omega)]
theorem Itm.str {x : Str} {i : Int} {k : Nat} {cp : Nat} (hk : seqIndex? i x.length = some k) (hx : x.cps[k]? = some cp) (h1 : -1000 ≤ i) (h2 : i ≤ 1000) : Itm c (.str x) (.int i) (.str ⟨#[cp]⟩) := fun A F s va vi value slice R hb l ra ri hs => by
  obtain ⟨t, rfl⟩ := ra.str
  obtain ⟨u, rfl⟩ := ri.int
  refine tail_any (typeIs_str _ _ _) PySem.F.slot_str_getitem.lookup (P.getItem_str ?_ (by rw [hk]; exact hx) (.flat l (.str _ _))) (subscripted_not hs _ _)
  simp; omega
end Mine
end

section
open PySem PySem.Calls PyProof.Rows PySem.W
set_option maxRecDepth 100000
set_option linter.unusedVariables false
namespace Mine

/-- how a run of statements ends -/
inductive Fl where
  | next | brk | cont
  | ret (d : D)
  | retF (d : D)
inductive FlR (F' : Fz) (P : Addr → Prop) (sz : Nat) : Fl → Flow → Prop
  | next : FlR F' P sz .next .next
  | brk : FlR F' P sz .brk .brk
  | cont : FlR F' P sz .cont .cont
  | ret {d : D} {v : Value} : Rd F' d v → FlR F' P sz (.ret d) (.ret v)
  | retF {d : D} {a : Addr} : Rd F' d (.ref a) → (P a ∨ sz ≤ a) → FlR F' P sz (.retF d) (.ret (.ref a))
theorem FlR.back {F' : Fz} {P P' : Addr → Prop} {sz sz' : Nat} {fl : Fl} {f : Flow} (x : FlR F' P' sz' fl f) (h : ∀ a, P' a → P a ∨ sz ≤ a) (hs : sz ≤ sz') : FlR F' P sz fl f := by
  cases x with
  | next => exact .next
  | brk => exact .brk
  | cont => exact .cont
  | ret r => exact .ret r
  | retF r q => exact .retF r (q.elim (h _) fun q => .inr (Nat.le_trans hs q))

noncomputable def StepTo (c : Cx) (env : Env) (pins : Pins) (F : Fz) (P : Addr → Prop) (s : Shared) (fl : Fl) (ρ' : Vars) : Flow → Shared → Prop :=
  fun f s' => ∃ F' P', Step F P s.heap F' P' s'.heap ∧ Same s s' ∧ St c env pins ρ' F' P' s'.heap ∧ FlR F' P s.heap.objs.size fl f
theorem StepTo.after {c : Cx} {env : Env} {pins : Pins} {F F₁ : Fz} {P P₁ : Addr → Prop} {s s₁ : Shared} {fl : Fl} {ρ' : Vars} {f : Flow} {s' : Shared} (T : Step F P s.heap F₁ P₁ s₁.heap) (X : Same s s₁) (q : StepTo c env pins F₁ P₁ s₁ fl ρ' f s') : StepTo c env pins F P s fl ρ' f s' := by
  obtain ⟨F', P', T', X', S', r⟩ := q
  exact ⟨F', P', T.trans T', X.trans X', S', r.back T.mem T.size⟩

variable (c : Cx)
noncomputable def ExS (n : Nat) (sc : Scope) (pn : List Str) (ρ : Vars) (st : Stmt) (fl : Fl) (ρ' : Vars) : Prop :=
  ∀ A env pins F P s, Room n A → EnvOk env sc → pins.map (·.1) = pn → St c env pins ρ F P s.heap → wpAny (model c.prog c.w) A (exec st env) (StepTo c env pins F P s fl ρ') (fun _ _ => False) s
noncomputable def Ex (n : Nat) (sc : Scope) (pn : List Str) (ρ : Vars) (sts : List Stmt) (fl : Fl) (ρ' : Vars) : Prop :=
  ∀ A env pins F P s, Room n A → EnvOk env sc → pins.map (·.1) = pn → St c env pins ρ F P s.heap → wpAny (model c.prog c.w) A (execs sts env) (StepTo c env pins F P s fl ρ') (fun _ _ => False) s
variable {c} {n : Nat} {sc : Scope} {pn : List Str} {ρ : Vars}

theorem Ex_nil : Ex c n sc pn ρ [] .next ρ := fun A env pins F P s R ok hp S => wpAny_execs_nil ⟨F, P, .refl, .refl s, S, .next⟩
theorem Ex_cons {st : Stmt} {r : List Stmt} {fl : Fl} {ρ₁ ρ' : Vars} (h1 : ExS c n sc pn ρ st .next ρ₁) (h2 : Ex c n sc pn ρ₁ r fl ρ') : Ex c n sc pn ρ (st :: r) fl ρ' := fun A env pins F P s R ok hp S => by
  refine wpAny_execs_cons (wpAny_mono (h1 A env pins F P s R ok hp S) (fun f s₁ hp1 => ?_) fun _ _ x => x)
  obtain ⟨F₁, P₁, T, X, S₁, q⟩ := hp1
  cases q
  exact wpAny_mono (h2 A env pins F₁ P₁ s₁ R ok hp S₁) (fun f s' q => q.after T X) fun _ _ x => x
noncomputable def Fl.stops : Fl → Bool
  | .next => false
  | _ => true
theorem Ex_stop {st : Stmt} {r : List Stmt} {fl : Fl} {ρ' : Vars} (h1 : ExS c n sc pn ρ st fl ρ') (hs : fl.stops = true := by rfl) : Ex c n sc pn ρ (st :: r) fl ρ' := fun A env pins F P s R ok hp S => by
  refine wpAny_execs_cons (wpAny_mono (h1 A env pins F P s R ok hp S) (fun f s₁ q => ?_) fun _ _ x => x)
  obtain ⟨F₁, P₁, T, X, S₁, q⟩ := q
  cases q with
  | next => cases hs
  | brk => exact ⟨F₁, P₁, T, X, S₁, .brk⟩
  | cont => exact ⟨F₁, P₁, T, X, S₁, .cont⟩
  | ret r => exact ⟨F₁, P₁, T, X, S₁, .ret r⟩
  | retF r z => exact ⟨F₁, P₁, T, X, S₁, .retF r z⟩
theorem ExS_if {test : Expr} {a b : List Stmt} {pos : Pos} {t : Bool} {fl : Fl} {ρ' : Vars} (ht : Te c n sc ρ test t) (ha : t = true → Ex c n sc pn ρ a fl ρ') (hb : t = false → Ex c n sc pn ρ b fl ρ') : ExS c n sc pn ρ (.If test a b pos) fl ρ' := fun A env pins F P s R ok hp S => by
  refine wpAny_If (wpAny_mono (ht A env pins F P s R ok S) (fun t' s₁ hp2 => ?_) fun _ _ x => x)
  obtain ⟨e, F₁, G₁, X₁⟩ := hp2
  subst e
  cases t' with
  | true => exact wpAny_mono (ha rfl A env pins F₁ P s₁ R ok hp (S.grow G₁)) (fun f s' q => q.after G₁.step X₁) fun _ _ x => x
  | false => exact wpAny_mono (hb rfl A env pins F₁ P s₁ R ok hp (S.grow G₁)) (fun f s' q => q.after G₁.step X₁) fun _ _ x => x
theorem ExS_return {e : Expr} {pos : Pos} {d : D} (h : Ev c n sc ρ e d) : ExS c n sc pn ρ (.Return (some e) pos) (.ret d) ρ := fun A env pins F P s R ok hp S =>
  wpAny_Return_some (wpAny_mono (h A env pins F P s R ok S) (fun v s₁ hp3 => by obtain ⟨F₁, G₁, X₁, r⟩ := hp3; exact ⟨F₁, P, G₁.step, X₁, S.grow G₁, .ret r⟩) fun _ _ x => x)
theorem ExS_break {pos : Pos} : ExS c n sc pn ρ (.Break pos) .brk ρ := fun A env pins F P s R ok hp S => by
  rw [arm_exec_Break]; exact wpAny_bind (wpAny_standAt (wpAny_pure ⟨F, P, .refl, .refl s, S, .brk⟩))
theorem ExS_continue {pos : Pos} : ExS c n sc pn ρ (.Continue pos) .cont ρ := fun A env pins F P s R ok hp S => by
  rw [arm_exec_Continue]; exact wpAny_bind (wpAny_standAt (wpAny_pure ⟨F, P, .refl, .refl s, S, .cont⟩))

/-- the variables, with one new or turned -/
noncomputable def Vars.put : Vars → Str → Slot → Vars
  | [], x, s => [(x, s)]
  | (y, t) :: r, x, s => if x == y then (y, s) :: r else (y, t) :: Vars.put r x s
theorem lookup_put : ∀ (ρ : Vars) (x : Str) (s : Slot) (y : Str), (Vars.put ρ x s).lookup y = if y = x then some s else ρ.lookup y
  | [], x, s, y => by
    unfold Vars.put
    rw [List.lookup_cons, List.lookup_nil]
    by_cases h : y = x
    · subst h; simp
    · have : (y == x) = false := by simpa using h
      rw [this, if_neg h]
  | (z, t) :: r, x, s, y => by
    unfold Vars.put
    by_cases hx : (x == z) = true
    · rw [if_pos hx]
      have hxz := beq_iff_eq.mp hx
      subst hxz
      rw [List.lookup_cons, List.lookup_cons]
      by_cases h : y = x
      · subst h; simp
      · have : (y == x) = false := by simpa using h
        rw [this, if_neg h]
    · rw [if_neg hx, List.lookup_cons, List.lookup_cons, lookup_put r x s y]
      have hne : ¬ x = z := by simpa using hx
      by_cases h : y = x
      · subst h
        have : (y == z) = false := by simpa using hne
        rw [this, if_pos rfl]
      · rw [if_neg h, if_neg h]

noncomputable def isSto (sc : Scope) (x : Str) : Bool := match sc.names.lookup x with
  | some .local | some .cell => true
  | _ => false
theorem store_var' {env : Env} {vm : Str → Option Value} {x : Str} {v : Value} {M : Model} {A : Around} {E : Value → Shared → Prop} {s : Shared} {Q : Unit → Shared → Prop} (ok : EnvOk env sc) (S : Stor env s.heap vm) (hl : isSto sc x = true)
    (q : ∀ h' tk, Stor env h' (fun y => if y = x then some v else vm y) → (∃ a ∈ stor env, Heap.SameBut a s.heap h' ∧ (a = env.locals ∨ env.cells.lookup x = some a)) → Q () { s with heap := h', toks := tk }) : wpAny M A (storeName env x v) Q E s := by
  have hk : env.scope.kind = .function := by rw [ok.scope]; exact ok.kind
  have kx : env.kindOf x = sc.names.lookup x := by unfold Env.kindOf; rw [ok.scope]
  have nd := List.nodup_cons.mp (show (env.locals :: env.cells.map (·.2)).Nodup from ok.nd)
  unfold isSto at hl
  split at hl
  · rename_i e
    obtain ⟨m, nm, em⟩ := S.loc
    refine wpAny_storeName_local (kx.trans e) nm (fun h' n' sb => q h' _ ⟨⟨_, n', fun y hy => ?_⟩, fun y hy => ?_⟩ ⟨env.locals, .head _, sb, .inl rfl⟩) (by rw [hk]; rfl)
    · by_cases h : y = x
      · subst h; simp
      · simp only [if_neg h]; exact em y hy
    · obtain ⟨cc, e1, e2⟩ := S.cel y hy
      have hne : y ≠ x := fun q => by subst q; rw [kx, e] at hy; rcases hy with hy | hy <;> cases hy
      refine ⟨cc, e1, ?_⟩
      simp only [if_neg hne]
      exact e2.sameBut sb fun q => nd.1 (q ▸ List.mem_map_of_mem (mem_of_lookup e1))
  · rename_i e
    obtain ⟨cc, e1, e2⟩ := S.cel x (.inl (kx.trans e))
    have hin : cc ∈ env.cells.map (·.2) := List.mem_map_of_mem (mem_of_lookup e1)
    refine wpAny_storeName_cell hk (kx.trans e) e1 e2 fun h' n' sb => q h' _ ⟨?_, fun y hy => ?_⟩ ⟨cc, .tail _ hin, sb, .inr e1⟩
    · obtain ⟨m, nm, em⟩ := S.loc
      refine ⟨m, nm.sameBut sb fun q => nd.1 (q ▸ hin), fun y hy => ?_⟩
      have hne : y ≠ x := fun q => by subst q; rw [kx, e] at hy; cases hy
      simp only [if_neg hne]
      exact em y hy
    · by_cases h : y = x
      · subst h
        exact ⟨cc, e1, by simpa using n'⟩
      · obtain ⟨c2, e3, e4⟩ := S.cel y hy
        refine ⟨c2, e3, ?_⟩
        simp only [if_neg h]
        refine e4.sameBut sb fun q => h ?_
        subst q
        have pw : env.cells.Pairwise fun a b => a.2 ≠ b.2 := List.pairwise_map.mp nd.2
        exact name_of_addr pw (mem_of_lookup e3) (mem_of_lookup e1)
  · cases hl

theorem store_var {env : Env} {vm : Str → Option Value} {x : Str} {v : Value} {M : Model} {A : Around} {E : Value → Shared → Prop} {s : Shared} {Q : Unit → Shared → Prop} (ok : EnvOk env sc) (S : Stor env s.heap vm) (hl : isSto sc x = true)
    (q : ∀ h' tk, Stor env h' (fun y => if y = x then some v else vm y) → (∃ a ∈ stor env, Heap.SameBut a s.heap h') → Q () { s with heap := h', toks := tk }) : wpAny M A (storeName env x v) Q E s :=
  store_var' ok S hl fun h' tk S' hp4 => by obtain ⟨a, h1, h2, _⟩ := hp4; exact q h' tk S' ⟨a, h1, h2⟩

/-- storing a value with its changeable addresses as -/
theorem StV.store {env : Env} {pins : Pins} {F : Fz} {P : Addr → Prop} {h h' : Heap} {vm : Str → Option Value} {fp : Str → List Addr} (S : StV c env pins ρ F P h vm fp) {x : Str} {sl : Slot} {v : Value} {as : List Addr}
    (O : Own h F sl v as) (hnd : as.Nodup) (hF : ∀ a ∈ as, F a = none) (hst : ∀ a ∈ as, a ∉ stor env) (hap : ∀ y t, ρ.lookup y = some t → y ≠ x → ∀ a ∈ as, a ∉ fp y) (hpin : x ∉ pins.map (·.1))
    (S' : Stor env h' (fun y => if y = x then some v else vm y)) (sb : ∃ a ∈ stor env, Heap.SameBut a h h') :
    ∃ P', St c env pins (Vars.put ρ x sl) F P' h' ∧ (∀ a, P' a → P a ∨ a ∈ as) ∧ (∀ a o, ¬ P a → h.get? a = some o → h'.get? a = some o) ∧ h'.objs.size = h.objs.size := by
  obtain ⟨b, hb, sb⟩ := sb
  have keep : ∀ a o, a ∉ stor env → h.get? a = some o → h'.get? a = some o := fun a o q e => (sb.2 a fun z => q (z ▸ hb)).trans e
  refine ⟨fun a => a ∈ stor env ∨ ∃ y t, (Vars.put ρ x sl).lookup y = some t ∧ a ∈ (if y = x then as else fp y), ⟨fun y => if y = x then some v else vm y, fun y => if y = x then as else fp y, ?_⟩, fun a q => ?_, fun a o q e => keep a o (fun z => q ((S.mem a).mpr (.inl z))) e, sb.1⟩
  · exact {
      base := S.base
      le := fun a o e => keep a o (fun z => by rw [S.out a ((S.mem a).mpr (.inl z))] at e; cases e) (S.le a o e)
      sto := S'
      own := fun y t e => by
        rw [lookup_put] at e
        by_cases hy : y = x
        · rw [if_pos hy] at e; cases e
          refine ⟨v, by simp only [if_pos hy], ?_⟩
          rw [if_pos hy]
          exact O.mono (fun a ha o e => keep a o (hst a ha) e) (.refl _)
        · rw [if_neg hy] at e
          obtain ⟨w, e1, o⟩ := S.own y t e
          refine ⟨w, by simp only [if_neg hy]; exact e1, ?_⟩
          rw [if_neg hy]
          exact o.mono (fun a ha o e' => keep a o (S.aparts y t e a ha) e') (.refl _)
      pin := fun q hq => by
        have : q.1 ≠ x := fun z => hpin (z ▸ List.mem_map_of_mem hq)
        simp only [if_neg this]; exact S.pin q hq
      mem := fun a => Iff.rfl
      lt := fun a q => by
        rw [sb.1]
        rcases q with q | ⟨y, t, e, q⟩
        · exact S.lt a ((S.mem a).mpr (.inl q))
        · by_cases hy : y = x
          · rw [if_pos hy] at q; exact O.lt a q
          · rw [if_neg hy] at q; rw [lookup_put, if_neg hy] at e
            exact S.lt a ((S.mem a).mpr (.inr ⟨y, t, e, q⟩))
      out := fun a q => by
        rcases q with q | ⟨y, t, e, q⟩
        · exact S.out a ((S.mem a).mpr (.inl q))
        · by_cases hy : y = x
          · rw [if_pos hy] at q; exact hF a q
          · rw [if_neg hy] at q; rw [lookup_put, if_neg hy] at e
            exact S.out a ((S.mem a).mpr (.inr ⟨y, t, e, q⟩))
      nd := fun y t e => by
        by_cases hy : y = x
        · simp only [if_pos hy]; exact hnd
        · simp only [if_neg hy]; rw [lookup_put, if_neg hy] at e; exact S.nd y t e
      apart := fun y t z u e e' hne a ha => by
        by_cases hy : y = x
        · have hz : z ≠ x := fun q => hne (hy.trans q.symm)
          simp only [if_pos hy] at ha; simp only [if_neg hz]
          rw [lookup_put, if_neg hz] at e'
          exact hap z u e' hz a ha
        · simp only [if_neg hy] at ha
          rw [lookup_put, if_neg hy] at e
          by_cases hz : z = x
          · simp only [if_pos hz]; exact fun q => hap y t e hy a q ha
          · simp only [if_neg hz]; rw [lookup_put, if_neg hz] at e'; exact S.apart y t z u e e' hne a ha
      aparts := fun y t e a ha => by
        by_cases hy : y = x
        · simp only [if_pos hy] at ha; exact hst a ha
        · simp only [if_neg hy] at ha; rw [lookup_put, if_neg hy] at e; exact S.aparts y t e a ha }
  · rcases q with q | ⟨y, t, e, q⟩
    · exact .inl ((S.mem a).mpr (.inl q))
    · by_cases hy : y = x
      · rw [if_pos hy] at q; exact .inr q
      · rw [if_neg hy] at q; rw [lookup_put, if_neg hy] at e
        exact .inl ((S.mem a).mpr (.inr ⟨y, t, e, q⟩))

/-- after an expression has grown F to F₁, its value is stored as a frozen datum -/
theorem store_val {env : Env} {pins : Pins} {F : Fz} {P : Addr → Prop} {A : Around} {s : Shared} {x : Str} {d : D} {v : Value} (ok : EnvOk env sc) (hp : pins.map (·.1) = pn) (S : St c env pins ρ F P s.heap) (hs : isSto sc x = true) (hx : x ∉ pn) (r : Rd F d v) {fl : Fl} {f : Flow} (hf : FlR F P s.heap.objs.size fl f) :
    wpAny (model c.prog c.w) A (storeName env x v) (fun _ => StepTo c env pins F P s fl (Vars.put ρ x (.val d)) f) (fun _ _ => False) s := by
  obtain ⟨vm, fp, S⟩ := S
  refine store_var ok S.sto hs fun h' tk S' sb => ?_
  obtain ⟨P', S'', hP, hk, hz⟩ := S.store (.val r) .nil (fun a q => nomatch q) (fun a q => nomatch q) (fun y t e hy a q => nomatch q) (hp ▸ hx) S' sb
  exact ⟨F, P', ⟨.refl _, fun a o e => .inl e, hk, fun a q => (hP a q).elim .inl fun q => (nomatch q), Nat.le_of_eq hz.symm⟩, ⟨_, _, rfl⟩, S'', hf⟩

noncomputable def plainVal : Expr → Bool
  | .ListComp .. | .SetComp .. | .DictComp .. => false
  | _ => true
theorem swaps_plain {v : Expr} {t : Option Expr} {l : Nat} {env : Env} (h : plainVal v = true) : swapsWith v t l env = pure false := by
  cases v <;> first | rfl | cases h
theorem ExS_assign {x : Str} {px pos : Pos} {value : Expr} {d : D} (h : Ev c n sc ρ value d) (hs : isSto sc x = true) (hx : x ∉ pn) (hv : plainVal value = true := by rfl) : ExS c n sc pn ρ (.Assign [.Name x px] value pos) .next (Vars.put ρ x (.val d)) := fun A env pins F P s R ok hp S => by
  refine wpAny_Assign_Name (wpAny_mono (h A env pins F P s R ok S) (fun v s₁ hp5 => ?_) fun _ _ x => x) (swaps_plain hv)
  obtain ⟨F₁, G₁, X₁, r⟩ := hp5
  exact wpAny_mono (store_val ok hp (S.grow G₁) hs hx r .next) (fun _ s' q => q.after G₁.step X₁) fun _ _ x => x

/-- a list that is new: its address stands nowhere else -/
noncomputable def EvNew (c : Cx) (n : Nat) (sc : Scope) (ρ : Vars) (e : Expr) (xs : List D) : Prop :=
  ∀ A env pins F P s, Room n A → EnvOk env sc → St c env pins ρ F P s.heap →
    wpAny (model c.prog c.w) A (eval e env) (fun v s' => ∃ F' a, Grow F s.heap F' s'.heap ∧ Same s s' ∧ v = .ref a ∧ s.heap.objs.size ≤ a ∧ F' a = none ∧ LstAt s'.heap F' xs a) (fun _ _ => False) s
theorem LstAt.lt {h : Heap} {F : Fz} {xs : List D} {a : Addr} (x : LstAt h F xs a) : a < h.objs.size := by
  obtain ⟨vs, ⟨n, p⟩, _⟩ := x; exact Heap.lt_size p
theorem LstAt.rd {h : Heap} {F : Fz} {xs : List D} {a : Addr} (x : LstAt h F xs a) (n : F a = none) : Rd (fun b => if b = a then h.get? b else F b) (.lst xs) (.ref a) := by
  obtain ⟨vs, ⟨k, p⟩, r⟩ := x
  refine .lst (by simp only [if_true]; exact p) rfl rfl (r.mono fun b o e => ?_)
  by_cases q : b = a
  · subst q; rw [n] at e; cases e
  · simp only [if_neg q]; exact e
theorem EvNew.ev {e : Expr} {xs : List D} (h : EvNew c n sc ρ e xs) : Ev c n sc ρ e (.lst xs) := fun A env pins F P s R ok S =>
  wpAny_mono (h A env pins F P s R ok S) (fun v s' hp6 => by
    obtain ⟨F', a, G, X, e1, e2, e3, l⟩ := hp6
    subst e1
    refine ⟨_, ⟨fun b o e => ?_, fun b o e => ?_, G.keep, fun b o e => ?_, G.size⟩, X, l.rd e3⟩
    · have := G.fle b o e
      have hne : b ≠ a := fun q => by subst q; rw [e3] at this; cases this
      simp only [if_neg hne]; exact this
    · by_cases q : b = a
      · subst q; exact .inr e2
      · simp only [if_neg q] at e; exact G.new b o e
    · by_cases q : b = a
      · subst q; simpa using e
      · simp only [if_neg q] at e; exact G.le b o e) fun _ _ x => x
theorem EvNew_List {es : List Expr} {pos : Pos} {ds : List D} (h : EvL c n sc ρ es ds) (hl : ds.length ≤ 1000) : EvNew c n sc ρ (.List es pos) ds := fun A env pins F P s R ok S => by
  refine List_ (wpAny_mono (h A env pins F P s R ok S pos) (fun vs s₁ hp7 => ?_) fun _ _ x => x)
  obtain ⟨F₁, G₁, X₁, r₁⟩ := hp7
  refine wpAny_newObj_type ⟨F₁, s₁.heap.objs.size, ⟨G₁.fle, G₁.new, fun a o e => Heap.get?_push_of_some _ (G₁.keep a o e), fun a o e => Heap.get?_push_of_some _ (G₁.le a o e), ?_⟩, X₁.trans ⟨_, _, rfl⟩, rfl, G₁.size, none_of_le G₁.le (Nat.le_refl _), ⟨_, ⟨0, Heap.get?_push_size _ rfl⟩, by simpa using r₁⟩⟩ ?_
  · show s.heap.objs.size ≤ (s₁.heap.push _).objs.size
    rw [Heap.size_push]; exact Nat.le_succ_of_le G₁.size
  · show vs.toArray.size ≤ sizeLine
    rw [List.size_toArray, r₁.length]; exact Nat.le_trans hl (by decide)
theorem ExS_assignNew {x : Str} {px pos : Pos} {value : Expr} {xs : List D} (h : EvNew c n sc ρ value xs) (hs : isSto sc x = true) (hx : x ∉ pn) (hv : plainVal value = true := by rfl) : ExS c n sc pn ρ (.Assign [.Name x px] value pos) .next (Vars.put ρ x (.lst xs)) := fun A env pins F P s R ok hp S => by
  refine wpAny_Assign_Name (wpAny_mono (h A env pins F P s R ok S) (fun v s₁ hp8 => ?_) fun _ _ x => x) (swaps_plain hv)
  obtain ⟨F₁, a, G₁, X₁, e1, e2, e3, l⟩ := hp8
  subst e1
  have hlt : ∀ b, P b → b < s.heap.objs.size := let ⟨_, _, S⟩ := S; S.lt
  obtain ⟨vm, fp, S₁⟩ := S.grow G₁
  have hPa : ¬ P a := fun q => Nat.not_lt.mpr e2 (hlt a q)
  refine store_var ok S₁.sto hs fun h' tk S' sb => ?_
  obtain ⟨P', S'', hP, hk, hz⟩ := S₁.store (.lst l) (by simp) (fun b q => by simp at q; subst q; exact e3) (fun b q z => by simp at q; subst q; exact hPa ((S₁.mem b).mpr (.inl z)))
    (fun y t e hy b q z => by simp at q; subst q; exact hPa ((S₁.mem b).mpr (.inr ⟨y, t, e, z⟩))) (hp ▸ hx) S' sb
  refine ⟨F₁, P', ⟨G₁.fle, fun b o e => (G₁.new b o e).imp id .inr, fun b o q e => hk b o q (G₁.keep b o e), fun b q => ?_, Nat.le_trans G₁.size (Nat.le_of_eq hz.symm)⟩, X₁.trans ⟨_, _, rfl⟩, S'', .next⟩
  rcases hP b q with q | q
  · exact .inl q
  · simp at q; subst q; exact .inr e2
end Mine
end

section
open PySem PySem.Calls PyProof.Rows PySem.W
set_option maxRecDepth 100000
set_option linter.unusedVariables false
namespace Mine
variable {c : Cx} {n : Nat} {sc : Scope} {pn : List Str} {ρ : Vars}

theorem mapSeq_plain (f : Array Value → Array Value) (its : Array Value) (k : Nat) : ∃ k', Obj.mapSeq f { cls := .type "list", data := .seq its k } = { cls := .type "list", data := .seq (f its) k' } := ⟨_, by simp [Obj.mapSeq]; rfl⟩

/-- an own object turns in its place -/
theorem StV.turn {env : Env} {pins : Pins} {F : Fz} {P : Addr → Prop} {h h' : Heap} {vm : Str → Option Value} {fp : Str → List Addr} (S : StV c env pins ρ F P h vm fp) {x : Str} {sl sl' : Slot} {v : Value}
    (hx : ρ.lookup x = some sl) (hv : vm x = some v) (O : Own h' F sl' v (fp x)) {b : Addr} (hb : b ∈ fp x) (sb : Heap.SameBut b h h') :
    StV c env pins (Vars.put ρ x sl') F P h' vm fp := by
  have ns : b ∉ stor env := S.aparts x sl hx b hb
  have keep : ∀ a o, a ≠ b → h.get? a = some o → h'.get? a = some o := fun a o q e => (sb.2 a q).trans e
  have dom : ∀ y t, (Vars.put ρ x sl').lookup y = some t → ∃ t', ρ.lookup y = some t' := fun y t e => by
    rw [lookup_put] at e
    by_cases hy : y = x
    · subst hy; exact ⟨_, hx⟩
    · rw [if_neg hy] at e; exact ⟨_, e⟩
  exact {
    base := S.base
    le := fun a o e => keep a o (fun z => by rw [z, S.out b ((S.mem b).mpr (.inr ⟨x, sl, hx, hb⟩))] at e; cases e) (S.le a o e)
    sto := ⟨let ⟨m, q, e⟩ := S.sto.loc; ⟨m, q.sameBut sb (fun z => ns (z ▸ .head _)), e⟩, fun y hy => let ⟨cc, e, i⟩ := S.sto.cel y hy; ⟨cc, e, i.sameBut sb fun z => ns (by rw [← z]; exact List.mem_cons_of_mem _ (List.mem_map_of_mem (f := (·.2)) (mem_of_lookup e)))⟩⟩
    own := fun y t e => by
      rw [lookup_put] at e
      by_cases hy : y = x
      · rw [if_pos hy] at e; cases e; subst hy; exact ⟨v, hv, O⟩
      · rw [if_neg hy] at e
        obtain ⟨w, e1, o⟩ := S.own y t e
        exact ⟨w, e1, o.mono (fun a ha o e' => keep a o (fun z => S.apart y t x sl e hx hy a ha (z ▸ hb)) e') (.refl _)⟩
    pin := S.pin
    mem := fun a => by
      rw [S.mem]
      constructor
      · rintro (q | ⟨y, t, e, q⟩)
        · exact .inl q
        · by_cases hy : y = x
          · exact .inr ⟨y, sl', by rw [lookup_put, if_pos hy], q⟩
          · exact .inr ⟨y, t, by rw [lookup_put, if_neg hy]; exact e, q⟩
      · rintro (q | ⟨y, t, e, q⟩)
        · exact .inl q
        · obtain ⟨t', e'⟩ := dom y t e; exact .inr ⟨y, t', e', q⟩
    lt := fun a q => by rw [sb.1]; exact S.lt a q
    out := S.out
    nd := fun y t e => let ⟨t', e'⟩ := dom y t e; S.nd y t' e'
    apart := fun y t z u e e' => let ⟨t', q⟩ := dom y t e; let ⟨u', q'⟩ := dom z u e'; S.apart y t' z u' q q'
    aparts := fun y t e => let ⟨t', e'⟩ := dom y t e; S.aparts y t' e' }
theorem StV.turnStep {env : Env} {pins : Pins} {F : Fz} {P : Addr → Prop} {h h' : Heap} {vm : Str → Option Value} {fp : Str → List Addr} (S : StV c env pins ρ F P h vm fp) {x : Str} {sl : Slot} (hx : ρ.lookup x = some sl) {b : Addr} (hb : b ∈ fp x) (sb : Heap.SameBut b h h') : Step F P h F P h' :=
  ⟨.refl _, fun _ _ e => .inl e, fun a o q e => (sb.2 a fun z => q ((S.mem a).mpr (.inr ⟨x, sl, hx, z ▸ hb⟩))).trans e, fun _ q => .inl q, Nat.le_of_eq sb.1.symm⟩
theorem StV.unpin {env : Env} {pins : Pins} {q : Str × Value} {F : Fz} {P : Addr → Prop} {h : Heap} {vm : Str → Option Value} {fp : Str → List Addr} (S : StV c env (q :: pins) ρ F P h vm fp) : StV c env pins ρ F P h vm fp :=
  { S with pin := fun r hr => S.pin r (.tail _ hr) }
theorem StV.lst {env : Env} {pins : Pins} {F : Fz} {P : Addr → Prop} {h : Heap} {vm : Str → Option Value} {fp : Str → List Addr} (S : StV c env pins ρ F P h vm fp) {x : Str} {xs : List D} (hx : ρ.lookup x = some (.lst xs)) : ∃ a, vm x = some (.ref a) ∧ fp x = [a] ∧ LstAt h F xs a := by
  obtain ⟨v, e, o⟩ := S.own x _ hx
  generalize hq : fp x = as at o
  cases o with
  | lst l => exact ⟨_, e, rfl, l⟩

variable (c) in
/-- an expression that turns own lists -/
noncomputable def EvX (n : Nat) (sc : Scope) (pn : List Str) (ρ : Vars) (e : Expr) (d : D) (ρ' : Vars) : Prop :=
  ∀ A env pins F P s, Room n A → EnvOk env sc → pins.map (·.1) = pn → St c env pins ρ F P s.heap →
    wpAny (model c.prog c.w) A (eval e env) (fun v s' => ∃ F' P', Step F P s.heap F' P' s'.heap ∧ Same s s' ∧ St c env pins ρ' F' P' s'.heap ∧ Rd F' d v) (fun _ _ => False) s
theorem EvX.of {e : Expr} {d : D} (h : Ev c n sc ρ e d) : EvX c n sc pn ρ e d ρ := fun A env pins F P s R ok hp S =>
  wpAny_mono (h A env pins F P s R ok S) (fun v s' hp1 => by obtain ⟨F', G, X, r⟩ := hp1; exact ⟨F', P, G.step, X, S.grow G, r⟩) fun _ _ x => x
theorem ExS_exprX {e : Expr} {pos : Pos} {ρ' : Vars} (h : EvX c n sc pn ρ e .none ρ') (hv : plainVal e = true := by rfl) (hi : sc.more.any (fun q => q.1 == ("interactive" : Str)) = false := by rfl) : ExS c n sc pn ρ (.Expr e pos) .next ρ' := fun A env pins F P s R ok hp S => by
  refine wpAny_Expr (wpAny_mono (h A env pins F P s R ok hp S) (fun v s' ⟨F', P', T, X, S', r⟩ => ?_) fun _ _ x => x) ?_ (swaps_plain hv)
  · cases r; exact ⟨F', P', T, X, S', .next⟩
  · unfold interactive; rw [ok.scope, ok.kind]; rfl
theorem ExS_assignX {x : Str} {px pos : Pos} {value : Expr} {d : D} {ρ₁ : Vars} (h : EvX c n sc pn ρ value d ρ₁) (hs : isSto sc x = true) (hx : x ∉ pn) (hv : plainVal value = true := by rfl) : ExS c n sc pn ρ (.Assign [.Name x px] value pos) .next (Vars.put ρ₁ x (.val d)) := fun A env pins F P s R ok hp S => by
  refine wpAny_Assign_Name (wpAny_mono (h A env pins F P s R ok hp S) (fun v s₁ hp3 => ?_) fun _ _ x => x) (swaps_plain hv)
  obtain ⟨F₁, P₁, T, X₁, S₁, r⟩ := hp3
  exact wpAny_mono (store_val ok hp S₁ hs hx r .next) (fun _ s' q => q.after T X₁) fun _ _ x => x
theorem EvX_Sub {value slice : Expr} {pos : Pos} {a i d : D} {ρ₁ : Vars} (hv : EvX c n sc pn ρ value a ρ₁) (hi : EvR c n sc ρ₁ slice i) (h : Itm c a i d) (hs : notSlice slice = true := by rfl) : EvX c n sc pn ρ (.Subscript value slice pos) d ρ₁ := fun A env pins F P s R ok hp S => by
  refine Subscript_ (wpAny_mono (hv A env pins F P s R ok hp S) (fun v s₁ hp4 => ?_) fun _ _ x => x)
  obtain ⟨F₁, P₁, T₁, X₁, S₁, r₁⟩ := hp4
  refine wpAny_mono (hi A env pins F₁ P₁ s₁ R ok S₁) (fun w s₂ hp5 => ?_) fun _ _ x => x
  obtain ⟨F₂, G₂, X₂, r₂⟩ := hp5
  refine wpAny_mono (h A F₂ s₂ v w value slice (R.le (Nat.zero_le _)) (S₁.grow G₂).base G₂.le (.fz (r₁.mono G₂.fle)) r₂ hs) (fun z s₃ q => ?_) fun _ _ x => x
  obtain ⟨F₃, G₃, X₃, r₃⟩ := q
  exact ⟨F₃, P₁, T₁.trans (G₂.trans G₃).step, X₁.trans (X₂.trans X₃), S₁.grow (G₂.trans G₃), r₃⟩

/-- the shape of a method's call -/
noncomputable def MethAt (o : Expr) (name : Str) (apos : Pos) (args : List Expr) (pos : Pos) : Prop :=
  ∀ env, ∃ pl, eval (.Call (.Attribute o name apos) args [] pos) env = (do
      let ov ← eval o env
      standAt apos.atName
      let (f, first) ← holding [ov] (getMethod ov name pl)
      callWith pos f first (backTo pos (starEach args env)) (backToKw pos (keywordEach [] env)))
theorem meth_open {M : Model} {A : Around} {E : Value → Shared → Prop} {s : Shared} {env : Env} {o : Expr} {name : Str} {apos pos : Pos} {args : List Expr} {Q : Value → Shared → Prop} (hm : MethAt o name apos args pos)
    (h : wpAny M A (eval o env) (fun ov s₁ => ∀ pl, wpAny M A (getMethod ov name pl) (fun fx s₂ => wpAny M A (callWith pos fx.1 fx.2 (backTo pos (starEach args env)) []) Q E s₂) E s₁) E s) :
    wpAny M A (eval (.Call (.Attribute o name apos) args [] pos) env) Q E s := by
  obtain ⟨pl, e⟩ := hm env
  exact methodCall_KW (pl := pl) (wpAny_mono h (fun ov s₁ h₁ => h₁ pl) fun _ _ x => x) e

theorem listMethod {M : Model} {A : Around} {E : Value → Shared → Prop} {s : Shared} {a : Addr} {its : Array Value} {name : Str} {id : String} {pl : Sem Bool} {Q : Value × List Value → Shared → Prop} (p : s.heap.PlainList a its) (slot : PySem.Slot "list" name id) (hty : typeOf (.builtin id) = pure (.type "method_descriptor")) (h : Q (.builtin id, [.ref a]) s) :
    wpAny M A (getMethod (.ref a) name pl) Q E s := by
  obtain ⟨k, e⟩ := p
  exact getMethod_builtin ⟨_, e, rfl⟩ PySem.F.plainAttrs_list slot hty (fun b q => by cases q; exact ⟨_, e, rfl⟩) h

theorem EvX_append {x : Str} {p apos pos : Pos} {e : Expr} {xs : List D} {d : D} {ρ₁ : Vars} (hx : ρ.lookup x = some (.lst xs)) (hl : isLoc sc x = true) (he : EvX c n sc (x :: pn) ρ e d ρ₁) (hx₁ : ρ₁.lookup x = some (.lst xs)) (hz : xs.length ≤ 100000) (hp : plainArg e = true := by rfl) (hm : MethAt (.Name x p) "append" apos [e] pos := by exact fun _ => ⟨_, rfl⟩) :
    EvX c n sc pn ρ (.Call (.Attribute (.Name x p) "append" apos) [e] [] pos) .none (Vars.put ρ₁ x (.lst (xs ++ [d]))) := fun A env pins F P s R ok hpn S => by
  have S0 := S
  obtain ⟨vm, fp, S⟩ := S
  obtain ⟨a, hv, hf, l⟩ := S.lst hx
  refine meth_open hm (load_var (h := s.heap) ok S.sto hl hv fun pl => ?_)
  obtain ⟨vs, pp, rr⟩ := l
  refine listMethod pp PySem.F.slot_list_append PySem.F.type_list_append ?_
  refine callWith_val (by rw [starEach_plain hp]; rfl) (fun b q => by cases q) ?_
  rw [starEach_plain hp]
  have pin' : ∀ q ∈ ((x, Value.ref a) :: pins : Pins), vm q.1 = some q.2 := fun q hq => by
    rcases List.mem_cons.mp hq with rfl | hq
    · exact hv
    · exact S.pin q hq
  have Sp : St c env ((x, .ref a) :: pins) ρ F P s.heap := ⟨vm, fp, { S with pin := pin' }⟩
  refine spliced_cons (wpAny_mono (he A env ((x, .ref a) :: pins) F P s R ok (by simp [hpn]) Sp) (fun v s₁ hp6 => ?_) fun _ _ x => x)
  obtain ⟨F₁, P₁, T₁, X₁, S₁, r₁⟩ := hp6
  refine spliced_nil ?_
  obtain ⟨vm₁, fp₁, S₁⟩ := S₁
  obtain ⟨a', hv₁, hf₁, vs₁, pp₁, rr₁⟩ := S₁.lst hx₁
  have : a' = a := by have e := S₁.pin (x, .ref a) (.head _); rw [hv₁] at e; cases e; rfl
  subst this
  show wpAny _ _ (call (.builtin "list.append") [.ref a', v]) _ _ _
  have hsz : vs₁.size ≤ sizeLine := by
    have e1 : vs₁.size = xs.length := by rw [← Array.length_toList]; exact rr₁.length
    have e2 : sizeLine = 16777216 := by decide
    omega
  refine wpAny_list_append_plain pp₁ (fun h' pl' sb => ?_) hsz
  have hm₁ : a' ∈ fp₁ x := by rw [hf₁]; exact .head _
  have O : Own h' F₁ (.lst (xs ++ [d])) (.ref a') (fp₁ x) := by rw [hf₁]; exact .lst ⟨_, pl', by rw [Array.toList_push]; exact rr₁.snoc r₁⟩
  have S₂ := S₁.turn hx₁ hv₁ O hm₁ sb
  exact ⟨F₁, P₁, T₁.trans (S₁.turnStep hx₁ hm₁ sb), X₁.trans ⟨_, _, rfl⟩, ⟨vm₁, fp₁, S₂.unpin⟩, .none⟩

theorem EvX_pop {x : Str} {p apos pos : Pos} {xs : List D} {d : D} (hx : ρ.lookup x = some (.lst (xs ++ [d]))) (hl : isLoc sc x = true) (hz : xs.length ≤ 100000) (hm : MethAt (.Name x p) "pop" apos [] pos := by exact fun _ => ⟨_, rfl⟩) :
    EvX c n sc pn ρ (.Call (.Attribute (.Name x p) "pop" apos) [] [] pos) d (Vars.put ρ x (.lst xs)) := fun A env pins F P s R ok hpn S => by
  obtain ⟨vm, fp, S⟩ := S
  obtain ⟨a, hv, hf, vs, ⟨k, pp⟩, rr⟩ := S.lst hx
  refine meth_open hm (load_var (h := s.heap) ok S.sto hl hv fun pl => ?_)
  refine listMethod ⟨k, pp⟩ PySem.F.slot_list_pop PySem.F.type_list_pop ?_
  have hlen : vs.toList.length = xs.length + 1 := by rw [rr.length]; simp
  have hsz : vs.size = xs.length + 1 := by rw [← Array.length_toList]; exact hlen
  obtain ⟨y, ey, ry⟩ := rr.get' (i := xs.length) (d := d) (by simp)
  have ey' : vs[vs.size - 1]? = some y := by rw [hsz, ← Array.getElem?_toList]; exact ey
  refine PySem.P.pop_list pp ey' ?_ ?_
  · have hm₁ : a ∈ fp x := by rw [hf]; exact .head _
    have sb : Heap.SameBut a s.heap (s.heap.update a (Obj.mapSeq fun xs => xs.eraseIdxIfInBounds (vs.size - 1))) := .update ..
    obtain ⟨k', ek⟩ := mapSeq_plain (fun xs => xs.eraseIdxIfInBounds (vs.size - 1)) vs k
    have hl' : (vs.eraseIdxIfInBounds (vs.size - 1)).toList = vs.toList.take xs.length := by
      have hb : vs.size - 1 < vs.size := by omega
      unfold Array.eraseIdxIfInBounds
      rw [dif_pos hb, Array.toList_eraseIdx]
      have e2 : vs.size - 1 = xs.length := by omega
      rw [e2, List.eraseIdx_eq_take_drop_succ]
      have : vs.toList.drop (xs.length + 1) = [] := List.drop_eq_nil_of_le (by omega)
      rw [this, List.append_nil]
    have O : Own (s.heap.update a (Obj.mapSeq fun xs => xs.eraseIdxIfInBounds (vs.size - 1))) F (.lst xs) (.ref a) (fp x) := by
      rw [hf]
      refine .lst ⟨vs.eraseIdxIfInBounds (vs.size - 1), ⟨k', ?_⟩, ?_⟩
      · rw [← ek]; exact Heap.get?_update_self _ pp (by rw [ek]; rfl)
      · rw [hl']
        have := rr.take xs.length
        simpa using this
    have S₂ := S.turn hx hv O hm₁ sb
    exact ⟨F, P, S.turnStep hx hm₁ sb, ⟨_, _, rfl⟩, ⟨vm, fp, S₂⟩, ry⟩
  · have e2 : sizeLine = 16777216 := by decide
    omega

theorem setItem_plain {A : Around} {E : Value → Shared → Prop} {s : Shared} {l : Addr} {items : Array Value} {k : Int} {t : Tok} {v : Value} {Q : Unit → Shared → Prop} (p : s.heap.PlainList l items)
    (h0 : 0 ≤ k) (hfit : k < 2 ^ 63) (hn : k < items.size)
    (hQ : ∀ h', h'.PlainList l (items.setIfInBounds k.toNat v) → Heap.SameBut l s.heap h' → Q () { s with heap := h' }) :
    wpAny (model c.prog c.w) A (setItem (.ref l) (.int k t) v) Q E s := by
  obtain ⟨ne, ho⟩ := p
  have hl : s.heap.IsList l items := ⟨_, ho, rfl, ne, rfl⟩
  unfold setItem
  try with_reducible refine wpAny_holding ?_
  first | refine wpAny_bind (wpAny_pure ?_) | skip
  refine wpAny_bind (wpAny_sequenceKey hl.typeIs (by decide) ?_)
  refine wpAny_bind (wpAny_callSpecial?_slot (name := Str.ofString "__setitem__") hl.typeIs slot_list_setitem
    (wpAny_call_entry slot_list_setitem hl.typeIs entry_list_setitem ?_ (args_list_setitem _ _ _)))
  show wpAny _ _ (Builtin.List.listSubscript? (.int k t) >>= _) _ _ s
  refine wpAny_bind (wpAny_listSubscript_int (fitsIndex_of h0 hfit) ?_)
  clear hfit
  obtain ⟨j, rfl⟩ := Int.eq_ofNat_of_zero_le h0
  have hj : j < items.size := by omega
  have hx' : items[j]? = some items[j] := Array.getElem?_eq_getElem hj
  show wpAny _ _ ((seqItemAt l j >>= fun r => pure (r.map (j, ·))) >>= _) _ _ s
  refine wpAny_bind (wpAny_bind (wpAny_seqItemAt ho rfl (wpAny_pure ?_)))
  rw [hx']
  show wpAny _ _ (setSeqItemAt l j v >>= _) _ _ s
  obtain ⟨n', hd'⟩ := mapSeq_plain (·.setIfInBounds j v) items ne
  have hfin : (s.heap.update l (Obj.mapSeq (·.setIfInBounds j v))).PlainList l (items.setIfInBounds j v) :=
    ⟨n', by rw [← hd']; exact Heap.get?_update_self _ ho (by rw [hd']; rfl)⟩
  refine wpAny_bind (wpAny_setSeqItemAt ho rfl ?_)
  first
    | exact wpAny_bind (wpAny_pure (wpAny_pure ⟨.none, rfl, wpAny_pure (hQ _ hfin (Heap.SameBut.update ..))⟩))
    | exact wpAny_pure ⟨.none, rfl, wpAny_pure (hQ _ hfin (Heap.SameBut.update ..))⟩

/-- x[i] = value -/
theorem ExS_setitem {x : Str} {p pos' pos : Pos} {ie value : Expr} {xs : List D} {i : Int} {d : D} (hx : ρ.lookup x = some (.lst xs)) (hl : isLoc sc x = true) (hv : Ev c n sc ρ value d) (hi : EvR c n sc ρ ie (.int i)) (h0 : 0 ≤ i) (h1 : i < xs.length) (hz : xs.length ≤ 100000) (hpl : plainVal value = true := by rfl) :
    ExS c n sc pn ρ (.Assign [.Subscript (.Name x p) ie pos'] value pos) .next (Vars.put ρ x (.lst (xs.set i.toNat d))) := fun A env pins F P s R ok hpn S => by
  refine wpAny_Assign_Subscript (wpAny_mono (hv A env pins F P s R ok S) (fun v s₁ hp7 => ?_) fun _ _ x => x) (swaps_plain hpl)
  obtain ⟨F₁, G₁, X₁, r₁⟩ := hp7
  obtain ⟨vm, fp, S₁⟩ := S.grow G₁
  obtain ⟨a, hva, hf, l⟩ := S₁.lst hx
  refine load_var (h := s₁.heap) ok S₁.sto hl hva ?_
  refine wpAny_mono (hi A env pins F₁ P s₁ R ok ⟨vm, fp, S₁⟩) (fun iv s₂ hp8 => ?_) fun _ _ x => x
  obtain ⟨F₂, G₂, X₂, r₂⟩ := hp8
  obtain ⟨t, rfl⟩ := r₂.int
  have l₂ := l.mono (G₂.keep a) G₂.fle
  obtain ⟨vs, pp, rr⟩ := l₂
  have e1 : vs.size = xs.length := by rw [← Array.length_toList]; exact rr.length
  have S₂ := S₁.grow G₂
  refine setItem_plain pp h0 (by omega) (by omega) fun h' pl' sb => ?_
  have hm₁ : a ∈ fp x := by rw [hf]; exact .head _
  have O : Own h' F₂ (.lst (xs.set i.toNat d)) (.ref a) (fp x) := by rw [hf]; exact .lst ⟨_, pl', by rw [Array.toList_setIfInBounds]; exact rr.set _ (r₁.mono G₂.fle)⟩
  exact ⟨F₂, P, (G₁.trans G₂).step.trans (S₂.turnStep hx hm₁ sb), X₁.trans (X₂.trans ⟨_, _, rfl⟩), ⟨vm, fp, S₂.turn hx hva O hm₁ sb⟩, .next⟩
end Mine
end

section
open PySem PySem.Calls PyProof.Rows PySem.W
set_option maxRecDepth 100000
set_option linter.unusedVariables false
namespace Mine
variable {c : Cx} {n : Nat} {sc : Scope} {pn : List Str} {ρ : Vars}

noncomputable def vmB : List (Str × Value) → (Str → Option Value) → Str → Option Value
  | [], f => f
  | (x, v) :: r, f => vmB r (fun y => if y = x then some v else f y)
theorem vmB_kinds (k : Str → Option NameKind) : ∀ (binds : List (Str × Value)) (m cm : Str → Option Value) (x : Str),
    (if k x = some .local then bindL k binds m x else bindC k binds cm x) = vmB binds (fun x => if k x = some .local then m x else cm x) x
  | [], m, cm, x => rfl
  | (y, v) :: r, m, cm, x => by
    unfold bindL bindC vmB
    rw [vmB_kinds k r]
    congr 1
    funext z
    by_cases hz : z = y
    · subst hz
      by_cases hk : k z = some .local
      · simp [hk]
      · simp [hk]
    · simp only [if_neg hz]
      by_cases hk : k y = some .local
      · simp [hk, hz]
      · simp [hk, hz]
theorem vmB_not : ∀ (binds : List (Str × Value)) (f : Str → Option Value) (x : Str), x ∉ binds.map (·.1) → vmB binds f x = f x
  | [], f, x, _ => rfl
  | (y, v) :: r, f, x, h => by
    unfold vmB
    rw [vmB_not r _ x fun q => h (.tail _ q), if_neg fun q => h (by rw [q]; exact .head _)]
theorem vmB_zip : ∀ (names : List Str) (vs : List Value) (f : Str → Option Value), names.Nodup → ∀ {x : Str} {v : Value}, (names.zip vs).lookup x = some v → vmB (names.zip vs) f x = some v
  | [], _, _, _, x, v, e => by simp at e
  | _ :: _, [], _, _, x, v, e => by simp at e
  | y :: r, w :: ws, f, nd, x, v, e => by
    obtain ⟨h1, h2⟩ := List.nodup_cons.mp nd
    simp only [List.zip_cons_cons] at e ⊢
    unfold vmB
    rw [List.lookup_cons] at e
    by_cases h : x = y
    · subst h
      simp only [beq_self_eq_true] at e
      cases e
      rw [vmB_not _ _ _ fun q => h1 ?_, if_pos rfl]
      obtain ⟨p, hp, e⟩ := List.mem_map.mp q
      rw [← e]; exact (List.of_mem_zip hp).1
    · have : (x == y) = false := by simpa using h
      rw [this] at e
      exact vmB_zip r ws _ h2 e

/-- a def as it stands in the heap under the call -/
structure IsFn (c : Cx) (fv : Value) (names : List Str) (body : List Stmt) (sc : Scope) : Prop where
  ex : ∃ fa o fd, fv = .ref fa ∧ c.hB.get? fa = some o ∧ o.data = .func fd ∧ fd.body = .stmts body ∧ fd.scope = sc ∧ fd.closure = [] ∧ fd.globals = mainGlobals ∧ fd.builtins = builtinsNs ∧
    c.hB.CodeRec fd.code fd.qualname ∧ ∀ vs : List Value, vs.length = names.length → bindArgs fd ⟨vs, []⟩ = pure (names.zip vs)
noncomputable def scOk (sc : Scope) (names : List Str) : Bool :=
  sc.kind == .function && !sc.isCoroutine && !sc.isGenerator && (names.all fun x => sc.names.lookup x == some .local || sc.names.lookup x == some .cell) && decide names.Nodup &&
    (sc.names.all fun q => !(q.2 == .free)) && decide ((cellsFrom 0 sc.names []).map (·.1)).Nodup

theorem cells_some {x : Str} {sc : Scope} {k : Nat} (h : sc.names.lookup x = some .cell) : ((cellsFrom k sc.names []).lookup x).isSome = true := cellsFrom_some _ _ _ (.inl h)
theorem enter_st {s s₁ : Shared} {env : Env} {binds : List (Str × Value)} {F : Fz} {ρ0 : Vars} {fp : Str → List Addr} {pins : Pins} (ok : EnvOk env sc)
    (X : InCallC s env.locals (bindL env.kindOf binds fun _ => none) env.cells (bindC env.kindOf binds fun _ => none) s₁) (hcells : ∀ x, sc.names.lookup x = some .cell → ∃ q, env.cells.lookup x = some q) (hnf : ∀ x, sc.names.lookup x ≠ some .free) (hcl : ∀ q ∈ env.cells, env.cells.lookup q.1 = some q.2)
    (hb : Fle c.hB.get? F) (l : Fle F s.heap.get?)
    (own : ∀ x sl, ρ0.lookup x = some sl → ∃ v, vmB binds (fun _ => none) x = some v ∧ Own s.heap F sl v (fp x)) (pin : ∀ q ∈ pins, vmB binds (fun _ => none) q.1 = some q.2)
    (out : ∀ x sl, ρ0.lookup x = some sl → ∀ a ∈ fp x, F a = none) (nd : ∀ x sl, ρ0.lookup x = some sl → (fp x).Nodup)
    (apart : ∀ x sl y t, ρ0.lookup x = some sl → ρ0.lookup y = some t → x ≠ y → ∀ a ∈ fp x, a ∉ fp y) :
    (∀ a ∈ stor env, s.heap.objs.size ≤ a) ∧ St c env pins ρ0 F (fun a => a ∈ stor env ∨ ∃ x sl, ρ0.lookup x = some sl ∧ a ∈ fp x) s₁.heap := by
  have kx : ∀ x, env.kindOf x = sc.names.lookup x := fun x => by unfold Env.kindOf; rw [ok.scope]
  have hst : ∀ a ∈ stor env, s.heap.objs.size ≤ a := fun a ha => by
    rcases List.mem_cons.mp ha with rfl | ha
    · exact X.toInCall.fresh
    · obtain ⟨q, hq, rfl⟩ := List.mem_map.mp ha
      exact Nat.le_of_lt (Nat.lt_of_le_of_lt X.toInCall.fresh (X.above q.1 q.2 hq))
  have lts : ∀ a ∈ stor env, a < s₁.heap.objs.size := fun a ha => by
    rcases List.mem_cons.mp ha with rfl | ha
    · exact X.toInCall.ns.lt
    · obtain ⟨q, hq, rfl⟩ := List.mem_map.mp ha
      exact (X.cell q.1 q.2 (hcl q hq)).lt
  have keep : Fle s.heap.get? s₁.heap.get? := X.toInCall.keep
  refine ⟨hst, fun x => if env.kindOf x = some .local then bindL env.kindOf binds (fun _ => none) x else bindC env.kindOf binds (fun _ => none) x, fp, ?_⟩
  have vmE : ∀ x, (if env.kindOf x = some .local then bindL env.kindOf binds (fun _ => none) x else bindC env.kindOf binds (fun _ => none) x) = vmB binds (fun _ => none) x := fun x => by
    rw [vmB_kinds]; congr 1; funext y; split <;> rfl
  exact {
    base := hb
    le := l.trans keep
    sto := ⟨⟨_, X.toInCall.ns, fun x hx => by simp only [if_pos hx]⟩, fun x hx => by
      rcases hx with hx | hx
      · obtain ⟨q, e⟩ := hcells x ((kx x).symm.trans hx)
        refine ⟨q, e, ?_⟩
        have hne : ¬ env.kindOf x = some .local := by rw [hx]; decide
        simp only [if_neg hne]
        exact X.cell x q e
      · exact absurd ((kx x).symm.trans hx) (hnf x)⟩
    own := fun x sl e => by
      obtain ⟨v, e1, o⟩ := own x sl e
      exact ⟨v, (vmE x).trans e1, o.mono (fun a _ => keep a) (.refl _)⟩
    pin := fun q hq => (vmE q.1).trans (pin q hq)
    mem := fun a => Iff.rfl
    lt := fun a q => by
      rcases q with q | ⟨x, sl, e, q⟩
      · exact lts a q
      · obtain ⟨v, _, o⟩ := own x sl e
        exact (o.mono (fun a _ => keep a) (.refl F)).lt a q
    out := fun a q => by
      rcases q with q | ⟨x, sl, e, q⟩
      · exact none_of_le l (hst a q)
      · exact out x sl e a q
    nd := nd
    apart := apart
    aparts := fun x sl e a ha q => by
      obtain ⟨v, _, o⟩ := own x sl e
      exact Nat.not_lt.mpr (hst a q) (o.lt a ha) }

noncomputable def Fl.res : Fl → D
  | .ret d | .retF d => d
  | _ => .none
variable (c) in
/-- a call that changes nothing old -/
noncomputable def FnP (n : Nat) (fv : Value) (ds : List D) (d : D) : Prop :=
  ∀ A F s vs, Room n A → Fle c.hB.get? F → Fle F s.heap.get? → RdL F ds vs → wpAny (model c.prog c.w) A (call fv vs []) (Gives F s d) (fun _ _ => False) s
variable (c) in
/-- .. whose value is a new list -/
noncomputable def FnF (n : Nat) (fv : Value) (ds : List D) (d : D) : Prop :=
  ∀ A F s vs, Room n A → Fle c.hB.get? F → Fle F s.heap.get? → RdL F ds vs → wpAny (model c.prog c.w) A (call fv vs []) (fun v s' => Gives F s d v s' ∧ ∃ a, v = .ref a ∧ s.heap.objs.size ≤ a) (fun _ _ => False) s
variable (c) in
/-- a call that turns its first argument, a list -/
noncomputable def FnM (n : Nat) (fv : Value) (xs : List D) (ds : List D) (xs' : List D) (d : D) : Prop :=
  ∀ A F s a vs, Room n A → Fle c.hB.get? F → Fle F s.heap.get? → F a = none → LstAt s.heap F xs a → RdL F ds vs →
    wpAny (model c.prog c.w) A (call fv (.ref a :: vs) []) (fun v s' => ∃ F', Fle F F' ∧ (∀ b o, F' b = some o → F b = some o ∨ s.heap.objs.size ≤ b) ∧ (∀ b o, b ≠ a → s.heap.get? b = some o → s'.heap.get? b = some o) ∧ Fle F' s'.heap.get? ∧ F' a = none ∧ LstAt s'.heap F' xs' a ∧ Same s s' ∧ s.heap.objs.size ≤ s'.heap.objs.size ∧ Rd F' d v) (fun _ _ => False) s
theorem FnM.le {m : Nat} {fv : Value} {xs ds xs' : List D} {d : D} (h : FnM c n fv xs ds xs' d) (hm : n ≤ m) : FnM c m fv xs ds xs' d := fun A F s a vs R => h A F s a vs (R.le hm)
theorem FnP.le {m : Nat} {fv : Value} {ds : List D} {d : D} (h : FnP c n fv ds d) (hm : n ≤ m) : FnP c m fv ds d := fun A F s vs R => h A F s vs (R.le hm)

theorem zip_own {F : Fz} {h : Heap} : ∀ {names : List Str} {ds : List D} {vs : List Value}, RdL F ds vs → ∀ {x : Str} {sl : Slot}, (names.zip (ds.map Slot.val)).lookup x = some sl → ∃ v, (names.zip vs).lookup x = some v ∧ Own h F sl v []
  | [], _, _, _, x, sl, e => by simp at e
  | _ :: _, _, _, .nil, x, sl, e => by simp at e
  | y :: r, d :: ds, v :: vs, .cons a q, x, sl, e => by
    simp only [List.map_cons, List.zip_cons_cons, List.lookup_cons] at e ⊢
    cases hx : x == y with
    | true => rw [hx] at e; cases e; exact ⟨v, rfl, .val a⟩
    | false => rw [hx] at e; exact zip_own q e

structure ScOk (sc : Scope) (names : List Str) : Prop where
  kind : sc.kind = .function
  co : sc.isCoroutine = false
  gen : sc.isGenerator = false
  par : ∀ x ∈ names, sc.names.lookup x = some .local ∨ sc.names.lookup x = some .cell
  nd : names.Nodup
  nofree : ∀ q ∈ sc.names, q.2 ≠ .free
  cells : ((cellsFrom 0 sc.names []).map (·.1)).Nodup
theorem scOk_of {names : List Str} (h : scOk sc names = true) : ScOk sc names := by
  unfold scOk at h
  simp only [Bool.and_eq_true, decide_eq_true_eq, List.all_eq_true, Bool.or_eq_true, beq_iff_eq, Bool.not_eq_true'] at h
  obtain ⟨⟨⟨⟨⟨⟨a, b⟩, d⟩, e⟩, f⟩, g⟩, k⟩ := h
  exact ⟨a, b, d, e, f, fun q hq => by have := g q hq; simpa using this, k⟩
theorem lookup_mem_fst {α : Type} : ∀ {l : List (Str × α)} {x : Str} {v : α}, l.lookup x = some v → (x, v) ∈ l := fun e => mem_of_lookup e

/-- the call's frame, for any arguments -/
theorem call_open {A : Around} {s : Shared} {fv : Value} {names : List Str} {body : List Stmt} {vals : List Value} {Q : Value → Shared → Prop} (hc : c.Ok) (hf : IsFn c fv names body sc) (hs : scOk sc names = true) (R : Room n A) (hk : Fle c.hB.get? s.heap.get?) (hl : vals.length = names.length)
    (h : ∀ env s₁, EnvOk env sc → InCallC s env.locals (bindL env.kindOf (names.zip vals) fun _ => none) env.cells (bindC env.kindOf (names.zip vals) fun _ => none) s₁ →
      (∀ x, sc.names.lookup x = some .cell → ∃ q, env.cells.lookup x = some q) → (∀ q ∈ env.cells, env.cells.lookup q.1 = some q.2) →
      wpAny (model c.prog c.w) (A.deeper env) (execs body env) (fun f s' => Q (match f with | .ret v => v | _ => .none) s') (fun _ _ => False) s₁) :
    wpAny (model c.prog c.w) A (call fv vals []) Q (fun _ _ => False) s := by
  obtain ⟨fa, o, fd, rfl, ho, hd, hb, rfl, hcl, hg, hbn, hcd, hbind⟩ := hf.ex
  have sk := scOk_of hs
  refine wpAny_call (codeAny_call_cells R.depth (hk _ _ ho) hd (hc.top.nolimit.keeps hk) (hcd.keeps hk) hb (hbind vals hl) hcl (fun x hx => ?_) (fun s₁ X => ?_) sk.co sk.gen sk.kind)
  · have hx' := (List.of_mem_zip (show (x.1, x.2) ∈ names.zip vals from hx)).1
    exact (sk.par x.1 hx').imp id fun q => ⟨q, cells_some q⟩
  · have cellsE : (callEnvC fd s.heap.objs.size fa).cells = cellsFrom (s.heap.objs.size + 1) fd.scope.names [] := rfl
    have hnames : ((cellsFrom (s.heap.objs.size + 1) fd.scope.names []).map (·.1)).Nodup := cellsFrom_names fd.scope.names 0 (s.heap.objs.size + 1) [] [] rfl ▸ sk.cells
    refine wpAny_mono (h (callEnvC fd s.heap.objs.size fa) s₁ ⟨rfl, sk.kind, hg, hbn, ?_⟩ X (fun x hx => ?_) fun q hq => ?_) (fun f s' q => q) fun _ _ x => x.elim
    · refine List.nodup_cons.mpr ⟨fun q => ?_, List.pairwise_map.mpr X.apart⟩
      obtain ⟨r, hr, e⟩ := List.mem_map.mp q
      have := X.above r.1 r.2 hr
      rw [e] at this; exact Nat.lt_irrefl _ this
    · exact Option.isSome_iff_exists.mp (cells_some hx)
    · exact lookup_of_mem_nodup hnames hq

theorem FnP_intro {fv : Value} {names : List Str} {body : List Stmt} {ds : List D} {fl : Fl} {ρ' : Vars} (hc : c.Ok) (hf : IsFn c fv names body sc) (hs : scOk sc names = true) (hl : ds.length = names.length) (hfl : fl ≠ .brk ∧ fl ≠ .cont)
    (h : Ex c n sc [] (names.zip (ds.map Slot.val)) body fl ρ') : FnP c (n + 1) fv ds fl.res := fun A F s vs R hb l r => by
  have sk := scOk_of hs
  have hlen : vs.length = names.length := r.length.trans hl
  refine wpAny_mono (wpAny_sz (Nat.le_refl s.heap.objs.size) (Q := fun v s' => ∃ F', Fle F F' ∧ (∀ a o, F' a = some o → F a = some o ∨ s.heap.objs.size ≤ a) ∧ Fle s.heap.get? s'.heap.get? ∧ Fle F' s'.heap.get? ∧ Same s s' ∧ Rd F' fl.res v) ?_) (fun v s' hp1 => by obtain ⟨z, F', a, b, d, e, f, g⟩ := hp1; exact ⟨F', ⟨a, b, d, e, z⟩, f, g⟩) fun _ _ x => x.2
  refine call_open hc hf hs R (hb.trans l) hlen fun env s₁ ok X hce hcl => ?_
  obtain ⟨hst, S⟩ := enter_st (c := c) (pins := []) (ρ0 := names.zip (ds.map Slot.val)) (fp := fun _ => []) ok X hce (fun x q => (sk.nofree _ (mem_of_lookup q)) rfl) hcl hb l
    (fun x sl e => let ⟨v, e1, o⟩ := zip_own (h := s.heap) r e; ⟨v, vmB_zip _ _ _ sk.nd e1, o⟩) (fun q hq => nomatch hq) (fun _ _ _ _ q => nomatch q) (fun _ _ _ => .nil) (fun _ _ _ _ _ _ _ _ q => nomatch q)
  refine wpAny_mono (h (A.deeper env) env [] F _ s₁ R.deeper ok rfl S) (fun f s' hp2 => ?_) fun _ _ x => x
  obtain ⟨F', P', T, Y, S', q⟩ := hp2
  have hP : ∀ a, (a ∈ stor env ∨ ∃ x sl, (names.zip (ds.map Slot.val)).lookup x = some sl ∧ a ∈ ([] : List Addr)) → s.heap.objs.size ≤ a := fun a q => by
    rcases q with q | ⟨_, _, _, q⟩
    · exact hst a q
    · cases q
  have keep : Fle s.heap.get? s₁.heap.get? := X.toInCall.keep
  obtain ⟨h₁, tk, rfl, _⟩ := X.done
  have fin : ∀ v, Rd F' fl.res v → ∃ F', Fle F F' ∧ (∀ a o, F' a = some o → F a = some o ∨ s.heap.objs.size ≤ a) ∧ Fle s.heap.get? s'.heap.get? ∧ Fle F' s'.heap.get? ∧ Same s s' ∧ Rd F' fl.res v := fun v rv => by
    refine ⟨F', T.fle, fun a o e => ?_, fun a o e => ?_, S'.le, Same.trans ⟨_, _, rfl⟩ Y, rv⟩
    · rcases T.new a o e with q | q | q
      · exact .inl q
      · exact .inr (hP a q)
      · have g : env.locals < h₁.objs.size := X.toInCall.ns.lt
        have q' : h₁.objs.size ≤ a := q
        exact .inr (Nat.le_trans (Nat.le_trans X.toInCall.fresh (Nat.le_of_lt g)) q')
    · exact T.keep a o (fun q => Nat.not_lt.mpr (hP a q) (Heap.lt_size e)) (keep a o e)
  cases q with
  | next => exact fin _ .none
  | brk => exact absurd rfl hfl.1
  | cont => exact absurd rfl hfl.2
  | ret rv => exact fin _ rv
  | retF rv _ => exact fin _ rv
end Mine
end

section
open PySem PySem.Calls PyProof.Rows PySem.W
set_option maxRecDepth 100000
set_option linter.unusedVariables false
namespace Mine
variable {c : Cx} {n : Nat} {sc : Scope} {pn : List Str} {ρ : Vars}

theorem FnM_intro {fv : Value} {n0 : Str} {names : List Str} {body : List Stmt} {xs xs' ds : List D} {fl : Fl} {ρ' : Vars} (hc : c.Ok) (hf : IsFn c fv (n0 :: names) body sc) (hs : scOk sc (n0 :: names) = true) (hl : ds.length = names.length) (hfl : fl ≠ .brk ∧ fl ≠ .cont)
    (h : Ex c n sc [n0] ((n0, .lst xs) :: names.zip (ds.map Slot.val)) body fl ρ') (hx' : ρ'.lookup n0 = some (.lst xs')) : FnM c (n + 1) fv xs ds xs' fl.res := fun A F s a vs R hb l ha L r => by
  have sk := scOk_of hs
  have hnd := List.nodup_cons.mp sk.nd
  have hlen : (Value.ref a :: vs).length = (n0 :: names).length := by simp [r.length, hl]
  refine wpAny_mono (wpAny_sz (Nat.le_refl s.heap.objs.size) (Q := fun v s' => ∃ F', Fle F F' ∧ (∀ b o, F' b = some o → F b = some o ∨ s.heap.objs.size ≤ b) ∧ (∀ b o, b ≠ a → s.heap.get? b = some o → s'.heap.get? b = some o) ∧ Fle F' s'.heap.get? ∧ F' a = none ∧ LstAt s'.heap F' xs' a ∧ Same s s' ∧ Rd F' fl.res v) ?_)
    (fun v s' hp1 => by obtain ⟨z, F', x1, x2, x3, x4, x5, x6, x7, x8⟩ := hp1; exact ⟨F', x1, x2, x3, x4, x5, x6, x7, z, x8⟩) fun _ _ x => x.2
  refine call_open hc hf hs R (hb.trans l) hlen fun env s₁ ok X hce hcl => ?_
  have hbinds : (n0 :: names).zip (Value.ref a :: vs) = (n0, Value.ref a) :: names.zip vs := rfl
  have hlook : ∀ x sl, ((n0, Slot.lst xs) :: names.zip (ds.map Slot.val)).lookup x = some sl → ∃ v, vmB ((n0 :: names).zip (Value.ref a :: vs)) (fun _ => none) x = some v ∧ Own s.heap F sl v (if x = n0 then [a] else []) := fun x sl e => by
    rw [List.lookup_cons] at e
    by_cases hx : x = n0
    · subst hx
      simp only [beq_self_eq_true] at e
      cases e
      exact ⟨.ref a, vmB_zip _ _ _ sk.nd (by simp), by rw [if_pos rfl]; exact .lst L⟩
    · have hb' : (x == n0) = false := by simpa using hx
      rw [hb'] at e
      obtain ⟨v, e1, o⟩ := zip_own (h := s.heap) r e
      exact ⟨v, vmB_zip _ _ _ sk.nd (by rw [hbinds, List.lookup_cons, hb']; exact e1), by rw [if_neg hx]; exact o⟩
  obtain ⟨hst, S⟩ := enter_st (c := c) (pins := [(n0, .ref a)]) (ρ0 := (n0, .lst xs) :: names.zip (ds.map Slot.val)) (fp := fun x => if x = n0 then [a] else []) ok X hce (fun x q => (sk.nofree _ (mem_of_lookup q)) rfl) hcl hb l hlook
    (fun q hq => by
      rw [List.mem_singleton.mp hq]
      exact vmB_zip _ _ _ sk.nd (by simp))
    (fun x sl e b hb => by
      by_cases hx : x = n0
      · rw [if_pos hx] at hb; rw [List.mem_singleton.mp hb]; exact ha
      · rw [if_neg hx] at hb; cases hb)
    (fun x sl e => by split <;> simp)
    (fun x sl y t e e' hne b hb => by
      by_cases hx : x = n0
      · have hy : y ≠ n0 := fun q => hne (hx.trans q.symm)
        rw [if_neg hy]; exact fun q => nomatch q
      · rw [if_neg hx] at hb; cases hb)
  refine wpAny_mono (h (A.deeper env) env [(n0, .ref a)] F _ s₁ R.deeper ok rfl S) (fun f s' hp2 => ?_) fun _ _ x => x
  obtain ⟨F', P', T, Y, S', q⟩ := hp2
  have hP : ∀ b, (b ∈ stor env ∨ ∃ x sl, ((n0, Slot.lst xs) :: names.zip (ds.map Slot.val)).lookup x = some sl ∧ b ∈ (if x = n0 then [a] else [])) → b = a ∨ s.heap.objs.size ≤ b := fun b q => by
    rcases q with q | ⟨x, _, _, q⟩
    · exact .inr (hst b q)
    · by_cases hx : x = n0
      · rw [if_pos hx] at q; exact .inl (List.mem_singleton.mp q)
      · rw [if_neg hx] at q; cases q
  have keep : Fle s.heap.get? s₁.heap.get? := X.toInCall.keep
  obtain ⟨h₁, tk, rfl, _⟩ := X.done
  obtain ⟨vm', fp', S''⟩ := S'
  obtain ⟨a', e1, e2, L'⟩ := S''.lst hx'
  have haa : a' = a := by have e := S''.pin (n0, .ref a) (.head _); rw [e1] at e; cases e; rfl
  subst haa
  have ha' : F' a' = none := S''.out a' ((S''.mem a').mpr (.inr ⟨n0, _, hx', by rw [e2]; exact .head _⟩))
  have fin : ∀ v, Rd F' fl.res v → ∃ F', Fle F F' ∧ (∀ b o, F' b = some o → F b = some o ∨ s.heap.objs.size ≤ b) ∧ (∀ b o, b ≠ a' → s.heap.get? b = some o → s'.heap.get? b = some o) ∧ Fle F' s'.heap.get? ∧ F' a' = none ∧ LstAt s'.heap F' xs' a' ∧ Same s s' ∧ Rd F' fl.res v := fun v rv => by
    refine ⟨F', T.fle, fun b o e => ?_, fun b o hne e => ?_, S''.le, ha', L', Same.trans ⟨_, _, rfl⟩ Y, rv⟩
    · rcases T.new b o e with q | q | q
      · exact .inl q
      · rcases hP b q with rfl | q
        · rw [ha'] at e; cases e
        · exact .inr q
      · have g : env.locals < h₁.objs.size := X.toInCall.ns.lt
        have q' : h₁.objs.size ≤ b := q
        exact .inr (Nat.le_trans (Nat.le_trans X.toInCall.fresh (Nat.le_of_lt g)) q')
    · exact T.keep b o (fun q => (hP b q).elim hne fun q => Nat.not_lt.mpr q (Heap.lt_size e)) (keep b o e)
  cases q with
  | next => exact fin _ .none
  | brk => exact absurd rfl hfl.1
  | cont => exact absurd rfl hfl.2
  | ret rv => exact fin _ rv
  | retF rv _ => exact fin _ rv

theorem fn_at {fv : Value} {names : List Str} {body : List Stmt} (hf : IsFn c fv names body sc) {h : Heap} (hk : Fle c.hB.get? h.get?) : ∃ fa o fd, fv = .ref fa ∧ h.get? fa = some o ∧ o.data = .func fd := by
  obtain ⟨fa, o, fd, e1, e2, e3, _⟩ := hf.ex
  exact ⟨fa, o, fd, e1, hk _ _ e2, e3⟩
/-- a def that is called by its name -/
structure Callee (c : Cx) (f : Str) (fv : Value) : Prop where
  glb : Glb c f fv
  fn : ∃ fa o fd, fv = .ref fa ∧ c.hB.get? fa = some o ∧ o.data = .func fd
theorem Ev_callP {f : Str} {p pos : Pos} {args : List Expr} {fv : Value} {ds : List D} {d : D} (hc : c.Ok) (hg : Callee c f fv) (h : FnP c n fv ds d) (hi : isGlb sc f = true) (ha : EvL c n sc ρ args ds) (hp : args.all plainArg = true := by rfl) :
    Ev c n sc ρ (.Call (.Name f p) args [] pos) d := fun A env pins F P s R ok S => by
  refine wpAny_Call_Name_kw (load_glob hc ok S.keep hi hg.glb ?_)
  obtain ⟨fa, o, fd, rfl, e2, e3⟩ := hg.fn
  show wpAny _ _ (callWith pos (.ref fa) [] (backTo pos (starEach args env)) []) _ _ _
  refine callWith_fn (starFalse hp) (wpAny_mono (ha A env pins F P s R ok S pos) (fun vs s₁ ⟨F₁, G₁, X₁, r₁⟩ => ⟨⟨o, fd, (S.grow G₁).keep _ _ e2, e3⟩, ?_⟩) fun _ _ x => x)
  exact wpAny_mono (h A F₁ s₁ vs R (S.grow G₁).base G₁.le r₁) (fun z s₃ q => q.after G₁ X₁) fun _ _ x => x
theorem EvX_callM {f x : Str} {p px pos : Pos} {args : List Expr} {fv : Value} {xs xs' ds : List D} {d : D} (hc : c.Ok) (hg : Callee c f fv) (h : FnM c n fv xs ds xs' d) (hi : isGlb sc f = true) (hx : ρ.lookup x = some (.lst xs)) (hl : isLoc sc x = true) (ha : EvL c n sc ρ args ds) (hp : args.all plainArg = true := by rfl) :
    EvX c n sc pn ρ (.Call (.Name f p) (.Name x px :: args) [] pos) d (Vars.put ρ x (.lst xs')) := fun A env pins F P s R ok hpn S => by
  refine wpAny_Call_Name_kw (load_glob hc ok S.keep hi hg.glb ?_)
  obtain ⟨fa, o, fd, rfl, e2, e3⟩ := hg.fn
  show wpAny _ _ (callWith pos (.ref fa) [] (backTo pos (starEach (.Name x px :: args) env)) []) _ _ _
  have S0 := S
  obtain ⟨vm, fp, S⟩ := S
  obtain ⟨a, hv, hf, L⟩ := S.lst hx
  refine callWith_fn (starFalse (by simp [plainArg, hp])) ?_
  refine spliced_cons (load_var (h := s.heap) ok S.sto hl hv ?_)
  refine wpAny_mono (ha A env pins F P s R ok S0 pos) (fun vs s₁ ⟨F₁, G₁, X₁, r₁⟩ => ⟨⟨o, fd, (S0.grow G₁).keep _ _ e2, e3⟩, ?_⟩) fun _ _ x => x
  have S₁ := S.grow G₁
  have hm : a ∈ fp x := by rw [hf]; exact .head _
  have hPa : P a := (S₁.mem a).mpr (.inr ⟨x, _, hx, hm⟩)
  refine wpAny_mono (h A F₁ s₁ a vs R S₁.base G₁.le (S₁.out a hPa) (L.mono (G₁.keep a) G₁.fle) r₁) (fun v s₂ hp5 => ?_) fun _ _ x => x
  obtain ⟨F₂, x1, x2, x3, x4, x5, x6, x7, x8, x9⟩ := hp5
  refine ⟨F₂, P, G₁.step.trans ⟨x1, fun b o e => (x2 b o e).imp id .inr, fun b o q e => x3 b o (fun z => q (z ▸ hPa)) e, fun _ q => .inl q, x8⟩, X₁.trans x7, ⟨vm, fp, ?_⟩, x9⟩
  have keepS : ∀ b o, b ∈ stor env → s₁.heap.get? b = some o → s₂.heap.get? b = some o := fun b o hb e => x3 b o (fun z => S.aparts x _ hx a hm (z ▸ hb)) e
  have dom : ∀ y t, (Vars.put ρ x (.lst xs')).lookup y = some t → ∃ t', ρ.lookup y = some t' := fun y t e => by
    rw [lookup_put] at e
    by_cases hy : y = x
    · subst hy; exact ⟨_, hx⟩
    · rw [if_neg hy] at e; exact ⟨_, e⟩
  exact {
    base := S₁.base.trans x1
    le := x4
    sto := ⟨let ⟨m, q, e⟩ := S₁.sto.loc; ⟨m, q.at fun o e => keepS _ o (.head _) e, e⟩, fun y hy => let ⟨cc, e, ⟨o, i, j⟩⟩ := S₁.sto.cel y hy; ⟨cc, e, ⟨o, keepS _ _ (List.mem_cons_of_mem _ (List.mem_map_of_mem (f := (·.2)) (mem_of_lookup e))) i, j⟩⟩⟩
    own := fun y t e => by
      rw [lookup_put] at e
      by_cases hy : y = x
      · rw [if_pos hy] at e; cases e; subst hy; exact ⟨_, hv, by rw [hf]; exact .lst x6⟩
      · rw [if_neg hy] at e
        obtain ⟨w, e1, o⟩ := S₁.own y t e
        exact ⟨w, e1, o.mono (fun b hb o e' => x3 b o (fun z => S.apart y t x _ e hx hy b hb (by rw [z]; exact hm)) e') x1⟩
    pin := S₁.pin
    mem := fun b => by
      rw [S₁.mem]
      constructor
      · rintro (q | ⟨y, t, e, q⟩)
        · exact .inl q
        · by_cases hy : y = x
          · exact .inr ⟨y, .lst xs', by rw [lookup_put, if_pos hy], q⟩
          · exact .inr ⟨y, t, by rw [lookup_put, if_neg hy]; exact e, q⟩
      · rintro (q | ⟨y, t, e, q⟩)
        · exact .inl q
        · obtain ⟨t', e'⟩ := dom y t e; exact .inr ⟨y, t', e', q⟩
    lt := fun b q => Nat.lt_of_lt_of_le (S₁.lt b q) x8
    out := fun b q => by
      cases e : F₂ b with
      | none => rfl
      | some o =>
        rcases x2 b o e with z | z
        · rw [S₁.out b q] at z; cases z
        · exact absurd (S₁.lt b q) (Nat.not_lt.mpr z)
    nd := fun y t e => let ⟨t', e'⟩ := dom y t e; S₁.nd y t' e'
    apart := fun y t z u e e' => let ⟨t', q⟩ := dom y t e; let ⟨u', q'⟩ := dom z u e'; S₁.apart y t' z u' q q'
    aparts := fun y t e => let ⟨t', e'⟩ := dom y t e; S₁.aparts y t' e' }

variable (c) in
inductive WhileR (n : Nat) (sc : Scope) (pn : List Str) (test : Expr) (body : List Stmt) : Nat → Vars → Fl → Vars → Prop
  | done {k : Nat} {ρ : Vars} : Te c n sc ρ test false → WhileR n sc pn test body (k + 1) ρ .next ρ
  | next {k : Nat} {ρ ρ₁ ρ' : Vars} {fl : Fl} : Te c n sc ρ test true → Ex c n sc pn ρ body .next ρ₁ → WhileR n sc pn test body k ρ₁ fl ρ' → WhileR n sc pn test body (k + 1) ρ fl ρ'
  | cont {k : Nat} {ρ ρ₁ ρ' : Vars} {fl : Fl} : Te c n sc ρ test true → Ex c n sc pn ρ body .cont ρ₁ → WhileR n sc pn test body k ρ₁ fl ρ' → WhileR n sc pn test body (k + 1) ρ fl ρ'
  | brk {k : Nat} {ρ ρ' : Vars} : Te c n sc ρ test true → Ex c n sc pn ρ body .brk ρ' → WhileR n sc pn test body (k + 1) ρ .next ρ'
  | ret {k : Nat} {ρ ρ' : Vars} {d : D} : Te c n sc ρ test true → Ex c n sc pn ρ body (.ret d) ρ' → WhileR n sc pn test body (k + 1) ρ (.ret d) ρ'
theorem ExS_while {test : Expr} {body : List Stmt} {pos : Pos} {k : Nat} {fl : Fl} {ρ' : Vars} (h : WhileR c n sc pn test body k ρ fl ρ') : ExS c n sc pn ρ (.While test body [] pos) fl ρ' := fun A env pins F P s R ok hp S => by
  refine wpAny_While (codeAny_whileLoop (fun k s' => ∃ ρ₁ F₁ P₁, Step F P s.heap F₁ P₁ s'.heap ∧ Same s s' ∧ St c env pins ρ₁ F₁ P₁ s'.heap ∧ WhileR c n sc pn test body k ρ₁ fl ρ') ?_ k ⟨ρ, F, P, .refl, .refl s, S, h⟩)
  rintro k s₁ ⟨ρ₁, F₁, P₁, T₁, X₁, S₁, W⟩
  cases W with
  | done ht =>
    refine wpAny_mono (ht A env pins F₁ P₁ s₁ R ok S₁) (fun b s₂ hp6 => ?_) fun _ _ x => x.elim
    obtain ⟨e, F₂, G₂, X₂⟩ := hp6
    subst e
    exact wpAny_execs_nil ⟨F₂, P₁, T₁.trans G₂.step, X₁.trans X₂, S₁.grow G₂, .next⟩
  | next ht hb W =>
    refine wpAny_mono (ht A env pins F₁ P₁ s₁ R ok S₁) (fun b s₂ hp7 => ?_) fun _ _ x => x.elim
    obtain ⟨e, F₂, G₂, X₂⟩ := hp7
    subst e
    refine wpAny_mono (hb A env pins F₂ P₁ s₂ R ok hp (S₁.grow G₂)) (fun f s₃ hp8 => ?_) fun _ _ x => x.elim
    obtain ⟨F₃, P₃, T₃, X₃, S₃, q⟩ := hp8
    cases q
    exact ⟨_, Nat.lt_succ_self _, _, F₃, P₃, T₁.trans (G₂.step.trans T₃), X₁.trans (X₂.trans X₃), S₃, W⟩
  | cont ht hb W =>
    refine wpAny_mono (ht A env pins F₁ P₁ s₁ R ok S₁) (fun b s₂ hp9 => ?_) fun _ _ x => x.elim
    obtain ⟨e, F₂, G₂, X₂⟩ := hp9
    subst e
    refine wpAny_mono (hb A env pins F₂ P₁ s₂ R ok hp (S₁.grow G₂)) (fun f s₃ hp10 => ?_) fun _ _ x => x.elim
    obtain ⟨F₃, P₃, T₃, X₃, S₃, q⟩ := hp10
    cases q
    exact ⟨_, Nat.lt_succ_self _, _, F₃, P₃, T₁.trans (G₂.step.trans T₃), X₁.trans (X₂.trans X₃), S₃, W⟩
  | brk ht hb =>
    refine wpAny_mono (ht A env pins F₁ P₁ s₁ R ok S₁) (fun b s₂ hp11 => ?_) fun _ _ x => x.elim
    obtain ⟨e, F₂, G₂, X₂⟩ := hp11
    subst e
    refine wpAny_mono (hb A env pins F₂ P₁ s₂ R ok hp (S₁.grow G₂)) (fun f s₃ hp12 => ?_) fun _ _ x => x.elim
    obtain ⟨F₃, P₃, T₃, X₃, S₃, q⟩ := hp12
    cases q
    exact ⟨F₃, P₃, T₁.trans (G₂.step.trans T₃), X₁.trans (X₂.trans X₃), S₃, .next⟩
  | ret ht hb =>
    refine wpAny_mono (ht A env pins F₁ P₁ s₁ R ok S₁) (fun b s₂ hp13 => ?_) fun _ _ x => x.elim
    obtain ⟨e, F₂, G₂, X₂⟩ := hp13
    subst e
    refine wpAny_mono (hb A env pins F₂ P₁ s₂ R ok hp (S₁.grow G₂)) (fun f s₃ hp14 => ?_) fun _ _ x => x.elim
    obtain ⟨F₃, P₃, T₃, X₃, S₃, q⟩ := hp14
    cases q with
    | ret q => exact ⟨F₃, P₃, T₁.trans (G₂.step.trans T₃), X₁.trans (X₂.trans X₃), S₃, .ret q⟩
end Mine
end

section
open PySem PySem.Calls PyProof.Rows PySem.W
set_option maxRecDepth 100000
set_option linter.unusedVariables false
namespace Mine
variable {c : Cx} {n : Nat} {sc : Scope} {pn : List Str} {ρ : Vars}

/-- what a loop draws from a datum -/
noncomputable def D.items : D → Option (List D)
  | .lst xs | .tup xs => some xs
  | .str x => some (x.cps.toList.map fun cp => .str ⟨#[cp]⟩)
  | .rng a b => some ((List.range (b - a).toNat).map fun i => .int (a + (i : Nat)))
  | _ => Option.none
/-- range's ends are small -/
noncomputable def D.small : D → Bool
  | .rng a b => decide (-1000000 ≤ a) && decide (a ≤ 1000000) && decide (-1000000 ≤ b) && decide (b ≤ 1000000)
  | _ => true

/-- an iterator at hand: I its address; what it leans on stays -/
structure IterAt (c : Cx) (F : Fz) (h : Heap) (I : Addr) (xs : List D) (W : Nat → Heap → Prop) (own : Addr → Prop) : Prop where
  next : ∃ P fp, (∀ A : Around, A.handled = none → Walks c.prog c.w A I fp [I] xs.length P W) ∧ (∀ b ∈ fp, b = I ∨ own b) ∧ ∀ i v, i < xs.length → P i v → ∃ d, xs[i]? = some d ∧ Rd F d v
  st : W 0 h
/-- a Tuple target upon a list -/
noncomputable def TupGo (c : Cx) (I : Addr) (W : Nat → Heap → Prop) : Prop :=
  ∀ (A' : Around) (E' : Value → Shared → Prop) (s' : Shared) (i : Nat) (elts : List Expr) (k : Nat) (p : Pos) (t : Addr) (Q' : Unit → Shared → Prop), W i s'.heap → Q' () s' → wpAny (model c.prog c.w) A' (letOwnedTupleGo (.Tuple elts k p) (.ref I) (.ref t)) Q' E' s'
noncomputable def D.isLst : D → Bool
  | .lst _ => true
  | _ => false

theorem iter_open {A : Around} {E : Value → Shared → Prop} {s : Shared} {F : Fz} {d : D} {v : Value} {xs : List D} {Q : Value → Shared → Prop} (l : Fle F s.heap.get?) (r : Rd1 s.heap F d v) (hx : d.items = some xs) (hs : d.small = true)
    (hQ : ∀ o W, IterAt c F (s.heap.push o) s.heap.objs.size xs W (fun a => v = .ref a) → (d.isLst = true → TupGo c s.heap.objs.size W) → Q (.ref s.heap.objs.size) { s with heap := s.heap.push o }) :
    wpAny (model c.prog c.w) A (pyIter v) Q E s := by
  cases d with
  | none => cases hx
  | bool b => cases hx
  | int i => cases hx
  | inst C fs => cases hx
  | opq a => cases hx
  | lst ys =>
    cases hx
    obtain ⟨a, vs, rfl, il, q⟩ := r.lst l
    have hlt : a ≠ s.heap.objs.size := by obtain ⟨o, ho, _⟩ := il; exact Nat.ne_of_lt (Heap.lt_size ho)
    have e1 : vs.size = xs.length := by rw [← Array.length_toList]; exact q.length
    refine wpAny_pyIter_list il (hQ _ (fun i h => h.IsListIter s.heap.objs.size a i ∧ h.IsList a vs) ⟨⟨fun i v => vs[i]? = some v, [s.heap.objs.size, a], fun A hA => e1 ▸ Walks.list hA _ a hlt vs, fun b hb => ?_, fun i v _ e => ?_⟩, ⟨⟨_, Heap.get?_push_size _ rfl, rfl, rfl⟩, il.push _⟩⟩ fun _ A' E' s' i elts k p t Q' hw hq => wpAny_letOwnedTupleGo_listiter hw.1 hq)
    · simp at hb; rcases hb with rfl | rfl
      · exact .inl rfl
      · exact .inr rfl
    · exact q.get (by rw [Array.getElem?_toList]; exact e)
  | tup ys =>
    cases hx
    obtain ⟨a, o, vs, k, rfl, g1, g2, g3, q⟩ := r.tup l
    have it : s.heap.IsTuple a vs := ⟨o, g1, g2, k, g3⟩
    have hlt : a ≠ s.heap.objs.size := Nat.ne_of_lt (Heap.lt_size g1)
    have e1 : vs.size = xs.length := by rw [← Array.length_toList]; exact q.length
    refine wpAny_pyIter_tuple it (hQ _ (fun i h => h.IsTupleIter s.heap.objs.size a i ∧ h.IsTuple a vs) ⟨⟨fun i v => vs[i]? = some v, [s.heap.objs.size, a], fun A hA => e1 ▸ Walks.tuple hA _ a hlt vs, fun b hb => ?_, fun i v _ e => ?_⟩, ⟨⟨_, Heap.get?_push_size _ rfl, rfl, rfl⟩, it.push _⟩⟩ fun q => nomatch q)
    · simp at hb; rcases hb with rfl | rfl
      · exact .inl rfl
      · exact .inr rfl
    · exact q.get (by rw [Array.getElem?_toList]; exact e)
  | str x =>
    cases hx
    obtain ⟨t, rfl⟩ := r.str
    have e1 : x.cps.size = (x.cps.toList.map fun cp => D.str ⟨#[cp]⟩).length := by simp
    refine wpAny_pyIter_str fun o W hW h0 => hQ o W ⟨⟨SignAt x, [s.heap.objs.size], fun A hA => e1 ▸ hW A hA, fun b hb => ?_, fun i v _ hv => ?_⟩, h0⟩ fun q => nomatch q
    · simp at hb; exact .inl hb
    · obtain ⟨cp, u, g1, rfl⟩ := hv
      exact ⟨.str ⟨#[cp]⟩, by rw [List.getElem?_map, Array.getElem?_toList, g1]; rfl, .str _ _⟩
  | rng a b =>
    cases hx
    cases r with
    | fz r =>
      cases r with
      | rng q =>
        have hr := l _ _ q
        unfold D.small at hs
        simp only [Bool.and_eq_true, decide_eq_true_eq] at hs
        have sm : Builtin.Range.small a b 1 = true := small_one (by omega) (by omega) (by omega) (by omega)
        have e0 : Builtin.Range.rangeSize a b 1 = (((b - a).toNat : Nat) : Int) := by rw [rangeSize_one]; split <;> omega
        have e1 : (b - a).toNat = ((List.range (b - a).toNat).map fun i => D.int (a + (i : Nat))).length := by simp
        refine wpAny_pyIter_range hr sm (hQ _ (fun i h => IsRangeIter h s.heap.objs.size (a + (i : Nat) * 1) (((b - a).toNat : Int) - (i : Nat)) 1) ⟨⟨fun i v => ∃ t, v = .int (a + i * 1) t, [s.heap.objs.size], fun A hA => e1 ▸ Walks.range hA _ a 1 _, fun b hb => ?_, fun i v hi hv => ?_⟩, ?_⟩ fun q => nomatch q)
        · simp at hb; exact .inl hb
        · obtain ⟨t, rfl⟩ := hv
          rw [← e1] at hi
          refine ⟨.int (a + (i : Nat)), by rw [List.getElem?_map, List.getElem?_range hi]; rfl, ?_⟩
          rw [Int.mul_one]; exact .int _ _
        · rw [e0]; show IsRangeIter _ _ _ _ _; simp only [Int.mul_one]; rw [show ((0 : Nat) : Int) = 0 from rfl, Int.add_zero, Int.sub_zero]; exact Heap.get?_push_size _ rfl

/-- a target takes a value -/
noncomputable def AsgT (c : Cx) (n : Nat) (sc : Scope) (pn : List Str) (ρ : Vars) (target : Expr) (d : D) (ρ' : Vars) : Prop :=
  ∀ A env pins F P s v, Room n A → EnvOk env sc → pins.map (·.1) = pn → St c env pins ρ F P s.heap → Rd F d v →
    wpAny (model c.prog c.w) A (assign target env v) (fun _ s' => ∃ P', Step F P s.heap F P' s'.heap ∧ Same s s' ∧ St c env pins ρ' F P' s'.heap) (fun _ _ => False) s
theorem AsgT_name {x : Str} {p : Pos} {d : D} (hs : isSto sc x = true) (hx : x ∉ pn) : AsgT c n sc pn ρ (.Name x p) d (Vars.put ρ x (.val d)) := fun A env pins F P s v R ok hp S r => by
  refine wpAny_assign_Name ?_
  obtain ⟨vm, fp, S⟩ := S
  refine store_var ok S.sto hs fun h' tk S' sb => ?_
  obtain ⟨P', S'', hP, hk, hz⟩ := S.store (.val r) .nil (fun a q => nomatch q) (fun a q => nomatch q) (fun y t e hy a q => nomatch q) (hp ▸ hx) S' sb
  exact ⟨P', ⟨.refl _, fun a o e => .inl e, hk, fun a q => (hP a q).elim .inl fun q => (nomatch q), Nat.le_of_eq hz.symm⟩, ⟨_, _, rfl⟩, S''⟩

/-- an iterator's step touches nothing else -/
theorem St.walk {env : Env} {pins : Pins} {F : Fz} {P : Addr → Prop} {h h' : Heap} {I : Addr} (S : St c env pins ρ F P h) (k : ∀ b o, b ∉ [I] → h.get? b = some o → h'.get? b = some o) (hF : F I = none) (hP : ¬ P I) (hz : h.objs.size ≤ h'.objs.size) : St c env pins ρ F P h' := by
  obtain ⟨vm, fp, S⟩ := S
  have k' : ∀ b o, b ≠ I → h.get? b = some o → h'.get? b = some o := fun b o q e => k b o (by simpa using q) e
  have neP : ∀ a, P a → a ≠ I := fun a q z => hP (z ▸ q)
  exact ⟨vm, fp, {
    base := S.base
    le := fun a o e => k' a o (fun z => by rw [z, hF] at e; cases e) (S.le a o e)
    sto := ⟨let ⟨m, q, e⟩ := S.sto.loc; ⟨m, q.at fun o e => k' _ o (neP _ ((S.mem _).mpr (.inl (.head _)))) e, e⟩, fun y hy => let ⟨cc, e, ⟨o, i, j⟩⟩ := S.sto.cel y hy; ⟨cc, e, ⟨o, k' _ _ (neP _ ((S.mem _).mpr (.inl (List.mem_cons_of_mem _ (List.mem_map_of_mem (f := (·.2)) (mem_of_lookup e)))))) i, j⟩⟩⟩
    own := fun x t e => let ⟨v, e1, o⟩ := S.own x t e; ⟨v, e1, o.mono (fun a ha o e => k' a o (neP a ((S.mem a).mpr (.inr ⟨x, t, by assumption, ha⟩))) e) (.refl _)⟩
    pin := S.pin
    mem := S.mem
    lt := fun a q => Nat.lt_of_lt_of_le (S.lt a q) hz
    out := S.out
    nd := S.nd
    apart := S.apart
    aparts := S.aparts }⟩

inductive LoopR (B : D → Vars → Fl → Vars → Prop) : List D → Vars → Fl → Vars → Prop
  | nil {ρ : Vars} : LoopR B [] ρ .next ρ
  | next {x : D} {xs : List D} {ρ ρ₁ ρ' : Vars} {fl : Fl} : B x ρ .next ρ₁ → LoopR B xs ρ₁ fl ρ' → LoopR B (x :: xs) ρ fl ρ'
  | cont {x : D} {xs : List D} {ρ ρ₁ ρ' : Vars} {fl : Fl} : B x ρ .cont ρ₁ → LoopR B xs ρ₁ fl ρ' → LoopR B (x :: xs) ρ fl ρ'
  | brk {x : D} {xs : List D} {ρ ρ' : Vars} : B x ρ .brk ρ' → LoopR B (x :: xs) ρ .next ρ'
  | ret {x : D} {xs : List D} {ρ ρ' : Vars} {d : D} : B x ρ (.ret d) ρ' → LoopR B (x :: xs) ρ (.ret d) ρ'
noncomputable def Turn (c : Cx) (n : Nat) (sc : Scope) (pn : List Str) (target : Expr) (body : List Stmt) (x : D) (ρ : Vars) (fl : Fl) (ρ' : Vars) : Prop :=
  ∃ ρ₁, AsgT c n sc pn ρ target x ρ₁ ∧ Ex c n sc pn ρ₁ body fl ρ'
noncomputable def isNameE : Expr → Bool
  | .Name .. => true
  | _ => false
noncomputable def isTupE : Expr → Bool
  | .Tuple .. => true
  | _ => false
theorem isNameE_of {e : Expr} (h : isNameE e = true) : ∃ x p, e = .Name x p := by
  unfold isNameE at h
  split at h
  · exact ⟨_, _, rfl⟩
  · cases h
theorem isTupE_of {e : Expr} (h : isTupE e = true) : ∃ x k p, e = .Tuple x k p := by
  unfold isTupE at h
  split at h
  · exact ⟨_, _, _, rfl⟩
  · cases h
noncomputable def D.isTup : D → Bool
  | .tup _ => true
  | _ => false

theorem Rd.tupGo {F : Fz} {d : D} {v : Value} (r : Rd F d v) (h : d.isTup = true) {p : Value → Prop} (hp : ∀ t, p (.ref t)) : p v := by
  cases r <;> first | exact hp _ | cases h
theorem Rd.back {F : Fz} {d : D} {b : Addr} (r : Rd F d (.ref b)) : F b ≠ Option.none := by
  cases r with
  | lst a _ _ _ => rw [a]; exact fun z => nomatch z
  | tup a _ _ _ => rw [a]; exact fun z => nomatch z
  | inst a _ _ _ _ => rw [a]; exact fun z => nomatch z
  | rng a => rw [a]; exact fun z => nomatch z
  | opq a => rw [a]; exact fun z => nomatch z
/-- the state between two turns -/
inductive ForInv (c : Cx) (n : Nat) (sc : Scope) (pn : List Str) (target : Expr) (body : List Stmt) (xs : List D) (fl : Fl) (ρ' : Vars) (env : Env) (pins : Pins) (F : Fz) (P : Addr → Prop) (s : Shared) (F₁ : Fz) (I : Addr) (W : Nat → Heap → Prop) (k : Nat) (s' : Shared) : Prop
  | mk (i : Nat) (ρ₁ : Vars) (F₂ : Fz) (P₂ : Addr → Prop) (hk : k = xs.length + 1 - i) (hi : i ≤ xs.length) (f : Fle F₁ F₂) (T : Step F P s.heap F₂ P₂ s'.heap) (X : Same s s') (S : St c env pins ρ₁ F₂ P₂ s'.heap) (L : LoopR (Turn c n sc pn target body) (xs.drop i) ρ₁ fl ρ') (w : W i s'.heap) (hF : F₂ I = none) (hP : ¬ P₂ I) (hI : I < s'.heap.objs.size) : ForInv c n sc pn target body xs fl ρ' env pins F P s F₁ I W k s'
theorem ExS_for {target iter : Expr} {body : List Stmt} {pos : Pos} {d : D} {xs : List D} {fl : Fl} {ρ' : Vars} (hi : Ev c n sc ρ iter d) (hx : d.items = some xs) (hs : d.small = true := by rfl)
    (h : LoopR (Turn c n sc pn target body) xs ρ fl ρ') (ht : isNameE target = true ∨ (isTupE target = true ∧ d.isLst = true ∧ ∀ x ∈ xs, x.isTup = true)) (hf : ∀ env x, foldedSetIterable iter env x = pure x := by intro _ _; rfl) :
    ExS c n sc pn ρ (.For target iter body [] pos) fl ρ' := fun A env pins F P s R ok hp S => by
  refine wpAny_For (wpAny_mono (hi A env pins F P s R ok S) (fun v s₁ hp1 => ?_) fun _ _ x => x) (hf env)
  obtain ⟨F₁, G₁, X₁, r₁⟩ := hp1
  have S₁ := S.grow G₁
  have lt₁ : ∀ a, P a → a < s₁.heap.objs.size := let ⟨_, _, S⟩ := S₁; S.lt
  have out₁ : ∀ a, P a → F₁ a = none := let ⟨_, _, S⟩ := S₁; S.out
  refine iter_open G₁.le (.fz r₁) hx hs fun o W It tg => ?_
  obtain ⟨⟨Pv, fp, hW, hfp, hPv⟩, st0⟩ := It
  have hval : ∀ b ∈ fp, b ≠ s₁.heap.objs.size → F₁ b ≠ none := fun b hb hne => by
    rcases hfp b hb with q | q
    · exact absurd q hne
    · subst q; exact r₁.back
  have Wk := hW A R.1
  have kp : ∀ b oo, b ∉ [s₁.heap.objs.size] → s₁.heap.get? b = some oo → (s₁.heap.push o).get? b = some oo := fun b oo _ e => Heap.get?_push_of_some _ e
  have S₂ : St c env pins ρ F₁ P (s₁.heap.push o) := S₁.walk kp (none_of_le G₁.le (Nat.le_refl _)) (fun q => Nat.lt_irrefl _ (lt₁ _ q)) (by rw [Heap.size_push]; exact Nat.le_succ _)
  have T₂ : Step F P s.heap F₁ P (s₁.heap.push o) := G₁.step.trans ⟨.refl _, fun _ _ e => .inl e, fun b oo _ e => Heap.get?_push_of_some _ e, fun _ q => .inl q, by rw [Heap.size_push]; exact Nat.le_succ _⟩
  refine codeAny_forLoop_any (ForInv c n sc pn target body xs fl ρ' env pins F P s F₁ s₁.heap.objs.size W) ?_ (xs.length + 1)
    ⟨0, ρ, F₁, P, rfl, Nat.zero_le _, .refl _, T₂, X₁.trans ⟨_, _, rfl⟩, S₂, h, st0, none_of_le G₁.le (Nat.le_refl _), (fun q => Nat.lt_irrefl _ (lt₁ _ q)), by show _ < (s₁.heap.push o).objs.size; rw [Heap.size_push]; exact Nat.lt_succ_self _⟩
  rintro k s₂ ⟨i, ρ₁, F₂, P₂, rfl, hile, f12, T, X, S, L, hw, hF, hP, hI⟩
  have stepI : ∀ {s₃ : Shared}, s₂.heap.objs.size ≤ s₃.heap.objs.size → (∀ b o, b ∉ [s₁.heap.objs.size] → s₂.heap.get? b = some o → s₃.heap.get? b = some o) → Step F P s.heap F₂ P₂ s₃.heap := fun hz hk =>
    ⟨T.fle, T.new, fun b oo q e => hk b oo (fun z => by
      have hb := Nat.lt_of_lt_of_le (Heap.lt_size e) G₁.size
      rw [List.mem_singleton.mp z] at hb; exact Nat.lt_irrefl _ hb) (T.keep b oo q e), T.mem, Nat.le_trans T.size hz⟩
  by_cases hlt : i < xs.length
  · refine wpAny_mono (wpAny_sz (Nat.le_refl s₂.heap.objs.size) (Wk.item i s₂ (fun r s' => match r with | some v => Pv i v ∧ W (i + 1) s'.heap ∧ (∀ b o, b ∉ [s₁.heap.objs.size] → s₂.heap.get? b = some o → s'.heap.get? b = some o) ∧ Same s₂ s' | none => False) (fun _ _ => False) hlt hw fun v h' tk hv hw' hk => ⟨hv, hw', hk, ⟨_, _, rfl⟩⟩)) (fun r s₃ hp2 => ?_) fun _ _ x => x.2.elim
    obtain ⟨hz, hr⟩ := hp2
    cases r with
    | none => exact hr.elim
    | some v' =>
      obtain ⟨hv, hw', hk, X₃⟩ := hr
      obtain ⟨dv, edv, rdv⟩ := hPv i v' hlt hv
      have S₃ := S.walk hk hF hP hz
      have T₃ := stepI hz hk
      have hI₃ : s₁.heap.objs.size < s₃.heap.objs.size := Nat.lt_of_lt_of_le hI hz
      have ed : xs.drop i = dv :: xs.drop (i + 1) := by rw [List.drop_eq_getElem_cons hlt]; congr 1; rw [List.getElem?_eq_getElem hlt] at edv; exact Option.some.inj edv
      rw [ed] at L
      have go : wpAny (model c.prog c.w) A (letOwnedTupleGo target (.ref s₁.heap.objs.size) v') (fun _ s' => s' = s₃) (fun _ _ => False) s₃ := by
        rcases ht with ht | ⟨ht, hl, hall⟩
        · obtain ⟨_, _, rfl⟩ := isNameE_of ht
          exact wpAny_pure rfl
        · obtain ⟨_, _, _, rfl⟩ := isTupE_of ht
          exact rdv.tupGo (p := fun v => wpAny (model c.prog c.w) A (letOwnedTupleGo _ (.ref s₁.heap.objs.size) v) _ _ s₃) (hall dv (List.mem_of_getElem? edv)) fun t => tg hl _ _ _ _ _ _ _ _ _ hw' rfl
      refine wpAny_mono go (fun _ s₄ e => ?_) fun _ _ x => x.elim
      subst e
      -- a turn keeps the iterator
      have turn : ∀ {fl₁ : Fl} {ρ₂ : Vars} {Q : Flow → Shared → Prop} {E : Value → Shared → Prop} {E' : Value → Shared → Prop}, Turn c n sc pn target body dv ρ₁ fl₁ ρ₂ →
          (∀ f s' F₄ P₄, Fle F₁ F₄ → Step F P s.heap F₄ P₄ s'.heap → Same s s' → St c env pins ρ₂ F₄ P₄ s'.heap → W (i + 1) s'.heap → F₄ s₁.heap.objs.size = none → ¬ P₄ s₁.heap.objs.size → s₁.heap.objs.size < s'.heap.objs.size → FlR F₄ P s.heap.objs.size fl₁ f → Q f s') →
          wpAny (model c.prog c.w) A (assign target env v') (fun _ s₂ => wpAny (model c.prog c.w) A (execs body env) Q E s₂) E' s₄ := fun {fl₁ ρ₂ Q E E'} hp3 hQ => by
        obtain ⟨ρ₃, ha, hb⟩ := hp3
        refine wpAny_mono (ha A env pins F₂ P₂ s₄ v' R ok hp S₃ (rdv.mono f12)) (fun _ s₅ hp4 => ?_) fun _ _ x => x.elim
        obtain ⟨P₅, T₅, X₅, S₅⟩ := hp4
        refine wpAny_mono (hb A env pins F₂ P₅ s₅ R ok hp S₅) (fun f s₆ hp5 => ?_) fun _ _ x => x.elim
        obtain ⟨F₆, P₆, T₆, X₆, S₆, q⟩ := hp5
        have T56 := T₅.trans T₆
        have hI5 : ¬ P₅ s₁.heap.objs.size := fun z => (T₅.mem _ z).elim hP fun z => Nat.lt_irrefl _ (Nat.lt_of_lt_of_le hI₃ z)
        refine hQ f s₆ F₆ P₆ (f12.trans T₆.fle) (T₃.trans T56) (X.trans (X₃.trans (X₅.trans X₆))) S₆ ?_ ?_ ?_ (Nat.lt_of_lt_of_le hI₃ T56.size) (q.back (fun a z => (T₃.trans T₅).mem a z) (T₃.trans T₅).size)
        · refine Wk.frame (i + 1) _ _ hw' fun b hb oo e => T56.keep b oo (fun z => ?_) e
          by_cases hbI : b = s₁.heap.objs.size
          · exact hP (hbI ▸ z)
          · have h1 := hval b hb hbI
            cases hq : F₁ b with
            | none => exact h1 hq
            | some o1 =>
              have h2 := f12 b o1 hq
              have h3 : F₂ b = none := let ⟨_, _, S⟩ := S; S.out b z
              rw [h3] at h2; cases h2
        · cases hq : F₆ s₁.heap.objs.size with
          | none => rfl
          | some o1 =>
            rcases T₆.new _ _ hq with z | z | z
            · rw [hF] at z; cases z
            · exact absurd z hI5
            · exact absurd (Nat.lt_of_lt_of_le hI₃ (Nat.le_trans T₅.size z)) (Nat.lt_irrefl _)
        · exact fun z => (T56.mem _ z).elim hP fun z => Nat.lt_irrefl _ (Nat.lt_of_lt_of_le hI₃ z)
      cases L with
      | next hB L =>
        refine turn hB fun f s' F₄ P₄ a1 a2 a3 a4 a5 a6 a7 a8 q => ?_
        cases q
        exact ⟨xs.length + 1 - (i + 1), by omega, i + 1, _, F₄, P₄, rfl, hlt, a1, a2, a3, a4, L, a5, a6, a7, a8⟩
      | cont hB L =>
        refine turn hB fun f s' F₄ P₄ a1 a2 a3 a4 a5 a6 a7 a8 q => ?_
        cases q
        exact ⟨xs.length + 1 - (i + 1), by omega, i + 1, _, F₄, P₄, rfl, hlt, a1, a2, a3, a4, L, a5, a6, a7, a8⟩
      | brk hB =>
        refine turn hB fun f s' F₄ P₄ a1 a2 a3 a4 a5 a6 a7 a8 q => ?_
        cases q
        exact ⟨F₄, P₄, a2, a3, a4, .next⟩
      | ret hB =>
        refine turn hB fun f s' F₄ P₄ a1 a2 a3 a4 a5 a6 a7 a8 q => ?_
        cases q with
        | ret q => exact ⟨F₄, P₄, a2, a3, a4, .ret q⟩
  · have hin : i = xs.length := by omega
    subst hin
    refine wpAny_mono (wpAny_sz (Nat.le_refl s₂.heap.objs.size) (Wk.done s₂ (fun r s' => r = none ∧ (∀ b o, b ∉ [s₁.heap.objs.size] → s₂.heap.get? b = some o → s'.heap.get? b = some o) ∧ Same s₂ s') (fun _ _ => False) hw fun h' tk hk => ⟨rfl, hk, ⟨_, _, rfl⟩⟩)) (fun r s₃ hp6 => ?_) fun _ _ x => x.2.elim
    obtain ⟨hz, hr⟩ := hp6
    obtain ⟨rfl, hk, X₃⟩ := hr
    rw [List.drop_length] at L
    cases L
    exact wpAny_execs_nil ⟨F₂, P₂, stepI hz hk, X.trans X₃, S.walk hk hF hP hz, .next⟩
end Mine
end

section
open PySem PySem.Calls PyProof.Rows PySem.W
set_option maxRecDepth 100000
set_option linter.unusedVariables false
namespace Mine
variable {c : Cx} {n : Nat} {sc : Scope} {pn : List Str} {ρ : Vars}

theorem cellsFrom_app : ∀ (names : List (Str × NameKind)) (k : Nat) (acc : List (Str × Addr)), cellsFrom k names acc = cellsFrom k names [] ++ acc
  | [], _, _ => rfl
  | (x, kd) :: r, k, acc => by
    unfold cellsFrom
    split
    · rw [cellsFrom_app r (k + 1) ((x, k) :: acc), cellsFrom_app r (k + 1) [(x, k)], List.append_assoc]; rfl
    · exact cellsFrom_app r k acc
theorem cellsFrom_kind : ∀ (names : List (Str × NameKind)) (k : Nat) (x : Str) (a : Addr), (x, a) ∈ cellsFrom k names [] → (x, NameKind.cell) ∈ names
  | [], _, _, _, h => nomatch h
  | (y, kd) :: r, k, x, a, h => by
    unfold cellsFrom at h
    split at h
    · rename_i hk
      rw [cellsFrom_app] at h
      rcases List.mem_append.mp h with h | h
      · exact .tail _ (cellsFrom_kind r _ x a h)
      · rw [List.mem_singleton] at h; cases h
        rw [beq_iff_eq.mp hk]; exact .head _
    · exact .tail _ (cellsFrom_kind r _ x a h)
theorem newEnvC {M : Model} {A : Around} {E : Value → Shared → Prop} {s : Shared} {scope : Scope} {globals : Addr} {cl : List (Str × Addr)} {qual : Str} {outer : Env} {Q : Env → Shared → Prop}
    (h : Q { scope, locals := s.heap.objs.size, globals, cells := cellsFrom (s.heap.objs.size + 1) scope.names [] ++ cl, qual, func := none, code := outer.code, frame := outer.frame, builtins := outer.builtins }
      { s with heap := pushCells (s.heap.push { cls := .type "dict", data := .dict #[] }) scope.names }) :
    wpAny M A (newFunctionEnv scope globals cl [] qual none .none (some outer)) Q E s := by
  unfold newFunctionEnv
  simp only [Option.isSome_some, if_true]
  refine wpAny_bind (wpAny_alloc ?_)
  refine wpAny_bind (wpAny_layCells _ (fun name kind cells => by cases hkc : kind == NameKind.cell <;> simp [hkc]) _ _ _ _ ?_)
  refine wpAny_bind (wpAny_pure ?_)
  refine wpAny_pure ?_
  rw [show ({ s with heap := s.heap.push { cls := .type "dict", data := .dict #[] } } : Shared).heap.objs.size = s.heap.objs.size + 1 from Heap.size_push .., cellsFrom_app]
  exact h

noncomputable def closL (env : Env) (names : List (Str × NameKind)) : List (Str × Addr) := ((names.filter (·.2 == .free)).map fun q => (q.1, (env.cells.lookup q.1).getD 0)).reverse
theorem closure_eq {env : Env} (f : Str × NameKind → List (Str × Addr) → Sem (ForInStep (List (Str × Addr))))
    (hf : ∀ name kind cs, f (name, kind) cs = if kind == .free then (do let a ← cellOf env name; pure (.yield ((name, a) :: cs))) else pure (.yield cs)) :
    ∀ (names : List (Str × NameKind)) (acc : List (Str × Addr)), (∀ q ∈ names, q.2 = .free → ∃ a, env.cells.lookup q.1 = some a) → forIn names acc f = pure (closL env names ++ acc)
  | [], acc, _ => rfl
  | (x, k) :: r, acc, h => by
    rw [List.forIn_cons, hf]
    have hr := fun q hq => h q (List.mem_cons_of_mem _ hq)
    by_cases hk : (k == NameKind.free) = true
    · rw [if_pos hk]
      obtain ⟨a, e⟩ := h (x, k) (.head _) (beq_iff_eq.mp hk)
      have e1 : cellOf env x = pure a := by unfold cellOf; rw [e]
      rw [e1]
      simp only [pure_bind]
      rw [closure_eq f hf r _ hr]
      have e2 : closL env ((x, k) :: r) = closL env r ++ [(x, a)] := by
        unfold closL
        rw [List.filter_cons, if_pos hk, List.map_cons, List.reverse_cons, e]; rfl
      rw [e2, List.append_assoc]; rfl
    · rw [if_neg hk]
      simp only [pure_bind]
      rw [closure_eq f hf r _ hr]
      have e2 : closL env ((x, k) :: r) = closL env r := by
        unfold closL
        rw [List.filter_cons, if_neg hk]
      rw [e2]
theorem closureFor_pure {scope : Scope} {env : Env} (h : ∀ q ∈ scope.names, q.2 = .free → ∃ a, env.cells.lookup q.1 = some a) : closureFor scope env = pure (closL env scope.names) := by
  simp only [closureFor]
  rw [closure_eq (env := env) _ (fun name kind cs => by cases hk : kind == NameKind.free <;> simp [hk]) scope.names [] h]
  simp

/-- a comprehension's names, as they stand within it -/
noncomputable def relS (csc sc : Scope) : Scope := { csc with names := csc.names.map fun (n, k) => if k == .free && sc.kind == .function && sc.names.lookup n == some .cell then (n, .cell) else (n, k) }
theorem relabel_eq (csc : Scope) (env : Env) : relabel csc env = relS csc env.scope := rfl
theorem lookup_map_snd (g : Str → NameKind → NameKind) (x : Str) : ∀ l : List (Str × NameKind), (l.map fun q => (q.1, g q.1 q.2)).lookup x = (l.lookup x).map (g x)
  | [] => rfl
  | q :: r => by
    rw [List.map_cons, List.lookup_cons, List.lookup_cons]
    by_cases hx : x = q.1
    · subst hx; simp
    · have hb : (x == q.1) = false := by simpa using hx
      simp only [hb]
      exact lookup_map_snd g x r
theorem relS_lookup {csc sc : Scope} (x : Str) : (relS csc sc).names.lookup x = (csc.names.lookup x).map fun k => if k == .free && sc.kind == .function && sc.names.lookup x == some .cell then .cell else k := by
  rw [← lookup_map_snd (fun y k => if k == .free && sc.kind == .function && sc.names.lookup y == some .cell then .cell else k) x csc.names]
  unfold relS
  dsimp only
  congr 1
  refine List.map_congr_left fun q _ => ?_
  obtain ⟨y, k⟩ := q
  dsimp only
  split <;> rfl

noncomputable def compOk (csc sc : Scope) (x : Str) : Bool :=
  csc.kind == .function && decide (csc.names.map (·.1)).Nodup && (csc.names.all fun q => !(q.2 == .free) || sc.names.lookup q.1 == some .cell || sc.names.lookup q.1 == some .free) && (csc.names.lookup x == some .local || csc.names.lookup x == some .cell)
structure CompOk (csc sc : Scope) (x : Str) : Prop where
  kind : csc.kind = .function
  nd : (csc.names.map (·.1)).Nodup
  free : ∀ q ∈ csc.names, q.2 = .free → sc.names.lookup q.1 = some .cell ∨ sc.names.lookup q.1 = some .free
  tgt : csc.names.lookup x = some .local ∨ csc.names.lookup x = some .cell
theorem compOk_of {csc sc : Scope} {x : Str} (h : compOk csc sc x = true) : CompOk csc sc x := by
  unfold compOk at h
  simp only [Bool.and_eq_true, decide_eq_true_eq, List.all_eq_true, Bool.or_eq_true, beq_iff_eq, Bool.not_eq_true'] at h
  obtain ⟨⟨⟨a, b⟩, d⟩, e⟩ := h
  refine ⟨a, b, fun q hq hk => ?_, e⟩
  have := d q hq
  rw [hk] at this
  simpa using this
theorem lookup_of_nd {α : Type} : ∀ {l : List (Str × α)}, (l.map (·.1)).Nodup → ∀ {q : Str × α}, q ∈ l → l.lookup q.1 = some q.2
  | p :: r, nd, q, h => by
    obtain ⟨h1, h2⟩ := List.nodup_cons.mp nd
    rw [List.lookup_cons]
    rcases List.mem_cons.mp h with rfl | h
    · simp
    · have hne : (q.1 == p.1) = false := by
        have : q.1 ≠ p.1 := fun e => h1 (show p.1 ∈ r.map (·.1) by rw [← e]; exact List.mem_map_of_mem (f := (·.1)) h)
        simpa using this
      rw [hne]; exact lookup_of_nd h2 h
theorem relS_sto {csc sc : Scope} {x : Str} (h : CompOk csc sc x) : isSto (relS csc sc) x = true := by
  unfold isSto
  rw [relS_lookup]
  rcases h.tgt with e | e <;> rw [e] <;> rfl

/-- the frame within -/
theorem comp_st {env : Env} {pins : Pins} {F : Fz} {P : Addr → Prop} {s : Shared} {csc : Scope} {x : Str} {ρc : Vars} (ok : EnvOk env sc) (S : St c env pins ρ F P s.heap) (hc : CompOk csc sc x)
    (hρ : ∀ y sl, ρc.lookup y = some sl → csc.names.lookup y = some .free ∧ ρ.lookup y = some sl) {cenv : Env}
    (he : cenv = { scope := relS csc sc, locals := s.heap.objs.size, globals := env.globals, cells := cellsFrom (s.heap.objs.size + 1) csc.names [] ++ closL env csc.names, qual := env.qual, func := none, code := env.code, frame := env.frame, builtins := env.builtins })
    {h' : Heap} (hh : h' = pushCells (s.heap.push { cls := .type "dict", data := .dict #[] }) csc.names) :
    EnvOk cenv (relS csc sc) ∧ (∃ P', St c cenv [] ρc F P' h' ∧ (∀ a, P' a → P a ∨ s.heap.objs.size ≤ a)) ∧ (∀ a ∈ stor cenv, s.heap.objs.size ≤ a ∨ a ∈ env.cells.map (·.2)) ∧ Fle s.heap.get? h'.get? ∧ s.heap.objs.size < h'.objs.size ∧ (∀ a, cenv.cells.lookup x = some a → s.heap.objs.size ≤ a) := by
  obtain ⟨vm, fp, S⟩ := S
  have kx : ∀ y, env.kindOf y = sc.names.lookup y := fun y => by unfold Env.kindOf; rw [ok.scope]
  have keep : Fle s.heap.get? h'.get? := fun a o e => by rw [hh]; exact pushCells_keeps _ _ a o (Heap.get?_push_of_some _ e)
  have cok : CellsOk h' (s.heap.objs.size + 1) (cellsFrom (s.heap.objs.size + 1) csc.names []) := by
    have := cellsFrom_ok csc.names (s.heap.push { cls := .type "dict", data := .dict #[] }) (s.heap.objs.size + 1) [] ⟨fun _ _ hm => (nomatch hm), List.Pairwise.nil⟩ (by rw [Heap.size_push]; exact Nat.le_refl _)
    rw [Heap.size_push] at this
    rw [hh]; exact this
  have envnd := List.nodup_cons.mp (show (env.locals :: env.cells.map (·.2)).Nodup from ok.nd)
  have hfree : ∀ q ∈ csc.names, q.2 = .free → ∃ a, env.cells.lookup q.1 = some a ∧ s.heap.IsCell a (vm q.1) := fun q hq hk => by
    obtain ⟨a, e, i⟩ := S.sto.cel q.1 ((hc.free q hq hk).imp (kx q.1).trans (kx q.1).trans)
    exact ⟨a, e, i⟩
  have clmem : ∀ p ∈ closL env csc.names, ∃ q ∈ csc.names, q.2 = .free ∧ p.1 = q.1 ∧ env.cells.lookup q.1 = some p.2 := fun p hp => by
    unfold closL at hp
    obtain ⟨q, hq, rfl⟩ := List.mem_map.mp (List.mem_reverse.mp hp)
    obtain ⟨h1, h2⟩ := List.mem_filter.mp hq
    obtain ⟨a, e, _⟩ := hfree q h1 (beq_iff_eq.mp h2)
    exact ⟨q, h1, beq_iff_eq.mp h2, rfl, by rw [e]; rfl⟩
  have clin : ∀ p ∈ closL env csc.names, p.2 ∈ env.cells.map (·.2) := fun p hp => let ⟨q, _, _, _, e⟩ := clmem p hp; List.mem_map_of_mem (f := (·.2)) (mem_of_lookup e)
  have ltc : ∀ a ∈ env.cells.map (·.2), a < s.heap.objs.size := fun a ha => S.lt a ((S.mem a).mpr (.inl (.tail _ ha)))
  have cllook : ∀ q ∈ csc.names, q.2 = .free → (closL env csc.names).lookup q.1 = env.cells.lookup q.1 := fun q hq hk => by
    obtain ⟨a, e, _⟩ := hfree q hq hk
    rw [e]
    have hin : (q.1, a) ∈ closL env csc.names := by
      unfold closL
      refine List.mem_reverse.mpr (List.mem_map.mpr ⟨q, List.mem_filter.mpr ⟨hq, by rw [hk]; rfl⟩, by rw [e]; rfl⟩)
    have hnd : ((closL env csc.names).map (·.1)).Nodup := by
      unfold closL
      rw [List.map_reverse, List.map_map]
      refine List.pairwise_reverse.mpr (List.Pairwise.imp Ne.symm ?_)
      exact (List.Sublist.map _ List.filter_sublist).nodup hc.nd
    exact lookup_of_nd hnd hin
  have cellsE : cenv.cells = cellsFrom (s.heap.objs.size + 1) csc.names [] ++ closL env csc.names := by rw [he]
  have locE : cenv.locals = s.heap.objs.size := by rw [he]
  have okc : EnvOk cenv (relS csc sc) := by
    refine ⟨by rw [he], hc.kind, by rw [he]; exact ok.globals, by rw [he]; exact ok.builtins, ?_⟩
    unfold stor
    rw [cellsE, locE, List.map_append]
    refine List.nodup_cons.mpr ⟨fun q => ?_, List.nodup_append.mpr ⟨List.pairwise_map.mpr cok.apart, ?_, fun a ha b hb e => ?_⟩⟩
    · rcases List.mem_append.mp q with q | q
      · obtain ⟨p, hp, e⟩ := List.mem_map.mp q
        have := (cok.empty p.1 p.2 hp).2
        rw [e] at this; exact Nat.lt_irrefl _ this
      · obtain ⟨p, hp, e⟩ := List.mem_map.mp q
        have := ltc _ (clin p hp)
        rw [e] at this; exact Nat.lt_irrefl _ this
    · unfold closL
      rw [List.map_reverse, List.map_map]
      refine List.pairwise_reverse.mpr (List.Pairwise.imp Ne.symm ?_)
      refine List.pairwise_map.mpr ?_
      have pw : (csc.names.filter (·.2 == .free)).Pairwise fun a b => a.1 ≠ b.1 := List.Pairwise.sublist List.filter_sublist (List.pairwise_map.mp hc.nd)
      refine List.Pairwise.imp_of_mem (fun {a b} ha hb hne e => hne ?_) pw
      obtain ⟨a1, a2⟩ := List.mem_filter.mp ha
      obtain ⟨b1, b2⟩ := List.mem_filter.mp hb
      obtain ⟨x1, e1, _⟩ := hfree a a1 (beq_iff_eq.mp a2)
      obtain ⟨x2, e2, _⟩ := hfree b b1 (beq_iff_eq.mp b2)
      have e' : x1 = x2 := by simpa [e1, e2] using e
      subst e'
      exact name_of_addr (List.pairwise_map.mp envnd.2) (mem_of_lookup e1) (mem_of_lookup e2)
    · obtain ⟨p, hp, e1⟩ := List.mem_map.mp ha
      obtain ⟨q, hq, e2⟩ := List.mem_map.mp hb
      have h1 := (cok.empty p.1 p.2 hp).2
      have h2 := ltc _ (clin q hq)
      rw [e1, e] at h1; rw [e2] at h2
      exact Nat.lt_irrefl _ (Nat.lt_trans h2 h1)
  have hstor : ∀ a ∈ stor cenv, s.heap.objs.size ≤ a ∨ a ∈ env.cells.map (·.2) := fun a ha => by
    unfold stor at ha
    rw [cellsE, locE, List.map_append] at ha
    rcases List.mem_cons.mp ha with rfl | ha
    · exact .inl (Nat.le_refl _)
    · rcases List.mem_append.mp ha with ha | ha
      · obtain ⟨p, hp, rfl⟩ := List.mem_map.mp ha
        exact .inl (Nat.le_of_succ_le (cok.empty p.1 p.2 hp).2)
      · obtain ⟨p, hp, rfl⟩ := List.mem_map.mp ha
        exact .inr (clin p hp)
  have hsz : s.heap.objs.size < h'.objs.size := by
    have : h'.get? s.heap.objs.size = some { cls := .type "dict", data := .dict #[] } := by rw [hh]; exact pushCells_keeps _ _ _ _ (Heap.get?_push_size _ rfl)
    exact Heap.lt_size this
  have ltS : ∀ a ∈ stor cenv, a < h'.objs.size := fun a ha => by
    unfold stor at ha
    rw [cellsE, locE, List.map_append] at ha
    rcases List.mem_cons.mp ha with rfl | ha
    · exact hsz
    · rcases List.mem_append.mp ha with ha | ha
      · obtain ⟨p, hp, rfl⟩ := List.mem_map.mp ha
        exact (cok.empty p.1 p.2 hp).1.lt
      · obtain ⟨p, hp, rfl⟩ := List.mem_map.mp ha
        exact Nat.lt_trans (ltc _ (clin p hp)) hsz
  have hown : ∀ a, cenv.cells.lookup x = some a → s.heap.objs.size ≤ a := fun a e => by
    rw [cellsE, List.lookup_append] at e
    cases q : (cellsFrom (s.heap.objs.size + 1) csc.names []).lookup x with
    | some b =>
      rw [q] at e; cases e
      exact Nat.le_of_succ_le (cok.empty x a (mem_of_lookup q)).2
    | none =>
      rw [q] at e
      obtain ⟨r, hr, hk, e1, _⟩ := clmem (x, a) (mem_of_lookup e)
      have h2 := lookup_of_nd hc.nd hr
      have e1' : x = r.1 := e1
      rw [← e1', hk] at h2
      rcases hc.tgt with h3 | h3 <;> rw [h2] at h3 <;> cases h3
  refine ⟨okc, ⟨fun a => a ∈ stor cenv ∨ ∃ y sl, ρc.lookup y = some sl ∧ a ∈ fp y, ⟨fun y => if csc.names.lookup y = some .free then vm y else none, fp, ?_⟩, fun a q => ?_⟩, hstor, keep, hsz, hown⟩
  · have kc : ∀ y, cenv.kindOf y = (csc.names.lookup y).map fun k => if k == .free && sc.kind == .function && sc.names.lookup y == some .cell then .cell else k := fun y => by
      have : cenv.kindOf y = (relS csc sc).names.lookup y := by unfold Env.kindOf; rw [okc.scope]
      rw [this, relS_lookup]
    exact {
      base := S.base
      le := S.le.trans keep
      sto := ⟨⟨fun _ => none, by rw [locE, hh]; exact (Heap.Ns.new s.heap (.type "dict")).keeps (pushCells_keeps _ _), fun y hy => by
          rw [kc] at hy
          have hne : csc.names.lookup y ≠ some .free := fun e => by rw [e] at hy; simp at hy; split at hy <;> cases hy
          simp only [if_neg hne]⟩, fun y hy => by
          rw [kc] at hy
          cases e : csc.names.lookup y with
          | none => rw [e] at hy; rcases hy with hy | hy <;> cases hy
          | some k =>
            rw [e] at hy
            by_cases hk : k = .free
            · subst hk
              have hm := mem_of_lookup e
              obtain ⟨a, e1, i⟩ := hfree _ hm rfl
              refine ⟨a, ?_, ?_⟩
              · rw [cellsE, List.lookup_append]
                have hno : (cellsFrom (s.heap.objs.size + 1) csc.names []).lookup y = none := by
                  cases q : (cellsFrom (s.heap.objs.size + 1) csc.names []).lookup y with
                  | none => rfl
                  | some b =>
                    have h1 := cellsFrom_kind _ _ _ _ (mem_of_lookup q)
                    have h2 := lookup_of_nd hc.nd h1
                    rw [e] at h2; cases h2
                rw [hno, cllook _ hm rfl, e1]; rfl
              · rw [if_pos rfl]; exact i.keeps keep
            · have hk2 : (k == NameKind.free) = false := by simpa using hk
              have hkc : k = .cell := by
                rcases hy with hy | hy <;> simp only [Option.map_some, hk2, Bool.false_and, Bool.false_eq_true, if_false, Option.some.injEq] at hy
                · exact hy
                · exact absurd hy hk
              subst hkc
              obtain ⟨a, ea⟩ := Option.isSome_iff_exists.mp (cells_some (k := s.heap.objs.size + 1) e)
              refine ⟨a, by rw [cellsE, List.lookup_append, ea]; rfl, ?_⟩
              rw [if_neg (by intro z; cases z)]
              exact (cok.empty y a (mem_of_lookup ea)).1⟩
      own := fun y sl e => by
        obtain ⟨h1, h2⟩ := hρ y sl e
        obtain ⟨v, e1, o⟩ := S.own y sl h2
        exact ⟨v, by rw [if_pos h1]; exact e1, o.mono (fun a _ => keep a) (.refl _)⟩
      pin := fun q hq => nomatch hq
      mem := fun a => Iff.rfl
      lt := fun a q => by
        rcases q with q | ⟨y, sl, e, q⟩
        · exact ltS a q
        · exact Nat.lt_trans (S.lt a ((S.mem a).mpr (.inr ⟨y, sl, (hρ y sl e).2, q⟩))) hsz
      out := fun a q => by
        rcases q with q | ⟨y, sl, e, q⟩
        · rcases hstor a q with q | q
          · exact none_of_le S.le q
          · exact S.out a ((S.mem a).mpr (.inl (.tail _ q)))
        · exact S.out a ((S.mem a).mpr (.inr ⟨y, sl, (hρ y sl e).2, q⟩))
      nd := fun y sl e => S.nd y sl (hρ y sl e).2
      apart := fun y sl z t e e' => S.apart y sl z t (hρ y sl e).2 (hρ z t e').2
      aparts := fun y sl e a ha q => by
        have h1 := (hρ y sl e).2
        rcases hstor a q with q | q
        · exact Nat.not_lt.mpr q (S.lt a ((S.mem a).mpr (.inr ⟨y, sl, h1, ha⟩)))
        · exact S.aparts y sl h1 a ha (.tail _ q) }
  · rcases q with q | ⟨y, sl, e, q⟩
    · rcases hstor a q with q | q
      · exact .inr q
      · exact .inl ((S.mem a).mpr (.inl (.tail _ q)))
    · exact .inl ((S.mem a).mpr (.inr ⟨y, sl, (hρ y sl e).2, q⟩))
end Mine
end

section
open PySem PySem.Calls PyProof.Rows PySem.W
set_option maxRecDepth 100000
set_option linter.unusedVariables false
namespace Mine
variable {c : Cx} {n : Nat} {sc : Scope} {pn : List Str} {ρ : Vars}

theorem put_put (ρ : Vars) (x : Str) (s t : Slot) : Vars.put (Vars.put ρ x s) x t = Vars.put ρ x t := by
  induction ρ with
  | nil => simp [Vars.put]
  | cons q r ih =>
    obtain ⟨y, u⟩ := q
    by_cases h : (x == y) = true
    · simp [Vars.put, h]
    · simp [Vars.put, h, ih]

/-- the tests of a clause -/
inductive Tests (c : Cx) (n : Nat) (sc : Scope) (ρ : Vars) : List Expr → Bool → Prop
  | nil : Tests c n sc ρ [] true
  | one {e : Expr} {b : Bool} : Te c n sc ρ e b → Tests c n sc ρ [e] b
inductive CompR (ts : D → Bool → Prop) (el : D → D → Prop) : List D → List D → Prop
  | nil : CompR ts el [] []
  | skip {x : D} {xs ys : List D} : ts x false → CompR ts el xs ys → CompR ts el (x :: xs) ys
  | take {x y : D} {xs ys : List D} : ts x true → el x y → CompR ts el xs ys → CompR ts el (x :: xs) (y :: ys)
theorem CompR.length {ts : D → Bool → Prop} {el : D → D → Prop} : ∀ {xs ys : List D}, CompR ts el xs ys → ys.length ≤ xs.length
  | _, _, .nil => Nat.le_refl _
  | _, _, .skip _ r => Nat.le_succ_of_le r.length
  | _, _, .take _ _ r => Nat.succ_le_succ r.length

/-- a new object on top, seen by a frame -/
theorem St.top {env : Env} {pins : Pins} {F : Fz} {P : Addr → Prop} {h h' : Heap} (S : St c env pins ρ F P h) (k : Fle h.get? h'.get?) (hz : h.objs.size ≤ h'.objs.size) : St c env pins ρ F P h' :=
  S.grow ⟨.refl _, fun _ _ e => .inl e, k, S.le.trans k, hz⟩
theorem St.lt {env : Env} {pins : Pins} {F : Fz} {P : Addr → Prop} {h : Heap} (S : St c env pins ρ F P h) {a : Addr} (q : P a) : a < h.objs.size := let ⟨_, _, S⟩ := S; S.lt a q
theorem St.out {env : Env} {pins : Pins} {F : Fz} {P : Addr → Prop} {h : Heap} (S : St c env pins ρ F P h) {a : Addr} (q : P a) : F a = none := let ⟨_, _, S⟩ := S; S.out a q
theorem St.stor {env : Env} {pins : Pins} {F : Fz} {P : Addr → Prop} {h : Heap} (S : St c env pins ρ F P h) {a : Addr} (q : a ∈ stor env) : P a := let ⟨_, _, S⟩ := S; (S.mem a).mpr (.inl q)

structure CompEnd (F : Fz) (s : Shared) (ys : List D) (D C : Addr) (s' : Shared) : Prop where
  ex : ∃ F', Grow F s.heap F' s'.heap ∧ F' D = none ∧ LstAt s'.heap F' ys D ∧ F' C = none
  same : Same s s'
  fresh : s.heap.objs.size ≤ D
  ns : ∃ m, s'.heap.Ns C m
  freshC : s.heap.objs.size ≤ C
  ne : D ≠ C

theorem ltA {a b : Nat} (h : a < b) : a < b := h
theorem leA {a b : Nat} (h : a ≤ b) : a ≤ b := h
theorem neA {a b : Nat} (h : a ≠ b) : a ≠ b := h
theorem eqA {a b : Nat} (h : a = b) : a = b := h
/-- the state between two turns -/
inductive CompInv (c : Cx) (n : Nat) (sc csc : Scope) (ifs : List Expr) (elt : Expr) (x : Str) (ρc : Vars) (xs ys : List D) (cenv : Env) (F : Fz) (P : Addr → Prop) (s₁ : Shared) (H2 H3 : Heap) (W : Nat → Heap → Prop) (k : Nat) (s' : Shared) : Prop
  | mk (i : Nat) (ρi : Vars) (F' : Fz) (P' : Addr → Prop) (zs : List D) (hk : k = xs.length + 1 - i) (hi : i ≤ xs.length) (hput : ∀ t, Vars.put ρi x t = Vars.put ρc x t) (f : Fle F F') (new : ∀ a oo, F' a = some oo → F a = some oo ∨ H3.objs.size ≤ a) (old : ∀ a oo, s₁.heap.get? a = some oo → s'.heap.get? a = some oo)
    (X : Same s₁ s') (S : St c cenv [] ρi F' P' s'.heap) (hP : ∀ a, P' a → P a ∨ H2.objs.size ≤ a) (w : W i s'.heap) (pl : ∃ vs, s'.heap.PlainList (s₁.heap.objs.size + 1) vs ∧ RdL F' zs vs.toList) (hz : zs.length ≤ i)
    (L : CompR (fun a b => Tests c n (relS csc sc) (Vars.put ρc x (.val a)) ifs b) (fun a y => Ev c n (relS csc sc) (Vars.put ρc x (.val a)) elt y) (xs.drop i) (ys.drop zs.length)) (ey : ys = zs ++ ys.drop zs.length) (h3 : H3.objs.size ≤ s'.heap.objs.size) :
    CompInv c n sc csc ifs elt x ρc xs ys cenv F P s₁ H2 H3 W k s'
theorem Rd1.lt {h : Heap} {F : Fz} {d : D} {a : Addr} (l : Fle F h.get?) (r : Rd1 h F d (.ref a)) : a < h.objs.size := by
  cases r with
  | fz r => cases r with
    | lst a _ _ _ => exact Heap.lt_size (l _ _ a)
    | tup a _ _ _ => exact Heap.lt_size (l _ _ a)
    | inst a _ _ _ _ => exact Heap.lt_size (l _ _ a)
    | rng a => exact Heap.lt_size (l _ _ a)
    | opq a => exact Heap.lt_size (l _ _ a)
  | own L => exact L.lt
/-- the loop within, from the iterator on -/
theorem comp_core {A : Around} {env : Env} {pins : Pins} {F : Fz} {P : Addr → Prop} {s₁ : Shared} {csc : Scope} {elt iter : Expr} {x : Str} {px pos : Pos} {ifs : List Expr} {ρc : Vars} {xs ys : List D} {d : D} {v : Value} {E : Value → Shared → Prop} {RR : Value → Addr → Result → Shared → Prop}
    (R : Room n A) (ok : EnvOk env sc) (S₁ : St c env pins ρ F P s₁.heap) (hc : CompOk csc sc x) (hρ : ∀ y sl, ρc.lookup y = some sl → csc.names.lookup y = some .free ∧ ρ.lookup y = some sl)
    (r₁ : Rd1 s₁.heap F d v) (hx : d.items = some xs) (hs : d.small = true) (hl : xs.length ≤ 100000)
    (h : CompR (fun a b => Tests c n (relS csc sc) (Vars.put ρc x (.val a)) ifs b) (fun a y => Ev c n (relS csc sc) (Vars.put ρc x (.val a)) elt y) xs ys)
    (hRR : ∀ D C s', CompEnd F s₁ ys D C s' → RR (.ref D) C (.ok .next) s') :
    wpAny (model c.prog c.w) A (pyIter v) (fun it s₂ => wpAny (model c.prog c.w) A (newList []) (fun acc s₃ =>
      wpAny (model c.prog c.w) A (newFunctionEnv csc env.globals (closL env csc.names) [] env.qual none .none (some env)) (fun cenv s₄ =>
        codeAny (model c.prog c.w) A (.compStart (.ListComp elt [⟨.Name x px, iter, ifs, 0⟩] csc pos) 0 it acc { cenv with scope := relabel csc env }) (RR acc cenv.locals) s₄) E s₃) E s₂) E s₁ := by
  have l₁ := S₁.le
  refine iter_open l₁ r₁ hx hs fun o W It _ => ?_
  obtain ⟨⟨Pv, fp, hW, hfp, hPv⟩, st0⟩ := It
  refine wpAny_newObj_type ?_ (by size_fits)
  generalize hH2 : (s₁.heap.push o).push { cls := .type "list", dict := none, data := .seq ([] : List Value).toArray } = H2
  have sH1 : (s₁.heap.push o).objs.size = s₁.heap.objs.size + 1 := Heap.size_push ..
  have sH2 : H2.objs.size = s₁.heap.objs.size + 2 := by rw [← hH2, Heap.size_push, sH1]
  have k12 : Fle s₁.heap.get? H2.get? := fun a oo e => by rw [← hH2]; exact Heap.get?_push_of_some _ (Heap.get?_push_of_some _ e)
  have S₂ : St c env pins ρ F P H2 := S₁.top k12 (by omega)
  refine newEnvC ?_
  dsimp only
  generalize hH3 : pushCells (H2.push { cls := .type "dict", data := .dict #[] }) csc.names = H3
  rw [relabel_eq, ok.scope]
  generalize hce : ({ scope := relS csc sc, locals := H2.objs.size, globals := env.globals, cells := cellsFrom (H2.objs.size + 1) csc.names [] ++ closL env csc.names, qual := env.qual, func := none, code := env.code, frame := env.frame, builtins := env.builtins } : Env) = cenv
  obtain ⟨okc, ⟨P₀, S₃, hP₀⟩, hstor, k23, sH3, hownc⟩ := comp_st (s := { s₁ with heap := H2 }) ok S₂ hc hρ hce.symm hH3.symm
  have hloc : cenv.locals = H2.objs.size := by rw [← hce]
  rw [← hloc]
  have sH3 : H2.objs.size < H3.objs.size := sH3
  -- addresses
  have hI : ∀ {Q : Addr → Prop}, (∀ a, Q a → P a ∨ H2.objs.size ≤ a) → ¬ Q s₁.heap.objs.size := fun hQ q => by
    rcases hQ _ q with q | q
    · exact Nat.lt_irrefl _ (S₁.lt q)
    · rw [sH2] at q; omega
  have hD : ∀ {Q : Addr → Prop}, (∀ a, Q a → P a ∨ H2.objs.size ≤ a) → ¬ Q (s₁.heap.objs.size + 1) := fun hQ q => by
    rcases hQ _ q with q | q
    · have := ltA (S₁.lt q); omega
    · rw [sH2] at q; omega
  have gD : H3.PlainList (s₁.heap.objs.size + 1) #[] := ⟨0, k23 _ _ (by show H2.get? _ = _; rw [← hH2, ← sH1]; exact Heap.get?_push_size _ rfl)⟩
  have Wk := hW A R.1
  have w0 : W 0 H3 := Wk.frame 0 _ _ st0 fun b hb oo e => k23 _ _ (by show H2.get? _ = _; rw [← hH2]; exact Heap.get?_push_of_some _ e)
  have fpne : ∀ b ∈ fp, b = s₁.heap.objs.size ∨ b < s₁.heap.objs.size := fun b hb => (hfp b hb).imp id fun q => by
    subst q; exact r₁.lt l₁
  have eD : (s₁.heap.push o).objs.size = s₁.heap.objs.size + 1 := sH1
  rw [eD]
  have loop : ∀ s₃ : Shared, s₃ = { s₁ with heap := H3 } → codeAny (model c.prog c.w) A (.compLoop (.ListComp elt [⟨.Name x px, iter, ifs, 0⟩] csc pos) 0 (.ref s₁.heap.objs.size) (.ref (s₁.heap.objs.size + 1)) cenv) (RR (.ref (s₁.heap.objs.size + 1)) cenv.locals) s₃ := by
    rintro s₃ rfl
    refine codeAny_compLoop_tests (CompInv c n sc csc ifs elt x ρc xs ys cenv F P s₁ H2 H3 W) ?_ (xs.length + 1)
      ⟨0, ρc, F, P₀, [], rfl, Nat.zero_le _, fun _ => rfl, .refl _, fun a oo e => .inl e, fun a oo e => k23 _ _ (k12 a oo e), ⟨_, _, rfl⟩, S₃, hP₀, w0, ⟨#[], gD, .nil⟩, Nat.le_refl _, h, rfl, Nat.le_refl _⟩
    rintro k s₂ ⟨i, ρi, F₂, P₂, zs, rfl, hile, hput, f12, new12, old, X, S, hP₂, hw, ⟨vs, pl, rz⟩, hzi, L, eys, hz3⟩
    have nI : ¬ P₂ s₁.heap.objs.size := hI hP₂
    have nD : ¬ P₂ (s₁.heap.objs.size + 1) := hD hP₂
    have fI : F₂ s₁.heap.objs.size = none := by
      cases q : F₂ s₁.heap.objs.size with
      | none => rfl
      | some o1 =>
        rcases new12 _ _ q with z | z
        · exact absurd (Heap.lt_size (l₁ _ _ z)) (Nat.lt_irrefl _)
        · omega
    have fD : F₂ (s₁.heap.objs.size + 1) = none := by
      cases q : F₂ (s₁.heap.objs.size + 1) with
      | none => rfl
      | some o1 =>
        rcases new12 _ _ q with z | z
        · have := ltA (Heap.lt_size (l₁ _ _ z)); omega
        · omega
    generalize hq : ys.drop zs.length = q at L eys
    by_cases hlt : i < xs.length
    · refine wpAny_mono (wpAny_sz (Nat.le_refl s₂.heap.objs.size) (Wk.item i s₂ (fun r s' => match r with | some v => Pv i v ∧ W (i + 1) s'.heap ∧ (∀ b o, b ∉ [s₁.heap.objs.size] → s₂.heap.get? b = some o → s'.heap.get? b = some o) ∧ Same s₂ s' | none => False) (fun _ _ => False) hlt hw fun v h' tk hv hw' hk => ⟨hv, hw', hk, ⟨_, _, rfl⟩⟩)) (fun r s₃ hp1 => ?_) fun _ _ x => x.2.elim
      obtain ⟨hz, hr⟩ := hp1
      cases r with
      | none => exact hr.elim
      | some v' =>
        obtain ⟨hv, hw', hk, X₃⟩ := hr
        obtain ⟨dv, edv, rdv⟩ := hPv i v' hlt hv
        have hk' : ∀ b oo, b ≠ s₁.heap.objs.size → s₂.heap.get? b = some oo → s₃.heap.get? b = some oo := fun b oo q e => hk b oo (by simpa using q) e
        have S₃ := S.walk hk fI nI hz
        have ed : xs.drop i = dv :: xs.drop (i + 1) := by rw [List.drop_eq_getElem_cons hlt]; congr 1; rw [List.getElem?_eq_getElem hlt] at edv; exact Option.some.inj edv
        rw [ed] at L
        obtain ⟨vm, fpv, SV⟩ := S₃
        refine wpAny_assign_Name (store_var' okc SV.sto (relS_sto hc) fun h₄ tk₄ S₄ sb => ?_)
        obtain ⟨bS, hbS, sbS, hbw⟩ := sb
        obtain ⟨P₄, St₄, hP₄, hk₄, hz₄⟩ := SV.store (.val (rdv.mono f12)) .nil (fun a q => nomatch q) (fun a q => nomatch q) (fun y t e hy a q => nomatch q) (fun q => nomatch q) S₄ ⟨bS, hbS, sbS⟩
        rw [hput] at St₄
        have bSge : H2.objs.size ≤ bS := by
          rcases hbw with q | q
          · rw [q, hloc]; exact Nat.le_refl _
          · exact hownc bS q
        have k34 : ∀ b oo, b < H2.objs.size → s₃.heap.get? b = some oo → h₄.get? b = some oo := fun b oo hb e => (sbS.2 b (neA (by have h1 := ltA hb; have h2 := leA bSge; omega))).trans e
        have hP₄' : ∀ a, P₄ a → P a ∨ H2.objs.size ≤ a := fun a q => (hP₄ a q).elim (hP₂ a) fun q => nomatch q
        have sz4 : H3.objs.size ≤ h₄.objs.size := by rw [hz₄]; exact Nat.le_trans hz3 hz
        -- what holds behind the element or the refused test
        have back : ∀ (s₆ : Shared) (F₆ : Fz), Grow F₂ h₄ F₆ s₆.heap → Same s₃ s₆ → ∀ (h₇ : Heap) (zs' : List D) (vs' : Array Value) (q' : List D), (∀ b oo, b ≠ s₁.heap.objs.size + 1 → s₆.heap.get? b = some oo → h₇.get? b = some oo) → s₆.heap.objs.size ≤ h₇.objs.size → h₇.PlainList (s₁.heap.objs.size + 1) vs' → RdL F₆ zs' vs'.toList → zs'.length ≤ i + 1 →
            ys.drop zs'.length = q' → CompR (fun a b => Tests c n (relS csc sc) (Vars.put ρc x (.val a)) ifs b) (fun a y => Ev c n (relS csc sc) (Vars.put ρc x (.val a)) elt y) (xs.drop (i + 1)) q' → ys = zs' ++ q' →
            ∃ m, m < xs.length + 1 - i ∧ CompInv c n sc csc ifs elt x ρc xs ys cenv F P s₁ H2 H3 W m { s₆ with heap := h₇ } := fun s₆ F₆ G X₆ h₇ zs' vs' q' k7 z7 pl' rz' hzl eq' L' ey' => by
          refine ⟨xs.length + 1 - (i + 1), by omega, i + 1, Vars.put ρc x (.val dv), F₆, P₄, zs', rfl, hlt, fun t => put_put _ _ _ _, f12.trans G.fle, fun a oo e => ?_, fun a oo e => ?_, X.trans (X₃.trans (X₆.trans ⟨_, _, rfl⟩)), ?_, hP₄', ?_, ⟨vs', pl', rz'⟩, hzl, by rw [eq']; exact L', by rw [eq']; exact ey', Nat.le_trans sz4 (Nat.le_trans G.size z7)⟩
          · rcases G.new a oo e with z | z
            · exact new12 a oo z
            · exact .inr (Nat.le_trans sz4 z)
          · have ha := ltA (Heap.lt_size e)
            refine k7 a oo (neA (by omega)) (G.keep a oo (k34 a oo (ltA (by omega)) (hk' a oo (neA (by omega)) (old a oo e))))
          · refine (St₄.grow G).walk (I := s₁.heap.objs.size + 1) (fun b oo hb e => k7 b oo (by simpa using hb) e) ?_ (hD hP₄') z7
            cases q : F₆ (s₁.heap.objs.size + 1) with
            | none => rfl
            | some o1 =>
              rcases G.new _ _ q with z | z
              · rw [fD] at z; cases z
              · omega
          · refine Wk.frame (i + 1) _ _ hw' fun b hb oo e => ?_
            have hb' : b ≠ s₁.heap.objs.size + 1 ∧ b < H2.objs.size := by
              rcases fpne b hb with q | q
              · have q := eqA q; exact ⟨neA (by omega), ltA (by omega)⟩
              · have q := ltA q; exact ⟨neA (by omega), ltA (by omega)⟩
            exact k7 b oo hb'.1 (G.keep b oo (k34 b oo hb'.2 e))
        have testsRun : ∀ {b : Bool}, Tests c n (relS csc sc) (Vars.put ρc x (.val dv)) ifs b → wpAny (model c.prog c.w) A (forIn ifs true fun c r => if r = true then do let ok ← PySem.isTrue c cenv (eval c cenv); pure (ForInStep.yield ok) else pure (ForInStep.yield r)) (GivesB F₂ { s₃ with heap := h₄, toks := tk₄ } b) (fun _ _ => False) { s₃ with heap := h₄, toks := tk₄ } := fun ht => by
          cases ht with
          | nil => exact wpAny_tests_nil ⟨rfl, F₂, .refl St₄.le, .refl _⟩
          | one ht => exact wpAny_tests_one (ht A cenv [] F₂ P₄ { s₃ with heap := h₄, toks := tk₄ } R okc St₄)
        have plD : ∀ {s₆ : Shared}, Fle h₄.get? s₆.heap.get? → s₆.heap.PlainList (s₁.heap.objs.size + 1) vs := fun k46 => pl.at fun oo e => k46 _ _ (k34 _ _ (ltA (by omega)) (hk' _ _ (neA (by omega)) e))
        cases L with
        | skip ht L' =>
          refine wpAny_mono (testsRun ht) (fun b s₅ hp2 => ?_) fun _ _ x => x.elim
          obtain ⟨e, F₅, G₅, X₅⟩ := hp2
          subst e
          simp only [Bool.false_eq_true, if_false]
          exact back s₅ F₅ G₅ (Same.trans ⟨_, _, rfl⟩ X₅) s₅.heap zs vs _ (fun _ _ _ e => e) (Nat.le_refl _) (plD G₅.keep) (rz.mono G₅.fle) (Nat.le_succ_of_le hzi) hq L' eys
        | @take _ yd _ ys' ht he L' =>
          refine wpAny_mono (testsRun ht) (fun b s₅ hp3 => ?_) fun _ _ x => x.elim
          obtain ⟨e, F₅, G₅, X₅⟩ := hp3
          subst e
          simp only [if_true]
          refine wpAny_mono (he A cenv [] F₅ P₄ s₅ R okc (St₄.grow G₅)) (fun yv s₆ hp4 => ?_) fun _ _ x => x.elim
          obtain ⟨F₆, G₆, X₆, ry⟩ := hp4
          have G56 := G₅.trans G₆
          have hvs : vs.size ≤ sizeLine := by
            have e1 : vs.size = zs.length := by rw [← Array.length_toList]; exact rz.length
            have e2 : sizeLine = 16777216 := by decide
            omega
          refine wpAny_list_append_plain (plD G56.keep) (fun h₇ pl₇ sb₇ => ?_) hvs
          refine back s₆ F₆ G56 (Same.trans ⟨_, _, rfl⟩ (X₅.trans X₆)) h₇ (zs ++ [yd]) (vs.push yv) ys' (fun b oo hb e => (sb₇.2 b hb).trans e) (Nat.le_of_eq sb₇.1.symm) pl₇ (by rw [Array.toList_push]; exact (rz.mono G56.fle).snoc ry) (by simp; omega) ?_ L' (by rw [eys]; simp)
          rw [List.length_append, List.length_singleton, ← List.drop_drop, hq]; rfl
    · have hin : i = xs.length := by omega
      subst hin
      refine wpAny_mono (wpAny_sz (Nat.le_refl s₂.heap.objs.size) (Wk.done s₂ (fun r s' => r = none ∧ (∀ b o, b ∉ [s₁.heap.objs.size] → s₂.heap.get? b = some o → s'.heap.get? b = some o) ∧ Same s₂ s') (fun _ _ => False) hw fun h' tk hk => ⟨rfl, hk, ⟨_, _, rfl⟩⟩)) (fun r s₃ hp5 => ?_) fun _ _ x => x.2.elim
      obtain ⟨hz, hr⟩ := hp5
      obtain ⟨rfl, hk, X₃⟩ := hr
      rw [List.drop_length] at L
      cases L
      have ezs : ys = zs := by rw [eys]; simp
      subst ezs
      have S₃ := S.walk hk fI nI hz
      have hk' : ∀ b oo, b ≠ s₁.heap.objs.size → s₂.heap.get? b = some oo → s₃.heap.get? b = some oo := fun b oo q e => hk b oo (by simpa using q) e
      refine hRR _ _ _ ⟨⟨F₂, ⟨f12, fun a oo e => (new12 a oo e).imp id fun z => leA (by have := leA z; omega), fun a oo e => hk' a oo (neA (by have := ltA (Heap.lt_size e); omega)) (old a oo e), S₃.le, by omega⟩, fD, ⟨vs, pl.at fun oo e => hk' _ _ (neA (by omega)) e, rz⟩, S.out (S.stor (.head _))⟩, X.trans X₃, leA (by omega), ?_, leA (by rw [hloc]; omega), neA (by rw [hloc]; omega)⟩
      obtain ⟨vm, fpv, SV⟩ := S₃
      obtain ⟨m, hm, _⟩ := SV.sto.loc
      exact ⟨m, hm⟩
  refine codeAny_compStart_list (loop _ rfl) (Wk.self 0 _ _ _ w0 (loop _ rfl))
end Mine
end

section
open PySem PySem.Calls PyProof.Rows PySem.W
set_option maxRecDepth 100000
set_option linter.unusedVariables false
namespace Mine
variable {c : Cx} {n : Nat} {sc : Scope} {pn : List Str} {ρ : Vars}

theorem CompEnd.sameBut {F : Fz} {s s' : Shared} {ys : List D} {D C : Addr} (x : CompEnd F s ys D C s') {h' : Heap} (sb : Heap.SameBut C s'.heap h') : ∃ F', Grow F s.heap F' h' ∧ F' D = none ∧ LstAt h' F' ys D ∧ F' C = none := by
  obtain ⟨F', G, a, l, b⟩ := x.ex
  refine ⟨F', ⟨G.fle, G.new, fun q o e => (sb.2 q fun z => ?_).trans (G.keep q o e), fun q o e => (sb.2 q fun z => ?_).trans (G.le q o e), by rw [sb.1]; exact G.size⟩, a, l.mono (fun o e => (sb.2 D x.ne).trans e) (.refl _), b⟩
  · exact Nat.not_lt.mpr x.freshC (z ▸ Heap.lt_size e)
  · rw [z, b] at e; cases e
theorem comp_names {csc : Scope} {x : Str} (hc : CompOk csc sc x) : ∀ y ∈ csc.names, y.2 = .local → csc.names.lookup y.1 = some .local := fun y hy hl => by rw [lookup_of_nd hc.nd hy, hl]
theorem comp_clos {env : Env} {pins : Pins} {F : Fz} {P : Addr → Prop} {h : Heap} {csc : Scope} {x : Str} (ok : EnvOk env sc) (S : St c env pins ρ F P h) (hc : CompOk csc sc x) : closureFor csc env = pure (closL env csc.names) := by
  obtain ⟨vm, fp, S⟩ := S
  refine closureFor_pure fun q hq hk => ?_
  have kx : env.kindOf q.1 = sc.names.lookup q.1 := by unfold Env.kindOf; rw [ok.scope]
  obtain ⟨a, e, _⟩ := S.sto.cel q.1 ((hc.free q hq hk).imp kx.trans kx.trans)
  exact ⟨a, e⟩

variable (c n sc ρ) in
/-- a comprehension of one clause gives ys -/
structure CompOf (elt iter : Expr) (x : Str) (ifs : List Expr) (csc : Scope) (ρc : Vars) (ys : List D) : Prop where
  ok : compOk csc sc x = true
  free : ∀ y sl, ρc.lookup y = some sl → csc.names.lookup y = some .free ∧ ρ.lookup y = some sl
  fold : ∀ env v, foldedSetIterable iter env v = pure v
  run : ∃ d xs, EvR c n sc ρ iter d ∧ d.items = some xs ∧ d.small = true ∧ xs.length ≤ 100000 ∧
    CompR (fun a b => Tests c n (relS csc sc) (Vars.put ρc x (.val a)) ifs b) (fun a y => Ev c n (relS csc sc) (Vars.put ρc x (.val a)) elt y) xs ys

theorem EvNew_comp {elt iter : Expr} {x : Str} {px pos : Pos} {ifs : List Expr} {csc : Scope} {ρc : Vars} {ys : List D} (h : CompOf c n sc ρ elt iter x ifs csc ρc ys) :
    EvNew c n sc ρ (.ListComp elt [⟨.Name x px, iter, ifs, 0⟩] csc pos) ys := fun A env pins F P s R ok S => by
  have hc := compOk_of h.ok
  obtain ⟨d, xs, hi, hx, hs, hl, hr⟩ := h.run
  rw [eval_ListComp]
  refine wpAny_comprehension_free (use := none) rfl (h.fold env) (comp_clos ok S hc) hc.kind (comp_names hc) ?_
  refine wpAny_mono (hi A env pins F P s R ok S) (fun v s₁ hp1 => ?_) fun _ _ x => x
  obtain ⟨F₁, G₁, X₁, r₁⟩ := hp1
  refine comp_core (RR := fun acc C => compPost (model c.prog c.w) A (fun _ _ => False) none _ acc C) R ok (S.grow G₁) hc h.free r₁ hx hs hl hr fun D C s' ce => ?_
  obtain ⟨m, hm⟩ := ce.ns
  refine ⟨m, hm, fun h' sb => ?_⟩
  obtain ⟨F', G, a, l, b⟩ := ce.sameBut sb
  exact ⟨F', D, G₁.trans G, X₁.trans (ce.same.trans ⟨_, _, rfl⟩), rfl, Nat.le_trans G₁.size ce.fresh, a, l⟩

noncomputable def swapB (sc csc : Scope) (t : Str) (tpos vpos : Pos) : Bool := sc.names.lookup t == some .local && tpos.line == vpos.line && !(csc.names.any fun (n, k) => n == t && (k == .local || k == .cell))
theorem swaps_comp {env : Env} {elt : Expr} {gens : List Comprehension} {csc : Scope} {t : Str} {tpos vpos : Pos} {line : Nat} (ok : EnvOk env sc) : swapsWith (.ListComp elt gens csc vpos) (some (.Name t tpos)) line env = pure (swapB sc csc t tpos vpos) := by
  have e1 : swapsWith (.ListComp elt gens csc vpos) (some (.Name t tpos)) line env = pure (env.blockKind == .function && env.kindOf t == some .local && tpos.line == vpos.line && !(csc.names.any fun (n, k) => n == t && (k == .local || k == .cell))) := rfl
  rw [e1]
  have e2 : env.blockKind = .function := by unfold Env.blockKind; rw [ok.scope, ok.kind]; rfl
  have e3 : env.kindOf t = sc.names.lookup t := by unfold Env.kindOf; rw [ok.scope]
  rw [e2, e3]; rfl

/-- x = [..], kept frozen -/
theorem ExS_comp {elt iter : Expr} {x y : Str} {px py pos spos : Pos} {ifs : List Expr} {csc : Scope} {ρc : Vars} {ys : List D} (h : CompOf c n sc ρ elt iter x ifs csc ρc ys) (hy : isSto sc y = true) (hyp : y ∉ pn) :
    ExS c n sc pn ρ (.Assign [.Name y py] (.ListComp elt [⟨.Name x px, iter, ifs, 0⟩] csc pos) spos) .next (Vars.put ρ y (.val (.lst ys))) := fun A env pins F P s R ok hp S => by
  cases hb : swapB sc csc y py pos with
  | false =>
    refine wpAny_Assign_Name (wpAny_mono ((EvNew_comp h).ev A env pins F P s R ok S) (fun v s₁ hp2 => ?_) fun _ _ x => x) (by rw [swaps_comp ok, hb])
    obtain ⟨F₁, G₁, X₁, r⟩ := hp2
    exact wpAny_mono (store_val ok hp (S.grow G₁) hy hyp r .next) (fun _ s' q => q.after G₁.step X₁) fun _ _ x => x
  | true =>
    have hc := compOk_of h.ok
    obtain ⟨d, xs, hi, hx, hs, hl, hr⟩ := h.run
    rw [exec_Assign_Name_used _ _ _ _ (by rw [swaps_comp ok, hb])]
    refine wpAny_bind (wpAny_standAt (wpAny_bind ?_))
    show wpAny _ A (do let _ ← comprehension (.ListComp elt [⟨.Name x px, iter, ifs, 0⟩] csc pos) csc env _ (newList []) false (eval iter env) (some (assign (.Name y py) env))) _ _ s
    refine wpAny_bind (wpAny_mono (wpAny_comprehension_free (use := some (assign (.Name y py) env)) (Q := fun _ s' => StepTo c env pins F P s .next (Vars.put ρ y (.val (.lst ys))) .next s') rfl (h.fold env) (comp_clos ok S hc) hc.kind (comp_names hc) ?_) (fun _ s' q => wpAny_pure (wpAny_pure q)) fun _ _ x => x)
    refine wpAny_mono (hi A env pins F P s R ok S) (fun v s₁ hp3 => ?_) fun _ _ x => x
    obtain ⟨F₁, G₁, X₁, r₁⟩ := hp3
    refine comp_core (RR := fun acc C => compPost (model c.prog c.w) A (fun _ _ => False) (some (assign (.Name y py) env)) _ acc C) R ok (S.grow G₁) hc h.free r₁ hx hs hl hr fun D C s' ce => ?_
    obtain ⟨F', G, a, l, b⟩ := ce.ex
    have G' : Grow F₁ s₁.heap (fun q => if q = D then s'.heap.get? q else F' q) s'.heap := by
      refine ⟨fun q o e => ?_, fun q o e => ?_, G.keep, fun q o e => ?_, G.size⟩
      · have := G.fle q o e
        have hne : q ≠ D := fun z => by rw [z, a] at this; cases this
        simp only [if_neg hne]; exact this
      · by_cases hq : q = D
        · rw [hq]; exact .inr ce.fresh
        · simp only [if_neg hq] at e; exact G.new q o e
      · by_cases hq : q = D
        · simp only [if_pos hq] at e; exact e
        · simp only [if_neg hq] at e; exact G.le q o e
    have Sg := (S.grow G₁).grow G'
    show wpAny _ A (assign (.Name y py) env (.ref D)) _ _ _
    refine wpAny_assign_Name (wpAny_mono (store_val ok hp Sg hy hyp (l.rd a) (fl := .next) (f := .next) .next) (fun _ s₃ q => ?_) fun _ _ x => x)
    obtain ⟨F₃, P₃, T₃, X₃, S₃, _⟩ := q
    obtain ⟨m, hm⟩ := ce.ns
    have ltP : ∀ q, P q → q < s₁.heap.objs.size := fun q hq => (S.grow G₁).lt hq
    have hCP : ¬ P C := fun q => Nat.not_lt.mpr ce.freshC (ltP C q)
    have hmC := hm
    obtain ⟨oC, esC, epC, hoC, rC⟩ := hm
    have hC₃ : s₃.heap.Ns C m := ⟨oC, esC, epC, T₃.keep C oC hCP hoC, rC⟩
    have hCs' : C < s'.heap.objs.size := Heap.lt_size hoC
    have hCF : F₃ C = none := by
      cases q : F₃ C with
      | none => rfl
      | some o1 =>
        rcases T₃.new C o1 q with z | z | z
        · simp only [if_neg (Ne.symm ce.ne)] at z; rw [b] at z; cases z
        · exact absurd z hCP
        · exact absurd hCs' (Nat.not_lt.mpr z)
    have hCP₃ : ¬ P₃ C := fun q => (T₃.mem C q).elim hCP fun z => Nat.not_lt.mpr z hCs'
    refine ⟨m, hC₃, fun h' sb => ?_⟩
    have Tall := (G₁.trans G').step (P := P) |>.trans T₃
    refine ⟨F₃, P₃, ⟨Tall.fle, Tall.new, fun q o hq e => (sb.2 q fun z => ?_).trans (Tall.keep q o hq e), Tall.mem, by show _ ≤ h'.objs.size; rw [sb.1]; exact Tall.size⟩, X₁.trans (ce.same.trans (X₃.trans ⟨_, _, rfl⟩)), S₃.walk (I := C) (fun q o hq e => (sb.2 q (by simpa using hq)).trans e) hCF hCP₃ (Nat.le_of_eq sb.1.symm), .next⟩
    have := Heap.lt_size e
    rw [z] at this
    exact Nat.not_lt.mpr (Nat.le_trans G₁.size ce.freshC) this
end Mine
end

section
open PySem PySem.Calls PyProof.Rows PySem.W
set_option maxRecDepth 100000
set_option linter.unusedVariables false
namespace Mine
variable {c : Cx} {n : Nat} {sc : Scope} {pn : List Str} {ρ : Vars}

/-- fewer variables -/
noncomputable def VSub (ρ : Vars) : Vars → Prop
  | [] => True
  | (x, s) :: r => ρ.lookup x = some s ∧ VSub ρ r
theorem VSub.get {ρ : Vars} : ∀ {ρ' : Vars}, VSub ρ ρ' → ∀ {x : Str} {s : Slot}, ρ'.lookup x = some s → ρ.lookup x = some s
  | [], _, x, s, e => by cases e
  | (y, t) :: r, h, x, s, e => by
    rw [List.lookup_cons] at e
    by_cases hx : x = y
    · subst hx; simp only [beq_self_eq_true] at e; cases e; exact h.1
    · have hb : (x == y) = false := by simpa using hx
      rw [hb] at e; exact VSub.get h.2 e
theorem St.less {env : Env} {pins : Pins} {F : Fz} {P : Addr → Prop} {h : Heap} {ρ' : Vars} (S : St c env pins ρ F P h) (hs : VSub ρ ρ') : ∃ P', St c env pins ρ' F P' h ∧ ∀ a, P' a → P a := by
  obtain ⟨vm, fp, S⟩ := S
  refine ⟨fun a => a ∈ Mine.stor env ∨ ∃ x s, ρ'.lookup x = some s ∧ a ∈ fp x, ⟨vm, fp, ?_⟩, fun a q => (S.mem a).mpr (q.imp id fun hp1 => by obtain ⟨x, s, e, q⟩ := hp1; exact ⟨x, s, hs.get e, q⟩)⟩
  exact {
    base := S.base
    le := S.le
    sto := S.sto
    own := fun x s e => S.own x s (hs.get e)
    pin := S.pin
    mem := fun a => Iff.rfl
    lt := fun a q => S.lt a ((S.mem a).mpr (q.imp id fun hp2 => by obtain ⟨x, s, e, q⟩ := hp2; exact ⟨x, s, hs.get e, q⟩))
    out := fun a q => S.out a ((S.mem a).mpr (q.imp id fun hp3 => by obtain ⟨x, s, e, q⟩ := hp3; exact ⟨x, s, hs.get e, q⟩))
    nd := fun x s e => S.nd x s (hs.get e)
    apart := fun x s y t e e' => S.apart x s y t (hs.get e) (hs.get e')
    aparts := fun x s e => S.aparts x s (hs.get e) }
theorem StepTo.less {env : Env} {pins : Pins} {F : Fz} {P : Addr → Prop} {s : Shared} {fl : Fl} {ρ' : Vars} {f : Flow} {s' : Shared} (q : StepTo c env pins F P s fl ρ f s') (hs : VSub ρ ρ') : StepTo c env pins F P s fl ρ' f s' := by
  obtain ⟨F', P', T, X, S, r⟩ := q
  obtain ⟨P'', S', hP⟩ := S.less hs
  exact ⟨F', P'', ⟨T.fle, T.new, T.keep, fun a q => T.mem a (hP a q), T.size⟩, X, S', r⟩
theorem Ex.less {sts : List Stmt} {fl : Fl} {ρ₁ ρ' : Vars} (h : Ex c n sc pn ρ sts fl ρ₁) (hs : VSub ρ₁ ρ') : Ex c n sc pn ρ sts fl ρ' := fun A env pins F P s R ok hp S => wpAny_mono (h A env pins F P s R ok hp S) (fun _ _ q => q.less hs) fun _ _ x => x
theorem ExS.less {st : Stmt} {fl : Fl} {ρ₁ ρ' : Vars} (h : ExS c n sc pn ρ st fl ρ₁) (hs : VSub ρ₁ ρ') : ExS c n sc pn ρ st fl ρ' := fun A env pins F P s R ok hp S => wpAny_mono (h A env pins F P s R ok hp S) (fun _ _ q => q.less hs) fun _ _ x => x
/-- .. and before -/
theorem Ex.pre {sts : List Stmt} {fl : Fl} {ρ₀ ρ' : Vars} (h : Ex c n sc pn ρ₀ sts fl ρ') (hs : VSub ρ ρ₀) : Ex c n sc pn ρ sts fl ρ' := fun A env pins F P s R ok hp S => by
  obtain ⟨P', S', hP⟩ := S.less hs
  refine wpAny_mono (h A env pins F P' s R ok hp S') (fun f s' hp4 => ?_) fun _ _ x => x
  obtain ⟨F₁, P₁, T, X, S₁, q⟩ := hp4
  exact ⟨F₁, P₁, ⟨T.fle, fun a o e => (T.new a o e).imp id (.imp (hP a) id), fun a o q e => T.keep a o (fun z => q (hP a z)) e, fun a q => (T.mem a q).imp (hP a) id, T.size⟩, X, S₁, q.back (fun a z => .inl (hP a z)) (Nat.le_refl _)⟩
theorem Te.conv {e : Expr} {b b' : Bool} (h : Te c n sc ρ e b) (hb : b = b') : Te c n sc ρ e b' := hb ▸ h
theorem Ev.conv {e : Expr} {d d' : D} (h : Ev c n sc ρ e d) (hb : d = d') : Ev c n sc ρ e d' := hb ▸ h
theorem EvR.conv {e : Expr} {d d' : D} (h : EvR c n sc ρ e d) (hb : d = d') : EvR c n sc ρ e d' := hb ▸ h
theorem EvR_name {x : Str} {pos : Pos} {d : D} (e : ρ.lookup x = some (.val d)) (hl : isLoc sc x = true) : EvR c n sc ρ (.Name x pos) d := .of (Ev_name e hl)
theorem EvR_int {i : Int} {k : Nat} {pos : Pos} : EvR c n sc ρ (.Constant (.int i) k pos) (.int i) := .of Ev_int
theorem EvR_str {x : Str} {k : Nat} {pos : Pos} : EvR c n sc ρ (.Constant (.str x) k pos) (.str x) := .of Ev_str
theorem EvR_none {k : Nat} {pos : Pos} : EvR c n sc ρ (.Constant .none k pos) .none := .of Ev_none
theorem EvX_ev {e : Expr} {d : D} (h : Ev c n sc ρ e d) : EvX c n sc pn ρ e d ρ := .of h
end Mine
end

section
open PySem PySem.Calls PyProof.Rows PySem.W
set_option maxRecDepth 100000
set_option linter.unusedVariables false
namespace Mine
variable {c : Cx} {n : Nat} {sc : Scope} {pn : List Str} {ρ : Vars}

/-- a def as it stands, without its signature -/
structure DefAt (c : Cx) (fa : Addr) (fd : FuncData) (body : List Stmt) (sc : Scope) : Prop where
  at_ : ∃ o, c.hB.get? fa = some o ∧ o.data = .func fd
  body : fd.body = .stmts body
  scope : fd.scope = sc
  clo : fd.closure = []
  glob : fd.globals = mainGlobals
  blt : fd.builtins = builtinsNs
  code : c.hB.CodeRec fd.code fd.qualname

theorem zip_self : ∀ l : List (Str × Value), (l.map (·.1)).zip (l.map (·.2)) = l
  | [] => rfl
  | a :: r => by simp only [List.map_cons, List.zip_cons_cons, zip_self r]
theorem vmB_lookup {binds : List (Str × Value)} (nd : (binds.map (·.1)).Nodup) {x : Str} {v : Value} (e : binds.lookup x = some v) : vmB binds (fun _ => none) x = some v := by
  have := vmB_zip (binds.map (·.1)) (binds.map (·.2)) (fun _ => none) nd (x := x) (v := v) (by rw [zip_self]; exact e)
  rwa [zip_self] at this

noncomputable def Ret (Q : Value → Shared → Prop) : Result → Shared → Prop := fun r s' => match r with
  | .ok (.ret v) => Q v s'
  | .ok _ => False
  | .error _ => False
theorem codeRet_mono {M : Model} {A : Around} {cd : Code} {s : Shared} {Q Q' : Value → Shared → Prop} (h : codeAny M A cd (Ret Q) s) (k : ∀ v s', Q v s' → Q' v s') : codeAny M A cd (Ret Q') s :=
  codeAny_mono h fun r s' z => by rcases r with e | (v | _ | _ | _) <;> first | exact k _ _ z | exact z.elim
theorem Ret.wp {M : Model} {A : Around} {s : Shared} {f : Value} {vs : List Value} {kw : List (Str × Value)} {Q : Value → Shared → Prop} (h : codeAny M A (.call f ⟨vs, kw⟩) (Ret Q) s) : wpAny M A (call f vs kw) Q (fun _ _ => False) s :=
  wpAny_call (codeAny_mono h fun r s' z => by rcases r with e | (v | _ | _ | _) <;> first | exact z | exact z.elim)

theorem call_openG {A : Around} {s s' : Shared} {fa : Addr} {fd : FuncData} {body : List Stmt} {args : Args} {binds : List (Str × Value)} {Q : Value → Shared → Prop} (hc : c.Ok) (D : DefAt c fa fd body sc) (hs : scOk sc (binds.map (·.1)) = true) (R : Room n A) (hk : Fle c.hB.get? s.heap.get?) (hk' : Fle s.heap.get? s'.heap.get?)
    (hbind : ∀ (A' : Around) (E : Value → Shared → Prop) (Q : List (Str × Value) → Shared → Prop), Q binds s' → wpAny (model c.prog c.w) A' (bindArgs fd args) Q E s)
    (h : ∀ env s₁, EnvOk env sc → InCallC s' env.locals (bindL env.kindOf binds fun _ => none) env.cells (bindC env.kindOf binds fun _ => none) s₁ →
      (∀ x, sc.names.lookup x = some .cell → ∃ q, env.cells.lookup x = some q) → (∀ q ∈ env.cells, env.cells.lookup q.1 = some q.2) →
      wpAny (model c.prog c.w) (A.deeper env) (execs body env) (fun f s' => Q (match f with | .ret v => v | _ => .none) s') (fun _ _ => False) s₁) :
    codeAny (model c.prog c.w) A (.call (.ref fa) args) (Ret Q) s := by
  obtain ⟨⟨o, ho, hd⟩, hb, rfl, hcl, hg, hbn, hcd⟩ := D
  have sk := scOk_of hs
  refine codeAny_call_function R.depth (hk _ _ ho) hd sk.co sk.gen hb (hcd.keeps hk) (hbind _ _ _ ?_)
  rw [hcl]
  have hkind : ∀ x ∈ binds, fd.scope.names.lookup x.1 = some .local ∨ (fd.scope.names.lookup x.1 = some .cell ∧ ((cellsFrom (s'.heap.objs.size + 1) fd.scope.names []).lookup x.1).isSome = true) := fun x hx =>
    (sk.par x.1 (List.mem_map_of_mem (f := (·.1)) hx)).imp id fun q => ⟨q, cells_some q⟩
  refine wpAny_newFunctionEnv_cells sk.kind hkind fun env he s₁ X => ?_
  subst he
  refine ⟨(hc.top.nolimit.keeps hk).keeps (fun b o e => X.toInCall.keep b o (hk' b o e)), ?_⟩
  have hnames : ((cellsFrom (s'.heap.objs.size + 1) fd.scope.names []).map (·.1)).Nodup := cellsFrom_names fd.scope.names 0 (s'.heap.objs.size + 1) [] [] rfl ▸ sk.cells
  refine codeAny_func (wpAny_mono (h _ s₁ ⟨rfl, sk.kind, hg, hbn, ?_⟩ X (fun x hx => ?_) fun q hq => ?_) (fun f s' q => q) fun _ _ x => x.elim)
  · refine List.nodup_cons.mpr ⟨fun q => ?_, List.pairwise_map.mpr X.apart⟩
    obtain ⟨r, hr, e⟩ := List.mem_map.mp q
    have := X.above r.1 r.2 hr
    rw [e] at this; exact Nat.lt_irrefl _ this
  · exact Option.isSome_iff_exists.mp (cells_some hx)
  · exact lookup_of_mem_nodup hnames hq

/-- the run of a body, from its first state to its last -/
theorem run_fn {A : Around} {s s' : Shared} {fa : Addr} {fd : FuncData} {body : List Stmt} {args : Args} {binds : List (Str × Value)} {ρ0 ρ' : Vars} {fl : Fl} {fp : Str → List Addr} {pins : Pins} {F : Fz} (hc : c.Ok) (D : DefAt c fa fd body sc) (hs : scOk sc (binds.map (·.1)) = true) (R : Room (n + 1) A) (hb : Fle c.hB.get? F) (l : Fle F s.heap.get?) (hk' : Fle s.heap.get? s'.heap.get?) (X' : Same s s')
    (hbind : ∀ (A' : Around) (E : Value → Shared → Prop) (Q : List (Str × Value) → Shared → Prop), Q binds s' → wpAny (model c.prog c.w) A' (bindArgs fd args) Q E s)
    (own : ∀ x sl, ρ0.lookup x = some sl → ∃ v, binds.lookup x = some v ∧ Own s'.heap F sl v (fp x)) (pin : ∀ q ∈ pins, binds.lookup q.1 = some q.2)
    (out : ∀ x sl, ρ0.lookup x = some sl → ∀ a ∈ fp x, F a = none) (nd : ∀ x sl, ρ0.lookup x = some sl → (fp x).Nodup)
    (apart : ∀ x sl y t, ρ0.lookup x = some sl → ρ0.lookup y = some t → x ≠ y → ∀ a ∈ fp x, a ∉ fp y) (hfl : fl ≠ .brk ∧ fl ≠ .cont)
    (h : Ex c n sc (pins.map (·.1)) ρ0 body fl ρ') :
    codeAny (model c.prog c.w) A (.call (.ref fa) args) (Ret (fun v s₂ => ∃ F', Fle F F' ∧ (∀ b o, F' b = some o → F b = some o ∨ (∃ x sl, ρ0.lookup x = some sl ∧ b ∈ fp x) ∨ s'.heap.objs.size ≤ b) ∧
      (∀ b o, ¬ (∃ x sl, ρ0.lookup x = some sl ∧ b ∈ fp x) → s'.heap.get? b = some o → s₂.heap.get? b = some o) ∧ Same s s₂ ∧ s'.heap.objs.size ≤ s₂.heap.objs.size ∧ Rd F' fl.res v ∧ (∃ env P', St c env pins ρ' F' P' s₂.heap ∧ ∀ b, P' b → (∃ x sl, ρ0.lookup x = some sl ∧ b ∈ fp x) ∨ s'.heap.objs.size ≤ b) ∧
      (∀ d, fl = .retF d → ∃ a, v = .ref a ∧ ((∃ x sl, ρ0.lookup x = some sl ∧ a ∈ fp x) ∨ s'.heap.objs.size ≤ a)))) s := by
  have sk := scOk_of hs
  have l' : Fle F s'.heap.get? := l.trans hk'
  refine call_openG hc D hs R (hb.trans l) hk' hbind fun env s₁ ok X hce hcl => ?_
  obtain ⟨hst, S⟩ := enter_st (c := c) (pins := pins) (ρ0 := ρ0) (fp := fp) ok X hce (fun x q => (sk.nofree _ (mem_of_lookup q)) rfl) hcl hb l'
    (fun x sl e => let ⟨v, e1, o⟩ := own x sl e; ⟨v, vmB_lookup sk.nd e1, o⟩) (fun q hq => vmB_lookup sk.nd (pin q hq)) out nd apart
  have kp : Fle s'.heap.get? s₁.heap.get? := X.toInCall.keep
  have lt₁ : env.locals < s₁.heap.objs.size := X.toInCall.ns.lt
  have sz₁ : s'.heap.objs.size ≤ s₁.heap.objs.size := Nat.le_trans X.toInCall.fresh (Nat.le_of_lt lt₁)
  have X₁ : Same s' s₁ := by obtain ⟨h₁, tk, rfl, _⟩ := X.done; exact ⟨_, _, rfl⟩
  refine wpAny_mono (h (A.deeper env) env pins F _ s₁ R.deeper ok rfl S) (fun f s₂ hp1 => ?_) fun _ _ x => x
  obtain ⟨F', P', T, Y, S', q⟩ := hp1
  have hP : ∀ b, (b ∈ stor env ∨ ∃ x sl, ρ0.lookup x = some sl ∧ b ∈ fp x) → (∃ x sl, ρ0.lookup x = some sl ∧ b ∈ fp x) ∨ s'.heap.objs.size ≤ b := fun b q => q.elim (fun q => .inr (hst b q)) .inl
  have fin : ∀ v, Rd F' fl.res v → (∀ d, fl = .retF d → ∃ a, v = .ref a ∧ ((∃ x sl, ρ0.lookup x = some sl ∧ a ∈ fp x) ∨ s'.heap.objs.size ≤ a)) → ∃ F', Fle F F' ∧ (∀ b o, F' b = some o → F b = some o ∨ (∃ x sl, ρ0.lookup x = some sl ∧ b ∈ fp x) ∨ s'.heap.objs.size ≤ b) ∧
      (∀ b o, ¬ (∃ x sl, ρ0.lookup x = some sl ∧ b ∈ fp x) → s'.heap.get? b = some o → s₂.heap.get? b = some o) ∧ Same s s₂ ∧ s'.heap.objs.size ≤ s₂.heap.objs.size ∧ Rd F' fl.res v ∧ (∃ env P', St c env pins ρ' F' P' s₂.heap ∧ ∀ b, P' b → (∃ x sl, ρ0.lookup x = some sl ∧ b ∈ fp x) ∨ s'.heap.objs.size ≤ b) ∧
      (∀ d, fl = .retF d → ∃ a, v = .ref a ∧ ((∃ x sl, ρ0.lookup x = some sl ∧ a ∈ fp x) ∨ s'.heap.objs.size ≤ a)) := fun v rv z =>
    ⟨F', T.fle, fun b o e => (T.new b o e).imp id fun q => q.elim (hP b) fun q => .inr (Nat.le_trans sz₁ q),
      fun b o hne e => T.keep b o (fun q => (hP b q).elim hne fun q => Nat.not_lt.mpr q (Heap.lt_size e)) (kp b o e), X'.trans (X₁.trans Y), Nat.le_trans sz₁ T.size, rv, ⟨env, P', S', fun b q => (T.mem b q).elim (hP b) fun q => .inr (Nat.le_trans sz₁ q)⟩, z⟩
  cases q with
  | next => exact fin _ .none fun _ e => nomatch e
  | brk => exact absurd rfl hfl.1
  | cont => exact absurd rfl hfl.2
  | ret rv => exact fin _ rv fun _ e => nomatch e
  | retF rv q => exact fin _ rv fun d _ => ⟨_, rfl, q.elim (hP _) fun q => .inr (Nat.le_trans sz₁ q)⟩
end Mine
end

section
open PySem PySem.Calls PyProof.Rows PySem.W
set_option maxRecDepth 100000
set_option linter.unusedVariables false
namespace Mine
variable {c : Cx} {n : Nat} {sc : Scope} {pn : List Str} {ρ : Vars}

/-- a class of the program whose instances are plain -/
structure ClsK (c : Cx) (C : Addr) : Prop where
  ga : findIn c.K (.ref C) "__getattribute__" = some (some (.builtin "object.__getattribute__"))
  ge : findIn c.K (.ref C) "__getattr__" = some none
  sa : findIn c.K (.ref C) "__setattr__" = some (some (.builtin "object.__setattr__"))
  over : plainOver c.K C = true
  dict : hasDictIn c.K C = true

theorem RdF.find {F : Fz} {es : Array DictEntry} {fs : List (Str × D)} (r : RdF F fs es) : ∀ {x : Str} {d : D}, fs.lookup x = some d → ∃ v, nsFind es x = some v ∧ Rd F d v :=
  RdF.ind (P := fun fs es => ∀ {x : Str} {d : D}, fs.lookup x = some d → ∃ v, nsFind es x = some v ∧ Rd F d v) (fun e => nomatch e) (@fun y d' v r _ e1 e2 _ ih x d e => by
    rw [List.lookup_cons] at e
    by_cases h : x = y
    · subst h; simp only [beq_self_eq_true] at e; cases e; exact ⟨v, e1, e2⟩
    · have : (x == y) = false := by simpa using h
      rw [this] at e; exact ih e) r
theorem Rd.handed {F : Fz} {d : D} {v : Value} (r : Rd F d v) : handedIn v = true := by cases r <;> rfl
theorem lookIn_some {o : Obj} {es : Array DictEntry} {k : Nat} (hd : o.data = .dict es k) {x : Str} {v : Value} (e : nsFind es x = some v) : lookIn x o = some (some v) := by
  unfold lookIn; rw [hd]; dsimp only
  unfold nsFind findBy at e
  rw [← Array.find?_toList] at e
  obtain ⟨q, h1, h2⟩ := Option.map_eq_some_iff.mp e
  rw [h1]; dsimp only; rw [h2]
theorem lookIn_none {o : Obj} {es : Array DictEntry} {k : Nat} (hd : o.data = .dict es k) (hk : StrKeys es) {x : Str} (e : nsFind es x = none) : lookIn x o = some none := by
  unfold lookIn; rw [hd]; dsimp only
  unfold nsFind findBy at e
  rw [← Array.find?_toList, Option.map_eq_none_iff] at e
  rw [e]; dsimp only
  rw [if_neg]
  rw [Bool.not_eq_true, List.any_eq_false]
  intro q hq
  obtain ⟨m, t, h⟩ := hk q (Array.mem_def.mpr hq)
  simp [DictEntry.refKey, h]
theorem Cx.Ok.at_ {h : Heap} (hc : c.Ok) (hk : Fle c.hB.get? h.get?) : c.K.In h := hc.inK.keeps hk

noncomputable def AtrAt (value : Expr) (attr : Str) (pos : Pos) : Prop := ∀ env, eval (.Attribute value attr pos) env = (do
      let o ← eval value env
      standAt pos.atName
      let r ← holding [o] (getAttr o attr true)
      letTemporaryGo value o r
      pure r)

theorem get_field {A : Around} {s : Shared} {x dx C : Addr} {od : Obj} {es : Array DictEntry} {k : Nat} {name : Str} {v : Value} {expr : Bool} {E : Value → Shared → Prop} {Q : Value → Shared → Prop} (X : c.K.In s.heap) (hC : ClsK c C) (hx : s.heap.get? x = some (instObj C dx)) (ho : s.heap.get? dx = some od) (hd : od.data = .dict es k)
    (hn : findIn c.K (.ref C) name = some none) (hv : nsFind es name = some v) (hh : handedIn v = true) (q : Q v { s with toks := s.toks + 1 }) : wpAny (model c.prog c.w) A (getAttr (.ref x) name expr) Q E s :=
  get_value X ⟨hx, rfl, rfl, ho⟩ hC.ga (findObj_own hC.dict hn rfl (lookIn_some hd hv)) hh q

theorem Ev_attr {e : Expr} {name : Str} {pos : Pos} {C : Addr} {fs : List (Str × D)} {d : D} (hc : c.Ok) (hC : ClsK c C) (hn : findIn c.K (.ref C) name = some none) (he : Ev c n sc ρ e (.inst C fs)) (hf : fs.lookup name = some d) (hm : AtrAt e name pos := by exact fun _ => rfl) : Ev c n sc ρ (.Attribute e name pos) d := fun A env pins F P s R ok S => by
  refine Attribute_any_ (wpAny_mono (he A env pins F P s R ok S) (fun v s₁ hp1 => ?_) fun _ _ x => x) (hm env)
  obtain ⟨F₁, G₁, X₁, r₁⟩ := hp1
  cases r₁ with
  | inst a b e' k r z =>
    obtain ⟨v, h1, h2⟩ := r.find hf
    exact get_field (hc.at_ (S.grow G₁).keep) hC (G₁.le _ _ a) (G₁.le _ _ b) e' hn h1 h2.handed ⟨F₁, ⟨G₁.fle, G₁.new, G₁.keep, G₁.le, G₁.size⟩, X₁.trans ⟨_, _, rfl⟩, h2⟩

theorem StV.self {env : Env} {pins : Pins} {F : Fz} {P : Addr → Prop} {h : Heap} {vm : Str → Option Value} {fp : Str → List Addr} (S : StV c env pins ρ F P h vm fp) {x : Str} {C : Addr} {fs : List (Str × D)} (hx : ρ.lookup x = some (.self C fs)) :
    ∃ a dx es, vm x = some (.ref a) ∧ fp x = [a, dx] ∧ h.get? a = some (instObj C dx) ∧ DictAt h dx es ∧ es.size ≤ fs.length ∧ RdF F fs es ∧ NoMore fs es := by
  obtain ⟨v, e, o⟩ := S.own x _ hx
  generalize hq : fp x = as at o
  cases o with
  | self a b z r q => exact ⟨_, _, _, e, rfl, a, b, z, r, q⟩
theorem Ev_attrSelf {x : Str} {p pos : Pos} {name : Str} {C : Addr} {fs : List (Str × D)} {d : D} (hc : c.Ok) (hC : ClsK c C) (hn : findIn c.K (.ref C) name = some none) (hx : ρ.lookup x = some (.self C fs)) (hl : isLoc sc x = true) (hf : fs.lookup name = some d) (hm : AtrAt (.Name x p) name pos := by exact fun _ => rfl) : Ev c n sc ρ (.Attribute (.Name x p) name pos) d := fun A env pins F P s R ok S => by
  have S0 := S
  obtain ⟨vm, fp, S⟩ := S
  obtain ⟨a, dx, es, hv, hfp, ha, ⟨o, k, hd, rfl, hk⟩, z, r, q⟩ := S.self hx
  obtain ⟨v, h1, h2⟩ := r.find hf
  refine Attribute_any_ (load_var (h := s.heap) ok S.sto hl hv ?_) (hm env)
  exact get_field (hc.at_ S0.keep) hC ha hd rfl hn h1 h2.handed (.flat S.le h2)

theorem put_facts (es : Array DictEntry) (ep : Nat) (name : Str) (hash : Int) (tok : Tok) (v : Value) (hk : StrKeys es) : ∃ es' ep', Obj.putName name hash (.str name tok) v { cls := .type "dict", data := .dict es ep } = { cls := .type "dict", data := .dict es' ep' } ∧ StrKeys es' ∧ es'.size ≤ es.size + 1 ∧ ∀ x, nsFind es' x = if x = name then some v else nsFind es x := by
  cases hi : es.findIdx? (·.key.isStr name) with
  | some i =>
    refine ⟨_, ep, by simp only [Obj.putName_eq, Obj.putNameByArray, hi]; rfl, hk.modify _ _, by simp, fun x => ?_⟩
    exact findBy_modify (fun n v => v.isStr n) Value.isStr_inj es name x v i hi
  | none =>
    refine ⟨_, ep + 1, by simp only [Obj.putName_eq, Obj.putNameByArray, hi]; rfl, hk.push _ _ _ _, by simp, fun x => ?_⟩
    exact findBy_push (fun n v => v.isStr n) es name x hash (.str name tok) v (fun y => by
      show (name == y) = decide (y = name)
      by_cases h : y = name
      · subst h; simp
      · have h' : name ≠ y := fun q => h q.symm
        simp [h, h']) hi

/-- storing in the own dict -/
theorem set_field {A : Around} {s : Shared} {x dx C : Addr} {es : Array DictEntry} {k : Nat} {name : Str} {v : Value} {E : Value → Shared → Prop} {Q : Unit → Shared → Prop} (X : c.K.In s.heap) (hC : ClsK c C) (hx : s.heap.get? x = some (instObj C dx)) (ho : s.heap.get? dx = some { cls := .type "dict", data := .dict es k }) (hk : StrKeys es) (hz : es.size ≤ 1000)
    (hn : findIn c.K (.ref C) name = some none) (q : ∀ h' tk es' k', h'.get? dx = some { cls := .type "dict", data := .dict es' k' } → StrKeys es' → es'.size ≤ es.size + 1 → (∀ y, nsFind es' y = if y = name then some v else nsFind es y) → Heap.SameBut dx s.heap h' → Q () { s with heap := h', toks := tk }) : wpAny (model c.prog c.w) A (setAttr (.ref x) name v) Q E s := by
  obtain ⟨hh, g, d, t, os⟩ := s
  have I : InstAt hh x (instObj C dx) C (some { cls := .type "dict", data := .dict es k }) := ⟨hx, rfl, rfl, ho⟩
  refine set_plain X I hC.sa ?_
  refine osa_open (s := ⟨hh, g, d, t + 1, os⟩) X I hC.over (by unfold takerIn; rw [hn]; rfl) (r := none) fun b => ?_
  obtain ⟨cd, hcd, hd'⟩ := any_some hC.dict
  obtain ⟨es', k', e1, e2, e3, e4⟩ := put_facts es k name (PyData.keyHash c.w.params name) (t + 1) v hk
  have D' : (hh.update dx (Obj.putName name (PyData.keyHash c.w.params name) (.str name (t + 1)) v)).get? dx = some { cls := .type "dict", data := .dict es' k' } := by
    rw [← e1]; exact Heap.get?_update_self _ ho (by rw [e1]; rfl)
  have Lc := looks_clsIn (M := model c.prog c.w) X hcd
  dsimp only at hx ho Lc
  refine wpAny_bind (wpAny_pure (wpAny_bind (wpAny_bind (wpAny_loadPart hx (wpAny_bind (Lc.here ?_))))))
  rw [hd']
  refine wpAny_pure (a := some dx) (wpAny_bind (wpAny_pure (wpAny_bind ?_)))
  unfold nsSet
  refine wpAny_bind (wpAny_bind (wpAny_askSetting (wpAny_pure (wpAny_bind (wpAny_mkText (wpAny_bind (wpAny_loadPart ho ?_)))))))
  dsimp only
  have hany : es.any (·.refKey) = false := by
    rw [Array.any_eq_false']; intro e he; obtain ⟨n, t, h⟩ := hk e he; simp [DictEntry.refKey, h]
  rw [aRefKeyMayBeTheName_eq, aRefKeyMayBeTheNameByArray, hany, Bool.and_false]
  refine wpAny_updatePart ho ?_
  refine wpAny_bind (wpAny_lookBehind D' (pastItsLine_dict (by rw [sizeLine_eq]; omega)) ?_)
  exact wpAny_pure (q _ _ es' k' D' e2 e3 e4 (Heap.SameBut.update ..))
theorem RdF.put {F : Fz} {es es' : Array DictEntry} {name : Str} {d : D} {v : Value} (hq : ∀ y, nsFind es' y = if y = name then some v else nsFind es y) (hd : Rd F d v) {fs : List (Str × D)} (r : RdF F fs es) (hn : fs.lookup name = none) : RdF F (fs ++ [(name, d)]) es' :=
  RdF.ind (P := fun fs es => (∀ y, nsFind es' y = if y = name then some v else nsFind es y) → fs.lookup name = none → RdF F (fs ++ [(name, d)]) es') (fun hq _ => .cons (by rw [hq, if_pos rfl]) hd .nil) (@fun y d' w r _ e1 e2 _ ih hq e => by
    rw [List.lookup_cons] at e
    by_cases h : name = y
    · subst h; simp only [beq_self_eq_true] at e; cases e
    · have hb : (name == y) = false := by simpa using h
      rw [hb] at e
      exact .cons (by rw [hq, if_neg (Ne.symm h)]; exact e1) e2 (ih hq e)) r hq hn
theorem lookup_snoc {α : Type} : ∀ {l : List (Str × α)} {x y : Str} {v : α}, (l ++ [(x, v)]).lookup y = none → l.lookup y = none ∧ y ≠ x
  | [], x, y, v, e => by
    rw [List.nil_append, List.lookup_cons] at e
    by_cases h : y = x
    · subst h; simp at e
    · exact ⟨rfl, h⟩
  | (z, w) :: r, x, y, v, e => by
    rw [List.cons_append, List.lookup_cons] at e
    cases h : y == z with
    | true => rw [h] at e; cases e
    | false => rw [h] at e; rw [List.lookup_cons, h]; exact lookup_snoc e

theorem ExS_setattr {x attr : Str} {p pos' pos : Pos} {value : Expr} {C : Addr} {fs : List (Str × D)} {d : D} (hc : c.Ok) (hC : ClsK c C) (hx : ρ.lookup x = some (.self C fs)) (hl : isLoc sc x = true) (hv : Ev c n sc ρ value d) (hn : findIn c.K (.ref C) attr = some none) (hnew : fs.lookup attr = none) (hz : fs.length ≤ 900) (hpl : plainVal value = true := by rfl) :
    ExS c n sc pn ρ (.Assign [.Attribute (.Name x p) attr pos'] value pos) .next (Vars.put ρ x (.self C (fs ++ [(attr, d)]))) := fun A env pins F P s R ok hpn S => by
  refine plainObj_wpAny_Assign_Attribute (wpAny_mono (hv A env pins F P s R ok S) (fun v s₁ hp2 => ?_) fun _ _ x => x) (swaps_plain hpl)
  obtain ⟨F₁, G₁, X₁, r₁⟩ := hp2
  have S₁ := S.grow G₁
  have K₁ := S₁.keep
  obtain ⟨vm, fp, S₁⟩ := S₁
  obtain ⟨a, dx, es, hv, hfp, ha, ⟨o, k, hd, rfl, hk⟩, z, r, q⟩ := S₁.self hx
  refine load_var (h := s₁.heap) ok S₁.sto hl hv ?_
  have nd := S₁.nd x _ hx
  rw [hfp] at nd
  have hne : a ≠ dx := fun e => (List.nodup_cons.mp nd).1 (by rw [e]; exact .head _)
  refine set_field (hc.at_ K₁) hC ha hd hk (by omega) hn fun h' tk es' k' hd' hk' hz' hq sb => ?_
  have hm : dx ∈ fp x := by rw [hfp]; simp
  have O : Own h' F₁ (.self C (fs ++ [(attr, d)])) (.ref a) (fp x) := by
    rw [hfp]
    exact .self ((sb.2 a hne).trans ha) ⟨_, k', hd', rfl, hk'⟩ (by simp; omega) (r.put hq r₁ hnew) fun y hy => by
      obtain ⟨h1, h2⟩ := lookup_snoc hy
      rw [hq, if_neg h2]; exact q y h1
  exact ⟨F₁, P, G₁.step.trans (S₁.turnStep hx hm sb), X₁.trans ⟨_, _, rfl⟩, ⟨vm, fp, S₁.turn hx hv O hm sb⟩, .next⟩
end Mine
end

section
open PySem PySem.Calls PyProof.Rows PySem.W
set_option maxRecDepth 100000
set_option linter.unusedVariables false
namespace Mine
variable {c : Cx} {n : Nat} {sc : Scope} {pn : List Str} {ρ : Vars}

variable (c n sc ρ) in
/-- e is an object of the class C, own or not, without a field of that name -/
noncomputable def EvI (e : Expr) (C : Addr) (name : Str) (d : Option D) : Prop :=
  ∀ A env pins F P s, Room n A → EnvOk env sc → St c env pins ρ F P s.heap → wpAny (model c.prog c.w) A (eval e env)
    (fun v s' => ∃ F', Grow F s.heap F' s'.heap ∧ Same s s' ∧ ∃ x dx od es k, v = .ref x ∧ s'.heap.get? x = some (instObj C dx) ∧ s'.heap.get? dx = some od ∧ od.data = .dict es k ∧ StrKeys es ∧ nsFind es name = none ∧ ∀ d', d = some d' → Rd F' d' v) (fun _ _ => False) s
theorem EvI_ev {e : Expr} {C : Addr} {name : Str} {fs : List (Str × D)} (h : Ev c n sc ρ e (.inst C fs)) (hn : fs.lookup name = none) : EvI c n sc ρ e C name (some (.inst C fs)) := fun A env pins F P s R ok S =>
  wpAny_mono (h A env pins F P s R ok S) (fun v s' hp1 => by
    obtain ⟨F', G, X, r⟩ := hp1
    refine ⟨F', G, X, ?_⟩
    have r0 := r
    cases r with
    | inst a b e' k r z => exact ⟨_, _, _, _, _, rfl, G.le _ _ a, G.le _ _ b, e', k, z _ hn, fun d' e => by cases e; exact r0⟩) fun _ _ x => x
theorem EvI_self {x : Str} {p : Pos} {C : Addr} {name : Str} {fs : List (Str × D)} (hx : ρ.lookup x = some (.self C fs)) (hl : isLoc sc x = true) (hn : fs.lookup name = none) : EvI c n sc ρ (.Name x p) C name none := fun A env pins F P s R ok S => by
  obtain ⟨vm, fp, S⟩ := S
  obtain ⟨a, dx, es, hv, hfp, ha, ⟨o, k, hd, rfl, hk⟩, z, r, q⟩ := S.self hx
  exact load_var (h := s.heap) ok S.sto hl hv ⟨F, .refl S.le, .refl s, _, _, _, _, _, rfl, ha, hd, rfl, hk, q _ hn, fun _ e => nomatch e⟩
theorem StV.hdr {env : Env} {pins : Pins} {F : Fz} {P : Addr → Prop} {h : Heap} {vm : Str → Option Value} {fp : Str → List Addr} (S : StV c env pins ρ F P h vm fp) {x : Str} {C : Addr} {xs : List D} (hx : ρ.lookup x = some (.hdr C xs)) :
    ∃ a dx l od es k, vm x = some (.ref a) ∧ fp x = [l] ∧ F a = some (instObj C dx) ∧ F dx = some od ∧ od.data = .dict es k ∧ StrKeys es ∧ nsFind es "_headers" = some (.ref l) ∧ (∀ y : Str, y ≠ "_headers" → nsFind es y = none) ∧ LstAt h F xs l := by
  obtain ⟨v, e, o⟩ := S.own x _ hx
  generalize hq : fp x = as at o
  cases o with
  | hdr a b z r q t u => exact ⟨_, _, _, _, _, _, e, rfl, a, b, z, r, q, t, u⟩
theorem EvI_hdr {x : Str} {p : Pos} {C : Addr} {name : Str} {xs : List D} (hx : ρ.lookup x = some (.hdr C xs)) (hl : isLoc sc x = true) (hn : name ≠ "_headers") : EvI c n sc ρ (.Name x p) C name none := fun A env pins F P s R ok S => by
  obtain ⟨vm, fp, S⟩ := S
  obtain ⟨a, dx, l, od, es, k, hv, hfp, ha, hd, hdd, hk, z, r, q⟩ := S.hdr hx
  exact load_var (h := s.heap) ok S.sto hl hv ⟨F, .refl S.le, .refl s, _, _, _, _, _, rfl, S.le _ _ ha, S.le _ _ hd, hdd, hk, r _ hn, fun _ e => nomatch e⟩

/-- a function among the class's own -/
structure MethK (c : Cx) (C : Addr) (name : Str) (f : Addr) : Prop where
  cls : ClsK c C
  find : findIn c.K (.ref C) name = some (some (.ref f))
  ty : typeIn c.K (.ref f) = some (.type "function")
  keep : keepIn c.K (.ref f) = true

theorem get_meth {A : Around} {s : Shared} {x dx C f : Addr} {od : Obj} {es : Array DictEntry} {k : Nat} {name : Str} {E : Value → Shared → Prop} {pl : Sem Bool} {Q : Value × List Value → Shared → Prop} (X : c.K.In s.heap) (hM : MethK c C name f) (hx : s.heap.get? x = some (instObj C dx)) (ho : s.heap.get? dx = some od) (hd : od.data = .dict es k) (hk : StrKeys es)
    (hn : nsFind es name = none) (q : Q (.ref f, [.ref x]) s) : wpAny (model c.prog c.w) A (getMethod (.ref x) name pl) Q E s :=
  method_fn (od := some od) X ⟨hx, rfl, rfl, ho⟩ hM.cls.ga hM.cls.ge hM.find hM.ty (by show (lookIn name od).map (·.isSome) = _; rw [lookIn_none hd hk hn]; rfl) q

/-- a call with a keyword or none, over any first value -/
noncomputable def FnK (c : Cx) (n : Nat) (fv : Value) (kw : List (Str × Value)) (ds : List D) (d : D) : Prop :=
  ∀ A F s v0 vs, Room n A → Fle c.hB.get? F → Fle F s.heap.get? → RdL F ds vs → wpAny (model c.prog c.w) A (call fv (v0 :: vs) kw) (Gives F s d) (fun _ _ => False) s

noncomputable def MethAtK (o : Expr) (name : Str) (apos : Pos) (args : List Expr) (kws : List Keyword) (pos : Pos) : Prop :=
  ∀ env, ∃ pl, eval (.Call (.Attribute o name apos) args kws pos) env = (do
      let ov ← eval o env
      standAt apos.atName
      let (f, first) ← holding [ov] (getMethod ov name pl)
      callWith pos f first (backTo pos (starEach args env)) (backToKw pos (keywordEach kws env)))

/-- o.name(args), o frozen and handed on -/
theorem Ev_meth {o : Expr} {name : Str} {apos pos : Pos} {args : List Expr} {C f : Addr} {fs : List (Str × D)} {ds : List D} {d : D} (hc : c.Ok) (hM : MethK c C name f) (ho : Ev c n sc ρ o (.inst C fs)) (hnf : fs.lookup name = none) (ha : EvL c n sc ρ args ds) (h : FnP c n (.ref f) (.inst C fs :: ds) d) (hp : args.all plainArg = true := by rfl) (hm : MethAt o name apos args pos := by exact fun _ => ⟨_, rfl⟩) :
    Ev c n sc ρ (.Call (.Attribute o name apos) args [] pos) d := fun A env pins F P s R ok S => by
  refine meth_open hm (wpAny_mono (EvI_ev ho hnf A env pins F P s R ok S) (fun v s₁ hp2 pl => ?_) fun _ _ x => x)
  obtain ⟨F₁, G₁, X₁, x, dx, od, es, k, hv, h1, h2, h3, h4, h5, h6⟩ := hp2
  subst hv
  have S₁ := S.grow G₁
  refine get_meth (hc.at_ S₁.keep) hM h1 h2 h3 h4 h5 ?_
  refine callWith_of (P := c.K.In) (by rw [Bool.or_eq_false_iff]; exact ⟨starFalse hp, rfl⟩) (keeps_K hM.keep) (evalArgs_any (starFalse hp) (wpAny_mono (ha A env pins F₁ P s₁ R ok S₁ pos) (fun vs s₂ hp3 => ?_) fun _ _ x => x))
  obtain ⟨F₂, G₂, X₂, r₂⟩ := hp3
  refine ⟨hc.at_ (S₁.grow G₂).keep, ?_⟩
  exact wpAny_mono (h A F₂ s₂ (.ref x :: vs) R (S₁.grow G₂).base G₂.le (.cons ((h6 _ rfl).mono G₂.fle) r₂)) (fun z s₃ q => q.after (G₁.trans G₂) (X₁.trans X₂)) fun _ _ x => x

/-- o.name(a, key=v) -/
theorem Ev_methK {o a : Expr} {name key : Str} {apos pos kp : Pos} {kb : Bool} {ki : Nat} {kpos : Pos} {C f : Addr} {od : Option D} {da d : D} (hc : c.Ok) (hM : MethK c C name f) (ho : EvI c n sc ρ o C name od) (ha : Ev c n sc ρ a da) (h : FnK c n (.ref f) [(key, .bool kb)] [da] d) (hp : plainArg a = true := by rfl) (hm : MethAtK o name apos [a] [⟨some key, .Constant (.bool kb) ki kpos, kp⟩] pos := by exact fun _ => ⟨_, rfl⟩) :
    Ev c n sc ρ (.Call (.Attribute o name apos) [a] [⟨some key, .Constant (.bool kb) ki kpos, kp⟩] pos) d := fun A env pins F P s R ok S => by
  obtain ⟨pl, he⟩ := hm env
  refine methodCall_KW (pl := pl) (wpAny_mono (ho A env pins F P s R ok S) (fun v s₁ hp4 => ?_) fun _ _ x => x) he
  obtain ⟨F₁, G₁, X₁, x, dx, od, es, k, hv, h1, h2, h3, h4, h5, h6⟩ := hp4
  subst hv
  have S₁ := S.grow G₁
  refine get_meth (hc.at_ S₁.keep) hM h1 h2 h3 h4 h5 ?_
  refine callWith_KW (hc.inK) hM.keep rfl ?_ (by rw [Bool.or_eq_false_iff]; exact ⟨starFalse (by simp [hp]), rfl⟩) (starEach_plain hp)
  rw [starEach_plain hp]
  refine spliced_cons (wpAny_mono (ha A env pins F₁ P s₁ R ok S₁) (fun va s₂ hp5 => ?_) fun _ _ x => x)
  obtain ⟨F₂, G₂, X₂, r₂⟩ := hp5
  refine spliced_nil ?_
  refine kwAll_cons (Constant_bool (kwAll_nil ?_))
  refine ⟨hc.at_ (S₁.grow G₂).keep, ?_⟩
  exact wpAny_mono (h A F₂ s₂ (.ref x) [va] R (S₁.grow G₂).base G₂.le (.cons r₂ .nil)) (fun z s₃ q => q.after (G₁.trans G₂) (X₁.trans X₂)) fun _ _ x => x
end Mine
end

section
open PySem PySem.Calls PyProof.Rows PySem.W
set_option maxRecDepth 100000
set_option linter.unusedVariables false
namespace Mine
variable {c : Cx} {n : Nat} {sc : Scope} {pn : List Str} {ρ : Vars}

/-- an __init__ that lays the fields fs -/
noncomputable def FnI (c : Cx) (n : Nat) (fi : Value) (C : Addr) (ds : List D) (fs : List (Str × D)) : Prop := ∀ A F s x dx vs, Room n A → Fle c.hB.get? F → Fle F s.heap.get? → x ≠ dx → s.heap.get? x = some (instObj C dx) → s.heap.get? dx = some emptyDict → F x = none → F dx = none → RdL F ds vs →
  codeAny (model c.prog c.w) A (.call fi ⟨.ref x :: vs, []⟩) (Ret fun v s' => v = .none ∧ ∃ F', Fle F F' ∧ (∀ b o, F' b = some o → F b = some o ∨ (b = x ∨ b = dx) ∨ s.heap.objs.size ≤ b) ∧ (∀ b o, b ≠ x → b ≠ dx → s.heap.get? b = some o → s'.heap.get? b = some o) ∧ Same s s' ∧ s.heap.objs.size ≤ s'.heap.objs.size ∧ Fle F' s'.heap.get? ∧
    ∃ dx', F' x = none ∧ F' dx' = none ∧ (dx' = x ∨ dx' = dx ∨ s.heap.objs.size ≤ dx') ∧ x ≠ dx' ∧ Own s'.heap F' (.self C fs) (.ref x) [x, dx']) s

theorem FnI_intro {fa : Addr} {fd : FuncData} {n0 : Str} {names : List Str} {body : List Stmt} {C : Addr} {ds : List D} {fs : List (Str × D)} {fl : Fl} {ρ' : Vars} (hc : c.Ok) (D0 : DefAt c fa fd body sc)  (hb : ∀ v0 (vs : List Value), vs.length = names.length → ∀ s : Shared, Fle c.hB.get? s.heap.get? → BindsTo s fd ⟨v0 :: vs, []⟩ ((n0, v0) :: names.zip vs)) (hs : scOk sc (n0 :: names) = true) (hl : ds.length = names.length) (hfl : fl = .next)
    (h : Ex c n sc [n0] ((n0, .self C []) :: names.zip (ds.map Slot.val)) body fl ρ') (hx' : ρ'.lookup n0 = some (.self C fs)) : FnI c (n + 1) (.ref fa) C ds fs := fun A F s x dx vs R hB l hne hx hdx fx fdx r => by
  subst hfl
  have sk := scOk_of hs
  have hnd := List.nodup_cons.mp sk.nd
  have hlen : vs.length = names.length := r.length.trans hl
  have hzip : ((n0, Value.ref x) :: names.zip vs).map (·.1) = n0 :: names := by
    rw [List.map_cons]; congr 1; exact List.map_fst_zip (Nat.le_of_eq hlen.symm)
  have hown : ∀ b, (∃ y sl, ((n0, Slot.self C []) :: names.zip (ds.map Slot.val)).lookup y = some sl ∧ b ∈ (if y = n0 then [x, dx] else [])) ↔ (b = x ∨ b = dx) := fun b => by
    constructor
    · rintro ⟨y, sl, e, q⟩
      by_cases hy : y = n0
      · rw [if_pos hy] at q; simpa using q
      · rw [if_neg hy] at q; cases q
    · intro q
      exact ⟨n0, .self C [], by rw [List.lookup_cons]; simp, by rw [if_pos rfl]; simpa using q⟩
  refine codeRet_mono (run_fn (fl := .next) (args := ⟨.ref x :: vs, []⟩) (binds := (n0, .ref x) :: names.zip vs) (pins := [(n0, .ref x)]) (ρ0 := (n0, .self C []) :: names.zip (ds.map Slot.val)) (fp := fun y => if y = n0 then [x, dx] else []) (s' := s) hc D0 (by rw [hzip]; exact hs) R hB l (.refl _) (.refl s)
    (fun A' E Q q => hb _ vs hlen s (hB.trans l) _ _ _ _ q) (fun y sl e => ?_) (fun q hq => ?_) (fun y sl e b hb => ?_) (fun y sl e => ?_) (fun y sl z t e e' hyz b hb => ?_) ⟨nofun, nofun⟩ h) (fun v s₂ hpz => ?_)
  · rw [List.lookup_cons] at e
    by_cases hy : y = n0
    · subst hy
      simp only [beq_self_eq_true] at e
      cases e
      refine ⟨.ref x, by simp, ?_⟩
      rw [if_pos rfl]
      exact .self hx ⟨_, _, hdx, rfl, fun e he => by simp at he⟩ (Nat.le_refl _) .nil fun _ _ => rfl
    · have hb' : (y == n0) = false := by simpa using hy
      rw [hb'] at e
      obtain ⟨v, e1, o⟩ := zip_own (h := s.heap) r e
      exact ⟨v, by rw [List.lookup_cons, hb']; exact e1, by rw [if_neg hy]; exact o⟩
  · rw [List.mem_singleton.mp hq]; simp
  · by_cases hy : y = n0
    · rw [if_pos hy] at hb; simp at hb; rcases hb with rfl | rfl <;> assumption
    · rw [if_neg hy] at hb; cases hb
  · split
    · simp [hne]
    · simp
  · by_cases hy : y = n0
    · rw [if_neg fun q => hyz (hy.trans q.symm)]; exact fun q => nomatch q
    · rw [if_neg hy] at hb; cases hb
  · obtain ⟨F', z1, z2, z3, z4, z5, z6, ⟨env, P', S', z7⟩, z8⟩ := hpz
    have hv : v = .none := by cases z6; rfl
    obtain ⟨vm', fp', S''⟩ := S'
    obtain ⟨a, dx', es, e1, e2, e3, e4, e5, e6, e7⟩ := S''.self hx'
    have ha : a = x := by have e := S''.pin (n0, .ref x) (.head _); rw [e1] at e; cases e; rfl
    subst ha
    have mP : ∀ b ∈ fp' n0, P' b := fun b hb => (S''.mem b).mpr (.inr ⟨n0, _, hx', hb⟩)
    have nd := S''.nd n0 _ hx'
    rw [e2] at nd
    refine ⟨hv, F', z1, fun b o e => (z2 b o e).imp id fun q => q.imp (hown b).mp id, fun b o h1 h2 e => z3 b o (fun q => ((hown b).mp q).elim h1 h2) e, z4, z5, S''.le, dx', S''.out a (mP a (by rw [e2]; simp)), S''.out dx' (mP dx' (by rw [e2]; simp)), ?_, fun q => (List.nodup_cons.mp nd).1 (by rw [q]; exact .head _), .self e3 e4 e5 e6 e7⟩
    rcases z7 dx' (mP dx' (by rw [e2]; simp)) with q | q
    · exact ((hown dx').mp q).imp id .inl
    · exact .inr (.inr q)

/-- a class that makes plain instances -/
structure NewK (c : Cx) (C f : Addr) : Prop where
  makes : makesIn c.K C = true
  init : findIn c.K (.ref C) "__init__" = some (some (.ref f))
  ty : typeIn c.K (.ref f) = some (.type "function")
  keep : keepIn c.K (.ref C) = true

theorem Room.under {A : Around} {C : Addr} {rest : List Value} (r : Room (n + 1) A) : Room n (A.under (.builtin "type.__call__" ⟨.ref C :: rest, []⟩)) := by
  obtain ⟨h1, h2, h3⟩ := r
  refine ⟨h1, ?_, ?_⟩
  · have e : (A.under (.builtin "type.__call__" ⟨.ref C :: rest, []⟩)).depth = A.depth + 1 := depth_under_kw A C rest []
    omega
  · have e : (A.under (.builtin "type.__call__" ⟨.ref C :: rest, []⟩)).units ≤ A.units + 3 := by
      show A.units + _ ≤ _
      refine Nat.add_le_add_left ?_ _
      show 1 + 3 * 0 ≤ 3
      exact Nat.le_succ_of_le (Nat.le_succ 1)
    omega

theorem new_call {A : Around} {F : Fz} {s : Shared} {C f : Addr} {ds : List D} {fs : List (Str × D)} {vs : List Value} (hc : c.Ok) (hN : NewK c C f) (h : FnI c n (.ref f) C ds fs) (R : Room (n + 1) A) (hb : Fle c.hB.get? F) (l : Fle F s.heap.get?) (r : RdL F ds vs) :
    wpAny (model c.prog c.w) A (call (.ref C) vs []) (fun v s' => ∃ F' x dx, v = .ref x ∧ Fle F F' ∧ (∀ b o, F' b = some o → F b = some o ∨ s.heap.objs.size ≤ b) ∧ Fle s.heap.get? s'.heap.get? ∧ Same s s' ∧ s.heap.objs.size ≤ s'.heap.objs.size ∧ Fle F' s'.heap.get? ∧ F' x = none ∧ F' dx = none ∧ s.heap.objs.size ≤ x ∧ s.heap.objs.size ≤ dx ∧ x ≠ dx ∧ Own s'.heap F' (.self C fs) (.ref x) [x, dx]) (fun _ _ => False) s := by
  obtain ⟨hh, g, d, t, os⟩ := s
  have X := hc.at_ (hb.trans l)
  refine wpAny_call (make_core (makes_of X hN.makes) (looks_findIn X hN.init) (fun self => bind_fn X self hN.ty) (.inl rfl) ?_)
  have k1 : Fle hh.get? ((hh.push emptyDict).push (instObj C hh.objs.size)).get? := fun b o e => Heap.get?_push_of_some _ (Heap.get?_push_of_some _ e)
  have sz : ((hh.push emptyDict).push (instObj C hh.objs.size)).objs.size = hh.objs.size + 2 := by rw [Heap.size_push, Heap.size_push]
  have hx : ((hh.push emptyDict).push (instObj C hh.objs.size)).get? (hh.objs.size + 1) = some (instObj C hh.objs.size) := by
    have := Heap.get?_push_size (hh.push emptyDict) (o := instObj C hh.objs.size) rfl
    rwa [Heap.size_push] at this
  have hd : ((hh.push emptyDict).push (instObj C hh.objs.size)).get? hh.objs.size = some emptyDict := Heap.get?_push_of_some _ (Heap.get?_push_size hh (o := emptyDict) rfl)
  have W := h (A.under (.builtin "type.__call__" ⟨.ref C :: vs, []⟩)) F ⟨(hh.push emptyDict).push (instObj C hh.objs.size), g, d, t, os⟩ (hh.objs.size + 1) hh.objs.size vs R.under hb (l.trans k1) (Nat.succ_ne_self _) hx hd (none_of_le l (Nat.le_succ _)) (none_of_le l (Nat.le_refl _)) r
  refine codeAny_mono W fun r s' z => ?_
  rcases r with e | (v | _ | _ | _) <;> try exact z.elim
  obtain ⟨hv, F', y1, y2, y3, y4, y5, y6, dx', f1, f2, f3, f4, O⟩ := z
  dsimp only at y2 y3 y5 f3
  rw [sz] at y2 y5 f3
  refine ⟨hv, F', hh.objs.size + 1, dx', rfl, y1, fun b o e => (y2 b o e).imp id fun q => ?_, fun b o e => ?_, Same.trans ⟨_, _, rfl⟩ y4, Nat.le_trans (Nat.le_add_right _ 2) y5, y6, f1, f2, Nat.le_succ _, ?_, f4, O⟩
  · show hh.objs.size ≤ b
    rcases q with (q | q) | q
    · rw [eqA q]; exact Nat.le_succ _
    · rw [eqA q]; exact Nat.le_refl _
    · exact Nat.le_trans (Nat.le_add_right _ 2) q
  · have hb' : b < hh.objs.size := Heap.lt_size e
    exact y3 b o (fun q => by rw [q] at hb'; exact absurd hb' (Nat.not_lt.mpr (Nat.le_succ _))) (fun q => by rw [q] at hb'; exact Nat.lt_irrefl _ hb') (k1 b o e)
  · show hh.objs.size ≤ dx'
    rcases f3 with q | q | q
    · exact absurd q.symm f4
    · rw [eqA q]; exact Nat.le_refl _
    · exact Nat.le_trans (Nat.le_add_right _ 2) q

/-- C(args), frozen -/
theorem Ev_new {x : Str} {p pos : Pos} {args : List Expr} {C f : Addr} {ds : List D} {fs : List (Str × D)} (hc : c.Ok) (hg : Glb c x (.ref C)) (hN : NewK c C f) (h : FnI c n (.ref f) C ds fs) (hi : isGlb sc x = true) (ha : EvL c (n + 1) sc ρ args ds) (hp : args.all plainArg = true := by rfl) :
    Ev c (n + 1) sc ρ (.Call (.Name x p) args [] pos) (.inst C fs) := fun A env pins F P s R ok S => by
  refine wpAny_Call_Name_kw (load_glob hc ok S.keep hi hg ?_)
  refine callWith_of (P := c.K.In) (by rw [Bool.or_eq_false_iff]; exact ⟨starFalse hp, rfl⟩) (keeps_K hN.keep) (evalArgs_any (starFalse hp) (wpAny_mono (ha A env pins F P s R ok S pos) (fun vs s₁ hp2 => ?_) fun _ _ x => x))
  obtain ⟨F₁, G₁, X₁, r₁⟩ := hp2
  refine ⟨hc.at_ (S.grow G₁).keep, ?_⟩
  refine wpAny_mono (new_call hc hN h R (S.grow G₁).base G₁.le r₁) (fun v s₂ hp3 => ?_) fun _ _ x => x
  obtain ⟨F', x, dx, hv, y1, y2, y3, y4, y5, y6, f1, f2, f3, f4, f5, O⟩ := hp3
  subst hv
  cases O with
  | self a b z r q =>
    obtain ⟨o, k, hd, ho, hk⟩ := b
    have g1 : Fle F' (F'.ins x (instObj C dx)) := Fz.ins_le f1
    have f2' : (F'.ins x (instObj C dx)) dx = none := by unfold Fz.ins; rw [if_neg (Ne.symm f5)]; exact f2
    have g2 := Fz.ins_le (o := o) f2'
    refine ⟨_, ⟨G₁.fle.trans (y1.trans (g1.trans g2)), fun b o e => ?_, G₁.keep.trans y3, fun b o e => ?_, Nat.le_trans G₁.size y5⟩, X₁.trans y4, (.inst (k := k) (g2 _ _ (Fz.ins_self _ _ _)) (Fz.ins_self _ dx o) (by rw [ho]) hk (r.mono (g1.trans g2)) q)⟩
    · unfold Fz.ins at e
      by_cases h1 : b = dx
      · subst h1; exact .inr (Nat.le_trans G₁.size f4)
      · rw [if_neg h1] at e
        by_cases h2 : b = x
        · subst h2; exact .inr (Nat.le_trans G₁.size f3)
        · rw [if_neg h2] at e
          rcases y2 b o e with z | z
          · exact G₁.new b o z
          · exact .inr (Nat.le_trans G₁.size z)
    · unfold Fz.ins at e
      by_cases h1 : b = dx
      · subst h1; rw [if_pos rfl] at e; cases e; exact hd
      · rw [if_neg h1] at e
        by_cases h2 : b = x
        · subst h2; rw [if_pos rfl] at e; cases e; exact a
        · rw [if_neg h2] at e; exact y6 b o e
end Mine
end

section
open PySem PySem.Calls PyProof.Rows PySem.W
set_option maxRecDepth 100000
set_option linter.unusedVariables false
namespace Mine
variable {c : Cx} {n : Nat} {sc : Scope} {pn : List Str} {ρ : Vars}

/-! targets -/
variable (c n sc pn) in
inductive AsgL : Vars → List Expr → List D → Vars → Prop
  | nil {ρ : Vars} : AsgL ρ [] [] ρ
  | cons {ρ ρ₁ ρ' : Vars} {x : Str} {p : Pos} {es : List Expr} {d : D} {ds : List D} : AsgT c n sc pn ρ (.Name x p) d ρ₁ → AsgL ρ₁ es ds ρ' → AsgL ρ (.Name x p :: es) (d :: ds) ρ'
theorem AsgL.len {ρ ρ' : Vars} {es : List Expr} {ds : List D} (h : AsgL c n sc pn ρ es ds ρ') (env : Env) : (assignEach es env).length = ds.length := by
  induction h with
  | nil => rfl
  | cons a b ih => show (_ :: assignEach _ env).length = _; rw [List.length_cons, ih]; rfl
theorem AsgL.star {ρ ρ' : Vars} {es : List Expr} {ds : List D} (h : AsgL c n sc pn ρ es ds ρ') (env : Env) : (assignEach es env).findIdx? (·.1) = none := by
  induction h with
  | nil => rfl
  | cons a b ih => show List.findIdx? _ ((false, _) :: assignEach _ env) = none; rw [List.findIdx?_cons]; simp [ih]
theorem AsgL.run {ρ ρ' : Vars} {es : List Expr} {ds : List D} (h : AsgL c n sc pn ρ es ds ρ') : ∀ A env pins F P s vs, Room n A → EnvOk env sc → pins.map (·.1) = pn → St c env pins ρ F P s.heap → RdL F ds vs →
    wpAny (model c.prog c.w) A (assignInOrder ((assignEach es env).map (·.2)) vs) (fun _ s' => ∃ P', Step F P s.heap F P' s'.heap ∧ Same s s' ∧ St c env pins ρ' F P' s'.heap) (fun _ _ => False) s := by
  induction h with
  | nil => exact fun A env pins F P s vs R ok hp S r => by cases r; exact assignInOrder_nil ⟨P, .refl, .refl s, S⟩
  | cons a b ih =>
    intro A env pins F P s vs R ok hp S r
    cases r with
    | cons r1 r2 =>
      show wpAny _ _ (assignInOrder (assign _ env :: (assignEach _ env).map (·.2)) _) _ _ _
      refine assignInOrder_cons (wpAny_mono (a A env pins F P s _ R ok hp S r1) (fun _ s₁ hp1 => ?_) fun _ _ x => x)
      obtain ⟨P₁, T₁, X₁, S₁⟩ := hp1
      exact wpAny_mono (ih A env pins F P₁ s₁ _ R ok hp S₁ r2) (fun _ s₂ hp2 => by obtain ⟨P₂, T₂, X₂, S₂⟩ := hp2; exact ⟨P₂, T₁.trans T₂, X₁.trans X₂, S₂⟩) fun _ _ x => x
theorem Step.ofKeep {F : Fz} {P : Addr → Prop} {h h' : Heap} (k : Fle h.get? h'.get?) (z : h.objs.size ≤ h'.objs.size) : Step F P h F P h' := ⟨.refl _, fun _ _ e => .inl e, fun a o _ e => k a o e, fun _ q => .inl q, z⟩
theorem AsgT_tup {es : List Expr} {k : Nat} {p : Pos} {ds : List D} {ρ' : Vars} (h : AsgL c n sc pn ρ es ds ρ') : AsgT c n sc pn ρ (.Tuple es k p) (.tup ds) ρ' := fun A env pins F P s v R ok hp S r => by
  cases r with
  | @tup a o vs m _ h1 h2 h3 h4 =>
    have ht : IsTup s.heap a vs := ⟨o, S.le _ _ h1, h2, _, h3⟩
    have hlen : vs.size = ds.length := by rw [← Array.length_toList]; exact h4.length
    rw [assign_Tuple]
    refine wpAny_bind (wpAny_standAt ?_)
    unfold unpack
    rw [h.len env, h.star env, ← hlen]
    refine wpAny_bind (wpAny_holding (wpAny_mono (wpAny_sz (Nat.le_refl s.heap.objs.size) (unpackItems_tuple (Q := fun items s' => items = vs.toList ∧ Same s s' ∧ Fle s.heap.get? s'.heap.get?) (E := fun _ _ => False) R.1 ht fun h' hk => ⟨rfl, ⟨_, _, rfl⟩, fun b o e => hk b o (Nat.ne_of_lt (Heap.lt_size e)) e⟩)) (fun items s₁ hp3 => ?_) fun _ _ x => x.2))
    obtain ⟨z, e, X₁, k₁⟩ := hp3
    subst e
    exact wpAny_mono (h.run A env pins F P s₁ _ R ok hp (S.top k₁ z) h4) (fun _ s₂ hp4 => by obtain ⟨P₂, T₂, X₂, S₂⟩ := hp4; exact ⟨P₂, (Step.ofKeep k₁ z).trans T₂, X₁.trans X₂, S₂⟩) fun _ _ x => x

/-- x, y = e -/
theorem ExS_assignTup {es : List Expr} {k : Nat} {p pos : Pos} {value : Expr} {ds : List D} {ρ' : Vars} (h : Ev c n sc ρ value (.tup ds)) (ha : AsgL c n sc pn ρ es ds ρ') (hw : ∀ env, swappedStores [.Tuple es k p] value env = pure none := by exact fun _ => rfl) (hv : plainVal value = true := by rfl) :
    ExS c n sc pn ρ (.Assign [.Tuple es k p] value pos) .next ρ' := fun A env pins F P s R ok hp S => by
  refine Assign_Tuple (wpAny_mono (h A env pins F P s R ok S) (fun v s₁ ⟨F₁, G₁, X₁, r₁⟩ => ?_) fun _ _ x => x) (by unfold swapsWithSole; exact swaps_plain hv) (hw env)
  exact wpAny_mono (AsgT_tup ha A env pins F₁ P s₁ v R ok hp (S.grow G₁) r₁) (fun _ s₂ hp6 => by obtain ⟨P₂, T₂, X₂, S₂⟩ := hp6; exact ⟨F₁, P₂, G₁.step.trans T₂, X₁.trans X₂, S₂, .next⟩) fun _ _ x => x
/-- x, y = e, f as it is laid swapped -/
theorem ExS_swap2 {x y : Str} {px py p pos : Pos} {k : Nat} {value : Expr} {d e : D} (h : Ev c n sc ρ value (.tup [d, e])) (hx : isSto sc x = true) (hy : isSto sc y = true) (nx : x ∉ pn) (ny : y ∉ pn) (hw : ∀ env, EnvOk env sc → swappedStores [.Tuple [.Name x px, .Name y py] k p] value env = pure (some [x, y])) (hv : plainVal value = true := by rfl) :
    ExS c n sc pn ρ (.Assign [.Tuple [.Name x px, .Name y py] k p] value pos) .next (Vars.put (Vars.put ρ y (.val e)) x (.val d)) := fun A env pins F P s R ok hp S => by
  refine Assign_Tuple_swapped (wpAny_mono (h A env pins F P s R ok S) (fun v s₁ ⟨F₁, G₁, X₁, r₁⟩ => ?_) fun _ _ x => x) (by unfold swapsWithSole; exact swaps_plain hv) (hw env ok)
  have S₁ := S.grow G₁
  cases r₁ with
  | @tup a o vs m _ h1 h2 h3 h4 =>
    have ht : IsTup s₁.heap a vs := ⟨o, S₁.le _ _ h1, h2, _, h3⟩
    have hlen : vs.size = 2 := by rw [← Array.length_toList]; exact h4.length
    show wpAny _ _ (unpackItems (.ref a) 2 none) _ _ _
    rw [← hlen]
    refine wpAny_mono (wpAny_sz (Nat.le_refl s₁.heap.objs.size) (unpackItems_tuple (Q := fun items s' => items = vs.toList ∧ Same s₁ s' ∧ Fle s₁.heap.get? s'.heap.get?) (E := fun _ _ => False) R.1 ht fun h' hk => ⟨rfl, ⟨_, _, rfl⟩, fun b o e => hk b o (Nat.ne_of_lt (Heap.lt_size e)) e⟩)) (fun items s₂ hp8 => ?_) fun _ _ x => x.2
    obtain ⟨z, e, X₂, k₂⟩ := hp8
    subst e
    have S₂ := S₁.top k₂ z
    generalize vs.toList = l at h4
    cases h4 with
    | cons r1 h4 =>
      cases h4 with
      | cons r2 h4 =>
        cases h4
        show wpAny _ _ (assignInOrder [bindName env y, bindName env x] [_, _]) _ _ _
        refine assignInOrder_cons (bindName_ (wpAny_mono (store_val ok hp S₂ hy ny r2 .next) (fun _ s₃ hp9 => ?_) fun _ _ x => x))
        obtain ⟨F₃, P₃, T₃, X₃, S₃, q⟩ := hp9
        refine assignInOrder_cons (bindName_ (wpAny_mono (store_val ok hp S₃ hx nx (r1.mono T₃.fle) .next) (fun _ s₄ hp10 => ?_) fun _ _ x => x))
        obtain ⟨F₄, P₄, T₄, X₄, S₄, q⟩ := hp10
        refine assignInOrder_nil ?_
        exact ⟨F₄, P₄, G₁.step.trans ((Step.ofKeep k₂ z).trans (T₃.trans T₄)), X₁.trans (X₂.trans (X₃.trans X₄)), S₄, .next⟩
/-- x = y = z = e -/
theorem ExS_assign3 {x y z : Str} {px py pz pos : Pos} {value : Expr} {d : D} (h : Ev c n sc ρ value d) (hx : isSto sc x = true) (hy : isSto sc y = true) (hz : isSto sc z = true) (nx : x ∉ pn) (ny : y ∉ pn) (nz : z ∉ pn) (hw : ∀ env, swappedStores [.Name x px, .Name y py, .Name z pz] value env = pure none := by exact fun _ => rfl) :
    ExS c n sc pn ρ (.Assign [.Name x px, .Name y py, .Name z pz] value pos) .next (Vars.put (Vars.put (Vars.put ρ x (.val d)) y (.val d)) z (.val d)) := fun A env pins F P s R ok hp S => by
  refine wpAny_Assign_three (wpAny_mono (h A env pins F P s R ok S) (fun v s₁ hp11 => ?_) fun _ _ x => x) rfl (hw env)
  obtain ⟨F₁, G₁, X₁, r₁⟩ := hp11
  refine wpAny_mono (AsgT_name hx nx A env pins F₁ P s₁ v R ok hp (S.grow G₁) r₁) (fun _ s₂ hp12 => ?_) fun _ _ x => x
  obtain ⟨P₂, T₂, X₂, S₂⟩ := hp12
  refine wpAny_mono (AsgT_name hy ny A env pins F₁ P₂ s₂ v R ok hp S₂ r₁) (fun _ s₃ hp13 => ?_) fun _ _ x => x
  obtain ⟨P₃, T₃, X₃, S₃⟩ := hp13
  refine wpAny_mono (AsgT_name hz nz A env pins F₁ P₃ s₃ v R ok hp S₃ r₁) (fun _ s₄ hp14 => ?_) fun _ _ x => x
  obtain ⟨P₄, T₄, X₄, S₄⟩ := hp14
  exact ⟨F₁, P₄, G₁.step.trans (T₂.trans (T₃.trans T₄)), X₁.trans (X₂.trans (X₃.trans X₄)), S₄, .next⟩

/-! lists -/
theorem fold_one (v : Value) : ∀ (k : Nat) (acc : Array Value), (List.foldl (fun x1 x2 => x1 ++ x2) acc (List.replicate k #[v])).toList = acc.toList ++ List.replicate k v
  | 0, acc => by simp
  | k + 1, acc => by rw [List.replicate_succ, List.foldl_cons, fold_one v k, Array.toList_append, List.replicate_succ]; simp
theorem RdL.rep {F : Fz} {d : D} {v : Value} (r : Rd F d v) : ∀ k, RdL F (List.replicate k d) (List.replicate k v)
  | 0 => .nil
  | k + 1 => .cons r (RdL.rep r k)
theorem mul_any {A : Around} {s : Shared} {a : Addr} {items : Array Value} {m : Nat} {x : Int} {t : Tok} {E : Value → Shared → Prop} {Q : Value → Shared → Prop} (p : s.heap.get? a = some { cls := .type "list", dict := none, data := .seq items m, slots := #[] })
    (hlo : -(2 ^ 63 : Int) ≤ x) (hhi : x < 2 ^ 63) (hsz : items.size * x.toNat ≤ 2 ^ 24) (q : Q (.ref s.heap.objs.size) { s with heap := s.heap.push { cls := .type "list", data := .seq (List.foldl (fun x1 x2 => x1 ++ x2) #[] (List.replicate (if items.isEmpty = true then 0 else x.toNat) items)) } }) :
    wpAny (model c.prog c.w) A (binaryOp .Mult (.ref a) (.int x t)) Q E s :=
  wpAny_binaryOp_repeat_ref (T := "list") (U := "int") (by decide) ⟨_, p, rfl⟩ (fun s' => typeIs_int s' x t) noFill_list_mul PySem.F.fills_int_mul PySem.F.slot_int_rmul repeat_list PySem.F.slot_int_index.lookup
    (call_meets PySem.F.slot_int_rmul (typeIs_int s x t) PySem.F.entry_int_rmul (PySem.F.args_int_rmul_2 _ _) (int___rmul___int_list x t a items m)
      ⟨p, rfl, ⟨_, p, rfl⟩, call_meets PySem.F.slot_list_mul ⟨_, p, rfl⟩ PySem.F.entry_list_mul (PySem.F.args_list_mul_2 _ _)
        (AutoListH.list___mul___list_int_3 a items m x t (by simp [Builtin.List.listFitsIndex]; omega) (by omega) (by simp [Builtin.List.listTooLong, sizeLine]; omega))
        ⟨p, q⟩⟩)
/-- [d] * k -/
theorem Ev_mulNew {l r : Expr} {pos : Pos} {d : D} {k : Nat} (hl : EvNew c n sc ρ l [d]) (hr : EvR c n sc ρ r (.int k)) (hk : k ≤ 100000) : Ev c n sc ρ (.BinOp l .Mult r pos) (.lst (List.replicate k d)) := fun A env pins F P s R ok S => by
  refine wpAny_BinOp (wpAny_mono (hl A env pins F P s R ok S) (fun v s₁ hp15 => ?_) fun _ _ x => x)
  obtain ⟨F₁, a, G₁, X₁, e1, e2, e3, L₁⟩ := hp15
  subst e1
  refine wpAny_mono (hr A env pins F₁ P s₁ R ok (S.grow G₁)) (fun w s₂ hp16 => ?_) fun _ _ x => x
  obtain ⟨F₂, G₂, X₂, r₂⟩ := hp16
  obtain ⟨t, rfl⟩ := r₂.int
  obtain ⟨vs, ⟨m, p⟩, rr⟩ := L₁
  have p₂ := G₂.keep _ _ p
  obtain ⟨vl⟩ := vs
  simp only at rr
  cases rr with
  | @cons _ v0 _ _ r0 rr =>
    cases rr
    have hz : (#[v0] : Array Value).size * ((k : Int)).toNat ≤ 100000 := by simp; exact hk
    refine mul_any p₂ (by omega) (by omega) (Nat.le_trans hz (by decide)) ?_
    have L₂ := (S.grow G₁).grow G₂
    refine Gives.after (G₁.trans G₂) (X₁.trans X₂) (Gives.newList (k := s₂.toks) L₂.le ?_)
    have : (if (#[v0] : Array Value).isEmpty = true then 0 else ((k : Int)).toNat) = k := by simp
    rw [this, fold_one]
    exact RdL.rep (r0.mono G₂.fle) k
/-- a + b, a new list -/
theorem EvNew_addL {l r : Expr} {pos : Pos} {xs ys : List D} (hl : EvR c n sc ρ l (.lst xs)) (hr : EvR c n sc ρ r (.lst ys)) (hz : xs.length + ys.length ≤ 100000) : EvNew c n sc ρ (.BinOp l .Add r pos) (xs ++ ys) := fun A env pins F P s R ok S => by
  refine wpAny_BinOp (wpAny_mono (hl A env pins F P s R ok S) (fun v s₁ hp17 => ?_) fun _ _ x => x)
  obtain ⟨F₁, G₁, X₁, ra⟩ := hp17
  refine wpAny_mono (hr A env pins F₁ P s₁ R ok (S.grow G₁)) (fun w s₂ hp18 => ?_) fun _ _ x => x
  obtain ⟨F₂, G₂, X₂, rb⟩ := hp18
  have S₂ := (S.grow G₁).grow G₂
  obtain ⟨a, vs, rfl, ⟨⟨cls, dd, data, sl⟩, ho, hc, k, hd⟩, r⟩ := (ra.mono G₂.keep G₂.fle).lst S₂.le
  obtain ⟨b, ws, rfl, ⟨⟨cls2, dd2, data2, sl2⟩, ho2, hc2, k2, hd2⟩, r2⟩ := rb.lst S₂.le
  simp only at hc hd hc2 hd2
  subst hc hd hc2 hd2
  have e1 : vs.size = xs.length := by rw [← Array.length_toList]; exact r.length
  have e2 : ws.size = ys.length := by rw [← Array.length_toList]; exact r2.length
  have hz : vs.size + ws.size ≤ sizeLine := by
    have e : sizeLine = 16777216 := by decide
    omega
  refine concat_meets (T := "list") (id := "list.__add__") ⟨_, ho, rfl⟩ ⟨_, ho2, rfl⟩ noFill_list_add seq_list_add PySem.F.slot_list_add PySem.F.entry_list_add (PySem.F.args_list_add_2 _ _) (list_addW a b vs ws k k2 dd dd2 sl sl2 hz) ⟨ho, ho2, ?_⟩
  have G := G₁.trans G₂
  refine ⟨F₂, s₂.heap.objs.size, ⟨G.fle, G.new, fun a o e => Heap.get?_push_of_some _ (G.keep a o e), fun a o e => Heap.get?_push_of_some _ (G.le a o e), ?_⟩, X₁.trans (X₂.trans ⟨_, _, rfl⟩), rfl, G.size, none_of_le G.le (Nat.le_refl _), ⟨_, ⟨0, Heap.get?_push_size _ rfl⟩, by rw [Array.toList_append]; exact r.append r2⟩⟩
  show s.heap.objs.size ≤ (s₂.heap.push _).objs.size
  rw [Heap.size_push]; exact Nat.le_succ_of_le G.size
/-- tuple(list) -/
theorem CallR.tupL {xs : List D} (hl : xs.length ≤ 100000) : CallR c (.type "tuple") [.lst xs] (.tup xs) := fun A F s vs R hb l r => by
  obtain ⟨v, e, q⟩ := r.one
  subst e
  obtain ⟨a, ws, rfl, ho, rr⟩ := q.lst l
  have e1 : ws.size = xs.length := by rw [← Array.length_toList]; exact rr.length
  have W := wpAny_new (wpAny_mono (wpAny_sz (Nat.le_refl s.heap.objs.size) (call_tuple_list (prog := c.prog) (w := c.w) (A := A) (Q := fun v s' => ∃ h' : Heap, Fle s.heap.get? h'.get? ∧ v = .ref h'.objs.size ∧ s' = { s with heap := h'.push { cls := .type "tuple", data := .seq ws } }) (E := fun _ _ => False) ho (fun h' hk => ⟨h', hk, rfl, rfl⟩) (by
    have e : sizeLine = 16777216 := by decide
    omega))) (fun _ _ q => q) fun _ _ x => x.2)
  refine wpAny_mono W (fun v s' hp19 => ?_) fun _ _ x => x
  obtain ⟨nw, z, h', hk, e, e'⟩ := hp19
  subst e e'
  have k2 : Fle s.heap.get? (h'.push { cls := .type "tuple", data := .seq ws }).get? := fun b o e => Heap.get?_push_of_some _ (hk b o e)
  have hat : (h'.push { cls := .type "tuple", data := .seq ws }).get? h'.objs.size = some { cls := .type "tuple", data := .seq ws } := Heap.get?_push_size h' rfl
  have hn : s.heap.get? h'.objs.size = none := by
    cases e : s.heap.get? h'.objs.size with
    | none => rfl
    | some o => exact absurd (Heap.lt_size (hk _ _ e)) (Nat.lt_irrefl _)
  have hsz := nw h'.objs.size hn (by rw [hat]; exact fun z => nomatch z)
  have hF : F h'.objs.size = none := none_of_le l hsz
  refine ⟨F.ins h'.objs.size { cls := .type "tuple", data := .seq ws }, ⟨Fz.ins_le hF, fun b o e => ?_, k2, fun b o e => ?_, z⟩, ⟨_, _, rfl⟩, .tup (Fz.ins_self _ _ _) rfl rfl (rr.mono (Fz.ins_le hF))⟩
  · unfold Fz.ins at e
    by_cases q : b = h'.objs.size
    · subst q; exact .inr hsz
    · rw [if_neg q] at e; exact .inl e
  · unfold Fz.ins at e
    by_cases q : b = h'.objs.size
    · rw [if_pos q] at e; cases e; rw [q]; exact hat
    · rw [if_neg q] at e; exact k2 b o (l b o e)
end Mine
end

section
open PySem PySem.Calls PyProof.Rows PySem.W
set_option maxRecDepth 100000
set_option linter.unusedVariables false
namespace Mine
variable {c : Cx} {n : Nat} {sc : Scope} {pn : List Str} {ρ : Vars}
theorem slot_search : PySem.Slot "re.Pattern" "search" "re.Pattern.search" :=
  .of (owner := "re.Pattern") (n := "search") (by rw [typeLookup_type, builtinLookup_eq_fast]; kernel_rfl) (by decide +kernel) (by decide +kernel) (by decide +kernel)
    (by first | exact .inl (by decide +kernel) | exact .inr (by decide +kernel)) (by rw [isSubtype_type]; kernel_rfl)
theorem type_search : typeOf (.builtin "re.Pattern.search") = pure (.type "method_descriptor") := by show builtinType _ = _; rw [builtinType_eq_fast]; kernel_rfl
theorem entry_search : entryFor table "re.Pattern.search" = some Builtin.«re.Pattern.search» := entryFor_of_tree (by kernel_rfl)
theorem args_search (a b : Value) : argsOk "re.Pattern.search" ⟨[a, b], []⟩ := by
  unfold argsOk; kernel_rfl
theorem plain_re : PlainAttrs "re.Pattern" :=
  ⟨⟨"object.__getattribute__", by rw [typeLookup_type, builtinLookup_eq_fast]; kernel_rfl, by decide +kernel⟩, by rw [typeLookup_type, builtinLookup_eq_fast]; kernel_rfl⟩

/-- a pattern's code, as its object holds it -/
noncomputable def codeOf (items : Array Value) : Array Nat := (items.map Builtin.Re.reRawOf).map (·.toNat)
/-- the pattern is nowhere in x -/
noncomputable def missB (code : Array Nat) (x : Str) : Bool := match (Sre.M.runFor Builtin.Re.reTurnSteps (Sre.forSearch code x.cps 0 0 x.cps.size false)).outcome with
  | some .failed => true
  | _ => false
/-- a pattern that stands in the heap -/
structure PatAt (h : Heap) (P : Addr) (code : Array Nat) : Prop where
  ex : ∃ o fs T oT items m, h.get? P = some o ∧ o.cls = .type "re.Pattern" ∧ o.dict = none ∧ o.data = .fields fs ∧ Builtin.Re.reRawNat (fs.getD 6 .none) = 0 ∧ Builtin.Re.reRawNat (fs.getD 2 .none) = 0 ∧ fs.getD 5 .none = .ref T ∧ h.get? T = some oT ∧ oT.data = .seq items m ∧ code = codeOf items
theorem PatAt.keeps {h h' : Heap} {P : Addr} {code : Array Nat} (x : PatAt h P code) (k : Fle h.get? h'.get?) : PatAt h' P code := by
  obtain ⟨o, fs, T, oT, items, m, e1, e2, e3, e4, e5, e6, e7, e8, e9⟩ := x
  exact ⟨o, fs, T, oT, items, m, k _ _ e1, e2, e3, e4, e5, e6, e7, k _ _ e8, e9⟩

section
variable {prog : Program} {w : World} {A : Around} {E : Value → Shared → Prop} {s : Shared}
theorem rules_loop (p : Nat → Bool) (f : Nat → String) : ∀ (l : List Nat) {Q : PUnit → Shared → Prop}, Q ⟨⟩ s → wpAny (model prog w) A (forIn l PUnit.unit (fun i _ => (do
    if p i = true then
      rule (f i)
    pure (ForInStep.yield PUnit.unit) : Sem (ForInStep PUnit)))) Q E s
  | [], Q, h => wpAny_pure h
  | i :: r, Q, h => by
    rw [List.forIn_cons]
    refine wpAny_bind ?_
    cases p i with
    | true => exact wpAny_bind (wpAny_rule (wpAny_pure (rules_loop p f r h)))
    | false => exact wpAny_pure (rules_loop p f r h)
theorem run_miss {code : Array Nat} {x : Str} {Q : Option Sre.M → Shared → Prop} (hm : missB code x = true) (q : Q none s) : wpAny (model prog w) A (Builtin.Re.reRunToEnd (Sre.forSearch code x.cps 0 0 x.cps.size false)) Q E s := by
  unfold Builtin.Re.reRunToEnd
  obtain ⟨t, ht⟩ : ∃ t, 2 ^ 64 = t + 1 := ⟨2 ^ 64 - 1, by decide⟩
  rw [ht]
  unfold missB at hm
  unfold Builtin.Re.reDrive
  generalize Sre.M.runFor Builtin.Re.reTurnSteps (Sre.forSearch code x.cps 0 0 x.cps.size false) = m at hm
  dsimp only
  have ho : m.outcome = some .failed := by
    revert hm
    cases m.outcome with
    | none => exact fun z => nomatch z
    | some o => cases o <;> first | exact fun _ => rfl | exact fun z => nomatch z
  rw [ho]
  refine wpAny_bind (wpAny_pure (wpAny_bind (rules_loop _ _ _ ?_)))
  rw [ho]
  exact wpAny_pure q
theorem call_search {P : Addr} {code : Array Nat} {x : Str} {t : Tok} {Q : Value → Shared → Prop} (hP : PatAt s.heap P code) (hm : missB code x = true) (hz : x.cps.size ≤ 1000) (q : Q .none s) : wpAny (model prog w) A (call (.builtin "re.Pattern.search") [.ref P, .str x t]) Q E s := by
  obtain ⟨o, fs, T, oT, items, m, e1, e2, e3, e4, e5, e6, e7, e8, e9, e10⟩ := hP
  refine wpAny_call_entry slot_search ⟨_, e1, e2⟩ entry_search ?_ (args_search _ _)
  unfold Builtin.«re.Pattern.search» Builtin.Re.reTarget
  refine wpAny_bind ?_
  dsimp only
  refine wpAny_bind (m := Builtin.Re.reNamed "re.Pattern.search" "search" ["string", "pos", "endpos"] 1 [.str x t] []) (wpAny_of_eq (show _ = pure [some (.str x t), none, none] from by kernel_rfl) ?_)
  dsimp only
  refine wpAny_bind (wpAny_pure (wpAny_bind (wpAny_pure (wpAny_bind (wpAny_fieldsOf e1 e4 ?_)))))
  refine wpAny_bind (m := Builtin.Re.reTextOf (.str x t)) (wpAny_pure ?_)
  rw [e5, e6, e7, if_neg (by simp), if_neg (by simp)]
  refine wpAny_bind (m := Builtin.Re.reNoCollectionInside (.str x t) 0) (wpAny_pure ?_)
  refine wpAny_bind (m := Builtin.Re.reRawItems (.ref T)) ?_
  unfold Builtin.Re.reRawItems
  refine wpAny_bind (wpAny_seqItems e8 e9 (wpAny_pure (wpAny_pure ?_)))
  have hl : min ((2 ^ 63 - 1 : Int)).toNat x.cps.size = x.cps.size := Nat.min_eq_right (by omega)
  unfold Builtin.Re.reAnswer
  dsimp only
  rw [hl]
  subst e10
  exact wpAny_bind (run_miss hm (wpAny_pure ⟨_, rfl, q⟩))
end
/-- pat.search(x) is None, for a test -/
theorem Te_search {r a : Expr} {apos pos : Pos} {P : Addr} {code : Array Nat} {x : Str} (hc : c.Ok) (hr : ∀ A env pins F P' s, Room n A → EnvOk env sc → St c env pins ρ F P' s.heap → wpAny (model c.prog c.w) A (eval r env) (fun v s' => v = .ref P ∧ Fle s.heap.get? s'.heap.get? ∧ ∃ F', Grow F s.heap F' s'.heap ∧ Same s s') (fun _ _ => False) s) (hP : PatAt c.hB P code) (ha : Ev c n sc ρ a (.str x)) (hm : missB code x = true) (hz : x.cps.size ≤ 1000) (hp : plainArg a = true := by rfl) (hM : MethAt r "search" apos [a] pos := by exact fun _ => ⟨_, rfl⟩) :
    Ev c n sc ρ (.Call (.Attribute r "search" apos) [a] [] pos) .none := fun A env pins F P' s R ok S => by
  refine meth_open hM (wpAny_mono (hr A env pins F P' s R ok S) (fun v s₁ hp1 pl => ?_) fun _ _ x => x)
  obtain ⟨e, k₁, F₁, G₁, X₁⟩ := hp1
  subst e
  have S₁ := S.grow G₁
  obtain ⟨o, fs, T, oT, items, m, e1, e2, e3, e4, er⟩ := hP.keeps S₁.keep
  refine getMethod_builtin ⟨_, e1, e2⟩ plain_re slot_search type_search (fun b q => by cases q; exact ⟨_, e1, e3⟩) ?_
  refine callWith_val (starFalse (by simp [hp])) (fun b q => by cases q) ?_
  rw [starEach_plain hp]
  refine spliced_cons (wpAny_mono (ha A env pins F₁ P' s₁ R ok S₁) (fun va s₂ hp2 => ?_) fun _ _ x => x)
  obtain ⟨F₂, G₂, X₂, r₂⟩ := hp2
  refine spliced_nil ?_
  cases r₂ with
  | str _ t => exact call_search (hP.keeps (S₁.grow G₂).keep) hm hz ⟨F₂, G₁.trans G₂, X₁.trans X₂, .none⟩
end Mine
end

section
open PySem PySem.Calls PyProof.Rows PySem.W
set_option maxRecDepth 100000
set_option linter.unusedVariables false
namespace Mine
variable {c : Cx} {n : Nat} {sc : Scope} {pn : List Str} {ρ : Vars}

/-! values that are no data -/
variable (c n sc ρ) in
noncomputable def EvV (e : Expr) (v0 : Value) : Prop := ∀ A env pins F P s, Room n A → EnvOk env sc → St c env pins ρ F P s.heap → wpAny (model c.prog c.w) A (eval e env) (fun v s' => v = v0 ∧ ∃ F', Grow F s.heap F' s'.heap ∧ Same s s') (fun _ _ => False) s
theorem EvV_glob {x : Str} {p : Pos} {v : Value} (hc : c.Ok) (hg : Glb c x v) (hi : isGlb sc x = true) : EvV c n sc ρ (.Name x p) v := fun A env pins F P s R ok S =>
  load_glob hc ok S.keep hi hg ⟨rfl, F, .refl S.le, .refl s⟩
theorem Te_debug {p : Pos} : Te c n sc ρ (.Name "__debug__" p) true := fun A env pins F P s R ok S => by
  refine isTrue_plain ?_ (isTrue_of_plain rfl)
  show wpAny _ _ (do standAt p; debugConstant) _ _ _
  exact wpAny_bind (wpAny_standAt (wpAny_bind (wpAny_rule (wpAny_pure (wpAny_truthy_bool ⟨rfl, F, .refl S.le, .refl s⟩)))))
/-- a datum's type -/
noncomputable def D.ty : D → Option String
  | .str _ => some "str"
  | .lst _ => some "list"
  | _ => Option.none
theorem Rd1.ty {s : Shared} {F : Fz} {d : D} {v : Value} {T : String} (r : Rd1 s.heap F d v) (l : Fle F s.heap.get?) (h : d.ty = some T) : s.TypeIs v T := by
  cases d with
  | str x => cases h; obtain ⟨t, rfl⟩ := r.str; exact typeIs_str s x t
  | lst xs => cases h; obtain ⟨a, vs, rfl, i, _⟩ := r.lst l; exact i.typeIs
  | _ => cases h
theorem EvV_type {e : Expr} {p pos : Pos} {d : D} {T : String} (hc : c.Ok) (hg : Glb c "type" (.type "type")) (hi : isGlb sc "type" = true) (he : EvR c n sc ρ e d) (ht : d.ty = some T) (hp : plainArg e = true := by rfl) : EvV c n sc ρ (.Call (.Name "type" p) [e] [] pos) (.type T) := fun A env pins F P s R ok S => by
  refine wpAny_Call_Name_kw (load_glob hc ok S.keep hi hg ?_)
  show wpAny _ _ (callWith pos (.type "type") [] (backTo pos (starEach [e] env)) []) _ _ _
  refine callWith_val (starFalse (by simp [hp])) nofun ?_
  rw [starEach_plain hp]
  refine spliced_cons (wpAny_mono (he A env pins F P s R ok S) (fun v s₁ hp1 => ?_) fun _ _ x => x)
  obtain ⟨F₁, G₁, X₁, r₁⟩ := hp1
  refine spliced_nil ?_
  refine call_type_of (r₁.ty G₁.le ht) ?_ ⟨rfl, F₁, G₁, X₁⟩
  cases d with
  | str x => cases ht; decide
  | lst xs => cases ht; decide
  | _ => cases ht
theorem Te_is {l r : Expr} {pos : Pos} {a b : Value} (hl : EvV c n sc ρ l a) (hr : EvV c n sc ρ r b) (hpl : PySem.plainIs a b = true) (hm : behindInMarks .Is r = false := by rfl) : Te c n sc ρ (.Compare l [.Is] [r] pos) (a == b) := fun A env pins F P s R ok S => by
  refine wpAny_isTrue_Compare1 (wpAny_mono (hl A env pins F P s R ok S) (fun v s₁ hp2 => ?_) fun _ _ x => x) hm
  obtain ⟨e, F₁, G₁, X₁⟩ := hp2
  subst e
  refine wpAny_mono (hr A env pins F₁ P s₁ R ok (S.grow G₁)) (fun w s₂ hp3 => ?_) fun _ _ x => x
  obtain ⟨e, F₂, G₂, X₂⟩ := hp3
  subst e
  exact wpAny_is_plain hpl (wpAny_truthy_bool ⟨rfl, F₂, G₁.trans G₂, X₁.trans X₂⟩)
theorem Te_isNot {l r : Expr} {pos : Pos} {a b : Value} (hl : EvV c n sc ρ l a) (hr : EvV c n sc ρ r b) (hpl : PySem.plainIs a b = true) (hm : behindInMarks .IsNot r = false := by rfl) : Te c n sc ρ (.Compare l [.IsNot] [r] pos) (!(a == b)) := fun A env pins F P s R ok S => by
  refine wpAny_isTrue_Compare1 (wpAny_mono (hl A env pins F P s R ok S) (fun v s₁ hp4 => ?_) fun _ _ x => x) hm
  obtain ⟨e, F₁, G₁, X₁⟩ := hp4
  subst e
  refine wpAny_mono (hr A env pins F₁ P s₁ R ok (S.grow G₁)) (fun w s₂ hp5 => ?_) fun _ _ x => x
  obtain ⟨e, F₂, G₂, X₂⟩ := hp5
  subst e
  exact wpAny_isNot_plain hpl (wpAny_truthy_bool ⟨rfl, F₂, G₁.trans G₂, X₁.trans X₂⟩)
/-- a global object of the program's own, as a value -/
theorem Ev_opq {x : Str} {p : Pos} {a : Addr} {o : Obj} (hc : c.Ok) (hg : Glb c x (.ref a)) (hi : isGlb sc x = true) (ho : c.hB.get? a = some o) : Ev c n sc ρ (.Name x p) (.opq a) := fun A env pins F P s R ok S =>
  load_glob hc ok S.keep hi hg (.now S.le (.opq (S.base _ _ ho)))
theorem EvV_opq {x : Str} {p : Pos} {a : Addr} (hx : ρ.lookup x = some (.val (.opq a))) (hl : isLoc sc x = true) : EvV c n sc ρ (.Name x p) (.ref a) := fun A env pins F P s R ok S =>
  wpAny_mono (Ev_name hx hl A env pins F P s R ok S) (fun v s' hp6 => by obtain ⟨F', G, X, r⟩ := hp6; cases r; exact ⟨rfl, F', G, X⟩) fun _ _ x => x
theorem Ev_search {r a : Expr} {apos pos : Pos} {P : Addr} {code : Array Nat} {x : Str} (hc : c.Ok) (hr : EvV c n sc ρ r (.ref P)) (hP : PatAt c.hB P code) (ha : Ev c n sc ρ a (.str x)) (hm : missB code x = true) (hz : x.cps.size ≤ 1000) (hp : plainArg a = true := by rfl) (hM : MethAt r "search" apos [a] pos := by exact fun _ => ⟨_, rfl⟩) :
    Ev c n sc ρ (.Call (.Attribute r "search" apos) [a] [] pos) .none :=
  Te_search hc (fun A env pins F P' s R ok S => wpAny_mono (hr A env pins F P' s R ok S) (fun v s' hp7 => by obtain ⟨e, F', G, X⟩ := hp7; exact ⟨e, G.keep, F', G, X⟩) fun _ _ x => x) hP ha hm hz hp hM
theorem Tru.none : Tru c .none false := fun A F s va R hb l ra => by
  have := ra.none; subst this
  exact truthy_none ⟨rfl, F, .refl l, .refl s⟩

/-- a run whose slots are all data -/
theorem run_val {A : Around} {s : Shared} {fa : Addr} {fd : FuncData} {body : List Stmt} {args : Args} {binds : List (Str × Value)} {ρ0 ρ' : Vars} {fl : Fl} {F : Fz} (hc : c.Ok) (D : DefAt c fa fd body sc) (hs : scOk sc (binds.map (·.1)) = true) (R : Room (n + 1) A) (hb : Fle c.hB.get? F) (l : Fle F s.heap.get?)
    (hbind : ∀ (A' : Around) (E : Value → Shared → Prop) (Q : List (Str × Value) → Shared → Prop), Q binds s → wpAny (model c.prog c.w) A' (bindArgs fd args) Q E s)
    (own : ∀ x sl, ρ0.lookup x = some sl → ∃ v, binds.lookup x = some v ∧ Own s.heap F sl v []) (hfl : fl ≠ .brk ∧ fl ≠ .cont)
    (h : Ex c n sc [] ρ0 body fl ρ') : codeAny (model c.prog c.w) A (.call (.ref fa) args) (Ret fun v s₂ => Gives F s fl.res v s₂ ∧ ∀ d, fl = .retF d → ∃ a, v = .ref a ∧ s.heap.objs.size ≤ a) s :=
  codeRet_mono (run_fn (pins := []) (fp := fun _ => []) hc D hs R hb l (.refl _) (.refl s) hbind own (fun _ q => nomatch q) (fun _ _ _ _ q => nomatch q) (fun _ _ _ => .nil) (fun _ _ _ _ _ _ _ _ q => nomatch q) hfl h)
    fun v s₂ hp => by
      obtain ⟨F', z1, z2, z3, z4, z5, z6, ⟨env, P', S', z7⟩, z8⟩ := hp
      exact ⟨⟨F', ⟨z1, fun b o e => (z2 b o e).imp id fun q => q.elim (fun hp9 => by obtain ⟨_, _, _, q⟩ := hp9; exact nomatch q) id, fun b o e => z3 b o (fun hp10 => by obtain ⟨_, _, _, q⟩ := hp10; exact nomatch q) e, S'.le, z5⟩, z4, z6⟩, fun d e => by obtain ⟨a, e1, e2⟩ := z8 d e; exact ⟨a, e1, e2.elim (fun hp11 => by obtain ⟨_, _, _, q⟩ := hp11; exact nomatch q) id⟩⟩
/-! methods of texts -/
theorem StrM_open {o : Expr} {name : Str} {apos pos : Pos} {x y : Str} {id : String} (ho : Ev c n sc ρ o (.str x)) (slot : PySem.Slot "str" name id) (hty : typeOf (.builtin id) = pure (.type "method_descriptor"))
    (hcall : ∀ (A : Around) (s : Shared) (t : Tok) (Q : Value → Shared → Prop), (∀ t' k, Q (.str y t') { s with toks := k }) → wpAny (model c.prog c.w) A (call (.builtin id) [.str x t]) Q (fun _ _ => False) s) (hm : MethAt o name apos [] pos := by exact fun _ => ⟨_, rfl⟩) :
    Ev c n sc ρ (.Call (.Attribute o name apos) [] [] pos) (.str y) := fun A env pins F P s R ok S => by
  refine meth_open hm (wpAny_mono (ho A env pins F P s R ok S) (fun v s₁ hp12 pl => ?_) fun _ _ x => x)
  obtain ⟨F₁, G₁, X₁, r₁⟩ := hp12
  cases r₁ with
  | str _ t =>
    refine getMethod_builtin (typeIs_str s₁ x t) PySem.F.plainAttrs_str slot hty (fun b q => nomatch q) ?_
    refine callWith_val (starFalse rfl) nofun ?_
    refine spliced_nil ?_
    exact hcall A s₁ t _ fun t' k => ⟨F₁, ⟨G₁.fle, G₁.new, G₁.keep, G₁.le, G₁.size⟩, X₁.trans ⟨_, _, rfl⟩, .str y t'⟩
theorem Ev_lower {o : Expr} {apos pos : Pos} {x : Str} (ho : Ev c n sc ρ o (.str x)) (hz : x.length ≤ 1000) (hm : MethAt o "lower" apos [] pos := by exact fun _ => ⟨_, rfl⟩) : Ev c n sc ρ (.Call (.Attribute o "lower" apos) [] [] pos) (.str (Txt.lower x)) :=
  StrM_open ho PySem.F.slot_str_lower PySem.F.type_str_lower (fun A s t Q q => SCL.lower (Nat.le_trans hz (by decide)) fun _ => q _ _) hm
theorem Ev_upper {o : Expr} {apos pos : Pos} {x : Str} (ho : Ev c n sc ρ o (.str x)) (hz : x.length ≤ 1000) (hm : MethAt o "upper" apos [] pos := by exact fun _ => ⟨_, rfl⟩) : Ev c n sc ρ (.Call (.Attribute o "upper" apos) [] [] pos) (.str (Txt.upper x)) :=
  StrM_open ho PySem.F.slot_str_upper PySem.F.type_str_upper (fun A s t Q q => SCL.upper (Nat.le_trans hz (by decide)) fun _ => q _ _) hm
theorem join_one (x y : Str) : Txt.join x [y] = y := rfl
/-- '; '.join(parts), one part -/
theorem Ev_join1 {o a : Expr} {apos pos : Pos} {x y : Str} (ho : Ev c n sc ρ o (.str x)) (ha : EvR c n sc ρ a (.lst [.str y])) (hz : y.length ≤ 1000) (hx : x.length ≤ 1000) (hp : plainArg a = true := by rfl) (hm : MethAt o "join" apos [a] pos := by exact fun _ => ⟨_, rfl⟩) : Ev c n sc ρ (.Call (.Attribute o "join" apos) [a] [] pos) (.str y) := fun A env pins F P s R ok S => by
  refine meth_open hm (wpAny_mono (ho A env pins F P s R ok S) (fun v s₁ hp13 pl => ?_) fun _ _ x => x)
  obtain ⟨F₁, G₁, X₁, r₁⟩ := hp13
  cases r₁ with
  | str _ t =>
    refine getMethod_builtin (typeIs_str s₁ x t) PySem.F.plainAttrs_str PySem.F.slot_str_join PySem.F.type_str_join (fun b q => nomatch q) ?_
    refine callWith_val (starFalse (by simp [hp])) nofun ?_
    rw [starEach_plain hp]
    refine spliced_cons (wpAny_mono (ha A env pins F₁ P s₁ R ok (S.grow G₁)) (fun va s₂ hp14 => ?_) fun _ _ x => x)
    obtain ⟨F₂, G₂, X₂, r₂⟩ := hp14
    refine spliced_nil ?_
    obtain ⟨b, vs, rfl, i, rr⟩ := r₂.lst G₂.le
    have hi : StrsAre vs.toList [y] := by
      generalize vs.toList = l at rr
      cases rr with
      | cons r0 rr => cases rr; cases r0 with | str _ u => exact .cons _ _ .nil
    refine join_list i hi (by simp; omega) fun t' k => ?_
    have G := G₁.trans G₂
    exact ⟨F₂, ⟨G.fle, G.new, G.keep, G.le, G.size⟩, X₁.trans (X₂.trans ⟨_, _, rfl⟩), .str y t'⟩

/-! own header tables -/
noncomputable def D.flat : D → Bool
  | .none | .bool _ | .int _ | .str _ => true
  | _ => false
theorem Rd.flat {F G : Fz} {d : D} {v : Value} (r : Rd F d v) (h : d.flat = true) : Rd G d v := by
  cases r <;> first | cases h | skip
  · exact .none
  · exact .bool _
  · exact .int _ _
  · exact .str _ _
theorem RdL.flat {F G : Fz} {ds : List D} {vs : List Value} (r : RdL F ds vs) : (∀ d ∈ ds, d.flat = true) → RdL G ds vs :=
  RdL.ind (P := fun ds vs => (∀ d ∈ ds, d.flat = true) → RdL G ds vs) (fun _ => .nil) (fun a _ ih h => .cons (a.flat (h _ (.head _))) (ih fun d hd => h d (.tail _ hd))) r
theorem hdr_temp {env : Env} {pins : Pins} {F : Fz} {P : Addr → Prop} {h : Heap} {vm : Str → Option Value} {fp : Str → List Addr} (S : StV c env pins ρ F P h vm fp) {x : Str} {C : Addr} {xs : List D} (hx : ρ.lookup x = some (.hdr C xs)) : ∃ a Ft, vm x = some (.ref a) ∧ Fle F Ft ∧ Fle Ft h.get? ∧ Rd Ft (.inst C [("_headers", .lst xs)]) (.ref a) := by
  obtain ⟨a, dx, l, od, es, k, hv, hfp, ha, hd, hdd, hk, z, r, vs, ⟨m, hl⟩, q⟩ := S.hdr hx
  have hn : F l = none := S.out l ((S.mem l).mpr (.inr ⟨x, _, hx, by rw [hfp]; exact .head _⟩))
  have g := Fz.ins_le (o := { cls := .type "list", data := .seq vs m }) hn
  refine ⟨a, F.ins l { cls := .type "list", data := .seq vs m }, hv, g, fun b o e => ?_, .inst (g _ _ ha) (g _ _ hd) hdd hk (.cons z (.lst (Fz.ins_self _ _ _) rfl rfl (q.mono g)) .nil) fun y hy => r y fun e => ?_⟩
  · unfold Fz.ins at e
    by_cases h1 : b = l
    · subst h1; rw [if_pos rfl] at e; cases e; exact hl
    · rw [if_neg h1] at e; exact S.le b o e
  · subst e; simp at hy
noncomputable def hdrF (xs : List D) : List (Str × D) := [("_headers", .lst xs)]
/-- table.name(args) on an own table, read only, a flat value -/
theorem Ev_hdrFlat {x name : Str} {p apos pos : Pos} {args : List Expr} {C f : Addr} {xs ds : List D} {d : D} (hc : c.Ok) (hM : MethK c C name f) (hx : ρ.lookup x = some (.hdr C xs)) (hl : isLoc sc x = true) (hnn : name ≠ "_headers") (ha : EvL c n sc ρ args ds) (h : FnP c n (.ref f) (.inst C (hdrF xs) :: ds) d) (hd : d.flat = true) (hp : args.all plainArg = true := by rfl) (hm : MethAt (.Name x p) name apos args pos := by exact fun _ => ⟨_, rfl⟩) :
    Ev c n sc ρ (.Call (.Attribute (.Name x p) name apos) args [] pos) d := fun A env pins F P s R ok S => by
  have S0 := S
  obtain ⟨vm, fp, S⟩ := S
  obtain ⟨a, dx, l, od, es, k, hv, hfp, h1, h2, hdd, hk, z, r, q⟩ := S.hdr hx
  refine meth_open hm (load_var (h := s.heap) ok S.sto hl hv fun pl => ?_)
  refine get_meth (hc.at_ S0.keep) hM (S.le _ _ h1) (S.le _ _ h2) hdd hk (r _ hnn) ?_
  refine callWith_of (P := c.K.In) (by rw [Bool.or_eq_false_iff]; exact ⟨starFalse hp, rfl⟩) (keeps_K hM.keep) (evalArgs_any (starFalse hp) (wpAny_mono (ha A env pins F P s R ok S0 pos) (fun vs s₂ hp15 => ?_) fun _ _ x => x))
  obtain ⟨F₂, G₂, X₂, r₂⟩ := hp15
  refine ⟨hc.at_ (S0.grow G₂).keep, ?_⟩
  obtain ⟨a', Ft, e1, e2, e3, e4⟩ := hdr_temp (S.grow G₂) hx
  have : a' = a := by rw [hv] at e1; cases e1; rfl
  subst this
  refine wpAny_mono (h A Ft s₂ (.ref a' :: vs) R ((S0.grow G₂).base.trans e2) e3 (.cons e4 (r₂.mono e2))) (fun v s₃ hp16 => ?_) fun _ _ x => x
  obtain ⟨F₃, G₃, X₃, r₃⟩ := hp16
  exact ⟨F₂, G₂.trans ⟨.refl _, fun _ _ e => .inl e, G₃.keep, G₂.le.trans G₃.keep, G₃.size⟩, X₂.trans X₃, r₃.flat hd⟩
/-- .. a new list of flat values -/
theorem Ev_hdrList {x name : Str} {p apos pos : Pos} {args : List Expr} {C f : Addr} {xs ds ys : List D} (hc : c.Ok) (hM : MethK c C name f) (hx : ρ.lookup x = some (.hdr C xs)) (hl : isLoc sc x = true) (hnn : name ≠ "_headers") (ha : EvL c n sc ρ args ds) (h : FnF c n (.ref f) (.inst C (hdrF xs) :: ds) (.lst ys)) (hd : ∀ y ∈ ys, y.flat = true) (hp : args.all plainArg = true := by rfl) (hm : MethAt (.Name x p) name apos args pos := by exact fun _ => ⟨_, rfl⟩) :
    Ev c n sc ρ (.Call (.Attribute (.Name x p) name apos) args [] pos) (.lst ys) := fun A env pins F P s R ok S => by
  have S0 := S
  obtain ⟨vm, fp, S⟩ := S
  obtain ⟨a, dx, l, od, es, k, hv, hfp, h1, h2, hdd, hk, z, r, q⟩ := S.hdr hx
  refine meth_open hm (load_var (h := s.heap) ok S.sto hl hv fun pl => ?_)
  refine get_meth (hc.at_ S0.keep) hM (S.le _ _ h1) (S.le _ _ h2) hdd hk (r _ hnn) ?_
  refine callWith_of (P := c.K.In) (by rw [Bool.or_eq_false_iff]; exact ⟨starFalse hp, rfl⟩) (keeps_K hM.keep) (evalArgs_any (starFalse hp) (wpAny_mono (ha A env pins F P s R ok S0 pos) (fun vs s₂ hp17 => ?_) fun _ _ x => x))
  obtain ⟨F₂, G₂, X₂, r₂⟩ := hp17
  refine ⟨hc.at_ (S0.grow G₂).keep, ?_⟩
  obtain ⟨a', Ft, e1, e2, e3, e4⟩ := hdr_temp (S.grow G₂) hx
  have : a' = a := by rw [hv] at e1; cases e1; rfl
  subst this
  refine wpAny_mono (h A Ft s₂ (.ref a' :: vs) R ((S0.grow G₂).base.trans e2) e3 (.cons e4 (r₂.mono e2))) (fun v s₃ hp18 => ?_) fun _ _ x => x
  obtain ⟨⟨F₃, G₃, X₃, r₃⟩, b, e, hb⟩ := hp18
  subst e
  cases r₃ with
  | @lst _ o ws m _ y1 y2 y3 y4 =>
    have l₂ : Fle F₂ s₃.heap.get? := G₂.le.trans G₃.keep
    have hn : F₂ b = none := none_of_le G₂.le hb
    have g := Fz.ins_le (o := o) hn
    refine ⟨F₂.ins b o, G₂.trans ⟨g, fun t oo e => ?_, G₃.keep, fun t oo e => ?_, G₃.size⟩, X₂.trans X₃, .lst (Fz.ins_self _ _ _) y2 y3 (y4.flat hd)⟩
    · unfold Fz.ins at e
      by_cases q : t = b
      · subst q; exact .inr hb
      · rw [if_neg q] at e; exact .inl e
    · unfold Fz.ins at e
      by_cases q : t = b
      · subst q; rw [if_pos rfl] at e; cases e; exact G₃.le _ _ y1
      · rw [if_neg q] at e; exact l₂ t oo e
/-- return a new list -/
theorem ExS_returnNew {e : Expr} {pos : Pos} {xs : List D} (h : EvNew c n sc ρ e xs) : ExS c n sc pn ρ (.Return (some e) pos) (.retF (.lst xs)) ρ := fun A env pins F P s R ok hp S =>
  wpAny_Return_some (wpAny_mono (h A env pins F P s R ok S) (fun v s' hp19 => by
    obtain ⟨F', a, G, X, e1, e2, e3, l⟩ := hp19
    subst e1
    have hPa : ¬ P a := fun q => Nat.not_lt.mpr e2 (S.lt q)
    obtain ⟨vs, ⟨m, hl⟩, q⟩ := l
    have g := Fz.ins_le (o := { cls := .type "list", data := .seq vs m }) e3
    have G' : Grow F s.heap (F'.ins a { cls := .type "list", data := .seq vs m }) s'.heap := ⟨G.fle.trans g, fun b o e => by
      unfold Fz.ins at e
      by_cases h1 : b = a
      · subst h1; exact .inr e2
      · rw [if_neg h1] at e; exact G.new b o e, G.keep, fun b o e => by
      unfold Fz.ins at e
      by_cases h1 : b = a
      · subst h1; rw [if_pos rfl] at e; cases e; exact hl
      · rw [if_neg h1] at e; exact G.le b o e, G.size⟩
    exact ⟨_, P, G'.step, X, S.grow G', .retF (.lst (Fz.ins_self _ _ _) rfl rfl (q.mono g)) (.inr e2)⟩) fun _ _ x => x)
end Mine
end

section
open PySem PySem.Calls PyProof.Rows PySem.W
set_option maxRecDepth 100000
set_option linter.unusedVariables false
namespace Mine
variable {c : Cx} {n : Nat} {sc : Scope} {pn : List Str} {ρ : Vars}

/-- self._headers.append(e) -/
theorem EvX_hdrAppend {x : Str} {p ap apos pos : Pos} {e : Expr} {C : Addr} {xs : List D} {d : D} (hc : c.Ok) (hC : ClsK c C) (hn : findIn c.K (.ref C) "_headers" = some none) (hx : ρ.lookup x = some (.hdr C xs)) (hl : isLoc sc x = true) (he : Ev c n sc ρ e d) (hz : xs.length ≤ 100000) (hp : plainArg e = true := by rfl) (hm : MethAt (.Attribute (.Name x p) "_headers" ap) "append" apos [e] pos := by exact fun _ => ⟨_, rfl⟩) (hma : AtrAt (.Name x p) "_headers" ap := by exact fun _ => rfl) :
    EvX c n sc pn ρ (.Call (.Attribute (.Attribute (.Name x p) "_headers" ap) "append" apos) [e] [] pos) .none (Vars.put ρ x (.hdr C (xs ++ [d]))) := fun A env pins F P s R ok hpn S => by
  have S0 := S
  obtain ⟨vm, fp, S⟩ := S
  obtain ⟨a, dx, l, od, es, k, hv, hfp, h1, h2, hdd, hk, z, r, q⟩ := S.hdr hx
  refine meth_open hm (Attribute_any_ (load_var (h := s.heap) ok S.sto hl hv ?_) (hma env))
  refine get_field (hc.at_ S0.keep) hC (S.le _ _ h1) (S.le _ _ h2) hdd hn z rfl fun pl => ?_
  obtain ⟨vs, pp, rr⟩ := q
  refine listMethod (s := { s with toks := s.toks + 1 }) pp PySem.F.slot_list_append PySem.F.type_list_append ?_
  refine callWith_val (by rw [starEach_plain hp]; rfl) (fun b q => by cases q) ?_
  rw [starEach_plain hp]
  refine spliced_cons (wpAny_mono (he A env pins F P { s with toks := s.toks + 1 } R ok S0) (fun v s₁ hp1 => ?_) fun _ _ x => x)
  obtain ⟨F₁, G₁, X₁, r₁⟩ := hp1
  refine spliced_nil ?_
  have S₁ := S.grow G₁
  have pp₁ : s₁.heap.PlainList l vs := pp.at (G₁.keep l)
  show wpAny _ _ (call (.builtin "list.append") [.ref l, v]) _ _ _
  have hsz : vs.size ≤ sizeLine := by
    have e1 : vs.size = xs.length := by rw [← Array.length_toList]; exact rr.length
    have e2 : sizeLine = 16777216 := by decide
    omega
  refine wpAny_list_append_plain pp₁ (fun h' pl' sb => ?_) hsz
  have hm₁ : l ∈ fp x := by rw [hfp]; exact .head _
  have O : Own h' F₁ (.hdr C (xs ++ [d])) (.ref a) (fp x) := by
    rw [hfp]; exact .hdr (G₁.fle _ _ h1) (G₁.fle _ _ h2) hdd hk z r ⟨_, pl', by rw [Array.toList_push]; exact (rr.mono G₁.fle).snoc r₁⟩
  have X₁' : Same s s₁ := Same.trans ⟨_, _, rfl⟩ X₁
  exact ⟨F₁, P, G₁.step.trans (S₁.turnStep hx hm₁ sb), X₁'.trans ⟨_, _, rfl⟩, ⟨vm, fp, S₁.turn hx hv O hm₁ sb⟩, .none⟩

/-- a call that lengthens a table -/
noncomputable def FnH (c : Cx) (n : Nat) (fv : Value) (C : Addr) (xs ds xs' : List D) : Prop := ∀ A F s x l vs, Room n A → Fle c.hB.get? F → Fle F s.heap.get? → Own s.heap F (.hdr C xs) (.ref x) [l] → F l = none → RdL F ds vs →
  wpAny (model c.prog c.w) A (call fv (.ref x :: vs) []) (fun v s' => v = .none ∧ ∃ F', Fle F F' ∧ (∀ b o, F' b = some o → F b = some o ∨ s.heap.objs.size ≤ b) ∧ (∀ b o, b ≠ l → s.heap.get? b = some o → s'.heap.get? b = some o) ∧ Fle F' s'.heap.get? ∧ F' l = none ∧ Own s'.heap F' (.hdr C xs') (.ref x) [l] ∧ Same s s' ∧ s.heap.objs.size ≤ s'.heap.objs.size) (fun _ _ => False) s
theorem EvX_callHdr {x name : Str} {p apos pos : Pos} {args : List Expr} {C f : Addr} {xs xs' ds : List D} (hc : c.Ok) (hM : MethK c C name f) (h : FnH c n (.ref f) C xs ds xs') (hnn : name ≠ "_headers") (hx : ρ.lookup x = some (.hdr C xs)) (hl : isLoc sc x = true) (ha : EvL c n sc ρ args ds) (hp : args.all plainArg = true := by rfl) (hm : MethAt (.Name x p) name apos args pos := by exact fun _ => ⟨_, rfl⟩) :
    EvX c n sc pn ρ (.Call (.Attribute (.Name x p) name apos) args [] pos) .none (Vars.put ρ x (.hdr C xs')) := fun A env pins F P s R ok hpn S => by
  have S0 := S
  obtain ⟨vm, fp, S⟩ := S
  obtain ⟨a, dx, l, od, es, k, hv, hf, h1, h2, hdd, hk, z, r, q⟩ := S.hdr hx
  refine meth_open hm (load_var (h := s.heap) ok S.sto hl hv fun pl => ?_)
  refine get_meth (hc.at_ S0.keep) hM (S.le _ _ h1) (S.le _ _ h2) hdd hk (r _ hnn) ?_
  refine callWith_of (P := c.K.In) (by rw [Bool.or_eq_false_iff]; exact ⟨starFalse hp, rfl⟩) (keeps_K hM.keep) (evalArgs_any (starFalse hp) (wpAny_mono (ha A env pins F P s R ok S0 pos) (fun vs s₁ hp2 => ?_) fun _ _ x => x))
  obtain ⟨F₁, G₁, X₁, r₁⟩ := hp2
  have S₁ := S.grow G₁
  refine ⟨hc.at_ (S0.grow G₁).keep, ?_⟩
  have hmm : l ∈ fp x := by rw [hf]; exact .head _
  have hPa : P l := (S₁.mem l).mpr (.inr ⟨x, _, hx, hmm⟩)
  have O₁ : Own s₁.heap F₁ (.hdr C xs) (.ref a) [l] := .hdr (G₁.fle _ _ h1) (G₁.fle _ _ h2) hdd hk z r (q.mono (G₁.keep l) G₁.fle)
  refine wpAny_mono (h A F₁ s₁ a l vs R S₁.base G₁.le O₁ (S₁.out l hPa) r₁) (fun v s₂ hp3 => ?_) fun _ _ x => x
  obtain ⟨hvn, F₂, x1, x2, x3, x4, x5, x6, x7, x8⟩ := hp3
  refine ⟨F₂, P, G₁.step.trans ⟨x1, fun b o e => (x2 b o e).imp id .inr, fun b o q e => x3 b o (fun z => q (z ▸ hPa)) e, fun _ q => .inl q, x8⟩, X₁.trans x7, ⟨vm, fp, ?_⟩, by rw [hvn]; exact .none⟩
  have keepS : ∀ b o, b ∈ stor env → s₁.heap.get? b = some o → s₂.heap.get? b = some o := fun b o hb e => x3 b o (fun z => S.aparts x _ hx l hmm (z ▸ hb)) e
  have dom : ∀ y t, (Vars.put ρ x (.hdr C xs')).lookup y = some t → ∃ t', ρ.lookup y = some t' := fun y t e => by
    rw [lookup_put] at e
    by_cases hy : y = x
    · subst hy; exact ⟨_, hx⟩
    · rw [if_neg hy] at e; exact ⟨_, e⟩
  exact {
    base := S₁.base.trans x1
    le := x4
    sto := ⟨let ⟨m, q, e⟩ := S₁.sto.loc; ⟨m, q.at fun o e => keepS _ o (.head _) e, e⟩, fun y hy => let ⟨cc, e, ⟨o, i, j⟩⟩ := S₁.sto.cel y hy; ⟨cc, e, ⟨o, keepS _ _ (List.mem_cons_of_mem _ (List.mem_map_of_mem (f := (·.2)) (mem_of_lookup e))) i, j⟩⟩⟩
    own := fun y t e => by
      rw [lookup_put] at e
      by_cases hy : y = x
      · rw [if_pos hy] at e; cases e; subst hy; exact ⟨_, hv, by rw [hf]; exact x6⟩
      · rw [if_neg hy] at e
        obtain ⟨w, e1, o⟩ := S₁.own y t e
        exact ⟨w, e1, o.mono (fun b hb o e' => x3 b o (fun z => S.apart y t x _ e hx hy b hb (by rw [z]; exact hmm)) e') x1⟩
    pin := S₁.pin
    mem := fun b => by
      rw [S₁.mem]
      constructor
      · rintro (q | ⟨y, t, e, q⟩)
        · exact .inl q
        · by_cases hy : y = x
          · exact .inr ⟨y, .hdr C xs', by rw [lookup_put, if_pos hy], q⟩
          · exact .inr ⟨y, t, by rw [lookup_put, if_neg hy]; exact e, q⟩
      · rintro (q | ⟨y, t, e, q⟩)
        · exact .inl q
        · obtain ⟨t', e'⟩ := dom y t e; exact .inr ⟨y, t', e', q⟩
    lt := fun b q => Nat.lt_of_lt_of_le (S₁.lt b q) x8
    out := fun b q => by
      cases e : F₂ b with
      | none => rfl
      | some o =>
        rcases x2 b o e with z | z
        · rw [S₁.out b q] at z; cases z
        · exact absurd (S₁.lt b q) (Nat.not_lt.mpr z)
    nd := fun y t e => let ⟨t', e'⟩ := dom y t e; S₁.nd y t' e'
    apart := fun y t z u e e' => let ⟨t', q⟩ := dom y t e; let ⟨u', q'⟩ := dom z u e'; S₁.apart y t' z u' q q'
    aparts := fun y t e => let ⟨t', e'⟩ := dom y t e; S₁.aparts y t' e' }

/-- for k, v in params.items(), none there -/
theorem StV.dict0 {env : Env} {pins : Pins} {F : Fz} {P : Addr → Prop} {h : Heap} {vm : Str → Option Value} {fp : Str → List Addr} (S : StV c env pins ρ F P h vm fp) {x : Str} (hx : ρ.lookup x = some (.dict [])) : ∃ a, vm x = some (.ref a) ∧ fp x = [a] ∧ h.get? a = some emptyDict ∧ (a == sysModules) = false := by
  obtain ⟨v, e, o⟩ := S.own x _ hx
  generalize hq : fp x = as at o
  cases o with
  | dict0 a z => exact ⟨_, e, rfl, a, z⟩
theorem ExS_forItems0 {x : Str} {target : Expr} {p apos cpos pos : Pos} {body : List Stmt} (hx : ρ.lookup x = some (.dict [])) (hl : isLoc sc x = true) (hm : MethAt (.Name x p) "items" apos [] cpos := by exact fun _ => ⟨_, rfl⟩) (hf : ∀ env v, foldedSetIterable (.Call (.Attribute (.Name x p) "items" apos) [] [] cpos) env v = pure v := by intro _ _; rfl) :
    ExS c n sc pn ρ (.For target (.Call (.Attribute (.Name x p) "items" apos) [] [] cpos) body [] pos) .next ρ := fun A env pins F P s R ok hp S => by
  have S0 := S
  obtain ⟨vm, fp, S⟩ := S
  obtain ⟨a, hv, hfp, ha, hsys⟩ := S.dict0 hx
  have hat : s.heap.DictAt (PySem.strKind c.prog c.w) a ([] : List (Str × Value)) 0 := ⟨_, #[], ha, ⟨rfl, rfl, rfl⟩, rfl, fun e he => by simp at he, .nil, .nil⟩
  have halt : a < s.heap.objs.size := Heap.lt_size ha
  refine wpAny_For (meth_open hm (load_var (h := s.heap) ok S.sto hl hv fun pl => ?_)) (hf env)
  refine getMethod_builtin ⟨_, ha, rfl⟩ PySem.F.plainAttrs_dict PySem.F.slot_dict_items PySem.F.type_dict_items (fun b q => by cases q; exact ⟨_, ha, rfl⟩) ?_
  refine callWith_val (starFalse rfl) (fun b q => nomatch q) (spliced_nil ?_)
  have hof : s.heap.DictOf (PySem.strKind c.prog c.w) a ([] : List (Str × Value)) := ⟨_, #[], 0, ha, ⟨rfl, rfl, rfl⟩, rfl, fun e he => by simp at he, .nil, .nil⟩
  refine call_meetsIn PySem.F.slot_dict_items ⟨_, ha, rfl⟩ PySem.F.entry_dict_items (PySem.F.args_dict_items_1 _) (meets_dict_items (PySem.strKind c.prog c.w) a hsys) ⟨⟨[], hof⟩, ?_⟩
  have hv₁ : (s.heap.push { cls := .type "dict_items", data := .fields #[.ref a] }).IsItemsView s.heap.objs.size a := ⟨_, Heap.get?_push_size _ rfl, rfl, rfl⟩
  have ha₁ : (s.heap.push { cls := .type "dict_items", data := .fields #[.ref a] }).get? a = some emptyDict := Heap.get?_push_of_some _ ha
  have hat₁ : (s.heap.push { cls := .type "dict_items", data := .fields #[.ref a] }).DictAt (PySem.strKind c.prog c.w) a ([] : List (Str × Value)) 0 := ⟨_, #[], ha₁, ⟨rfl, rfl, rfl⟩, rfl, fun e he => by simp at he, .nil, .nil⟩
  refine wpAny_pyIter_items (s := { s with heap := s.heap.push { cls := .type "dict_items", data := .fields #[.ref a] } }) hv₁ hat₁ ?_
  have sz₁ : (s.heap.push { cls := .type "dict_items", data := .fields #[.ref a] }).objs.size = s.heap.objs.size + 1 := Heap.size_push ..
  generalize hs₂ : ({ s with heap := (s.heap.push { cls := .type "dict_items", data := .fields #[.ref a] }).push { cls := .type "dict_itemiterator", data := .fields #[.none, .bool false, .ref a, .int 0 0, .int ([] : List (Str × Value)).length 0, .int (0 : Nat) 0, .none, .none] } } : Shared) = s₂
  have k₂ : Fle s.heap.get? s₂.heap.get? := fun b o e => by subst hs₂; exact Heap.get?_push_of_some _ (Heap.get?_push_of_some _ e)
  have z₂ : s.heap.objs.size ≤ s₂.heap.objs.size := by subst hs₂; show _ ≤ ((s.heap.push _).push _).objs.size; rw [Heap.size_push, Heap.size_push]; omega
  have hit : IsItemIter s₂.heap (s.heap.objs.size + 1) a 0 ([] : List (Str × Value)).length 0 .none .none := by
    subst hs₂; rw [← sz₁]; exact Heap.get?_push_size _ rfl
  have hat₂ : s₂.heap.DictAt (PySem.strKind c.prog c.w) a ([] : List (Str × Value)) 0 := ⟨_, #[], k₂ _ _ ha, ⟨rfl, rfl, rfl⟩, rfl, fun e he => by simp at he, .nil, .nil⟩
  have X₂ : Same s s₂ := by subst hs₂; exact ⟨_, _, rfl⟩
  rw [sz₁]
  refine codeAny_forLoop_any (fun k s' => s' = s₂) ?_ 0 rfl
  rintro k s' e
  subst e
  refine wpAny_mono (wpAny_sz (Nat.le_refl s'.heap.objs.size) (wpAny_pyNext_items_end (Q := fun r t => r = Option.none ∧ Same s' t ∧ ∀ b o, b ≠ s.heap.objs.size + 1 → s'.heap.get? b = some o → t.heap.get? b = some o) (E := fun _ _ => False) R.1 hit hat₂ rfl fun h' hk => ⟨rfl, ⟨_, _, rfl⟩, hk⟩)) (fun r t hp4 => ?_) fun _ _ x => x.2.elim
  obtain ⟨z, e, X₃, k₃⟩ := hp4
  subst e
  have k₄ : Fle s.heap.get? t.heap.get? := fun b o e => k₃ b o (fun q => by have := Heap.lt_size e; rw [eqA q] at this; exact absurd this (Nat.not_lt.mpr (Nat.le_succ _))) (k₂ b o e)
  exact wpAny_execs_nil ⟨F, P, Step.ofKeep k₄ (Nat.le_trans z₂ z), X₂.trans X₃, S0.top k₄ (Nat.le_trans z₂ z), .next⟩
end Mine
end

section
open PySem PySem.Calls PyProof.Rows PySem.W
set_option maxRecDepth 100000
set_option linter.unusedVariables false
namespace Mine
variable {c : Cx} {n : Nat} {sc : Scope} {pn : List Str} {ρ : Vars}

theorem EvNew_IfExp {t a b : Expr} {pos : Pos} {x : Bool} {xs : List D} (ht : Te c n sc ρ t x) (ha : x = true → EvNew c n sc ρ a xs) (hb : x = false → EvNew c n sc ρ b xs) : EvNew c n sc ρ (.IfExp t a b pos) xs := fun A env pins F P s R ok S => by
  refine IfExp_ (wpAny_mono (ht A env pins F P s R ok S) (fun t s₁ hp1 => ?_) fun _ _ x => x)
  obtain ⟨e, F₁, G₁, X₁⟩ := hp1
  subst e
  have S₁ := S.grow G₁
  have fin : ∀ (v : Value) (s₂ : Shared), (∃ F' a, Grow F₁ s₁.heap F' s₂.heap ∧ Same s₁ s₂ ∧ v = .ref a ∧ s₁.heap.objs.size ≤ a ∧ F' a = none ∧ LstAt s₂.heap F' xs a) → ∃ F' a, Grow F s.heap F' s₂.heap ∧ Same s s₂ ∧ v = .ref a ∧ s.heap.objs.size ≤ a ∧ F' a = none ∧ LstAt s₂.heap F' xs a :=
    fun v s₂ hp2 => by obtain ⟨F₂, a, G₂, X₂, e1, e2, e3, l⟩ := hp2; exact ⟨F₂, a, G₁.trans G₂, X₁.trans X₂, e1, Nat.le_trans G₁.size e2, e3, l⟩
  cases t with
  | true => exact wpAny_mono (ha rfl A env pins F₁ P s₁ R ok S₁) fin fun _ _ x => x
  | false => exact wpAny_mono (hb rfl A env pins F₁ P s₁ R ok S₁) fin fun _ _ x => x
/-- a loop over an own list, empty -/
theorem ExS_forOwn0 {x : Str} {target : Expr} {p pos : Pos} {body : List Stmt} (hx : ρ.lookup x = some (.lst [])) (hl : isLoc sc x = true) (hf : ∀ env v, foldedSetIterable (.Name x p) env v = pure v := by intro _ _; rfl) :
    ExS c n sc pn ρ (.For target (.Name x p) body [] pos) .next ρ := fun A env pins F P s R ok hp S => by
  have S0 := S
  obtain ⟨vm, fp, S⟩ := S
  obtain ⟨a, hv, hfp, L⟩ := S.lst hx
  refine wpAny_For (load_var (h := s.heap) ok S.sto hl hv ?_) (hf env)
  refine iter_open (c := c) (d := .lst []) S.le (.own L) rfl rfl fun o W It tg => ?_
  obtain ⟨⟨Pv, fpi, hW, hfpi, hPv⟩, st0⟩ := It
  have kp : Fle s.heap.get? (s.heap.push o).get? := fun b oo e => Heap.get?_push_of_some _ e
  have sz : s.heap.objs.size ≤ (s.heap.push o).objs.size := by rw [Heap.size_push]; exact Nat.le_succ _
  have Wk := hW A R.1
  refine codeAny_forLoop_any (fun k s' => s' = { s with heap := s.heap.push o }) ?_ 0 rfl
  rintro k s' e
  refine wpAny_mono (wpAny_sz (Nat.le_refl s'.heap.objs.size) (Wk.done s' (fun r t => r = Option.none ∧ (∀ b o, b ∉ [s.heap.objs.size] → s'.heap.get? b = some o → t.heap.get? b = some o) ∧ Same s' t) (fun _ _ => False) (by subst e; exact st0) fun h' tk hk => ⟨rfl, hk, ⟨_, _, rfl⟩⟩)) (fun r t hp3 => ?_) fun _ _ x => x.2.elim
  obtain ⟨z, e', k₃, X₃⟩ := hp3
  subst e'
  subst e
  have k₄ : Fle s.heap.get? t.heap.get? := fun b o e => k₃ b o (fun q => by have := Heap.lt_size e; rw [List.mem_singleton.mp q] at this; exact Nat.lt_irrefl _ this) (kp b o e)
  exact wpAny_execs_nil ⟨F, P, Step.ofKeep k₄ (Nat.le_trans sz z), Same.trans ⟨_, _, rfl⟩ X₃, S0.top k₄ (Nat.le_trans sz z), .next⟩

/-- an __init__ that lays an own empty list under _headers -/
noncomputable def FnHI (c : Cx) (n : Nat) (fi : Value) (C : Addr) : Prop := ∀ A F s x dx, Room n A → Fle c.hB.get? F → Fle F s.heap.get? → x ≠ dx → s.heap.get? x = some (instObj C dx) → s.heap.get? dx = some emptyDict → F x = none → F dx = none →
  codeAny (model c.prog c.w) A (.call fi ⟨[.ref x], []⟩) (Ret fun v s' => v = .none ∧ ∃ l es k, (∀ b o, b ≠ dx → s.heap.get? b = some o → s'.heap.get? b = some o) ∧ Same s s' ∧ s.heap.objs.size ≤ s'.heap.objs.size ∧ s.heap.objs.size ≤ l ∧ s'.heap.get? dx = some { cls := .type "dict", data := .dict es k } ∧ StrKeys es ∧ nsFind es "_headers" = some (.ref l) ∧ (∀ y : Str, y ≠ "_headers" → nsFind es y = none) ∧ s'.heap.PlainList l #[]) s
/-- x = Headers() -/
theorem ExS_assignHdr {x k : Str} {px p pos' pos : Pos} {C f : Addr} (hc : c.Ok) (hg : Glb c k (.ref C)) (hN : NewK c C f) (h : FnHI c n (.ref f) C) (hi : isGlb sc k = true) (hs : isSto sc x = true) (hx : x ∉ pn) : ExS c (n + 1) sc pn ρ (.Assign [.Name x px] (.Call (.Name k p) [] [] pos') pos) .next (Vars.put ρ x (.hdr C [])) := fun A env pins F P s R ok hp S => by
  refine wpAny_Assign_Name (load_glob hc ok S.keep hi hg ?_ |> wpAny_Call_Name_kw) (swaps_plain rfl)
  refine callWith_of (P := c.K.In) rfl (keeps_K hN.keep) (evalArgs_any rfl (spliced_nil ⟨hc.at_ S.keep, ?_⟩))
  have l := S.le
  have hb := S.base
  have lt₀ : ∀ b, P b → b < s.heap.objs.size := fun b q => S.lt q
  obtain ⟨hh, g, d, t, os⟩ := s
  have X := hc.at_ S.keep
  refine wpAny_call (make_core (makes_of X hN.makes) (looks_findIn X hN.init) (fun self => bind_fn X self hN.ty) (.inl rfl) ?_)
  have k1 : Fle hh.get? ((hh.push emptyDict).push (instObj C hh.objs.size)).get? := fun b o e => Heap.get?_push_of_some _ (Heap.get?_push_of_some _ e)
  have sz : ((hh.push emptyDict).push (instObj C hh.objs.size)).objs.size = hh.objs.size + 2 := by rw [Heap.size_push, Heap.size_push]
  have hx' : ((hh.push emptyDict).push (instObj C hh.objs.size)).get? (hh.objs.size + 1) = some (instObj C hh.objs.size) := by
    have := Heap.get?_push_size (hh.push emptyDict) (o := instObj C hh.objs.size) rfl
    rwa [Heap.size_push] at this
  have hd' : ((hh.push emptyDict).push (instObj C hh.objs.size)).get? hh.objs.size = some emptyDict := Heap.get?_push_of_some _ (Heap.get?_push_size hh (o := emptyDict) rfl)
  have W := h (A.under (.builtin "type.__call__" ⟨.ref C :: [], []⟩)) F ⟨(hh.push emptyDict).push (instObj C hh.objs.size), g, d, t, os⟩ (hh.objs.size + 1) hh.objs.size R.under hb (l.trans k1) (Nat.succ_ne_self _) hx' hd' (none_of_le l (Nat.le_succ _)) (none_of_le l (Nat.le_refl _))
  refine codeAny_mono W fun r s' z => ?_
  rcases r with e | (v | _ | _ | _) <;> try exact z.elim
  obtain ⟨hv, a, es, k', y1, y2, y3, y4, y5, y6, y7, y8, y9⟩ := z
  dsimp only at y1 y3 y4
  rw [sz] at y3 y4
  refine ⟨hv, ?_⟩
  have k2 : Fle hh.get? s'.heap.get? := fun b o e => y1 b o (fun q => by have := Heap.lt_size e; rw [eqA q] at this; exact Nat.lt_irrefl _ this) (k1 b o e)
  have hxs : s'.heap.get? (hh.objs.size + 1) = some (instObj C hh.objs.size) := y1 _ _ (Nat.succ_ne_self _) hx'
  -- the instance and its dict are frozen
  have f1 : F hh.objs.size = none := none_of_le l (Nat.le_refl _)
  have g1 := Fz.ins_le (o := { cls := .type "dict", data := .dict es k' }) f1
  have f2 : (F.ins hh.objs.size { cls := .type "dict", data := .dict es k' }) (hh.objs.size + 1) = none := by unfold Fz.ins; rw [if_neg (Nat.succ_ne_self _)]; exact none_of_le l (Nat.le_succ _)
  have g2 := Fz.ins_le (o := instObj C hh.objs.size) f2
  generalize hF₁ : (F.ins hh.objs.size { cls := .type "dict", data := .dict es k' }).ins (hh.objs.size + 1) (instObj C hh.objs.size) = F₁ at g2
  have cases₁ : ∀ b o, F₁ b = some o → F b = some o ∨ (b = hh.objs.size + 1 ∧ o = instObj C hh.objs.size) ∨ (b = hh.objs.size ∧ o = { cls := .type "dict", data := .dict es k' }) := fun b o e => by
    subst hF₁
    unfold Fz.ins at e
    by_cases h1 : b = hh.objs.size + 1
    · rw [if_pos h1] at e; cases e; exact .inr (.inl ⟨h1, rfl⟩)
    · rw [if_neg h1] at e
      by_cases h2 : b = hh.objs.size
      · rw [if_pos h2] at e; cases e; exact .inr (.inr ⟨h2, rfl⟩)
      · rw [if_neg h2] at e; exact .inl e
  have G₁ : Grow F hh F₁ s'.heap := ⟨g1.trans g2, fun b o e => (cases₁ b o e).imp id fun q => by
      rcases q with ⟨q, _⟩ | ⟨q, _⟩
      · rw [eqA q]; exact Nat.le_succ _
      · rw [eqA q]; exact Nat.le_refl _, k2, fun b o e => by
      rcases cases₁ b o e with q | ⟨q, q'⟩ | ⟨q, q'⟩
      · exact k2 b o (l b o q)
      · rw [q, q']; exact hxs
      · rw [q, q']; exact y5, Nat.le_trans (Nat.le_add_right _ 2) y3⟩
  have hFx : F₁ (hh.objs.size + 1) = some (instObj C hh.objs.size) := by rw [← hF₁]; exact Fz.ins_self _ _ _
  have hFd : F₁ hh.objs.size = some { cls := .type "dict", data := .dict es k' } := g2 _ _ (Fz.ins_self _ _ _)
  have hFa : F₁ a = none := by
    cases e : F₁ a with
    | none => rfl
    | some o =>
      rcases cases₁ a o e with q | ⟨q, _⟩ | ⟨q, _⟩
      · exact absurd (Heap.lt_size (l a o q)) (Nat.not_lt.mpr (Nat.le_trans (Nat.le_add_right _ 2) y4))
      · have y4' : hh.objs.size + 2 ≤ a := y4; rw [eqA q] at y4'; omega
      · have y4' : hh.objs.size + 2 ≤ a := y4; rw [eqA q] at y4'; omega
  have hPa : ¬ P a := fun q => by have := lt₀ a q; have y4' : hh.objs.size + 2 ≤ a := y4; have this' : a < hh.objs.size := this; omega
  obtain ⟨vm, fp, S₁⟩ := S.grow (h' := s'.heap) G₁
  refine store_var ok S₁.sto hs fun h' tk S' sb => ?_
  obtain ⟨P', S'', hP, hk, hz⟩ := S₁.store (sl := .hdr C []) (v := .ref (hh.objs.size + 1)) (as := [a]) (.hdr hFx hFd rfl y6 y7 y8 ⟨#[], y9, .nil⟩) (by simp) (fun b q => by simp at q; subst q; exact hFa) (fun b q z => by simp at q; subst q; exact hPa ((S₁.mem b).mpr (.inl z)))
    (fun y t e hy b q z => by simp at q; subst q; exact hPa ((S₁.mem b).mpr (.inr ⟨y, t, e, z⟩))) (hp ▸ hx) S' sb
  refine ⟨F₁, P', ⟨G₁.fle, fun b o e => (G₁.new b o e).imp id .inr, fun b o q e => hk b o q (G₁.keep b o e), fun b q => ?_, Nat.le_trans G₁.size (Nat.le_of_eq hz.symm)⟩, Same.trans (Same.trans ⟨_, _, rfl⟩ y2) ⟨_, _, rfl⟩, S'', .next⟩
  rcases hP b q with q | q
  · exact .inl q
  · simp at q; subst q; exact .inr (Nat.le_trans (Nat.le_add_right _ 2) y4)
end Mine
end

section
open PySem PySem.Calls PyProof.Rows PySem.W
set_option maxRecDepth 100000
set_option linter.unusedVariables false
namespace Mine
variable {c : Cx} {n : Nat} {sc : Scope} {pn : List Str} {ρ : Vars}

/-- a < b, whatever is around -/
noncomputable def LtU (c : Cx) (u : Nat) (a b : D) (r : Bool) : Prop := ∀ A F s va vb, A.handled = none → A.units + u < cLine → Fle F s.heap.get? → Rd F a va → Rd F b vb → wpAny (model c.prog c.w) A (richCompare .Lt va vb) (Gives F s (.bool r)) (fun _ _ => False) s
inductive LtL (c : Cx) (u : Nat) : List D → List D → Bool → Prop
  | nil : LtL c u [] [] false
  | left {y : D} {ys : List D} : LtL c u [] (y :: ys) true
  | right {x : D} {xs : List D} : LtL c u (x :: xs) [] false
  | eq {x y : D} {xs ys : List D} {r : Bool} : okEq x = true → okEq y = true → PyData.eqv x.py y.py = true → LtL c u xs ys r → LtL c u (x :: xs) (y :: ys) r
  | ne {x y : D} {xs ys : List D} {r : Bool} : okEq x = true → okEq y = true → PyData.eqv x.py y.py = false → LtU c u x y r → LtL c u (x :: xs) (y :: ys) r
theorem eqBool_D {A : Around} {s : Shared} {F : Fz} {x y : D} {vx vy : Value} {Q : Bool → Shared → Prop} {E : Value → Shared → Prop} (hx : okEq x = true) (hy : okEq y = true) (hu : A.units + 64 < cLine) (l : Fle F s.heap.get?) (rx : Rd F x vx) (ry : Rd F y vy) (q : Q (PyData.eqv x.py y.py) s) : wpAny (model c.prog c.w) A (eqBool vx vy) Q E s := by
  unfold okEq at hx hy
  simp only [Bool.and_eq_true, decide_eq_true_eq] at hx hy
  obtain ⟨as, qa⟩ := rx.reads l hx.1.1
  obtain ⟨bs, qb⟩ := ry.reads l hy.1.1
  exact SeqAt.eqBoolOverData _ _ A E s _ _ _ _ _ _ Q qa qb hx.1.2 hy.1.2 (by have := Nat.min_le_left x.py.depth y.py.depth; omega) q
theorem lt_tree {A : Around} {s : Shared} {F : Fz} {u : Nat} {xs ys : List D} {r : Bool} {a b : Addr} {oa ob : Obj} {us vs : Array Value} {na nb : Nat} (hh : A.handled = none) (hu : A.units + (u + 70) < cLine) (l : Fle F s.heap.get?) (h : LtL c u xs ys r)
    (h1 : F a = some oa) (h2 : oa.cls = .type "tuple") (h3 : oa.data = .seq us na) (h4 : RdL F xs us.toList) (g1 : F b = some ob) (g2 : ob.cls = .type "tuple") (g3 : ob.data = .seq vs nb) (g4 : RdL F ys vs.toList) :
    wpAny (model c.prog c.w) A (Builtin.«tuple.__lt__» ⟨[.ref a, .ref b], []⟩) (fun fin s' => ∃ v, fin = .done (.ret v) ∧ v ≠ .notImplemented ∧ Gives F s (.bool r) v s') (fun _ _ => False) s := by
  have hTb : s.TypeIs (.ref b) "tuple" := ⟨_, l _ _ g1, g2⟩
  show wpAny _ _ (isInstance (.ref b) (.type "tuple") >>= _) _ _ s
  refine wpAny_bind (wpAny_isInstance hTb isSubtype_tuple_tuple ?_)
  simp only [Bool.not_true, Bool.false_eq_true, if_false]
  refine wpAny_bind (wpAny_tupleItemsOf (l _ _ h1) h3 ?_)
  refine wpAny_bind (wpAny_tupleItemsOf (l _ _ g1) g3 ?_)
  refine wpAny_bind ?_
  refine wpAny_forIn_list _
    (fun rest q s' => q.1 = none ∧ s' = s ∧ ∃ x' y' xs' ys', rest = List.zip xs' ys' ∧ RdL F x' xs' ∧ RdL F y' ys' ∧ LtL c u x' y' r ∧ decide (us.size < vs.size) = decide (xs'.length < ys'.length))
    _ ?_ ?_ _ _ ⟨rfl, rfl, xs, ys, us.toList, vs.toList, rfl, h4, g4, h, by simp⟩
  · rintro ⟨p, q⟩ rest w s' ⟨hr, rfl, x', y', xs', ys', hz, hx', hy', hl, hlen⟩
    cases hx' with
    | nil => simp at hz
    | @cons d1 u' x'' xs'' r1 hx'' =>
      cases hy' with
      | nil => simp at hz
      | @cons d2 v' y'' ys'' r2 hy'' =>
        simp only [List.zip_cons_cons, List.cons.injEq, Prod.mk.injEq] at hz
        obtain ⟨⟨rfl, rfl⟩, rfl⟩ := hz
        cases hl with
        | eq o1 o2 e hl =>
          refine wpAny_bind (eqBool_D o1 o2 (by omega) l r1 r2 ?_)
          rw [e]
          simp only [Bool.not_true, Bool.false_eq_true, if_false]
          exact wpAny_pure ⟨rfl, rfl, x'', y'', xs'', ys'', rfl, hx'', hy'', hl, by rw [hlen]; simp⟩
        | ne o1 o2 e hl =>
          refine wpAny_bind (eqBool_D o1 o2 (by omega) l r1 r2 ?_)
          rw [e]
          simp only [Bool.not_false, if_true]
          refine wpAny_bind (wpAny_rule ?_)
          refine wpAny_bind (wpAny_mono (hl A F s' _ _ hh (by omega) l r1 r2) (fun v s₁ g => ?_) fun _ _ x => x.elim)
          refine wpAny_bind (wpAny_pure (wpAny_pure (wpAny_pure ⟨v, rfl, ?_, g⟩)))
          obtain ⟨_, _, _, rv⟩ := g
          cases rv; exact fun z => nomatch z
  · rintro ⟨q1, q2⟩ s' ⟨hr, rfl, x', y', xs', ys', hz, hx', hy', hl, hlen⟩
    simp only at hr
    subst hr
    refine wpAny_pure ?_
    have hb : decide (xs'.length < ys'.length) = r := by
      cases hl with
      | nil => cases hx'; cases hy'; rfl
      | left => cases hx'; cases hy'; simp
      | right => cases hx'; cases hy'; simp
      | eq _ _ _ _ => cases hx'; cases hy'; simp at hz
      | ne _ _ _ _ => cases hx'; cases hy'; simp at hz
    refine ⟨.bool (decide (us.size < vs.size)), rfl, (fun z => nomatch z), ?_⟩
    rw [hlen, hb]
    exact .now l (.bool r)
theorem LtU.tup {u : Nat} {xs ys : List D} {r : Bool} (h : LtL c u xs ys r) : LtU c (u + 80) (.tup xs) (.tup ys) r := fun A F s va vb hh hu l ra rb => by
  cases ra with
  | tup h1 h2 h3 h4 =>
    cases rb with
    | tup g1 g2 g3 g4 =>
      refine wpAny_richCompare_same_or ⟨_, l _ _ h1, h2⟩ ⟨_, l _ _ g1, g2⟩ PySem.F.slot_tuple_lt ?_ (.inr (by omega))
      exact wpAny_call_entry PySem.F.slot_tuple_lt ⟨_, l _ _ h1, h2⟩ PySem.F.entry_tuple_lt (lt_tree (A := A.in1) hh (by show A.units + 1 + _ < _; omega) l h h1 h2 h3 h4 g1 g2 g3 g4) (PySem.F.args_tuple_lt_2 _ _)
theorem drop_cons {l : List Value} {i : Nat} {v : Value} {r : List Value} (h : l.drop i = v :: r) : l[i]? = some v ∧ l.drop (i + 1) = r := by
  constructor
  · have := congrArg (fun z => z[0]?) h
    simpa using this
  · have := congrArg List.tail h
    simpa using this
theorem drop_nil {l : List Value} {i : Nat} (h : l.drop i = []) : l[i]? = none := by
  rw [List.getElem?_eq_none_iff]; exact List.drop_eq_nil_iff.mp h
theorem lt_loop {A : Around} {s : Shared} {F : Fz} {u : Nat} {a b : Addr} {oa ob : Obj} {us vs : Array Value} {na nb : Nat} {r : Bool} (hh : A.handled = none) (hu : A.units + (u + 70) < cLine) (l : Fle F s.heap.get?)
    (h1 : F a = some oa) (h3 : oa.data = .seq us na) (g1 : F b = some ob) (g3 : ob.data = .seq vs nb) {xs ys : List D} (h : LtL c u xs ys r) : ∀ (i : Nat), RdL F xs (us.toList.drop i) → RdL F ys (vs.toList.drop i) → decide (us.size < vs.size) = decide ((us.toList.drop i).length < (vs.toList.drop i).length) →
    wpAny (model c.prog c.w) A.in1 (Builtin.«list.__eq__.loop» ⟨[.ref a, .ref b, rawInt i, rawInt 0], []⟩) (fun fin s' => match fin with | .done f => Ret (fun v s' => v ≠ .notImplemented ∧ Gives F s (.bool r) v s') (.ok f) s' | .again c' => c'.quiet = true ∧ codeAny (model c.prog c.w) A c' (Ret fun v s' => v ≠ .notImplemented ∧ Gives F s (.bool r) v s') s') (fun _ _ => False) s := by
  have L1 : ∀ {A' : Around} {Q : Array Value → Shared → Prop} {E : Value → Shared → Prop}, Q us s → wpAny (model c.prog c.w) A' (Builtin.List.listItems (.ref a)) Q E s := fun q => wpAny_listItems (l _ _ h1) h3 q
  have L2 : ∀ {A' : Around} {Q : Array Value → Shared → Prop} {E : Value → Shared → Prop}, Q vs s → wpAny (model c.prog c.w) A' (Builtin.List.listItems (.ref b)) Q E s := fun q => wpAny_listItems (l _ _ g1) g3 q
  have G1 : ∀ (i : Nat), us[i]? = us.toList[i]? := fun i => (Array.getElem?_toList).symm
  have G2 : ∀ (i : Nat), vs[i]? = vs.toList[i]? := fun i => (Array.getElem?_toList).symm
  induction h with
  | nil =>
    intro i x1 y1 hs
    generalize hd : us.toList.drop i = du at x1 hs
    generalize hd' : vs.toList.drop i = dv at y1 hs
    cases x1
    cases y1
    unfold Builtin.«list.__eq__.loop»
    refine wpAny_bind (L1 (wpAny_bind (L2 ?_)))
    rw [Int.toNat_natCast, G1, drop_nil hd]
    refine wpAny_bind (L1 (wpAny_bind (L2 (wpAny_pure ⟨(fun z => nomatch z), ?_⟩))))
    show Gives F s (.bool false) (.bool (decide (us.size < vs.size))) s
    rw [hs]
    exact .now l (.bool false)
  | left =>
    intro i x1 y1 hs
    generalize hd : us.toList.drop i = du at x1 hs
    generalize hd' : vs.toList.drop i = dv at y1 hs
    cases x1
    cases y1
    unfold Builtin.«list.__eq__.loop»
    refine wpAny_bind (L1 (wpAny_bind (L2 ?_)))
    rw [Int.toNat_natCast, G1, drop_nil hd]
    refine wpAny_bind (L1 (wpAny_bind (L2 (wpAny_pure ⟨(fun z => nomatch z), ?_⟩))))
    show Gives F s (.bool true) (.bool (decide (us.size < vs.size))) s
    rw [hs]
    exact .now l (by simp; exact .bool true)
  | right =>
    intro i x1 y1 hs
    generalize hd : us.toList.drop i = du at x1 hs
    generalize hd' : vs.toList.drop i = dv at y1 hs
    cases x1
    cases y1
    unfold Builtin.«list.__eq__.loop»
    refine wpAny_bind (L1 (wpAny_bind (L2 ?_)))
    rw [Int.toNat_natCast, G1, G2, (drop_cons hd).1, drop_nil hd']
    refine wpAny_bind (L1 (wpAny_bind (L2 (wpAny_pure ⟨(fun z => nomatch z), ?_⟩))))
    show Gives F s (.bool false) (.bool (decide (us.size < vs.size))) s
    rw [hs]
    exact .now l (by simp; exact .bool false)
  | eq o1 o2 e h ih =>
    intro i x1 y1 hs
    generalize hd : us.toList.drop i = du at x1 hs
    generalize hd' : vs.toList.drop i = dv at y1 hs
    cases x1 with
    | cons r1 x1 =>
      cases y1 with
      | cons r2 y1 =>
        unfold Builtin.«list.__eq__.loop»
        refine wpAny_bind (L1 (wpAny_bind (L2 ?_)))
        rw [Int.toNat_natCast, G1, G2, (drop_cons hd).1, (drop_cons hd').1]
        refine wpAny_bind (eqBool_D o1 o2 (by show A.units + 1 + 64 < _; omega) l r1 r2 ?_)
        rw [e]
        refine wpAny_pure ⟨plainId_quiet MeetsSeq3.plain_eq_loop _, codeAny_builtin MeetsSeq3.entry_eq_loop ?_⟩
        rw [Around.under_plainId MeetsSeq3.plain_eq_loop _]
        exact wpAny_mono (ih (i + 1) (by rw [(drop_cons hd).2]; exact x1) (by rw [(drop_cons hd').2]; exact y1) (by rw [(drop_cons hd).2, (drop_cons hd').2, hs]; simp)) (fun _ _ q => q) fun _ _ x => x
  | ne o1 o2 e h =>
    intro i x1 y1 hs
    generalize hd : us.toList.drop i = du at x1 hs
    generalize hd' : vs.toList.drop i = dv at y1 hs
    cases x1 with
    | cons r1 x1 =>
      cases y1 with
      | cons r2 y1 =>
        unfold Builtin.«list.__eq__.loop»
        refine wpAny_bind (L1 (wpAny_bind (L2 ?_)))
        rw [Int.toNat_natCast, G1, G2, (drop_cons hd).1, (drop_cons hd').1]
        refine wpAny_bind (eqBool_D o1 o2 (by show A.units + 1 + 64 < _; omega) l r1 r2 ?_)
        rw [e]
        refine wpAny_bind (L1 (wpAny_bind (L2 ?_)))
        rw [G1, G2, (drop_cons hd).1, (drop_cons hd').1]
        refine wpAny_bind (wpAny_mono (h A.in1 F s _ _ hh (by show A.units + 1 + u < _; omega) l r1 r2) (fun v s₁ g => wpAny_pure ⟨?_, g⟩) fun _ _ x => x.elim)
        obtain ⟨_, _, _, rv⟩ := g
        cases rv; exact fun z => nomatch z
theorem isSub_list : isSubtype (.type "list") (.type "list") = pure true := by rw [isSubtype_type]; kernel_rfl
theorem LtU.lst {u : Nat} {xs ys : List D} {r : Bool} (h : LtL c u xs ys r) : LtU c (u + 80) (.lst xs) (.lst ys) r := fun A F s va vb hh hu l ra rb => by
  cases ra with
  | @lst a oa us na _ h1 h2 h3 h4 =>
    cases rb with
    | @lst b ob vs nb _ g1 g2 g3 g4 =>
      have hTb : s.TypeIs (.ref b) "list" := ⟨_, l _ _ g1, g2⟩
      refine wpAny_richCompare_same_or ⟨_, l _ _ h1, h2⟩ hTb PySem.F.slot_list_lt ?_ (.inr (by omega))
      refine Ret.wp (codeAny_call_builtin (PySem.F.slot_list_lt).plain PySem.F.entry_list_lt ((PySem.F.slot_list_lt).check _ _ _ _ _ _ _ _ ⟨_, l _ _ h1, h2⟩ (PySem.F.args_list_lt_2 _ _) ?_))
      show wpAny _ _ (isInstance (.ref b) (.type "list") >>= _) _ _ s
      refine wpAny_bind (wpAny_isInstance hTb isSub_list ?_)
      simp only [Bool.not_true, Bool.false_eq_true, if_false]
      refine wpAny_pure ⟨plainId_quiet MeetsSeq3.plain_eq_loop _, codeAny_builtin MeetsSeq3.entry_eq_loop ?_⟩
      rw [Around.under_plainId MeetsSeq3.plain_eq_loop _]
      exact wpAny_mono (lt_loop hh (by omega) l h1 h3 g1 g3 h 0 (by rw [List.drop_zero]; exact h4) (by rw [List.drop_zero]; exact g4) (by simp)) (fun _ _ q => q) fun _ _ x => x
theorem LtU.int {u : Nat} {a b : Int} : LtU c u (.int a) (.int b) (decide (a < b)) := fun A F s va vb hh hu l ra rb => by
  cases ra; cases rb
  exact PyProof.Rows.lt_int (.now l (.bool _))
theorem LtU.mono {u v : Nat} {a b : D} {r : Bool} (h : LtU c u a b r) (hv : u ≤ v) : LtU c v a b r := fun A F s va vb hh hu l ra rb => h A F s va vb hh (by omega) l ra rb
theorem Cmp.ofLt {u : Nat} {xs ys : List D} {r : Bool} (h : LtU c u (.tup xs) (.tup ys) r) (hu : u ≤ 200) : Cmp c .Lt (.tup xs) (.tup ys) r := fun A F s va vb R hb l ra rb => by
  cases ra with
  | fz ra =>
    cases rb with
    | fz rb => exact h A F s va vb R.1 (by have := R.units; omega) l ra rb
end Mine
end

section
open PySem PySem.Calls PyProof.Rows PySem.W
set_option maxRecDepth 100000
set_option linter.unusedVariables false
namespace Mine
variable {c : Cx} {n : Nat} {sc : Scope} {pn : List Str} {ρ : Vars}

/-- return of an own list -/
theorem ExS_returnOwn {x : Str} {p pos : Pos} {xs : List D} (hx : ρ.lookup x = some (.lst xs)) (hl : isLoc sc x = true) : ExS c n sc pn ρ (.Return (some (.Name x p)) pos) (.retF (.lst xs)) [] := fun A env pins F P s R ok hp S => by
  obtain ⟨vm, fp, S⟩ := S
  obtain ⟨a, hv, hfp, vs, ⟨m, pl⟩, q⟩ := S.lst hx
  refine wpAny_Return_some (load_var (h := s.heap) ok S.sto hl hv ?_)
  have hm : a ∈ fp x := by rw [hfp]; exact .head _
  have hPa : P a := (S.mem a).mpr (.inr ⟨x, _, hx, hm⟩)
  have hn := S.out a hPa
  have g := Fz.ins_le (o := { cls := .type "list", data := .seq vs m }) hn
  have le' : Fle (F.ins a { cls := .type "list", data := .seq vs m }) s.heap.get? := fun b o e => by
    unfold Fz.ins at e
    by_cases h1 : b = a
    · subst h1; rw [if_pos rfl] at e; cases e; exact pl
    · rw [if_neg h1] at e; exact S.le b o e
  refine ⟨F.ins a { cls := .type "list", data := .seq vs m }, fun b => b ∈ Mine.stor env, ⟨g, fun b o e => ?_, fun b o _ e => e, fun b q => .inl ((S.mem b).mpr (.inl q)), Nat.le_refl _⟩, .refl s, ⟨vm, fp, ?_⟩, .retF (.lst (Fz.ins_self _ _ _) rfl rfl (q.mono g)) (.inl hPa)⟩
  · unfold Fz.ins at e
    by_cases h1 : b = a
    · subst h1; exact .inr (.inl hPa)
    · rw [if_neg h1] at e; exact .inl e
  · exact {
      base := S.base.trans g
      le := le'
      sto := S.sto
      own := fun _ _ e => nomatch e
      pin := S.pin
      mem := fun b => ⟨.inl, fun q => q.elim id fun hp1 => by obtain ⟨_, _, e, _⟩ := hp1; exact nomatch e⟩
      lt := fun b q => S.lt b ((S.mem b).mpr (.inl q))
      out := fun b q => by
        unfold Fz.ins
        rw [if_neg (fun z => S.aparts x _ hx a hm (by rw [← z]; exact q))]
        exact S.out b ((S.mem b).mpr (.inl q))
      nd := fun _ _ e => nomatch e
      apart := fun _ _ _ _ e => nomatch e
      aparts := fun _ _ e => nomatch e }

/-! slices of lists -/
inductive Part (c : Cx) (n : Nat) (sc : Scope) (ρ : Vars) : Option Expr → Option Int → Prop
  | none : Part c n sc ρ none none
  | int {e : Expr} {i : Int} : EvR c n sc ρ e (.int i) → Part c n sc ρ (some e) (some i)
theorem part_run {oe : Option Expr} {oi : Option Int} (h : Part c n sc ρ oe oi) {A : Around} {env : Env} {pins : Pins} {F : Fz} {P : Addr → Prop} {s : Shared} (R : Room n A) (ok : EnvOk env sc) (S : St c env pins ρ F P s.heap) : wpAny (model c.prog c.w) A (valueOrNone (evalOpt oe env)) (fun v s' => IsPart v oi ∧ ∃ F', Grow F s.heap F' s'.heap ∧ Same s s') (fun _ _ => False) s := by
  cases h with
  | none => exact wpAny_pure ⟨.none, F, .refl S.le, .refl s⟩
  | int h =>
    show wpAny _ _ (eval _ env) _ _ _
    exact wpAny_mono (h A env pins F P s R ok S) (fun v s' hp2 => by obtain ⟨F', G, X, r⟩ := hp2; obtain ⟨t, rfl⟩ := r.int; exact ⟨.int _ _, F', G, X⟩) fun _ _ x => x
noncomputable def cutD (xs : List D) : Option Int → Option Int → Option (List D)
  | none, some j => if 0 ≤ j then some (xs.take j.toNat) else Option.none
  | some i, none => if 0 ≤ i then some (xs.drop i.toNat) else Option.none
  | some i, some j => if 0 ≤ i ∧ i ≤ j ∧ j ≤ xs.length then some ((xs.drop i.toNat).take (j.toNat - i.toNat)) else Option.none
  | none, none => some xs
theorem pick_upto (vs : Array Value) (b : Nat) : slicePick vs none (some b) none = (vs.toList.take b).toArray := by
  by_cases h : b ≤ vs.size
  · exact slicePick_upto vs b h
  · have e : sliceBounds none (some (b : Int)) none vs.size = sliceBounds none (some (vs.size : Int)) none vs.size := by
      simp only [sliceBounds, Option.getD_none]
      have h2 : ¬ ((b : Int) < 0) := by omega
      have h3 : ¬ ((vs.size : Int) < 0) := by omega
      simp only [h2, h3, if_false]
      congr 2
      omega
    have e2 : slicePick vs none (some (b : Int)) none = slicePick vs none (some (vs.size : Int)) none := by unfold slicePick; rw [e]
    rw [e2, slicePick_upto vs vs.size (Nat.le_refl _), List.take_of_length_le (by simp), List.take_of_length_le (by simp; omega)]
theorem pick_from (vs : Array Value) (a : Nat) : slicePick vs (some a) none none = (vs.toList.drop a).toArray := by
  by_cases h : a ≤ vs.size
  · exact slicePick_from vs a h
  · have e : sliceBounds (some (a : Int)) none none vs.size = sliceBounds (some (vs.size : Int)) none none vs.size := by
      simp only [sliceBounds, Option.getD_none]
      have h2 : ¬ ((a : Int) < 0) := by omega
      have h3 : ¬ ((vs.size : Int) < 0) := by omega
      simp only [h2, h3, if_false]
      congr 1
      omega
    have e2 : slicePick vs (some (a : Int)) none none = slicePick vs (some (vs.size : Int)) none none := by unfold slicePick; rw [e]
    rw [e2, slicePick_from vs vs.size (Nat.le_refl _), List.drop_eq_nil_of_le (by simp), List.drop_eq_nil_of_le (by simp; omega)]
theorem pick_rd {F : Fz} {vs : Array Value} {xs ys : List D} {lo hi : Option Int} (r : RdL F xs vs.toList) (h : cutD xs lo hi = some ys) (hl : lo ≠ none ∨ hi ≠ none) : RdL F ys (slicePick vs lo hi none).toList := by
  have hlen : vs.size = xs.length := by rw [← Array.length_toList]; exact r.length
  unfold cutD at h
  split at h
  · rename_i j
    split at h
    · rename_i hj
      cases h
      obtain ⟨b, rfl⟩ := Int.eq_ofNat_of_zero_le hj
      rw [pick_upto]
      simpa using r.take b
    · cases h
  · rename_i i
    split at h
    · rename_i hi'
      cases h
      obtain ⟨a, rfl⟩ := Int.eq_ofNat_of_zero_le hi'
      rw [pick_from]
      simpa using r.drop a
    · cases h
  · rename_i i j
    split at h
    · rename_i hij
      cases h
      obtain ⟨a, rfl⟩ := Int.eq_ofNat_of_zero_le hij.1
      obtain ⟨b, rfl⟩ := Int.eq_ofNat_of_zero_le (Int.le_trans hij.1 hij.2.1)
      rw [slicePick_run vs a b (by rw [hlen]; have := hij.2.2; omega) (by have := hij.2.1; omega)]
      simpa using (r.drop a).take (b - a)
    · cases h
  · rcases hl with q | q <;> exact absurd rfl q
/-- e[lo:hi] of a list -/
theorem Ev_sliceL {value : Expr} {lo hi : Option Expr} {sp pos : Pos} {xs ys : List D} {i j : Option Int} (hv : EvR c n sc ρ value (.lst xs)) (h1 : Part c n sc ρ lo i) (h2 : Part c n sc ρ hi j) (hc : cutD xs i j = some ys) (hne : i ≠ none ∨ j ≠ none) (hz : xs.length ≤ 100000) :
    Ev c n sc ρ (.Subscript value (.Slice lo hi none sp) pos) (.lst ys) := fun A env pins F P s R ok S => by
  refine Subscript_ (wpAny_mono (hv A env pins F P s R ok S) (fun v s₁ hp3 => ?_) fun _ _ x => x)
  obtain ⟨F₁, G₁, X₁, r₁⟩ := hp3
  have S₁ := S.grow G₁
  rw [arm_eval_Slice]
  refine wpAny_bind (wpAny_mono (part_run h1 R ok S₁) (fun vl s₂ hp4 => ?_) fun _ _ x => x)
  obtain ⟨p1, F₂, G₂, X₂⟩ := hp4
  have S₂ := S₁.grow G₂
  refine wpAny_bind (wpAny_holding (wpAny_mono (part_run h2 R ok S₂) (fun vu s₃ hp5 => ?_) fun _ _ x => x))
  obtain ⟨p2, F₃, G₃, X₃⟩ := hp5
  have S₃ := S₂.grow G₃
  refine wpAny_bind (wpAny_holding (wpAny_pure ?_))
  obtain ⟨a, vs, rfl, il, rr⟩ := ((r₁.mono G₂.keep G₂.fle).mono G₃.keep G₃.fle).lst S₃.le
  have hz' : vs.size ≤ sizeLine := by
    have e1 : vs.size = xs.length := by rw [← Array.length_toList]; exact rr.length
    have e2 : sizeLine = 16777216 := by decide
    omega
  refine wpAny_newObj_type ?_ ?_
  · have il' := il.push { cls := .type "slice", data := .fields #[vl, vu, .none] }
    refine tail_any (s := { s₃ with heap := s₃.heap.push { cls := .type "slice", data := .fields #[vl, vu, .none] } }) il'.typeIs slot_list_getitem.lookup (wpAny_getItem_list_slice il' (Heap.IsSliceOf.new ..) p1 p2 .none (by simp) ?_ hz') rfl
    have G := (G₁.trans G₂).trans G₃
    have k1 : Grow F₃ s₃.heap F₃ (s₃.heap.push { cls := .type "slice", data := .fields #[vl, vu, .none] }) := ⟨.refl _, fun _ _ e => .inl e, fun b o e => Heap.get?_push_of_some _ e, fun b o e => Heap.get?_push_of_some _ (S₃.le b o e), by rw [Heap.size_push]; exact Nat.le_succ _⟩
    exact Gives.after (s₁ := { s₃ with heap := s₃.heap.push { cls := .type "slice", data := .fields #[vl, vu, .none] } }) (G.trans k1) ((X₁.trans X₂).trans (X₃.trans ⟨_, _, rfl⟩)) (Gives.newList (k := s₃.toks) k1.le (pick_rd rr hc hne))
  · simp only [sizeOk, List.size_toArray, List.length_cons, List.length_nil, sizeLine_eq]; omega
end Mine
end

section
open PySem PySem.Calls PyProof.Rows PySem.W
set_option maxRecDepth 100000
set_option linter.unusedVariables false
namespace Mine
variable {c : Cx} {n : Nat} {sc : Scope} {pn : List Str} {ρ : Vars}
/-- e[:hi] of a text -/
theorem Ev_sliceS {value hi : Expr} {sp pos : Pos} {x : Str} {j : Int} (hv : EvR c n sc ρ value (.str x)) (h2 : EvR c n sc ρ hi (.int j)) (hz : x.length ≤ 1000) :
    Ev c n sc ρ (.Subscript value (.Slice none (some hi) none sp) pos) (.str (Txt.slice x none (some j))) := fun A env pins F P s R ok S => by
  refine Subscript_ (wpAny_mono (hv A env pins F P s R ok S) (fun v s₁ hp1 => ?_) fun _ _ x => x)
  obtain ⟨F₁, G₁, X₁, r₁⟩ := hp1
  have S₁ := S.grow G₁
  rw [arm_eval_Slice]
  refine wpAny_bind (wpAny_pure ?_)
  refine wpAny_bind (wpAny_holding ?_)
  show wpAny _ _ (eval hi env) _ _ _
  refine wpAny_mono (h2 A env pins F₁ P s₁ R ok S₁) (fun vu s₂ hp2 => ?_) fun _ _ x => x
  obtain ⟨F₂, G₂, X₂, r₂⟩ := hp2
  obtain ⟨u, rfl⟩ := r₂.int
  obtain ⟨t, rfl⟩ := r₁.str
  have S₂ := S₁.grow G₂
  refine wpAny_bind (wpAny_holding (wpAny_pure ?_))
  refine wpAny_newObj_type ?_ (by simp only [sizeOk, List.size_toArray, List.length_cons, List.length_nil, sizeLine_eq]; omega)
  have fin : ∀ (h' : Heap) (t' k : Nat), (Fle s₂.heap.get? h'.get? ∧ s₂.heap.objs.size ≤ h'.objs.size) → Gives F s (.str (Txt.slice x none (some j))) (.str (Txt.slice x none (some j)) t') { s₂ with heap := h', toks := k } := fun h' t' k q => by
    have G := G₁.trans G₂
    exact ⟨F₂, ⟨G.fle, G.new, fun b o e => q.1 b o (G.keep b o e), fun b o e => q.1 b o (G.le b o e), Nat.le_trans G.size q.2⟩, (X₁.trans X₂).trans ⟨_, _, rfl⟩, .str _ _⟩
  obtain ⟨T, id, e1, e2, e3⟩ := SBH.sliceItem_ns (prog := c.prog) (w := c.w) (A := A) (E := fun _ _ => False) (s := s₂) (x := x) (t := t) (j := j) (uj := u) (P := fun h' => Fle s₂.heap.get? h'.get? ∧ s₂.heap.objs.size ≤ h'.objs.size) (Q := Gives F s (.str (Txt.slice x none (some j))))
    (fun h o q => ⟨fun b o' e => Heap.get?_push_of_some _ (q.1 b o' e), by rw [Heap.size_push]; exact Nat.le_succ_of_le q.2⟩) ⟨.refl _, Nat.le_refl _⟩ fin (Nat.le_trans hz (by decide))
  exact tail_any e2 e1 e3 rfl

/-- x.extend(y), both own -/
theorem EvX_extend {x y : Str} {p q apos pos : Pos} {xs ys : List D} (hx : ρ.lookup x = some (.lst xs)) (hl : isLoc sc x = true) (hy : ρ.lookup y = some (.lst ys)) (hl' : isLoc sc y = true) (hxy : x ≠ y) (hz : xs.length + ys.length ≤ 100000) (hm : MethAt (.Name x p) "extend" apos [.Name y q] pos := by exact fun _ => ⟨_, rfl⟩) :
    EvX c n sc pn ρ (.Call (.Attribute (.Name x p) "extend" apos) [.Name y q] [] pos) .none (Vars.put ρ x (.lst (xs ++ ys))) := fun A env pins F P s R ok hpn S => by
  obtain ⟨vm, fp, S⟩ := S
  obtain ⟨a, hv, hf, us, ⟨m, pp⟩, rr⟩ := S.lst hx
  obtain ⟨b, hv', hf', vs, ⟨m', pp'⟩, rr'⟩ := S.lst hy
  refine meth_open hm (load_var (h := s.heap) ok S.sto hl hv fun pl => ?_)
  refine listMethod ⟨m, pp⟩ PySem.F.slot_list_extend PySem.F.type_list_extend ?_
  refine callWith_val rfl (fun b q => by cases q) ?_
  refine spliced_cons (load_var (h := s.heap) ok S.sto hl' hv' (spliced_nil ?_))
  show wpAny _ _ (call (.builtin "list.extend") [.ref a, .ref b]) _ _ _
  have e1 : us.size = xs.length := by rw [← Array.length_toList]; exact rr.length
  have e2 : vs.size = ys.length := by rw [← Array.length_toList]; exact rr'.length
  have hz' : us.size + vs.size ≤ sizeLine := by
    have e : sizeLine = 16777216 := by decide
    omega
  refine call_meets PySem.F.slot_list_extend ⟨_, pp, rfl⟩ PySem.F.entry_list_extend (PySem.F.args_list_extend_2 _ _) (AutoSeq1.list_extend_list_list_0 a us m b vs m' (extend_door hz') (Nat.le_trans (Nat.le_add_right _ _) hz')) ⟨pp, pp', ?_⟩
  obtain ⟨k', hk'⟩ := mapSeq_plain (fun x => x ++ vs) us m
  have sb : Heap.SameBut a s.heap (s.heap.update a (Obj.mapSeq fun x => x ++ vs)) := Heap.SameBut.update ..
  have hat : (s.heap.update a (Obj.mapSeq fun x => x ++ vs)).get? a = some { cls := .type "list", data := .seq (us ++ vs) k' } := by
    rw [← hk']; exact Heap.get?_update_self _ pp (by rw [hk']; rfl)
  have hm₁ : a ∈ fp x := by rw [hf]; exact .head _
  have O : Own (s.heap.update a (Obj.mapSeq fun x => x ++ vs)) F (.lst (xs ++ ys)) (.ref a) (fp x) := by rw [hf]; exact .lst ⟨_, ⟨k', hat⟩, by rw [Array.toList_append]; exact rr.append rr'⟩
  exact ⟨F, P, S.turnStep hx hm₁ sb, ⟨_, _, rfl⟩, ⟨vm, fp, S.turn hx hv O hm₁ sb⟩, .none⟩
end Mine
end

section
set_option maxRecDepth 100000
namespace Mine
theorem perm_desc_eq : ∀ (l₁ l₂ : List Int), l₁.Perm l₂ → l₁.Pairwise (· ≥ ·) → l₂.Pairwise (· ≥ ·) → l₁ = l₂
  | [], l₂, p, _, _ => p.nil_eq
  | a :: r, [], p, _, _ => absurd p.length_eq (by simp)
  | a :: r, b :: s, p, h1, h2 => by
    obtain ⟨a1, a2⟩ := List.pairwise_cons.mp h1
    obtain ⟨b1, b2⟩ := List.pairwise_cons.mp h2
    have ha : a ∈ b :: s := p.subset (.head _)
    have hb : b ∈ a :: r := p.symm.subset (.head _)
    have hab : a = b := by
      rcases List.mem_cons.mp ha with q | q
      · exact q
      · rcases List.mem_cons.mp hb with q' | q'
        · exact q'.symm
        · have x := a1 b q'
          have y := b1 a q
          omega
    subst hab
    rw [perm_desc_eq r s p.cons_inv a2 b2]
noncomputable def insD (a : Int) : List Int → List Int
  | [] => [a]
  | b :: r => if a ≥ b then a :: b :: r else b :: insD a r
noncomputable def sortD : List Int → List Int
  | [] => []
  | a :: r => insD a (sortD r)
theorem insD_perm (a : Int) : ∀ l : List Int, (insD a l).Perm (a :: l)
  | [] => .refl _
  | b :: r => by
    unfold insD
    split
    · exact .refl _
    · exact ((insD_perm a r).cons b).trans (List.Perm.swap a b r)
theorem sortD_perm : ∀ l : List Int, (sortD l).Perm l
  | [] => .refl _
  | a :: r => (insD_perm a (sortD r)).trans ((sortD_perm r).cons a)
theorem insD_desc (a : Int) : ∀ l : List Int, l.Pairwise (· ≥ ·) → (insD a l).Pairwise (· ≥ ·)
  | [], _ => List.pairwise_singleton _ _
  | b :: r, h => by
    obtain ⟨b1, b2⟩ := List.pairwise_cons.mp h
    unfold insD
    split
    next hab => exact List.pairwise_cons.mpr ⟨fun x hx => by
        rcases List.mem_cons.mp hx with q | q
        · rw [q]; exact hab
        · have := b1 x q; omega, h⟩
    next hab => exact List.pairwise_cons.mpr ⟨fun x hx => by
        rcases List.mem_cons.mp ((insD_perm a r).subset hx) with q | q
        · rw [q]; omega
        · exact b1 x q, insD_desc a r b2⟩
theorem sortD_desc : ∀ l : List Int, (sortD l).Pairwise (· ≥ ·)
  | [] => .nil
  | a :: r => insD_desc a _ (sortD_desc r)
end Mine
end

section
open PySem PySem.Calls PyProof.Rows PySem.W
set_option maxRecDepth 100000
set_option linter.unusedVariables false
namespace Mine
variable {c : Cx} {n : Nat} {sc : Scope} {pn : List Str} {ρ : Vars}
theorem RdL.ints {F : Fz} : ∀ {ns : List Int} {vs : List Value}, RdL F (ns.map .int) vs → IntsAre vs ns
  | [], _, .nil => .nil
  | a :: r, _, .cons q qs => by cases q with | int _ t => exact .cons a t (RdL.ints qs)
theorem RdL.ofInts {F : Fz} : ∀ {ns : List Int} {vs : List Value}, IntsAre vs ns → RdL F (ns.map .int) vs
  | _, _, .nil => .nil
  | _, _, .cons a t h => .cons (.int a t) (RdL.ofInts h)
/-- sorted(e, reverse=True), a list of ints -/
theorem Ev_sortedRev {p pos kp : Pos} {ki : Nat} {kpos : Pos} {e : Expr} {ns : List Int} (hc : c.Ok) (hg : Glb c "sorted" (.builtin "sorted")) (hi : isGlb sc "sorted" = true) (he : EvR c n sc ρ e (.lst (ns.map .int))) (hn : ns.length < 64) (hp : plainArg e = true := by rfl) :
    Ev c n sc ρ (.Call (.Name "sorted" p) [e] [⟨some "reverse", .Constant (.bool true) ki kpos, kp⟩] pos) (.lst ((sortD ns).map .int)) := fun A env pins F P s R ok S => by
  refine wpAny_Call_Name_kw (load_glob hc ok S.keep hi hg ?_)
  refine callWith_of (P := fun _ => True) (by rw [Bool.or_eq_false_iff]; exact ⟨starFalse (by simp [hp]), rfl⟩) (fun h _ => ⟨.machine, .inr (.inl rfl), Looks.of_pure rfl⟩) (evalArgs_kw2 rfl ?_ (starEach_plain hp))
  rw [starEach_plain hp]
  refine spliced_cons (wpAny_mono (he A env pins F P s R ok S) (fun v s₁ hp1 => ?_) fun _ _ x => x)
  obtain ⟨F₁, G₁, X₁, r₁⟩ := hp1
  refine spliced_nil ?_
  refine kwAll_cons (Constant_bool (kwAll_nil ⟨trivial, ?_⟩))
  obtain ⟨a, vs, rfl, il, rr⟩ := r₁.lst G₁.le
  obtain ⟨l⟩ := vs
  have hI : IntsAre l ns := RdL.ints rr
  have hlen : l.length = ns.length := by have := rr.length; simpa using this
  show wpAny _ _ (call (.builtin "sorted") [.ref a] [(Str.ofString "reverse", .bool true)]) _ _ _
  refine wpAny_mono (wpAny_sz (Nat.le_refl s₁.heap.objs.size) (sorted_ints_rev (Q := fun v s' => ∃ out, v = .ref (s₁.heap.objs.size + 1) ∧ s' = { s₁ with heap := sortedAll s₁.heap l out } ∧ IntsAre out.toList (sortD ns)) (E := fun _ _ => False) il hI (by omega) fun out ns' b1 b2 b3 => ⟨out, rfl, rfl, ?_⟩)) (fun v s₂ ⟨z, out, ev, es, hout⟩ => ?_) fun _ _ x => x.2
  · have : ns' = sortD ns := perm_desc_eq ns' (sortD ns) (b2.trans (sortD_perm ns).symm) b3 (sortD_desc ns)
    rw [← this]; exact b1
  · subst ev es
    obtain ⟨e1, he1⟩ := sortedAll_at s₁.heap l out
    have k1 : Fle s₁.heap.get? (sortedAll s₁.heap l out).get? := fun b o e => sortedAll_old e
    have hF : F₁ (s₁.heap.objs.size + 1) = none := none_of_le G₁.le (Nat.le_succ _)
    refine ⟨F₁.ins (s₁.heap.objs.size + 1) (seqObj "list" out e1), G₁.trans ⟨Fz.ins_le hF, fun b o e => ?_, k1, fun b o e => ?_, z⟩, X₁.trans ⟨_, _, rfl⟩, .lst (Fz.ins_self _ _ _) rfl rfl (RdL.ofInts hout)⟩
    · unfold Fz.ins at e
      by_cases q : b = s₁.heap.objs.size + 1
      · rw [q]; exact .inr (Nat.le_succ _)
      · rw [if_neg q] at e; exact .inl e
    · unfold Fz.ins at e
      by_cases q : b = s₁.heap.objs.size + 1
      · rw [if_pos q] at e; cases e; rw [q]; exact he1
      · rw [if_neg q] at e; exact k1 b o (G₁.le b o e)
end Mine
end

section
open PySem PySem.Calls PyProof.Rows PySem.W
set_option maxRecDepth 100000
set_option linter.unusedVariables false
namespace Mine
variable {c : Cx} {n : Nat} {sc : Scope} {pn : List Str} {ρ : Vars}
/-- x = [e], e turning an own object -/
theorem ExS_assignList1X {x : Str} {px lpos pos : Pos} {e : Expr} {d : D} {ρ₁ : Vars} (h : EvX c n sc pn ρ e d ρ₁) (hs : isSto sc x = true) (hx : x ∉ pn) (hp : plainArg e = true := by rfl) : ExS c n sc pn ρ (.Assign [.Name x px] (.List [e] lpos) pos) .next (Vars.put ρ₁ x (.lst [d])) := fun A env pins F P s R ok hpn S => by
  refine wpAny_Assign_Name (List_ ?_) (swaps_plain rfl)
  rw [starEach_plain hp]
  refine spliced_cons (wpAny_mono (h A env pins F P s R ok hpn S) (fun v s₁ ⟨F₁, P₁, T₁, X₁, S₁, r₁⟩ => spliced_nil ?_) fun _ _ x => x)
  refine wpAny_newObj_type ?_ (by show (1 : Nat) ≤ sizeLine; decide)
  have k1 : Grow F₁ s₁.heap F₁ (s₁.heap.push { cls := .type "list", data := .seq #[v] }) := ⟨.refl _, fun _ _ e => .inl e, fun b o e => Heap.get?_push_of_some _ e, fun b o e => Heap.get?_push_of_some _ (S₁.le b o e), by rw [Heap.size_push]; exact Nat.le_succ _⟩
  have L : LstAt (s₁.heap.push { cls := .type "list", data := .seq #[v] }) F₁ [d] s₁.heap.objs.size := ⟨#[v], ⟨0, Heap.get?_push_size _ rfl⟩, .cons r₁ .nil⟩
  have hlt : ∀ b, P₁ b → b < s₁.heap.objs.size := fun b q => S₁.lt q
  have hPa : ¬ P₁ s₁.heap.objs.size := fun q => Nat.lt_irrefl _ (hlt _ q)
  have hFa : F₁ s₁.heap.objs.size = none := none_of_le S₁.le (Nat.le_refl _)
  obtain ⟨vm, fp, S₂⟩ := S₁.grow (h' := s₁.heap.push { cls := .type "list", data := .seq #[v] }) k1
  refine store_var (s := { s₁ with heap := s₁.heap.push { cls := .type "list", data := .seq #[v] } }) ok S₂.sto hs fun h' tk S' sb => ?_
  obtain ⟨P', S'', hP, hk, hz⟩ := S₂.store (.lst L) (by simp) (fun b q => by simp at q; subst q; exact hFa) (fun b q z => by simp at q; subst q; exact hPa ((S₂.mem _).mpr (.inl z)))
    (fun y t e hy b q z => by simp at q; subst q; exact hPa ((S₂.mem _).mpr (.inr ⟨y, t, e, z⟩))) (hpn ▸ hx) S' sb
  have T₂ : Step F₁ P₁ s₁.heap F₁ P' h' := ⟨.refl _, fun _ _ e => .inl e, fun b o q e => hk b o q (k1.keep b o e), fun b q => by
    rcases hP b q with q | q
    · exact .inl q
    · simp at q; subst q; exact .inr (Nat.le_refl _), Nat.le_trans k1.size (Nat.le_of_eq hz.symm)⟩
  exact ⟨F₁, P', T₁.trans T₂, X₁.trans ⟨_, _, rfl⟩, S'', .next⟩
end Mine
end

section
open PySem PySem.Calls PyProof.Rows PySem.W
set_option maxRecDepth 100000
set_option linter.unusedVariables false
namespace Mine
variable {c : Cx} {n : Nat}
noncomputable def lexLt : List Int → List Int → Bool
  | [], [] => false
  | [], _ :: _ => true
  | _ :: _, [] => false
  | a :: r, b :: s => if a = b then lexLt r s else decide (a < b)
theorem ltL_ints {u : Nat} : ∀ xs ys : List Int, LtL c u (xs.map .int) (ys.map .int) (lexLt xs ys)
  | [], [] => .nil
  | [], _ :: _ => .left
  | _ :: _, [] => .right
  | a :: r, b :: s => by
    have ih := ltL_ints (u := u) r s
    unfold lexLt
    by_cases h : a = b
    · rw [if_pos h]; exact .eq rfl rfl (by show (a == b) = true; simpa using h) ih
    · rw [if_neg h]; exact .ne rfl rfl (by show (a == b) = false; simpa using h) LtU.int
/-- tuples of ints, as a heap holds them -/
theorem Cmp.ltInts (xs ys : List Int) : Cmp c .Lt (.tup (xs.map .int)) (.tup (ys.map .int)) (lexLt xs ys) := Cmp.ofLt (LtU.tup (u := 0) (ltL_ints xs ys)) (by decide)
end Mine
end

section
open PySem PySem.Calls PyProof.Rows PySem.W
set_option maxRecDepth 100000
set_option linter.unusedVariables false
namespace Mine
noncomputable def findDef (n : Str) : List Stmt → Option (Arguments × List Stmt × Scope)
  | [] => none
  | .FunctionDef name args body _ _ _ scope _ _ _ :: r => if name == n then some (args, body, scope) else findDef n r
  | _ :: r => findDef n r
noncomputable def defBody (p : Program) (n : Str) : List Stmt := match findDef n p.main.body with
  | some (_, b, _) => b
  | none => []
noncomputable def defScope (p : Program) (n : Str) : Scope := match findDef n p.main.body with
  | some (_, _, s) => s
  | none => default
noncomputable abbrev pw := PySem.Challenge.pw_pg0319_01
noncomputable def wTest (b : List Stmt) (i : Nat) : Expr := match b[i]? with
  | some (.While t _ _ _) => t
  | _ => default
noncomputable def wBody (b : List Stmt) (i : Nat) : List Stmt := match b[i]? with
  | some (.While _ t _ _) => t
  | _ => []
noncomputable def fBody (b : List Stmt) (i : Nat) : List Stmt := match b[i]? with
  | some (.For _ _ t _ _) => t
  | _ => []

theorem par_lt {p : Nat} (h : p ≠ 0) : (p - 1) / 2 < p := by omega
theorem par_le (p : Nat) : (p - 1) / 2 ≤ p := by omega
theorem par_fdiv {p : Nat} (h : p ≠ 0) : ((p : Int) - 1).fdiv 2 = (((p - 1) / 2 : Nat) : Int) := by
  rw [Int.fdiv_eq_ediv_of_nonneg _ (by decide)]; omega
noncomputable def sdGo (lt : D → D → Bool) (x : D) : Nat → List D → Nat → List D × Nat
  | 0, h, p => (h, p)
  | f + 1, h, p => if p = 0 then (h, p) else if lt x (h.getD ((p - 1) / 2) .none) then sdGo lt x f (h.set p (h.getD ((p - 1) / 2) .none)) ((p - 1) / 2) else (h, p)
noncomputable def sd (lt : D → D → Bool) (h : List D) (p : Nat) : List D := let r := sdGo lt (h.getD p .none) p h p; r.1.set r.2 (h.getD p .none)
theorem sdGo_len (lt : D → D → Bool) (x : D) : ∀ (f : Nat) (h : List D) (p : Nat), (sdGo lt x f h p).1.length = h.length
  | 0, _, _ => rfl
  | f + 1, h, p => by
    unfold sdGo
    split
    · rfl
    · split
      · rw [sdGo_len lt x f]; simp
      · rfl
theorem sdGo_lt (lt : D → D → Bool) (x : D) : ∀ (f : Nat) (h : List D) (p : Nat), (sdGo lt x f h p).2 ≤ p
  | 0, _, _ => Nat.le_refl _
  | f + 1, h, p => by
    unfold sdGo
    split
    · exact Nat.le_refl _
    · split
      · exact Nat.le_trans (sdGo_lt lt x f _ _) (par_le _)
      · exact Nat.le_refl _

variable {c : Cx} {n : Nat}
theorem Cmp.ltN {a b : Nat} : Cmp c .Lt (.int (a : Nat)) (.int (b : Nat)) (decide (a < b)) := by
  have h := @Cmp.lt c a b
  have e : decide ((a : Int) < (b : Int)) = decide (a < b) := decide_eq_decide.mpr Int.ofNat_lt
  rw [e] at h; exact h
theorem Cmp.geN {a b : Nat} : Cmp c .GtE (.int (a : Nat)) (.int (b : Nat)) (decide (b ≤ a)) := by
  have h := @Cmp.ge c a b
  have e : decide ((a : Int) ≥ (b : Int)) = decide (b ≤ a) := decide_eq_decide.mpr Int.ofNat_le
  rw [e] at h; exact h
theorem getD_some {h : List D} {p : Nat} (hp : p < h.length) : h[p]? = some (h.getD p .none) := by
  rw [List.getD_eq_getElem?_getD, List.getElem?_eq_getElem hp]; rfl

noncomputable abbrev sdρ (h : List D) (p : Nat) (x : D) : Vars := [("heap", .lst h), ("startpos", .val (.int 0)), ("pos", .val (.int p)), ("newitem", .val x)]
noncomputable abbrev sdB := defBody pw "_siftdown"
noncomputable abbrev sdS := defScope pw "_siftdown"
theorem all_set {ok : D → Prop} {h : List D} {i : Nat} {d : D} (hok : ∀ d ∈ h, ok d) (hd : ok d) : ∀ e ∈ h.set i d, ok e := fun e he => by
  rcases List.mem_or_eq_of_mem_set he with q | rfl
  · exact hok e q
  · exact hd
theorem all_get {ok : D → Prop} {h : List D} {i : Nat} (hok : ∀ d ∈ h, ok d) (hi : i < h.length) : ok (h.getD i .none) := hok _ (List.mem_of_getElem? (getD_some hi))
theorem sd_while {lt : D → D → Bool} {ok : D → Prop} (hlt : ∀ a b, ok a → ok b → Cmp c .Lt a b (lt a b)) (x : D) (hx : ok x) : ∀ (f : Nat) (h : List D) (p : Nat), p ≤ f → p < h.length → (∀ d ∈ h, ok d) → h.length ≤ 1000 →
    WhileR c n sdS ["heap"] (wTest sdB 1) (wBody sdB 1) (f + 1) (sdρ h p x) .next (sdρ (sdGo lt x f h p).1 (sdGo lt x f h p).2 x) := by
  intro f
  induction f with
  | zero =>
    intro h p hp hl hok hz
    have : p = 0 := Nat.le_zero.mp hp
    subst this
    exact .done ((Te_Compare (EvR_name rfl rfl) (EvR_name rfl rfl) Cmp.gt).conv (by decide))
  | succ f ih =>
    intro h p hp hl hok hz
    unfold sdGo
    by_cases h0 : p = 0
    · subst h0
      exact .done ((Te_Compare (EvR_name rfl rfl) (EvR_name rfl rfl) Cmp.gt).conv (by decide))
    · rw [if_neg h0]
      have hq : (p - 1) / 2 < h.length := Nat.lt_trans (par_lt h0) hl
      have hqi : (((p : Int) - 1).fdiv (2 ^ (1 : Int).toNat)) = (((p - 1) / 2 : Nat) : Int) := par_fdiv h0
      have hy : ok (h.getD ((p - 1) / 2) .none) := all_get hok hq
      have st : ∀ {r fl ρ'}, Ex c n sdS ["heap"] (Vars.put (Vars.put (sdρ h p x) "parentpos" (.val (.int (((p - 1) / 2 : Nat) : Int)))) "parent" (.val (h.getD ((p - 1) / 2) .none))) r fl ρ' → r = (wBody sdB 1).drop 2 →
          Ex c n sdS ["heap"] (sdρ h p x) (wBody sdB 1) fl ρ' := fun {r fl ρ'} hr e => by
        subst e
        exact Ex_cons (ExS_assign ((Ev_BinOp (.of (Ev_BinOp (EvR_name rfl rfl) EvR_int Bin.sub)) EvR_int (Bin.shr (by decide))).conv (by rw [hqi])) rfl (by decide))
          (Ex_cons (ExS_assign (Ev_Sub (EvR_own rfl rfl) (EvR_name rfl rfl) (Itm.lst (Int.natCast_nonneg _) (by rw [Int.toNat_natCast]; exact getD_some hq) (by omega))) rfl (by decide)) hr)
      have tst : Te c n sdS (sdρ h p x) (wTest sdB 1) true := (Te_Compare (EvR_name rfl rfl) (EvR_name rfl rfl) Cmp.gt).conv (by simpa using Nat.pos_of_ne_zero h0)
      by_cases hc : lt x (h.getD ((p - 1) / 2) .none) = true
      · rw [if_pos hc]
        refine .cont tst (st (Ex_stop (ExS_if ((Te_Compare (EvR_name rfl rfl) (EvR_name rfl rfl) (hlt _ _ hx hy)).conv hc) (fun _ => Ex_cons (ExS_setitem rfl rfl (Ev_name rfl rfl) (EvR_name rfl rfl) (Int.natCast_nonneg _) (Int.ofNat_lt.mpr hl) (Nat.le_trans hz (by decide))) (Ex_cons (ExS_assign (Ev_name rfl rfl) rfl (by decide)) (Ex_stop (ExS_continue.less (ρ' := sdρ (h.set p (h.getD ((p - 1) / 2) .none)) ((p - 1) / 2) x) ⟨rfl, rfl, rfl, rfl, trivial⟩)))) (fun e => nomatch e))) rfl) ?_
        exact ih (h.set p (h.getD ((p - 1) / 2) .none)) ((p - 1) / 2) (Nat.le_of_lt_succ (Nat.lt_of_lt_of_le (par_lt h0) hp)) (by simpa using hq) (all_set hok hy) (by simpa using hz)
      · rw [if_neg hc]
        refine .brk tst (st (Ex_cons (ExS_if ((Te_Compare (EvR_name rfl rfl) (EvR_name rfl rfl) (hlt _ _ hx hy)).conv (Bool.eq_false_iff.mpr hc)) (fun e => nomatch e) (fun _ => Ex_nil)) (Ex_stop (ExS_break.less ⟨rfl, rfl, rfl, rfl, trivial⟩))) rfl)
theorem siftdown_fn {fv : Value} (hc : c.Ok) (hf : IsFn c fv ["heap", "startpos", "pos"] sdB sdS) {lt : D → D → Bool} {ok : D → Prop} (hlt : ∀ a b, ok a → ok b → Cmp c .Lt a b (lt a b)) {h : List D} {p : Nat} (hp : p < h.length) (hok : ∀ d ∈ h, ok d) (hz : h.length ≤ 1000) : FnM c 1 fv h [.int 0, .int p] (sd lt h p) .none := by
  have hx : ok (h.getD p .none) := all_get hok hp
  refine FnM_intro (fl := .next) hc hf (by decide) rfl ⟨nofun, nofun⟩ (ρ' := Vars.put (sdρ (sdGo lt (h.getD p .none) p h p).1 (sdGo lt (h.getD p .none) p h p).2 (h.getD p .none)) "heap" (.lst (sd lt h p))) ?_ rfl
  refine Ex_cons (ExS_assign (d := h.getD p .none) (Ev_Sub (EvR_own rfl rfl) (EvR_name rfl rfl) (Itm.lst (Int.natCast_nonneg _) (by rw [Int.toNat_natCast]; exact getD_some hp) (by omega))) rfl (by decide)) ?_
  refine Ex_cons (ExS_while (sd_while hlt _ hx p h p (Nat.le_refl _) hp hok hz)) ?_
  have hl := sdGo_lt lt (h.getD p .none) p h p
  have hl2 := sdGo_len lt (h.getD p .none) p h p
  exact Ex_cons (ExS_setitem rfl rfl (Ev_name rfl rfl) (EvR_name rfl rfl) (Int.natCast_nonneg _) (by rw [hl2]; omega) (by rw [hl2]; omega)) Ex_nil

noncomputable def suGo (lt : D → D → Bool) : Nat → List D → Nat → List D × Nat
  | 0, h, p => (h, p)
  | f + 1, h, p => if 2 * p + 1 < h.length then
      let q := if decide (2 * p + 2 < h.length) && !(lt (h.getD (2 * p + 1) .none) (h.getD (2 * p + 2) .none)) then 2 * p + 2 else 2 * p + 1
      suGo lt f (h.set p (h.getD q .none)) q
    else (h, p)
noncomputable def su (lt : D → D → Bool) (h : List D) : List D := let r := suGo lt h.length h 0; sd lt (r.1.set r.2 (h.getD 0 .none)) r.2
theorem suGo_len (lt : D → D → Bool) : ∀ (f : Nat) (h : List D) (p : Nat), (suGo lt f h p).1.length = h.length
  | 0, _, _ => rfl
  | f + 1, h, p => by
    unfold suGo
    split
    · rw [suGo_len lt f]; simp
    · rfl
theorem suGo_lt (lt : D → D → Bool) : ∀ (f : Nat) (h : List D) (p : Nat), p < h.length → (suGo lt f h p).2 < h.length
  | 0, _, _, h => h
  | f + 1, h, p, hp => by
    unfold suGo
    split
    next hq =>
      dsimp only
      split
      next he =>
        rw [Bool.and_eq_true, decide_eq_true_eq] at he
        have := suGo_lt lt f (h.set p (h.getD (2 * p + 2) .none)) (2 * p + 2) (by simpa using he.1)
        simpa using this
      next =>
        have := suGo_lt lt f (h.set p (h.getD (2 * p + 1) .none)) (2 * p + 1) (by simpa using hq)
        simpa using this
    · exact hp
theorem suGo_all {ok : D → Prop} (lt : D → D → Bool) : ∀ (f : Nat) (h : List D) (p : Nat), (∀ d ∈ h, ok d) → ∀ d ∈ (suGo lt f h p).1, ok d
  | 0, _, _, h => h
  | f + 1, h, p, hok => by
    unfold suGo
    split
    next hq =>
      refine suGo_all lt f _ _ (all_set hok ?_)
      split
      next he =>
        rw [Bool.and_eq_true, decide_eq_true_eq] at he
        exact all_get hok he.1
      next => exact all_get hok hq
    · exact hok
theorem sdGo_all {ok : D → Prop} (lt : D → D → Bool) (x : D) : ∀ (f : Nat) (h : List D) (p : Nat), p < h.length → (∀ d ∈ h, ok d) → ∀ d ∈ (sdGo lt x f h p).1, ok d
  | 0, _, _, _, h => h
  | f + 1, h, p, hp, hok => by
    unfold sdGo
    split
    · exact hok
    · split
      · exact sdGo_all lt x f _ _ (by simp; omega) (all_set hok (all_get hok (by omega)))
      · exact hok
theorem sd_all {ok : D → Prop} (lt : D → D → Bool) (h : List D) (p : Nat) (hp : p < h.length) (hok : ∀ d ∈ h, ok d) : ∀ d ∈ sd lt h p, ok d := all_set (sdGo_all lt _ p h p hp hok) (all_get hok hp)
theorem sd_len (lt : D → D → Bool) (h : List D) (p : Nat) : (sd lt h p).length = h.length := by simp [sd, sdGo_len]
theorem su_all {ok : D → Prop} (lt : D → D → Bool) (h : List D) (hp : 0 < h.length) (hok : ∀ d ∈ h, ok d) : ∀ d ∈ su lt h, ok d :=
  sd_all lt _ _ (by rw [List.length_set, suGo_len]; exact suGo_lt lt _ h 0 hp) (all_set (suGo_all lt _ h 0 hok) (all_get hok hp))
theorem su_len (lt : D → D → Bool) (h : List D) : (su lt h).length = h.length := by simp [su, sd_len, suGo_len]
noncomputable abbrev suB := defBody pw "_siftup"
noncomputable abbrev suS := defScope pw "_siftup"
noncomputable abbrev suρ (h : List D) (p : Nat) (x : D) : Vars := [("heap", .lst h), ("pos", .val (.int p)), ("endpos", .val (.int h.length)), ("startpos", .val (.int 0)), ("newitem", .val x), ("childpos", .val (.int (2 * p + 1 : Nat)))]
theorem su_while {lt : D → D → Bool} {ok : D → Prop} (hlt : ∀ a b, ok a → ok b → Cmp c .Lt a b (lt a b)) (x : D) : ∀ (f : Nat) (h : List D) (p : Nat), h.length ≤ f + p → p < h.length → (∀ d ∈ h, ok d) → h.length ≤ 1000 →
    WhileR c n suS ["heap"] (wTest suB 4) (wBody suB 4) (f + 1) (suρ h p x) .next (suρ (suGo lt f h p).1 (suGo lt f h p).2 x) := by
  intro f
  induction f with
  | zero => intro h p hp hl hok hz; omega
  | succ f ih =>
    intro h p hp hl hok hz
    unfold suGo
    by_cases h0 : 2 * p + 1 < h.length
    · rw [if_pos h0]
      have tst : Te c n suS (suρ h p x) (wTest suB 4) true := (Te_Compare (EvR_name rfl rfl) (EvR_name rfl rfl) Cmp.lt).conv (by simp; omega)
      have ha : ok (h.getD (2 * p + 1) .none) := all_get hok h0
      generalize hq : (if (decide (2 * p + 2 < h.length) && !(lt (h.getD (2 * p + 1) .none) (h.getD (2 * p + 2) .none))) = true then 2 * p + 2 else 2 * p + 1) = q
      have hql : q < h.length ∧ f + 1 + p ≤ f + q := by
        subst hq; split
        next he => rw [Bool.and_eq_true, decide_eq_true_eq] at he; exact ⟨he.1, by omega⟩
        next => exact ⟨h0, by omega⟩
      dsimp only
      refine .next (ρ₁ := suρ (h.set p (h.getD q .none)) q x) tst ?_ (ih (h.set p (h.getD q .none)) q (by rw [List.length_set]; omega) (by simpa using hql.1) (all_set hok (all_get hok hql.1)) (by simpa using hz))
      refine Ex_cons (ρ₁ := Vars.put (suρ h p x) "rightpos" (.val (.int (2 * p + 2 : Nat)))) (ExS_assign ((Ev_BinOp (EvR_name rfl rfl) EvR_int Bin.add).conv rfl) rfl (by decide)) ?_
      have itm : ∀ {i : Nat} {ρ : Vars} {e e' : Expr}, i < h.length → EvR c n suS ρ e (.lst h) → EvR c n suS ρ e' (.int i) → (hs : notSlice e' = true) → ∀ {pos}, EvR c n suS ρ (.Subscript e e' pos) (h.getD i .none) := fun {i ρ e e'} hi h1 h2 hs {pos} => .of (Ev_Sub h1 h2 (Itm.lst (Int.natCast_nonneg _) (by rw [Int.toNat_natCast]; exact getD_some hi) (by omega)) hs)
      refine Ex_cons (ρ₁ := Vars.put (Vars.put (suρ h p x) "rightpos" (.val (.int (2 * p + 2 : Nat)))) "childpos" (.val (.int q))) (ExS_if (t := decide (2 * p + 2 < h.length) && (!(lt (h.getD (2 * p + 1) .none) (h.getD (2 * p + 2) .none)) && true)) (Te_and (Te_Compare (EvR_name rfl rfl) (EvR_name rfl rfl) Cmp.ltN) fun hr => Te_and (Te_not (Te_Compare (itm h0 (EvR_own rfl rfl) (EvR_name rfl rfl) rfl) (itm (of_decide_eq_true hr) (EvR_own rfl rfl) (EvR_name rfl rfl) rfl) (hlt _ _ ha (all_get hok (of_decide_eq_true hr))))) fun _ => Te_and_nil) (fun ht => ?_) (fun ht => ?_)) ?_
      · rw [Bool.and_true] at ht; rw [if_pos ht] at hq
        exact hq ▸ Ex_cons (ExS_assign (Ev_name rfl rfl) rfl (by decide)) Ex_nil
      · rw [Bool.and_true] at ht; rw [if_neg (by rw [ht]; decide)] at hq
        exact hq ▸ Ex_nil
      · refine Ex_cons (ExS_setitem rfl rfl (Ev_Sub (EvR_own rfl rfl) (EvR_name rfl rfl) (Itm.lst (Int.natCast_nonneg _) (by rw [Int.toNat_natCast]; exact getD_some hql.1) (by omega))) (EvR_name rfl rfl) (Int.natCast_nonneg _) (by omega) (by omega)) ?_
        refine Ex_cons (ExS_assign (Ev_name rfl rfl) rfl (by decide)) ?_
        refine (Ex_cons (ExS_assign (d := .int (2 * q + 1 : Nat)) ((Ev_BinOp (.of (Ev_BinOp EvR_int (EvR_name rfl rfl) (Bin.mul (by decide)))) EvR_int Bin.add).conv rfl) rfl (by decide)) Ex_nil).less ?_
        exact ⟨rfl, rfl, by rw [List.length_set]; rfl, rfl, rfl, rfl, trivial⟩
    · rw [if_neg h0]
      exact .done ((Te_Compare (EvR_name rfl rfl) (EvR_name rfl rfl) Cmp.lt).conv (by simp; omega))
theorem siftup_fn {fv fd : Value} (hc : c.Ok) (hf : IsFn c fv ["heap", "pos"] suB suS) (gl : Glb c "len" (.builtin "len")) (gd : Callee c "_siftdown" fd) (hd : IsFn c fd ["heap", "startpos", "pos"] sdB sdS) {lt : D → D → Bool} {ok : D → Prop} (hlt : ∀ a b, ok a → ok b → Cmp c .Lt a b (lt a b)) {h : List D} (hp : 0 < h.length) (hok : ∀ d ∈ h, ok d) (hz : h.length ≤ 1000) : FnM c 2 fv h [.int 0] (su lt h) .none := by
  have hl := suGo_lt lt h.length h 0 hp
  have hl2 := suGo_len lt h.length h 0
  have hx : ok (h.getD 0 .none) := all_get hok hp
  refine FnM_intro (fl := .next) hc hf (by decide) rfl ⟨nofun, nofun⟩ (ρ' := Vars.put (Vars.put (suρ (suGo lt h.length h 0).1 (suGo lt h.length h 0).2 (h.getD 0 .none)) "heap" (.lst ((suGo lt h.length h 0).1.set (suGo lt h.length h 0).2 (h.getD 0 .none)))) "heap" (.lst (su lt h))) ?_ rfl
  refine Ex_cons (ExS_assign (Ev_callB hc gl rfl nofun (EvLR_cons (EvR_own rfl rfl) EvLR_nil) (CallR.lenL (by omega))) rfl (by decide)) ?_
  refine Ex_cons (ExS_assign (Ev_name rfl rfl) rfl (by decide)) ?_
  refine Ex_cons (ExS_assign (d := h.getD 0 .none) (Ev_Sub (EvR_own rfl rfl) (EvR_name rfl rfl) (Itm.lst (i := 0) (by decide) (getD_some hp) (by decide))) rfl (by decide)) ?_
  refine Ex_cons (ExS_assign (d := .int 1) ((Ev_BinOp (.of (Ev_BinOp EvR_int (EvR_name rfl rfl) (Bin.mul (by decide)))) EvR_int Bin.add).conv rfl) rfl (by decide)) ?_
  refine Ex_cons (ExS_while (((su_while hlt (h.getD 0 .none) h.length h 0 (by omega) hp hok hz)))) ?_
  refine Ex_cons (ExS_setitem rfl rfl (Ev_name rfl rfl) (EvR_name rfl rfl) (Int.natCast_nonneg _) (by rw [hl2]; omega) (by rw [hl2]; omega)) ?_
  exact Ex_cons (ExS_exprX (EvX_callM hc gd (siftdown_fn hc hd hlt (by rw [List.length_set, hl2]; exact hl) (all_set (suGo_all lt _ h 0 hok) hx) (by rw [List.length_set, hl2]; exact hz)) rfl rfl rfl (EvL_cons (Ev_name rfl rfl) (EvL_cons (Ev_name rfl rfl) EvL_nil)))) Ex_nil
noncomputable def hpush (lt : D → D → Bool) (h : List D) (x : D) : List D := sd lt (h ++ [x]) h.length
theorem hpush_all {ok : D → Prop} (lt : D → D → Bool) {h : List D} {x : D} (hok : ∀ d ∈ h, ok d) (hx : ok x) : ∀ d ∈ hpush lt h x, ok d := sd_all lt _ _ (by simp) (fun d hd => by
  rcases List.mem_append.mp hd with q | q
  · exact hok d q
  · rw [List.mem_singleton.mp q]; exact hx)
noncomputable abbrev hpuB := defBody pw "heappush"
noncomputable abbrev hpuS := defScope pw "heappush"
noncomputable abbrev hpoB := defBody pw "heappop"
noncomputable abbrev hpoS := defScope pw "heappop"
theorem heappush_fn {fv fd : Value} (hc : c.Ok) (hf : IsFn c fv ["heap", "item"] hpuB hpuS) (gl : Glb c "len" (.builtin "len")) (gd : Callee c "_siftdown" fd) (hd : IsFn c fd ["heap", "startpos", "pos"] sdB sdS) {lt : D → D → Bool} {ok : D → Prop} (hlt : ∀ a b, ok a → ok b → Cmp c .Lt a b (lt a b)) {h : List D} {x : D} (hok : ∀ d ∈ h, ok d) (hx : ok x) (hz : h.length < 1000) : FnM c 2 fv h [x] (hpush lt h x) .none := by
  refine FnM_intro (fl := .next) hc hf (by decide) rfl ⟨nofun, nofun⟩ (ρ' := [("heap", .lst (hpush lt h x)), ("item", .val x)]) ?_ rfl
  refine Ex_cons (ExS_exprX (EvX_append rfl rfl (EvX.of (Ev_name rfl rfl)) rfl (by omega))) ?_
  refine Ex_cons (ExS_exprX (EvX_callM hc gd (siftdown_fn hc hd hlt (h := h ++ [x]) (p := h.length) (by simp) (fun d hd => by
    rcases List.mem_append.mp hd with q | q
    · exact hok d q
    · rw [List.mem_singleton.mp q]; exact hx) (by simp; omega)) rfl rfl rfl (EvL_cons Ev_int (EvL_cons ((Ev_BinOp (.of (Ev_callB hc gl rfl nofun (EvLR_cons (EvR_own rfl rfl) EvLR_nil) (CallR.lenL (by simp; omega)))) EvR_int Bin.sub).conv (by congr 1; simp)) EvL_nil)))) Ex_nil
/-- what comes off, and what is left -/
noncomputable def hpop (lt : D → D → Bool) (h : List D) : D × List D := match h.dropLast with
  | [] => (h.getLastD .none, [])
  | y :: ys => (y, su lt (h.getLastD .none :: ys))
theorem heappop_fn {fv fu fd : Value} (hc : c.Ok) (hf : IsFn c fv ["heap"] hpoB hpoS) (gl : Glb c "len" (.builtin "len")) (gu : Callee c "_siftup" fu) (hu : IsFn c fu ["heap", "pos"] suB suS) (gd : Callee c "_siftdown" fd) (hd : IsFn c fd ["heap", "startpos", "pos"] sdB sdS) {lt : D → D → Bool} {ok : D → Prop} (hlt : ∀ a b, ok a → ok b → Cmp c .Lt a b (lt a b)) {h : List D} (hne : h ≠ []) (hok : ∀ d ∈ h, ok d) (hz : h.length ≤ 1000) : FnM c 3 fv h [] (hpop lt h).2 (hpop lt h).1 := by
  have e : h = h.dropLast ++ [h.getLastD .none] := by
    rw [List.getLastD_eq_getLast?, List.getLast?_eq_some_getLast hne]; exact (List.dropLast_concat_getLast hne).symm
  unfold hpop
  generalize h.getLastD .none = d at e ⊢
  generalize h.dropLast = ys at e ⊢
  subst e
  simp only [List.length_append, List.length_singleton] at hz
  have hd' : ok d := hok d (by simp)
  cases ys with
  | nil =>
    refine FnM_intro (fl := .ret d) hc hf (by decide) rfl ⟨nofun, nofun⟩ (ρ' := [("heap", .lst []), ("lastelt", .val d)]) ?_ rfl
    refine Ex_cons (ExS_assignX (EvX_pop (xs := []) rfl rfl (by simp)) rfl (by decide)) ?_
    refine Ex_cons (ExS_if (Te_plain (EvR_own rfl rfl) (Tru.lst (by simp))) (fun e => nomatch e) (fun _ => Ex_nil)) ?_
    exact Ex_stop (ExS_return (Ev_name rfl rfl))
  | cons y ys =>
    refine FnM_intro (fl := .ret y) hc hf (by decide) rfl ⟨nofun, nofun⟩ (ρ' := [("heap", .lst (su lt (d :: ys))), ("lastelt", .val d), ("returnitem", .val y)]) ?_ rfl
    refine Ex_cons (ExS_assignX (EvX_pop (xs := y :: ys) rfl rfl (by simp at hz ⊢; omega)) rfl (by decide)) ?_
    refine Ex_stop (ExS_if (Te_plain (EvR_own rfl rfl) (Tru.lst (by simp at hz ⊢; omega))) (fun _ => ?_) (fun e => nomatch e))
    refine Ex_cons (ExS_assign (d := y) (Ev_Sub (EvR_own rfl rfl) EvR_int (Itm.lst (i := 0) (by decide) rfl (by decide))) rfl (by decide)) ?_
    refine Ex_cons (ExS_setitem rfl rfl (Ev_name rfl rfl) EvR_int (by decide) (by simp) (by simp at hz ⊢; omega)) ?_
    refine Ex_cons (ExS_exprX (EvX_callM hc gu (siftup_fn hc hu gl gd hd hlt (h := d :: ys) (by simp) (fun e he => by
      rcases List.mem_cons.mp he with rfl | q
      · exact hd'
      · exact hok e (by simp [q])) (by simp at hz ⊢; omega)) rfl rfl rfl (EvL_cons Ev_int EvL_nil))) ?_
    exact Ex_stop (ExS_return (Ev_name rfl rfl))
end Mine
end

section
open PySem PySem.Calls PyProof.Rows PySem.W
set_option maxRecDepth 100000
set_option linter.unusedVariables false
namespace Mine
noncomputable def cBody (n : Str) : List Stmt → List Stmt
  | [] => []
  | .ClassDef name _ _ body _ _ _ _ _ _ _ :: r => if name == n then body else cBody n r
  | _ :: r => cBody n r
noncomputable def mBody (p : Program) (k n : Str) : List Stmt := match findDef n (cBody k p.main.body) with
  | some (_, b, _) => b
  | none => []
noncomputable def mScope (p : Program) (k n : Str) : Scope := match findDef n (cBody k p.main.body) with
  | some (_, _, s) => s
  | none => default
variable {c : Cx} {n : Nat}

/-- a class's constant text -/
theorem Ev_clsStr {sc : Scope} {ρ : Vars} {k name : Str} {p pos : Pos} {C : Addr} {mc : Value} {x : Str} {t : Tok} (hc : c.Ok) (hg : Glb c k (.ref C)) (hi : isGlb sc k = true) (hr : readsIn c.K C mc = true) (e : findCls c.K (.ref C) mc name = some (.val (.str x t))) (hm : AtrAt (.Name k p) name pos := by exact fun _ => rfl) : Ev c n sc ρ (.Attribute (.Name k p) name pos) (.str x) := fun A env pins F P s R ok S =>
  Attribute_any_ (load_glob hc ok S.keep hi hg (cls_value (hc.at_ S.keep) hr e rfl (.flat S.le (.str x t)))) (hm env)

structure WS where
  count : List Nat
  b : Nat
  n : Nat
  nt : Nat
noncomputable def wsStep (w : WS) (ch : Str) : Option WS :=
  if ch = " " then some { w with b := w.b + 1, n := w.n + 1 }
  else if ch = "\t" then
    let ct := if w.count.length ≤ w.b then w.count ++ List.replicate (w.b - w.count.length + 1) 0 else w.count
    some { count := ct.set w.b (ct.getD w.b 0 + 1), b := 0, n := w.n + 1, nt := w.nt + 1 }
  else none
noncomputable def wsGo : List Str → WS → WS
  | [], w => w
  | ch :: r, w => match wsStep w ch with
    | some w' => wsGo r w'
    | none => w
noncomputable def dN (k : Nat) : D := .int (k : Int)
noncomputable abbrev wρ (C : Addr) (s : Str) (w : WS) : Vars := [("self", .self C [("raw", .str s)]), ("ws", .val (.str s)), ("T", .val (.str "\t")), ("S", .val (.str " ")), ("count", .lst (w.count.map dN)), ("b", .val (.int w.b)), ("n", .val (.int w.n)), ("nt", .val (.int w.nt))]
noncomputable abbrev wB := mBody pw "Whitespace" "__init__"
noncomputable abbrev wS := mScope pw "Whitespace" "__init__"
noncomputable def fTarget (b : List Stmt) (i : Nat) : Expr := match b[i]? with
  | some (.For t _ _ _ _) => t
  | _ => default
theorem map_getD (l : List Nat) (i : Nat) (h : i < l.length) : (l.map dN)[i]? = some (dN (l.getD i 0)) := by
  rw [List.getElem?_map, List.getElem?_eq_getElem h, List.getD_eq_getElem?_getD, List.getElem?_eq_getElem h]; rfl
theorem ws_turn (C : Addr) (s : Str) (w : WS) (ch : Str) (hb : w.b ≤ 500) (hl : w.count.length ≤ 600) (gl : Glb c "len" (.builtin "len")) (hc : c.Ok) :
    match wsStep w ch with
    | some w' => Turn c n wS ["self"] (fTarget wB 4) (fBody wB 4) (.str ch) (wρ C s w) .next (wρ C s w')
    | none => Turn c n wS ["self"] (fTarget wB 4) (fBody wB 4) (.str ch) (wρ C s w) .brk (wρ C s w) := by
  unfold wsStep
  by_cases h1 : ch = " "
  · rw [if_pos h1]
    refine ⟨_, AsgT_name rfl (by decide), ?_⟩
    refine (Ex_cons (ExS_if ((Te_Compare (EvR_name rfl rfl) (EvR_name rfl rfl) Cmp.eqS).conv (b' := true) (by rw [h1]; rfl)) (fun _ => ?_) (fun e => nomatch e)) Ex_nil).less (ρ₁ := Vars.put (Vars.put (Vars.put (wρ C s w) "ch" (.val (.str ch))) "n" (.val (.int (w.n + 1 : Nat)))) "b" (.val (.int (w.b + 1 : Nat)))) ⟨rfl, rfl, rfl, rfl, rfl, rfl, rfl, rfl, trivial⟩
    refine Ex_cons (ExS_assign (d := .int (w.n + 1 : Nat)) ((Ev_BinOp (EvR_name rfl rfl) EvR_int Bin.add).conv rfl) rfl (by decide)) ?_
    exact Ex_cons (ExS_assign (d := .int (w.b + 1 : Nat)) ((Ev_BinOp (EvR_name rfl rfl) EvR_int Bin.add).conv rfl) rfl (by decide)) Ex_nil
  · rw [if_neg h1]
    by_cases h2 : ch = "\t"
    · rw [if_pos h2]
      dsimp only
      generalize hct : (if w.count.length ≤ w.b then w.count ++ List.replicate (w.b - w.count.length + 1) 0 else w.count) = ct
      have hlt : w.b < ct.length := by
        subst hct; split
        · simp; omega
        · omega
      have hlen : ct.length ≤ 1200 := by
        subst hct; split
        · simp; omega
        · omega
      refine ⟨_, AsgT_name rfl (by decide), ?_⟩
      refine Ex.less (ρ₁ := Vars.put (Vars.put (Vars.put (Vars.put (Vars.put (Vars.put (wρ C s w) "ch" (.val (.str ch))) "n" (.val (.int (w.n + 1 : Nat)))) "nt" (.val (.int (w.nt + 1 : Nat)))) "count" (.lst (ct.map dN))) "count" (.lst ((ct.map dN).set w.b (dN (ct.getD w.b 0 + 1))))) "b" (.val (.int 0))) ?_ ⟨rfl, rfl, rfl, rfl, by rw [List.map_set]; rfl, rfl, rfl, rfl, trivial⟩
      refine Ex_cons (ExS_if ((Te_Compare (EvR_name rfl rfl) (EvR_name rfl rfl) Cmp.eqS).conv (b' := false) (by simpa using h1)) (fun e => nomatch e) (fun _ => ?_)) Ex_nil
      refine Ex_cons (ExS_if ((Te_Compare (EvR_name rfl rfl) (EvR_name rfl rfl) Cmp.eqS).conv (b' := true) (by rw [h2]; rfl)) (fun _ => ?_) (fun e => nomatch e)) Ex_nil
      refine Ex_cons (ExS_assign (d := .int (w.n + 1 : Nat)) ((Ev_BinOp (EvR_name rfl rfl) EvR_int Bin.add).conv rfl) rfl (by decide)) ?_
      refine Ex_cons (ExS_assign (d := .int (w.nt + 1 : Nat)) ((Ev_BinOp (EvR_name rfl rfl) EvR_int Bin.add).conv rfl) rfl (by decide)) ?_
      refine Ex_cons (ρ₁ := Vars.put (Vars.put (Vars.put (Vars.put (wρ C s w) "ch" (.val (.str ch))) "n" (.val (.int (w.n + 1 : Nat)))) "nt" (.val (.int (w.nt + 1 : Nat)))) "count" (.lst (ct.map dN)))
        (ExS_if (t := decide (w.count.length ≤ w.b)) ((Te_Compare (EvR_name rfl rfl) (EvR.of (Ev_callB hc gl rfl nofun (EvLR_cons (EvR_own rfl rfl) EvLR_nil) (CallR.lenL (by simp; omega)))) Cmp.geN).conv (by rw [List.length_map])) (fun ht => ?_) (fun ht => ?_)) ?_
      · have ht := of_decide_eq_true ht
        rw [if_pos ht] at hct
        subst hct
        refine Ex_cons (ExS_assignNew (xs := (w.count ++ List.replicate (w.b - w.count.length + 1) 0).map dN) ?_ rfl (by decide)) Ex_nil
        rw [List.map_append, List.map_replicate]
        refine EvNew_addL (EvR_own rfl rfl) (.of (Ev_mulNew (EvNew_List (EvL_cons Ev_int EvL_nil) (by decide)) (.of ((Ev_BinOp (.of (Ev_BinOp (EvR_name rfl rfl) (.of (Ev_callB hc gl rfl nofun (EvLR_cons (EvR_own rfl rfl) EvLR_nil) (CallR.lenL (by simp; omega)))) Bin.sub)) EvR_int Bin.add).conv (by congr 1; rw [List.length_map]; omega))) (by omega))) (by simp; omega)
      · have ht := of_decide_eq_false ht
        rw [if_neg ht] at hct
        subst hct
        exact Ex_nil.less ⟨rfl, rfl, rfl, rfl, rfl, rfl, rfl, rfl, rfl, trivial⟩
      · refine Ex_cons (ExS_setitem rfl rfl ((Ev_BinOp (d := dN (ct.getD w.b 0 + 1)) (EvR.of (Ev_Sub (EvR_own rfl rfl) (EvR_name rfl rfl) (Itm.lst (Int.natCast_nonneg _) (by rw [Int.toNat_natCast]; exact map_getD ct w.b hlt) (by omega)))) EvR_int Bin.add).conv rfl) (EvR_name rfl rfl) (Int.natCast_nonneg _) (by rw [List.length_map]; omega) (by rw [List.length_map]; omega)) ?_
        exact Ex_cons (ExS_assign (d := .int 0) Ev_int rfl (by decide)) Ex_nil
    · rw [if_neg h2]
      refine ⟨_, AsgT_name rfl (by decide), ?_⟩
      refine Ex_stop (ExS_if ((Te_Compare (EvR_name rfl rfl) (EvR_name rfl rfl) Cmp.eqS).conv (b' := false) (by simpa using h1)) (fun e => nomatch e) (fun _ => ?_))
      refine Ex_stop (ExS_if ((Te_Compare (EvR_name rfl rfl) (EvR_name rfl rfl) Cmp.eqS).conv (b' := false) (by simpa using h2)) (fun e => nomatch e) (fun _ => ?_))
      exact Ex_stop (ExS_break.less ⟨rfl, rfl, rfl, rfl, rfl, rfl, rfl, rfl, trivial⟩)
theorem wsStep_le {w w' : WS} {ch : Str} (h : wsStep w ch = some w') : w'.b ≤ w.b + 1 ∧ w'.count.length ≤ max w.count.length (w.b + 1) := by
  unfold wsStep at h
  split at h
  · cases h; exact ⟨Nat.le_refl _, Nat.le_max_left ..⟩
  · split at h
    · cases h
      refine ⟨Nat.zero_le _, ?_⟩
      simp only [List.length_set]
      split
      · simp; omega
      · omega
    · cases h
theorem ws_loop (C : Addr) (s : Str) (gl : Glb c "len" (.builtin "len")) (hc : c.Ok) : ∀ (l : List Str) (w : WS), w.b + l.length ≤ 500 → w.count.length ≤ 501 →
    LoopR (Turn c n wS ["self"] (fTarget wB 4) (fBody wB 4)) (l.map .str) (wρ C s w) .next (wρ C s (wsGo l w))
  | [], w, _, _ => .nil
  | ch :: r, w, h1, h2 => by
    have t := ws_turn (n := n) C s w ch (by simp at h1; omega) (by omega) gl hc
    unfold wsGo
    cases e : wsStep w ch with
    | none => rw [e] at t; exact .brk t
    | some w' =>
      rw [e] at t
      have q := wsStep_le e
      simp at h1
      exact .next t (ws_loop C s gl hc r w' (by omega) (by omega))
noncomputable def signsOf (s : Str) : List Str := s.cps.toList.map fun cp => ⟨#[cp]⟩
noncomputable def wsOf (s : Str) : WS := wsGo (signsOf s) ⟨[], 0, 0, 0⟩
/-- the fields that Whitespace lays -/
noncomputable def wsF (s : Str) (w : WS) : List (Str × D) := [("raw", .str s), ("n", .int w.n), ("nt", .int w.nt), ("norm", .tup [.tup (w.count.map dN), .int w.b]), ("is_simple", .bool (decide (w.count.length ≤ 1)))]
theorem wsGo_le : ∀ (l : List Str) (w : WS), (wsGo l w).b ≤ w.b + l.length ∧ (wsGo l w).count.length ≤ max w.count.length (w.b + l.length)
  | [], w => ⟨Nat.le_refl _, Nat.le_max_left ..⟩
  | ch :: r, w => by
    unfold wsGo
    cases e : wsStep w ch with
    | none => exact ⟨Nat.le_add_right .., Nat.le_max_left ..⟩
    | some w' =>
      have q := wsStep_le e
      have ih := wsGo_le r w'
      simp only [List.length_cons]
      constructor
      · have := ih.1; show (wsGo r w').b ≤ _; omega
      · have := ih.2; show (wsGo r w').count.length ≤ _; omega
structure WsK (c : Cx) (C : Addr) : Prop where
  cls : ClsK c C
  raw : findIn c.K (.ref C) "raw" = some none
  n : findIn c.K (.ref C) "n" = some none
  nt : findIn c.K (.ref C) "nt" = some none
  norm : findIn c.K (.ref C) "norm" = some none
  simple : findIn c.K (.ref C) "is_simple" = some none
  glb : Glb c "Whitespace" (.ref C)
  blank : ∃ mc t, readsIn c.K C mc = true ∧ findCls c.K (.ref C) mc "S" = some (.val (.str " " t))
  tab : ∃ mc t, readsIn c.K C mc = true ∧ findCls c.K (.ref C) mc "T" = some (.val (.str "\t" t))
theorem ws_init {C fa : Addr} {fd : FuncData} {s : Str} (hc : c.Ok) (K : WsK c C) (gl : Glb c "len" (.builtin "len")) (gt : Glb c "tuple" (.type "tuple")) (D0 : DefAt c fa fd wB wS) (hb : ∀ v0 (vs : List Value), vs.length = 1 → ∀ s : Shared, Fle c.hB.get? s.heap.get? → BindsTo s fd ⟨v0 :: vs, []⟩ (("self", v0) :: (["ws"] : List Str).zip vs)) (hs : s.length ≤ 400) : FnI c 1 (.ref fa) C [.str s] (wsF s (wsOf s)) := by
  have hsl : (signsOf s).length ≤ 400 := by unfold signsOf; rw [List.length_map]; exact hs
  have hle := wsGo_le (signsOf s) ⟨[], 0, 0, 0⟩
  have hcl : (wsOf s).count.length ≤ 400 := by have := hle.2; simp at this; unfold wsOf; omega
  obtain ⟨mc, t, hr, hS⟩ := K.blank
  obtain ⟨mc', t', hr', hT⟩ := K.tab
  refine FnI_intro (n0 := "self") (names := ["ws"]) (ρ' := [("self", .self C (wsF s (wsOf s)))]) hc D0 hb (by decide) rfl rfl ?_ rfl
  refine Ex_cons (ExS_setattr hc K.cls rfl rfl (Ev_name rfl rfl) K.raw rfl (by decide)) ?_
  refine Ex_cons (ExS_swap2 (d := .str " ") (e := .str "\t") (Ev_Tuple (EvL_cons (Ev_clsStr hc K.glb rfl hr hS) (EvL_cons (Ev_clsStr hc K.glb rfl hr' hT) EvL_nil)) (by decide)) rfl rfl (by decide) (by decide) (fun env ok => ?_)) ?_
  · obtain ⟨⟩ := env
    have e := ok.scope
    dsimp only at e
    subst e
    rfl
  refine Ex_cons (ExS_assignNew (EvNew_List EvL_nil (by decide)) rfl (by decide)) ?_
  refine Ex_cons (ExS_assign3 (d := .int 0) Ev_int rfl rfl rfl (by decide) (by decide) (by decide)) ?_
  refine Ex_cons (ρ₁ := wρ C s (wsOf s)) (ExS_for (d := .str s) (xs := (signsOf s).map .str) (Ev_attrSelf hc K.cls K.raw rfl rfl rfl) (by unfold signsOf; rw [List.map_map]; rfl) rfl (ws_loop C s gl hc (signsOf s) ⟨[], 0, 0, 0⟩ (by simp; omega) (by decide)) (.inl rfl)) ?_
  refine Ex_cons (ExS_setattr hc K.cls rfl rfl (Ev_name rfl rfl) K.n rfl (by simp)) ?_
  refine Ex_cons (ExS_setattr hc K.cls rfl rfl (Ev_name rfl rfl) K.nt rfl (by simp)) ?_
  refine Ex_cons (ExS_setattr hc K.cls rfl rfl (Ev_Tuple (EvL_cons (Ev_callB hc gt rfl nofun (EvLR_cons (EvR_own rfl rfl) EvLR_nil) (CallR.tupL (by simp; omega))) (EvL_cons (Ev_name rfl rfl) EvL_nil)) (by simp)) K.norm rfl (by simp)) ?_
  refine (Ex_cons (ExS_setattr (d := .bool (decide ((wsOf s).count.length ≤ 1))) hc K.cls rfl rfl ((Ev_Compare (.of (Ev_callB hc gl rfl nofun (EvLR_cons (EvR_own rfl rfl) EvLR_nil) (CallR.lenL (by simp; omega)))) EvR_int Cmp.le).conv (by congr 1; simp; omega)) K.simple rfl (by simp)) Ex_nil).less ⟨rfl, trivial⟩
end Mine
end

section
open PySem PySem.Calls PyProof.Rows PySem.W
set_option maxRecDepth 100000
set_option linter.unusedVariables false
set_option maxHeartbeats 8000000
namespace Mine
noncomputable def defArgs (p : Program) (n : Str) : Arguments := match findDef n p.main.body with
  | some (a, _, _) => a
  | none => default
noncomputable def mArgs (p : Program) (k n : Str) : Arguments := match findDef n (cBody k p.main.body) with
  | some (a, _, _) => a
  | none => default
noncomputable def KK (P : Params) : Frag := [
  (2, { cls := Value.none, data := Data.dict #[{ hash := PyData.keyHash P (Str.ofString "im" ++ Str.ofString "port.loaded._sre"), key := Value.str (Str.ofString "im" ++ Str.ofString "port.loaded._sre") 183, val := Value.bool true }, { hash := PyData.keyHash P (Str.ofString "class._frozen_importlib.BuiltinImporter"), key := Value.str (Str.ofString "class._frozen_importlib.BuiltinImporter") 185, val := Value.ref 14 }, { hash := PyData.keyHash P (Str.ofString "watched.im" ++ Str.ofString "port"), key := Value.str (Str.ofString "watched.im" ++ Str.ofString "port") 206, val := Value.ref 18 }, { hash := PyData.keyHash P (Str.ofString "class._frozen_importlib.ModuleSpec"), key := Value.str (Str.ofString "class._frozen_importlib.ModuleSpec") 216, val := Value.ref 22 }, { hash := PyData.keyHash P (Str.ofString "sys.modules.booked-epoch"), key := Value.str (Str.ofString "sys.modules.booked-epoch") 245, val := Value.int 3 0 }, { hash := PyData.keyHash P (Str.ofString "im" ++ Str.ofString "port.later-laid._sre"), key := Value.str (Str.ofString "im" ++ Str.ofString "port.later-laid._sre") 270, val := Value.bool true }, { hash := PyData.keyHash P (Str.ofString "watched.library"), key := Value.str (Str.ofString "watched.library") 272, val := Value.ref 27 }, { hash := PyData.keyHash P (Str.ofString "watched.library-objects"), key := Value.str (Str.ofString "watched.library-objects") 0, val := Value.str (Str.ofString "\x0c") 0 }, { hash := PyData.keyHash P (Str.ofString "watched.library-deep._sre"), key := Value.str (Str.ofString "watched.library-deep._sre") 273, val := Value.str (Str.ofString "\x04\x00\x00\x0b\x04\x00\x00\x0b\x04\x00\x00\x03\x04\x00\x00\x0b\x08\x04dict\x02") 0 }] 9 }),
  (3, { cls := Value.type "dict", data := Data.dict #[{ hash := PyData.keyHash P (Str.ofString "__name__"), key := Value.str (Str.ofString "__name__") 165, val := Value.str (Str.ofString "law_pg0319_01") 698 }, { hash := PyData.keyHash P (Str.ofString "__doc__"), key := Value.str (Str.ofString "__doc__") 166, val := Value.none }, { hash := PyData.keyHash P (Str.ofString "__package__"), key := Value.str (Str.ofString "__package__") 167, val := Value.none }, { hash := PyData.keyHash P (Str.ofString "__loader__"), key := Value.str (Str.ofString "__loader__") 168, val := Value.builtin "__main__.__loader__#opaque" }, { hash := PyData.keyHash P (Str.ofString "__spec__"), key := Value.str (Str.ofString "__spec__") 169, val := Value.none }, { hash := PyData.keyHash P (Str.ofString "__annotations__"), key := Value.str (Str.ofString "__annotations__") 170, val := Value.ref 6 }, { hash := PyData.keyHash P (Str.ofString "__builtins__"), key := Value.str (Str.ofString "__builtins__") 171, val := Value.ref 4 }, { hash := PyData.keyHash P (Str.ofString "__file__"), key := Value.str (Str.ofString "__file__") 173, val := Value.str (Str.ofString "/claim/cut.py") 172 }, { hash := PyData.keyHash P (Str.ofString "__cached__"), key := Value.str (Str.ofString "__cached__") 174, val := Value.none }, { hash := PyData.keyHash P (Str.ofString "_sre"), key := Value.str (Str.ofString "_sre") 275, val := Value.ref 12 }, { hash := PyData.keyHash P (Str.ofString "_wall"), key := Value.str (Str.ofString "_wall") 288, val := Value.ref 38 }, { hash := PyData.keyHash P (Str.ofString "heappush"), key := Value.str (Str.ofString "heappush") 298, val := Value.ref 45 }, { hash := PyData.keyHash P (Str.ofString "heappop"), key := Value.str (Str.ofString "heappop") 307, val := Value.ref 52 }, { hash := PyData.keyHash P (Str.ofString "_siftdown"), key := Value.str (Str.ofString "_siftdown") 319, val := Value.ref 59 }, { hash := PyData.keyHash P (Str.ofString "_siftup"), key := Value.str (Str.ofString "_siftup") 332, val := Value.ref 66 }, { hash := PyData.keyHash P (Str.ofString "Whitespace"), key := Value.str (Str.ofString "Whitespace") 434, val := Value.ref 128 }, { hash := PyData.keyHash P (Str.ofString "tspecials"), key := Value.str (Str.ofString "tspecials") 470, val := Value.ref 137 }, { hash := PyData.keyHash P (Str.ofString "_name_disallowed_re"), key := Value.str (Str.ofString "_name_disallowed_re") 496, val := Value.ref 142 }, { hash := PyData.keyHash P (Str.ofString "_value_disallowed_re"), key := Value.str (Str.ofString "_value_disallowed_re") 530, val := Value.ref 147 }, { hash := PyData.keyHash P (Str.ofString "_formatparam"), key := Value.str (Str.ofString "_formatparam") 540, val := Value.ref 155 }, { hash := PyData.keyHash P (Str.ofString "Headers"), key := Value.str (Str.ofString "Headers") 697, val := Value.ref 276 }, { hash := PyData.keyHash P (Str.ofString "_law_lines"), key := Value.str (Str.ofString "_law_lines") 710, val := Value.ref 287 }, { hash := PyData.keyHash P (Str.ofString "_law_right_behind"), key := Value.str (Str.ofString "_law_right_behind") 716, val := Value.ref 292 }, { hash := PyData.keyHash P (Str.ofString "_law_numbers"), key := Value.str (Str.ofString "_law_numbers") 722, val := Value.ref 297 }, { hash := PyData.keyHash P (Str.ofString "_law_two_hands"), key := Value.str (Str.ofString "_law_two_hands") 728, val := Value.ref 302 }, { hash := PyData.keyHash P (Str.ofString "_law_columns"), key := Value.str (Str.ofString "_law_columns") 739, val := Value.ref 309 }, { hash := PyData.keyHash P (Str.ofString "_law_left"), key := Value.str (Str.ofString "_law_left") 745, val := Value.ref 314 }, { hash := PyData.keyHash P (Str.ofString "_law_most_pairs"), key := Value.str (Str.ofString "_law_most_pairs") 755, val := Value.ref 321 }, { hash := PyData.keyHash P (Str.ofString "_law_kept"), key := Value.str (Str.ofString "_law_kept") 761, val := Value.ref 326 }, { hash := PyData.keyHash P (Str.ofString "law"), key := Value.str (Str.ofString "law") 772, val := Value.ref 333 }] 30 }),
  (44, { cls := Value.type "code", data := Data.fields #[Value.str (Str.ofString "heappush") 291, Value.str (Str.ofString "heappush") 292, Value.str (Str.ofString "/claim/cut.py") 293, Value.int 6 0, Value.int 2 0, Value.int 0 0, Value.int 0 0, Value.int 3 0, Value.ref 39, Value.bool true, Value.int 276 0, Value.ref 40, Value.none, Value.ref 41, Value.ref 42, Value.ref 43, Value.int 296 0, Value.int 6 0, Value.str (Str.ofString "/claim/cut.py") 297] }),
  (45, { cls := Value.type "function", data := Data.func { name := Str.ofString "heappush", qualname := Str.ofString "heappush", params := defArgs pw "heappush", body := .stmts (defBody pw "heappush"), scope := defScope pw "heappush", globals := 3, closure := [], defaults := Value.none, kwdefaults := Value.none, pyModule := Value.str (Str.ofString "cpy313.heapq") 289, code := Value.ref 44 } }),
  (51, { cls := Value.type "code", data := Data.fields #[Value.str (Str.ofString "heappop") 299, Value.str (Str.ofString "heappop") 300, Value.str (Str.ofString "/claim/cut.py") 301, Value.int 9 0, Value.int 1 0, Value.int 0 0, Value.int 0 0, Value.int 3 0, Value.ref 46, Value.bool true, Value.int 276 0, Value.ref 47, Value.none, Value.ref 48, Value.ref 49, Value.ref 50, Value.int 305 0, Value.int 9 0, Value.str (Str.ofString "/claim/cut.py") 306] }),
  (52, { cls := Value.type "function", data := Data.func { name := Str.ofString "heappop", qualname := Str.ofString "heappop", params := defArgs pw "heappop", body := .stmts (defBody pw "heappop"), scope := defScope pw "heappop", globals := 3, closure := [], defaults := Value.none, kwdefaults := Value.none, pyModule := Value.str (Str.ofString "cpy313.heapq") 289, code := Value.ref 51 } }),
  (58, { cls := Value.type "code", data := Data.fields #[Value.str (Str.ofString "_siftdown") 308, Value.str (Str.ofString "_siftdown") 309, Value.str (Str.ofString "/claim/cut.py") 310, Value.int 17 0, Value.int 3 0, Value.int 0 0, Value.int 0 0, Value.int 3 0, Value.ref 53, Value.bool true, Value.int 276 0, Value.ref 54, Value.none, Value.ref 55, Value.ref 56, Value.ref 57, Value.int 317 0, Value.int 17 0, Value.str (Str.ofString "/claim/cut.py") 318] }),
  (59, { cls := Value.type "function", data := Data.func { name := Str.ofString "_siftdown", qualname := Str.ofString "_siftdown", params := defArgs pw "_siftdown", body := .stmts (defBody pw "_siftdown"), scope := defScope pw "_siftdown", globals := 3, closure := [], defaults := Value.none, kwdefaults := Value.none, pyModule := Value.str (Str.ofString "cpy313.heapq") 289, code := Value.ref 58 } }),
  (65, { cls := Value.type "code", data := Data.fields #[Value.str (Str.ofString "_siftup") 320, Value.str (Str.ofString "_siftup") 321, Value.str (Str.ofString "/claim/cut.py") 322, Value.int 28 0, Value.int 2 0, Value.int 0 0, Value.int 0 0, Value.int 3 0, Value.ref 60, Value.bool true, Value.int 276 0, Value.ref 61, Value.none, Value.ref 62, Value.ref 63, Value.ref 64, Value.int 330 0, Value.int 28 0, Value.str (Str.ofString "/claim/cut.py") 331] }),
  (66, { cls := Value.type "function", data := Data.func { name := Str.ofString "_siftup", qualname := Str.ofString "_siftup", params := defArgs pw "_siftup", body := .stmts (defBody pw "_siftup"), scope := defScope pw "_siftup", globals := 3, closure := [], defaults := Value.none, kwdefaults := Value.none, pyModule := Value.str (Str.ofString "cpy313.heapq") 289, code := Value.ref 65 } }),
  (82, { cls := Value.type "code", data := Data.fields #[Value.str (Str.ofString "__init__") 352, Value.str (Str.ofString "Whitespace.__init__") 353, Value.str (Str.ofString "/claim/cut.py") 354, Value.int 46 0, Value.int 2 0, Value.int 0 0, Value.int 0 0, Value.int 3 0, Value.ref 77, Value.bool true, Value.int 276 0, Value.ref 78, Value.none, Value.ref 79, Value.ref 80, Value.ref 81, Value.int 364 0, Value.int 46 0, Value.str (Str.ofString "/claim/cut.py") 365] }),
  (83, { cls := Value.type "function", data := Data.func { name := Str.ofString "__init__", qualname := Str.ofString "Whitespace.__init__", params := mArgs pw "Whitespace" "__init__", body := .stmts (mBody pw "Whitespace" "__init__"), scope := mScope pw "Whitespace" "__init__", globals := 3, closure := [], defaults := Value.none, kwdefaults := Value.none, pyModule := Value.str (Str.ofString "cpy313.tabnanny") 333, code := Value.ref 82 } }),
  (89, { cls := Value.type "code", data := Data.fields #[Value.str (Str.ofString "longest_run_of_spaces") 367, Value.str (Str.ofString "Whitespace.longest_run_of_spaces") 368, Value.str (Str.ofString "/claim/cut.py") 369, Value.int 69 0, Value.int 1 0, Value.int 0 0, Value.int 0 0, Value.int 3 0, Value.ref 84, Value.bool true, Value.int 276 0, Value.ref 85, Value.none, Value.ref 86, Value.ref 87, Value.ref 88, Value.int 373 0, Value.int 69 0, Value.str (Str.ofString "/claim/cut.py") 374] }),
  (90, { cls := Value.type "function", data := Data.func { name := Str.ofString "longest_run_of_spaces", qualname := Str.ofString "Whitespace.longest_run_of_spaces", params := mArgs pw "Whitespace" "longest_run_of_spaces", body := .stmts (mBody pw "Whitespace" "longest_run_of_spaces"), scope := mScope pw "Whitespace" "longest_run_of_spaces", globals := 3, closure := [], defaults := Value.none, kwdefaults := Value.none, pyModule := Value.str (Str.ofString "cpy313.tabnanny") 333, code := Value.ref 89 } }),
  (96, { cls := Value.type "code", data := Data.fields #[Value.str (Str.ofString "indent_level") 376, Value.str (Str.ofString "Whitespace.indent_level") 377, Value.str (Str.ofString "/claim/cut.py") 378, Value.int 73 0, Value.int 2 0, Value.int 0 0, Value.int 0 0, Value.int 3 0, Value.ref 91, Value.bool true, Value.int 276 0, Value.ref 92, Value.none, Value.ref 93, Value.ref 94, Value.ref 95, Value.int 385 0, Value.int 73 0, Value.str (Str.ofString "/claim/cut.py") 386] }),
  (97, { cls := Value.type "function", data := Data.func { name := Str.ofString "indent_level", qualname := Str.ofString "Whitespace.indent_level", params := mArgs pw "Whitespace" "indent_level", body := .stmts (mBody pw "Whitespace" "indent_level"), scope := mScope pw "Whitespace" "indent_level", globals := 3, closure := [], defaults := Value.none, kwdefaults := Value.none, pyModule := Value.str (Str.ofString "cpy313.tabnanny") 333, code := Value.ref 96 } }),
  (117, { cls := Value.type "code", data := Data.fields #[Value.str (Str.ofString "less") 404, Value.str (Str.ofString "Whitespace.less") 405, Value.str (Str.ofString "/claim/cut.py") 406, Value.int 86 0, Value.int 2 0, Value.int 0 0, Value.int 0 0, Value.int 3 0, Value.ref 112, Value.bool true, Value.int 276 0, Value.ref 113, Value.none, Value.ref 114, Value.ref 115, Value.ref 116, Value.int 411 0, Value.int 86 0, Value.str (Str.ofString "/claim/cut.py") 412] }),
  (118, { cls := Value.type "function", data := Data.func { name := Str.ofString "less", qualname := Str.ofString "Whitespace.less", params := mArgs pw "Whitespace" "less", body := .stmts (mBody pw "Whitespace" "less"), scope := mScope pw "Whitespace" "less", globals := 3, closure := [], defaults := Value.none, kwdefaults := Value.none, pyModule := Value.str (Str.ofString "cpy313.tabnanny") 333, code := Value.ref 117 } }),
  (127, { cls := Value.type "dict", data := Data.dict #[{ hash := PyData.keyHash P (Str.ofString "__module__"), key := Value.str (Str.ofString "__module__") 342, val := Value.str (Str.ofString "cpy313.tabnanny") 333 }, { hash := PyData.keyHash P (Str.ofString "__firstlineno__"), key := Value.str (Str.ofString "__firstlineno__") 346, val := Value.int 43 345 }, { hash := PyData.keyHash P (Str.ofString "S"), key := Value.str (Str.ofString "S") 350, val := Value.str (Str.ofString " ") 348 }, { hash := PyData.keyHash P (Str.ofString "T"), key := Value.str (Str.ofString "T") 351, val := Value.str (Str.ofString "\t") 349 }, { hash := PyData.keyHash P (Str.ofString "__init__"), key := Value.str (Str.ofString "__init__") 366, val := Value.ref 83 }, { hash := PyData.keyHash P (Str.ofString "longest_run_of_spaces"), key := Value.str (Str.ofString "longest_run_of_spaces") 375, val := Value.ref 90 }, { hash := PyData.keyHash P (Str.ofString "indent_level"), key := Value.str (Str.ofString "indent_level") 387, val := Value.ref 97 }, { hash := PyData.keyHash P (Str.ofString "equal"), key := Value.str (Str.ofString "equal") 395, val := Value.ref 104 }, { hash := PyData.keyHash P (Str.ofString "not_equal_witness"), key := Value.str (Str.ofString "not_equal_witness") 403, val := Value.ref 111 }, { hash := PyData.keyHash P (Str.ofString "less"), key := Value.str (Str.ofString "less") 413, val := Value.ref 118 }, { hash := PyData.keyHash P (Str.ofString "not_less_witness"), key := Value.str (Str.ofString "not_less_witness") 421, val := Value.ref 125 }, { hash := PyData.keyHash P (Str.ofString "__static_attributes__"), key := Value.str (Str.ofString "__static_attributes__") 427, val := Value.ref 126 }, { hash := PyData.keyHash P (Str.ofString "__dict__"), key := Value.str (Str.ofString "__dict__") 429, val := Value.ref 129 }, { hash := PyData.keyHash P (Str.ofString "__weakref__"), key := Value.str (Str.ofString "__weakref__") 431, val := Value.ref 130 }, { hash := PyData.keyHash P (Str.ofString "__doc__"), key := Value.str (Str.ofString "__doc__") 432, val := Value.none }] 4 }),
  (128, { cls := Value.type "type", data := Data.cls { name := Str.ofString "Whitespace", bases := [Value.type "object"], mro := [Value.ref 128, Value.type "object"], ns := 127, qualname := Str.ofString "Whitespace" }, slots := #[none, none, some (Value.str (Str.ofString "Whitespace") 335), some (Value.str (Str.ofString "Whitespace") 343), some (Value.builtin "object.__new__"), some (Value.bool true)] }),
  (136, { cls := Value.type "tuple", data := Data.seq #[Value.int 14 0, Value.int 14 0, Value.int 4 0, Value.int 1 0, Value.int 1 0, Value.int 9 0, Value.int 0 0, Value.int 4227896069 0, Value.int 939524097 0, Value.int 0 0, Value.int 0 0, Value.int 0 0, Value.int 0 0, Value.int 0 0, Value.int 0 0, Value.int 13 0, Value.int 11 0, Value.int 9 0, Value.int 0 0, Value.int 4227896069 0, Value.int 939524097 0, Value.int 0 0, Value.int 0 0, Value.int 0 0, Value.int 0 0, Value.int 0 0, Value.int 0 0, Value.int 1 0] }),
  (137, { cls := Value.type "re.Pattern", data := Data.fields #[Value.str (Str.ofString "[ \\(\\)<>@,;:\\\\\"/\\[\\]\\?=]") 438, Value.int 32 469, Value.int 0 0, Value.none, Value.none, Value.ref 136, Value.int 0 0] }),
  (141, { cls := Value.type "tuple", data := Data.seq #[Value.int 14 0, Value.int 10 0, Value.int 4 0, Value.int 1 0, Value.int 1 0, Value.int 22 0, Value.int 0 0, Value.int 31 0, Value.int 16 0, Value.int 127 0, Value.int 0 0, Value.int 13 0, Value.int 7 0, Value.int 22 0, Value.int 0 0, Value.int 31 0, Value.int 16 0, Value.int 127 0, Value.int 0 0, Value.int 1 0] }),
  (142, { cls := Value.type "re.Pattern", data := Data.fields #[Value.str (Str.ofString "[\\x00-\\x1F\\x7F]") 472, Value.int 32 495, Value.int 0 0, Value.none, Value.none, Value.ref 141, Value.int 0 0] }),
  (146, { cls := Value.type "tuple", data := Data.seq #[Value.int 14 0, Value.int 14 0, Value.int 4 0, Value.int 1 0, Value.int 1 0, Value.int 9 0, Value.int 4294966783 0, Value.int 0 0, Value.int 0 0, Value.int 2147483648 0, Value.int 0 0, Value.int 0 0, Value.int 0 0, Value.int 0 0, Value.int 0 0, Value.int 13 0, Value.int 11 0, Value.int 9 0, Value.int 4294966783 0, Value.int 0 0, Value.int 0 0, Value.int 2147483648 0, Value.int 0 0, Value.int 0 0, Value.int 0 0, Value.int 0 0, Value.int 0 0, Value.int 1 0] }),
  (147, { cls := Value.type "re.Pattern", data := Data.fields #[Value.str (Str.ofString "[\\x00-\\x08\\x0A-\\x1F\\x7F]") 498, Value.int 32 529, Value.int 0 0, Value.none, Value.none, Value.ref 146, Value.int 0 0] }),
  (163, { cls := Value.type "tuple", data := Data.seq #[Value.none] }),
  (169, { cls := Value.type "code", data := Data.fields #[Value.str (Str.ofString "__init__") 553, Value.str (Str.ofString "Headers.__init__") 554, Value.str (Str.ofString "/claim/cut.py") 555, Value.int 114 0, Value.int 2 0, Value.int 0 0, Value.int 0 0, Value.int 3 0, Value.ref 164, Value.bool true, Value.int 276 0, Value.ref 165, Value.none, Value.ref 166, Value.ref 167, Value.ref 168, Value.int 560 0, Value.int 114 0, Value.str (Str.ofString "/claim/cut.py") 561] }),
  (170, { cls := Value.type "function", data := Data.func { name := Str.ofString "__init__", qualname := Str.ofString "Headers.__init__", params := mArgs pw "Headers" "__init__", body := .stmts (mBody pw "Headers" "__init__"), scope := mScope pw "Headers" "__init__", globals := 3, closure := [], defaults := Value.ref 163, kwdefaults := Value.none, pyModule := Value.str (Str.ofString "cpy313.wsgiref.headers") 435, code := Value.ref 169 } }),
  (176, { cls := Value.type "code", data := Data.fields #[Value.str (Str.ofString "_convert_string_type") 563, Value.str (Str.ofString "Headers._convert_string_type") 564, Value.str (Str.ofString "/claim/cut.py") 565, Value.int 124 0, Value.int 2 0, Value.int 0 0, Value.int 1 0, Value.int 3 0, Value.ref 171, Value.bool true, Value.int 276 0, Value.ref 172, Value.none, Value.ref 173, Value.ref 174, Value.ref 175, Value.int 570 0, Value.int 124 0, Value.str (Str.ofString "/claim/cut.py") 571] }),
  (177, { cls := Value.type "function", data := Data.func { name := Str.ofString "_convert_string_type", qualname := Str.ofString "Headers._convert_string_type", params := mArgs pw "Headers" "_convert_string_type", body := .stmts (mBody pw "Headers" "_convert_string_type"), scope := mScope pw "Headers" "_convert_string_type", globals := 3, closure := [], defaults := Value.none, kwdefaults := Value.none, pyModule := Value.str (Str.ofString "cpy313.wsgiref.headers") 435, code := Value.ref 176 } }),
  (183, { cls := Value.type "code", data := Data.fields #[Value.str (Str.ofString "__len__") 573, Value.str (Str.ofString "Headers.__len__") 574, Value.str (Str.ofString "/claim/cut.py") 575, Value.int 132 0, Value.int 1 0, Value.int 0 0, Value.int 0 0, Value.int 3 0, Value.ref 178, Value.bool true, Value.int 276 0, Value.ref 179, Value.none, Value.ref 180, Value.ref 181, Value.ref 182, Value.int 577 0, Value.int 132 0, Value.str (Str.ofString "/claim/cut.py") 578] }),
  (184, { cls := Value.type "function", data := Data.func { name := Str.ofString "__len__", qualname := Str.ofString "Headers.__len__", params := mArgs pw "Headers" "__len__", body := .stmts (mBody pw "Headers" "__len__"), scope := mScope pw "Headers" "__len__", globals := 3, closure := [], defaults := Value.none, kwdefaults := Value.none, pyModule := Value.str (Str.ofString "cpy313.wsgiref.headers") 435, code := Value.ref 183 } }),
  (214, { cls := Value.type "code", data := Data.fields #[Value.str (Str.ofString "get_all") 611, Value.str (Str.ofString "Headers.get_all") 612, Value.str (Str.ofString "/claim/cut.py") 613, Value.int 149 0, Value.int 2 0, Value.int 0 0, Value.int 0 0, Value.int 3 0, Value.ref 211, Value.bool true, Value.int 276 0, Value.ref 212, Value.none, Value.none, Value.none, Value.ref 213, Value.int 614 0, Value.int 149 0, Value.str (Str.ofString "/claim/cut.py") 615] }),
  (215, { cls := Value.type "function", data := Data.func { name := Str.ofString "get_all", qualname := Str.ofString "Headers.get_all", params := mArgs pw "Headers" "get_all", body := .stmts (mBody pw "Headers" "get_all"), scope := mScope pw "Headers" "get_all", globals := 3, closure := [], defaults := Value.none, kwdefaults := Value.none, pyModule := Value.str (Str.ofString "cpy313.wsgiref.headers") 435, code := Value.ref 214 } }),
  (216, { cls := Value.type "tuple", data := Data.seq #[Value.none] }),
  (222, { cls := Value.type "code", data := Data.fields #[Value.str (Str.ofString "get") 617, Value.str (Str.ofString "Headers.get") 618, Value.str (Str.ofString "/claim/cut.py") 619, Value.int 153 0, Value.int 3 0, Value.int 0 0, Value.int 0 0, Value.int 3 0, Value.ref 217, Value.bool true, Value.int 276 0, Value.ref 218, Value.none, Value.ref 219, Value.ref 220, Value.ref 221, Value.int 625 0, Value.int 153 0, Value.str (Str.ofString "/claim/cut.py") 626] }),
  (223, { cls := Value.type "function", data := Data.func { name := Str.ofString "get", qualname := Str.ofString "Headers.get", params := mArgs pw "Headers" "get", body := .stmts (mBody pw "Headers" "get"), scope := mScope pw "Headers" "get", globals := 3, closure := [], defaults := Value.ref 216, kwdefaults := Value.none, pyModule := Value.str (Str.ofString "cpy313.wsgiref.headers") 435, code := Value.ref 222 } }),
  (272, { cls := Value.type "code", data := Data.fields #[Value.str (Str.ofString "add_header") 676, Value.str (Str.ofString "Headers.add_header") 677, Value.str (Str.ofString "/claim/cut.py") 678, Value.int 181 0, Value.int 3 0, Value.int 0 0, Value.int 0 0, Value.int 11 0, Value.ref 267, Value.bool true, Value.int 276 0, Value.ref 268, Value.none, Value.ref 269, Value.ref 270, Value.ref 271, Value.int 686 0, Value.int 181 0, Value.str (Str.ofString "/claim/cut.py") 687] }),
  (273, { cls := Value.type "function", data := Data.func { name := Str.ofString "add_header", qualname := Str.ofString "Headers.add_header", params := mArgs pw "Headers" "add_header", body := .stmts (mBody pw "Headers" "add_header"), scope := mScope pw "Headers" "add_header", globals := 3, closure := [], defaults := Value.none, kwdefaults := Value.none, pyModule := Value.str (Str.ofString "cpy313.wsgiref.headers") 435, code := Value.ref 272 } }),
  (275, { cls := Value.type "dict", data := Data.dict #[{ hash := PyData.keyHash P (Str.ofString "__module__"), key := Value.str (Str.ofString "__module__") 548, val := Value.str (Str.ofString "cpy313.wsgiref.headers") 435 }, { hash := PyData.keyHash P (Str.ofString "__firstlineno__"), key := Value.str (Str.ofString "__firstlineno__") 552, val := Value.int 112 551 }, { hash := PyData.keyHash P (Str.ofString "__init__"), key := Value.str (Str.ofString "__init__") 562, val := Value.ref 170 }, { hash := PyData.keyHash P (Str.ofString "_convert_string_type"), key := Value.str (Str.ofString "_convert_string_type") 572, val := Value.ref 177 }, { hash := PyData.keyHash P (Str.ofString "__len__"), key := Value.str (Str.ofString "__len__") 579, val := Value.ref 184 }, { hash := PyData.keyHash P (Str.ofString "__setitem__"), key := Value.str (Str.ofString "__setitem__") 588, val := Value.ref 191 }, { hash := PyData.keyHash P (Str.ofString "__delitem__"), key := Value.str (Str.ofString "__delitem__") 594, val := Value.ref 196 }, { hash := PyData.keyHash P (Str.ofString "__getitem__"), key := Value.str (Str.ofString "__getitem__") 602, val := Value.ref 203 }, { hash := PyData.keyHash P (Str.ofString "__contains__"), key := Value.str (Str.ofString "__contains__") 610, val := Value.ref 210 }, { hash := PyData.keyHash P (Str.ofString "get_all"), key := Value.str (Str.ofString "get_all") 616, val := Value.ref 215 }, { hash := PyData.keyHash P (Str.ofString "get"), key := Value.str (Str.ofString "get") 627, val := Value.ref 223 }, { hash := PyData.keyHash P (Str.ofString "keys"), key := Value.str (Str.ofString "keys") 633, val := Value.ref 228 }, { hash := PyData.keyHash P (Str.ofString "values"), key := Value.str (Str.ofString "values") 639, val := Value.ref 233 }, { hash := PyData.keyHash P (Str.ofString "items"), key := Value.str (Str.ofString "items") 646, val := Value.ref 240 }, { hash := PyData.keyHash P (Str.ofString "__repr__"), key := Value.str (Str.ofString "__repr__") 653, val := Value.ref 247 }, { hash := PyData.keyHash P (Str.ofString "__str__"), key := Value.str (Str.ofString "__str__") 659, val := Value.ref 252 }, { hash := PyData.keyHash P (Str.ofString "__bytes__"), key := Value.str (Str.ofString "__bytes__") 666, val := Value.ref 259 }, { hash := PyData.keyHash P (Str.ofString "setdefault"), key := Value.str (Str.ofString "setdefault") 675, val := Value.ref 266 }, { hash := PyData.keyHash P (Str.ofString "add_header"), key := Value.str (Str.ofString "add_header") 688, val := Value.ref 273 }, { hash := PyData.keyHash P (Str.ofString "__static_attributes__"), key := Value.str (Str.ofString "__static_attributes__") 690, val := Value.ref 274 }, { hash := PyData.keyHash P (Str.ofString "__dict__"), key := Value.str (Str.ofString "__dict__") 692, val := Value.ref 277 }, { hash := PyData.keyHash P (Str.ofString "__weakref__"), key := Value.str (Str.ofString "__weakref__") 694, val := Value.ref 278 }, { hash := PyData.keyHash P (Str.ofString "__doc__"), key := Value.str (Str.ofString "__doc__") 695, val := Value.none }] 4 }),
  (276, { cls := Value.type "type", data := Data.cls { name := Str.ofString "Headers", bases := [Value.type "object"], mro := [Value.ref 276, Value.type "object"], ns := 275, qualname := Str.ofString "Headers" }, slots := #[none, none, some (Value.str (Str.ofString "Headers") 541), some (Value.str (Str.ofString "Headers") 549), some (Value.builtin "object.__new__"), some (Value.bool true)] }),
  (286, { cls := Value.type "code", data := Data.fields #[Value.str (Str.ofString "_law_lines") 700, Value.str (Str.ofString "_law_lines") 701, Value.str (Str.ofString "/claim/cut.py") 702, Value.int 195 0, Value.int 1 0, Value.int 0 0, Value.int 0 0, Value.int 3 0, Value.ref 281, Value.bool true, Value.int 276 0, Value.ref 282, Value.none, Value.ref 283, Value.ref 284, Value.ref 285, Value.int 708 0, Value.int 195 0, Value.str (Str.ofString "/claim/cut.py") 709] }),
  (287, { cls := Value.type "function", data := Data.func { name := Str.ofString "_law_lines", qualname := Str.ofString "_law_lines", params := defArgs pw "_law_lines", body := .stmts (defBody pw "_law_lines"), scope := defScope pw "_law_lines", globals := 3, closure := [], defaults := Value.none, kwdefaults := Value.none, pyModule := Value.str (Str.ofString "law_pg0319_01") 698, code := Value.ref 286 } }),
  (291, { cls := Value.type "code", data := Data.fields #[Value.str (Str.ofString "_law_right_behind") 711, Value.str (Str.ofString "_law_right_behind") 712, Value.str (Str.ofString "/claim/cut.py") 713, Value.int 202 0, Value.int 1 0, Value.int 0 0, Value.int 0 0, Value.int 3 0, Value.ref 288, Value.bool true, Value.int 276 0, Value.ref 289, Value.none, Value.none, Value.none, Value.ref 290, Value.int 714 0, Value.int 202 0, Value.str (Str.ofString "/claim/cut.py") 715] }),
  (292, { cls := Value.type "function", data := Data.func { name := Str.ofString "_law_right_behind", qualname := Str.ofString "_law_right_behind", params := defArgs pw "_law_right_behind", body := .stmts (defBody pw "_law_right_behind"), scope := defScope pw "_law_right_behind", globals := 3, closure := [], defaults := Value.none, kwdefaults := Value.none, pyModule := Value.str (Str.ofString "law_pg0319_01") 698, code := Value.ref 291 } }),
  (296, { cls := Value.type "code", data := Data.fields #[Value.str (Str.ofString "_law_numbers") 717, Value.str (Str.ofString "_law_numbers") 718, Value.str (Str.ofString "/claim/cut.py") 719, Value.int 213 0, Value.int 1 0, Value.int 0 0, Value.int 0 0, Value.int 3 0, Value.ref 293, Value.bool true, Value.int 276 0, Value.ref 294, Value.none, Value.none, Value.none, Value.ref 295, Value.int 720 0, Value.int 213 0, Value.str (Str.ofString "/claim/cut.py") 721] }),
  (297, { cls := Value.type "function", data := Data.func { name := Str.ofString "_law_numbers", qualname := Str.ofString "_law_numbers", params := defArgs pw "_law_numbers", body := .stmts (defBody pw "_law_numbers"), scope := defScope pw "_law_numbers", globals := 3, closure := [], defaults := Value.none, kwdefaults := Value.none, pyModule := Value.str (Str.ofString "law_pg0319_01") 698, code := Value.ref 296 } }),
  (301, { cls := Value.type "code", data := Data.fields #[Value.str (Str.ofString "_law_two_hands") 723, Value.str (Str.ofString "_law_two_hands") 724, Value.str (Str.ofString "/claim/cut.py") 725, Value.int 228 0, Value.int 3 0, Value.int 0 0, Value.int 0 0, Value.int 3 0, Value.ref 298, Value.bool true, Value.int 276 0, Value.ref 299, Value.none, Value.none, Value.none, Value.ref 300, Value.int 726 0, Value.int 228 0, Value.str (Str.ofString "/claim/cut.py") 727] }),
  (302, { cls := Value.type "function", data := Data.func { name := Str.ofString "_law_two_hands", qualname := Str.ofString "_law_two_hands", params := defArgs pw "_law_two_hands", body := .stmts (defBody pw "_law_two_hands"), scope := defScope pw "_law_two_hands", globals := 3, closure := [], defaults := Value.none, kwdefaults := Value.none, pyModule := Value.str (Str.ofString "law_pg0319_01") 698, code := Value.ref 301 } }),
  (308, { cls := Value.type "code", data := Data.fields #[Value.str (Str.ofString "_law_columns") 729, Value.str (Str.ofString "_law_columns") 730, Value.str (Str.ofString "/claim/cut.py") 731, Value.int 250 0, Value.int 1 0, Value.int 0 0, Value.int 0 0, Value.int 3 0, Value.ref 303, Value.bool true, Value.int 276 0, Value.ref 304, Value.none, Value.ref 305, Value.ref 306, Value.ref 307, Value.int 737 0, Value.int 250 0, Value.str (Str.ofString "/claim/cut.py") 738] }),
  (309, { cls := Value.type "function", data := Data.func { name := Str.ofString "_law_columns", qualname := Str.ofString "_law_columns", params := defArgs pw "_law_columns", body := .stmts (defBody pw "_law_columns"), scope := defScope pw "_law_columns", globals := 3, closure := [], defaults := Value.none, kwdefaults := Value.none, pyModule := Value.str (Str.ofString "law_pg0319_01") 698, code := Value.ref 308 } }),
  (313, { cls := Value.type "code", data := Data.fields #[Value.str (Str.ofString "_law_left") 740, Value.str (Str.ofString "_law_left") 741, Value.str (Str.ofString "/claim/cut.py") 742, Value.int 258 0, Value.int 1 0, Value.int 0 0, Value.int 0 0, Value.int 3 0, Value.ref 310, Value.bool true, Value.int 276 0, Value.ref 311, Value.none, Value.none, Value.none, Value.ref 312, Value.int 743 0, Value.int 258 0, Value.str (Str.ofString "/claim/cut.py") 744] }),
  (314, { cls := Value.type "function", data := Data.func { name := Str.ofString "_law_left", qualname := Str.ofString "_law_left", params := defArgs pw "_law_left", body := .stmts (defBody pw "_law_left"), scope := defScope pw "_law_left", globals := 3, closure := [], defaults := Value.none, kwdefaults := Value.none, pyModule := Value.str (Str.ofString "law_pg0319_01") 698, code := Value.ref 313 } }),
  (320, { cls := Value.type "code", data := Data.fields #[Value.str (Str.ofString "_law_most_pairs") 746, Value.str (Str.ofString "_law_most_pairs") 747, Value.str (Str.ofString "/claim/cut.py") 748, Value.int 261 0, Value.int 2 0, Value.int 0 0, Value.int 0 0, Value.int 3 0, Value.ref 315, Value.bool true, Value.int 276 0, Value.ref 316, Value.none, Value.ref 317, Value.ref 318, Value.ref 319, Value.int 753 0, Value.int 261 0, Value.str (Str.ofString "/claim/cut.py") 754] }),
  (321, { cls := Value.type "function", data := Data.func { name := Str.ofString "_law_most_pairs", qualname := Str.ofString "_law_most_pairs", params := defArgs pw "_law_most_pairs", body := .stmts (defBody pw "_law_most_pairs"), scope := defScope pw "_law_most_pairs", globals := 3, closure := [], defaults := Value.none, kwdefaults := Value.none, pyModule := Value.str (Str.ofString "law_pg0319_01") 698, code := Value.ref 320 } }),
  (325, { cls := Value.type "code", data := Data.fields #[Value.str (Str.ofString "_law_kept") 756, Value.str (Str.ofString "_law_kept") 757, Value.str (Str.ofString "/claim/cut.py") 758, Value.int 269 0, Value.int 3 0, Value.int 0 0, Value.int 0 0, Value.int 3 0, Value.ref 322, Value.bool true, Value.int 276 0, Value.ref 323, Value.none, Value.none, Value.none, Value.ref 324, Value.int 759 0, Value.int 269 0, Value.str (Str.ofString "/claim/cut.py") 760] }),
  (326, { cls := Value.type "function", data := Data.func { name := Str.ofString "_law_kept", qualname := Str.ofString "_law_kept", params := defArgs pw "_law_kept", body := .stmts (defBody pw "_law_kept"), scope := defScope pw "_law_kept", globals := 3, closure := [], defaults := Value.none, kwdefaults := Value.none, pyModule := Value.str (Str.ofString "law_pg0319_01") 698, code := Value.ref 325 } }),
  (332, { cls := Value.type "code", data := Data.fields #[Value.str (Str.ofString "law") 762, Value.str (Str.ofString "law") 763, Value.str (Str.ofString "/claim/cut.py") 764, Value.int 282 0, Value.int 1 0, Value.int 0 0, Value.int 0 0, Value.int 3 0, Value.ref 327, Value.bool true, Value.int 276 0, Value.ref 328, Value.none, Value.ref 329, Value.ref 330, Value.ref 331, Value.int 770 0, Value.int 282 0, Value.str (Str.ofString "/claim/cut.py") 771] }),
  (333, { cls := Value.type "function", data := Data.func { name := Str.ofString "law", qualname := Str.ofString "law", params := defArgs pw "law", body := .stmts (defBody pw "law"), scope := defScope pw "law", globals := 3, closure := [], defaults := Value.none, kwdefaults := Value.none, pyModule := Value.str (Str.ofString "law_pg0319_01") 698, code := Value.ref 332 } })]
noncomputable def KKas : List Addr := [2, 3, 44, 45, 51, 52, 58, 59, 65, 66, 82, 83, 89, 90, 96, 97, 117, 118, 127, 128, 136, 137, 141, 142, 146, 147, 163, 169, 170, 176, 177, 183, 184, 214, 215, 216, 222, 223, 272, 273, 275, 276, 286, 287, 291, 292, 296, 297, 301, 302, 308, 309, 313, 314, 320, 321, 325, 326, 332, 333]

noncomputable def keep1 : List Nat := [0, 1, 2, 3, 4, 5, 6, 7, 9, 14, 15, 16, 17, 18, 19, 20, 21, 22, 23, 24]
noncomputable def loose1 : List PySem.Str := ["Whitespace", "tspecials", "_name_disallowed_re", "_value_disallowed_re", "_formatparam"]
noncomputable abbrev q1 : Program := PySem.W.view PySem.Challenge.pw_pg0319_01 keep1
noncomputable abbrev hook1 : Hook := kHook KK KKas (fun _ => rfl)
noncomputable abbrev Seen1 (w : World) : Prop := (openEnds treeTable pw w 3986).map (fun s => (openSeen q1 loose1 (importedModules pw.main.body) (fun s => xlAt q1 [] s && recOk [] s) true s, hook1.obs s)) = some (openGood q1 loose1, hook1.val w)
noncomputable abbrev SeenT (w : World) : Prop := (openEndsT treeTable pw w 3986).map (fun s => (openSeen q1 loose1 (importedModules pw.main.body) (fun s => xlAt q1 [] s && recOk [] s) true s, hook1.obs s)) = some (openGood q1 loose1, hook1.val w)
theorem left_f : ∀ w : World, SeenT (w.withFollow "special-get-raises" false) := fun w => by kernel_rfl
theorem left_t : ∀ w : World, SeenT (w.withFollow "special-get-raises" true) := fun w => by kernel_rfl
theorem left1 : LeftO pw q1 loose1 (fun s => xlAt q1 [] s && recOk [] s) hook1.obs hook1.val 3986 := byRow2 "special-get-raises" (P := Seen1) (fun w => ends_ofT (left_f w)) fun w => ends_ofT (left_t w)
end Mine
end

section
open PySem PySem.Calls PyProof.Rows PySem.W
set_option maxRecDepth 100000
set_option linter.unusedVariables false
namespace Mine
noncomputable def iTest (b : List Stmt) (i : Nat) : Expr := match b[i]? with
  | some (.If t _ _ _) => t
  | _ => default
noncomputable def fIter (b : List Stmt) (i : Nat) : Expr := match b[i]? with
  | some (.For _ t _ _ _) => t
  | _ => default
variable {c : Cx} {n : Nat}
theorem CallR.lenT {xs : List D} (hl : xs.length ≤ 100000) : CallR c (.builtin "len") [.tup xs] (.int xs.length) := fun A F s vs R hb l r => by
  obtain ⟨v, rfl, q⟩ := r.one
  obtain ⟨a, o, its, k, rfl, e1, e2, e3, q⟩ := q.tup l
  have e : its.size = xs.length := by rw [← Array.length_toList]; exact q.length
  exact PyProof.Rows.len_tuple ⟨o, e1, e2, k, e3⟩ (by rw [e]; omega) (by rw [e]; exact .flat l (.int _ _))
/-- what a Whitespace's fields are bound by -/
structure WsOk (w : WS) : Prop where
  len : w.count.length ≤ 500
  b : w.b ≤ 500
noncomputable def lrOf (w : WS) : Int := if (w.b : Int) > (w.count.length : Int) - 1 then w.b else (w.count.length : Int) - 1
structure Blt (c : Cx) : Prop where
  len : Glb c "len" (.builtin "len")
  max : Glb c "max" (.builtin "max")
  min : Glb c "min" (.builtin "min")
  range : Glb c "range" (.type "range")
  tuple : Glb c "tuple" (.type "tuple")
  int : Glb c "int" (.type "int")
  str : Glb c "str" (.type "str")
  sorted : Glb c "sorted" (.builtin "sorted")
theorem lr_fn {C fa : Addr} {s : Str} {w : WS} (hc : c.Ok) (K : WsK c C) (B : Blt c) (ok : WsOk w) (hf : IsFn c (.ref fa) ["self"] (mBody pw "Whitespace" "longest_run_of_spaces") (mScope pw "Whitespace" "longest_run_of_spaces")) : FnP c 1 (.ref fa) [.inst C (wsF s w)] (.int (lrOf w)) := by
  have h1 := ok.len
  refine FnP_intro (fl := .ret (.int (lrOf w))) (ρ' := [("self", .val (.inst C (wsF s w))), ("count", .val (.tup (w.count.map dN))), ("trailing", .val (.int w.b))]) hc hf (by decide) rfl ⟨nofun, nofun⟩ ?_
  refine Ex_cons (ExS_assignTup (Ev_attr hc K.cls K.norm (Ev_name rfl rfl) rfl) (.cons (AsgT_name rfl (by decide)) (.cons (AsgT_name rfl (by decide)) .nil))) ?_
  refine Ex_stop (ExS_return ((Ev_callB hc B.max rfl nofun (EvLR_cons (.of (Ev_BinOp (.of (Ev_callB hc B.len rfl nofun (EvLR_cons (EvR_name rfl rfl) EvLR_nil) (CallR.lenT (by simp; omega)))) EvR_int Bin.sub)) (EvLR_cons (EvR_name rfl rfl) EvLR_nil)) CallR.max2).conv ?_))
  rw [List.length_map]; rfl
noncomputable def ilOf (w : WS) (ts : Nat) : Nat := ((List.range (w.count.length - ts)).map fun i => (ts + i) / ts * w.count.getD (ts + i) 0).sum
noncomputable def levelOf (w : WS) (ts : Nat) : Nat := w.b + ts * (ilOf w ts + w.nt)
noncomputable abbrev ilB := mBody pw "Whitespace" "indent_level"
noncomputable abbrev ilS := mScope pw "Whitespace" "indent_level"
noncomputable abbrev ilρ (C : Addr) (s : Str) (w : WS) (ts il : Nat) : Vars := [("self", .val (.inst C (wsF s w))), ("tabsize", .val (.int ts)), ("count", .val (.tup (w.count.map dN))), ("trailing", .val (.int w.b)), ("il", .val (.int il))]
theorem il_loop (C : Addr) (s : Str) (w : WS) (ts : Nat) (hts : 0 < ts) (ht : ts ≤ 1000) (ok : WsOk w) : ∀ (l : List Nat) (il : Nat), (∀ i ∈ l, ts + i < w.count.length) →
    LoopR (Turn c n ilS [] (fTarget ilB 2) (fBody ilB 2)) (l.map fun i => .int ((ts : Int) + (i : Nat))) (ilρ C s w ts il) .next (ilρ C s w ts (il + (l.map fun i => (ts + i) / ts * w.count.getD (ts + i) 0).sum))
  | [], il, _ => .nil
  | i :: r, il, h => by
    have hi := h i (.head _)
    have hl := ok.len
    rw [List.map_cons, List.map_cons, List.sum_cons, ← Nat.add_assoc]
    refine .next ⟨_, AsgT_name rfl (by decide), ?_⟩ (il_loop C s w ts hts ht ok r _ fun j hj => h j (.tail _ hj))
    have e1 : ((ts : Int) + (i : Nat)) = ((ts + i : Nat) : Int) := rfl
    have e2 : ((ts + i : Nat) : Int).fdiv (ts : Int) = (((ts + i) / ts : Nat) : Int) := by
      rw [Int.fdiv_eq_ediv_of_nonneg _ (Int.natCast_nonneg _)]; rfl
    refine (Ex_cons (ExS_assign (d := .int ((il + (ts + i) / ts * w.count.getD (ts + i) 0 : Nat) : Int)) ((Ev_BinOp (EvR_name rfl rfl) (.of (Ev_BinOp (.of (Ev_BinOp (EvR_name rfl rfl) (EvR_name rfl rfl) (Bin.fdiv (by omega) (by omega)))) (.of (Ev_Sub (d := dN (w.count.getD (ts + i) 0)) (EvR_name rfl rfl) (EvR_name rfl rfl) (Itm.tup (by omega) (by rw [e1, Int.toNat_natCast]; exact map_getD _ _ hi) (by omega)))) (Bin.mul ?_))) Bin.add).conv ?_) rfl (by decide)) Ex_nil).less ⟨rfl, rfl, rfl, rfl, rfl, trivial⟩
    · rw [e1, e2, Int.natAbs_natCast]
      exact Nat.lt_of_le_of_lt (Nat.div_le_self _ _) (by omega)
    · rw [e1, e2]; rfl
theorem il_fn {C fa : Addr} {s : Str} {w : WS} {ts : Nat} (hts : 0 < ts) (ht : ts ≤ 1000) (hc : c.Ok) (K : WsK c C) (B : Blt c) (ok : WsOk w) (hf : IsFn c (.ref fa) ["self", "tabsize"] ilB ilS) : FnP c 1 (.ref fa) [.inst C (wsF s w), .int ts] (.int (levelOf w ts)) := by
  have h1 := ok.len
  refine FnP_intro (fl := .ret (.int (levelOf w ts))) (ρ' := ilρ C s w ts (ilOf w ts)) hc hf (by decide) rfl ⟨nofun, nofun⟩ ?_
  refine Ex_cons (ExS_assignTup (Ev_attr hc K.cls K.norm (Ev_name rfl rfl) rfl) (.cons (AsgT_name rfl (by decide)) (.cons (AsgT_name rfl (by decide)) .nil))) ?_
  refine Ex_cons (ExS_assign (d := .int 0) Ev_int rfl (by decide)) ?_
  have hlen : ((w.count.map dN).length : Int) = (w.count.length : Int) := by rw [List.length_map]
  refine Ex_cons (ρ₁ := ilρ C s w ts (ilOf w ts)) (ExS_for (d := .rng ts (w.count.length : Nat)) (xs := (List.range (w.count.length - ts)).map fun i => .int ((ts : Int) + (i : Nat))) ((Ev_callB hc B.range rfl nofun (EvLR_cons (EvR_name rfl rfl) (EvLR_cons (.of (Ev_callB hc B.len rfl nofun (EvLR_cons (EvR_name rfl rfl) EvLR_nil) (CallR.lenT (by simp; omega)))) EvLR_nil)) CallR.range2).conv (by rw [hlen])) ?_ ?_ ?_ (.inl rfl)) ?_
  · show some ((List.range _).map _) = _
    congr 3; omega
  · unfold D.small; simp; omega
  · have := il_loop (c := c) (n := 0) C s w ts hts ht ok (List.range (w.count.length - ts)) 0 (fun i hi => by have := List.mem_range.mp hi; omega)
    rw [Nat.zero_add] at this
    exact this
  · refine Ex_stop (ExS_return ((Ev_BinOp (EvR_name rfl rfl) (.of (Ev_BinOp (EvR_name rfl rfl) (.of (Ev_BinOp (EvR_name rfl rfl) (.of (Ev_attr hc K.cls K.nt (Ev_name rfl rfl) rfl)) Bin.add)) (Bin.mul (by omega)))) Bin.add).conv rfl))
noncomputable def nOf (w v : WS) : Int := (if lrOf v > lrOf w then lrOf v else lrOf w) + 1
noncomputable def lessW (w v : WS) : Bool := if v.n ≤ w.n then false else if (decide (w.count.length ≤ 1) && decide (v.count.length ≤ 1)) = true then decide (w.nt ≤ v.nt) else (List.range (nOf w v + 1 - 2).toNat).all fun i => decide (levelOf w (2 + i) < levelOf v (2 + i))
theorem lr_le {w : WS} (ok : WsOk w) : 0 ≤ lrOf w ∧ lrOf w ≤ 500 := by
  have h1 := ok.len; have h2 := ok.b
  unfold lrOf; split <;> omega
theorem n_le {w v : WS} (ok : WsOk w) (ok' : WsOk v) : 0 ≤ nOf w v ∧ nOf w v ≤ 501 := by
  have h1 := lr_le ok; have h2 := lr_le ok'
  unfold nOf; split <;> omega
/-- the class with its methods -/
structure WsM (c : Cx) (C : Addr) : Prop where
  k : WsK c C
  lr : ∃ f, MethK c C "longest_run_of_spaces" f ∧ IsFn c (.ref f) ["self"] (mBody pw "Whitespace" "longest_run_of_spaces") (mScope pw "Whitespace" "longest_run_of_spaces")
  il : ∃ f, MethK c C "indent_level" f ∧ IsFn c (.ref f) ["self", "tabsize"] ilB ilS
  ls : ∃ f, MethK c C "less" f ∧ IsFn c (.ref f) ["self", "other"] (mBody pw "Whitespace" "less") (mScope pw "Whitespace" "less")
  init : ∃ f fd, NewK c C f ∧ DefAt c f fd wB wS ∧ ∀ v0 (vs : List Value), vs.length = 1 → ∀ s : Shared, Fle c.hB.get? s.heap.get? → BindsTo s fd ⟨v0 :: vs, []⟩ (("self", v0) :: (["ws"] : List Str).zip vs)
noncomputable abbrev lsB := mBody pw "Whitespace" "less"
noncomputable abbrev lsS := mScope pw "Whitespace" "less"
theorem ls_loop {C : Addr} {s s' : Str} {w v : WS} (hc : c.Ok) (M : WsM c C) (B : Blt c) (ok : WsOk w) (ok' : WsOk v) {x : D} : ∀ (l : List Nat), (∀ i ∈ l, 2 + i ≤ 1000) →
    ∃ ρ', LoopR (Turn c 1 lsS [] (fTarget lsB 3) (fBody lsB 3)) (l.map fun i => .int ((2 : Int) + (i : Nat))) [("self", .val (.inst C (wsF s w))), ("other", .val (.inst C (wsF s' v))), ("n", .val x)]
      (if (l.all fun i => decide (levelOf w (2 + i) < levelOf v (2 + i))) = true then .next else .ret (.bool false)) ρ' ∧ VSub ρ' []
  | [], _ => ⟨_, .nil, trivial⟩
  | i :: r, h => by
    have hi := h i (.head _)
    obtain ⟨f, hM, hf⟩ := M.il
    have e1 : (2 : Int) + (i : Nat) = ((2 + i : Nat) : Int) := by omega
    have ht : Te c 1 lsS [("self", .val (.inst C (wsF s w))), ("other", .val (.inst C (wsF s' v))), ("n", .val x), ("ts", .val (.int ((2 : Int) + (i : Nat))))] (iTest (fBody lsB 3) 0) (decide (levelOf v (2 + i) ≤ levelOf w (2 + i))) := by
      rw [e1]
      exact Te_Compare (.of (Ev_meth hc hM (Ev_name rfl rfl) rfl (EvL_cons (Ev_name rfl rfl) EvL_nil) (il_fn (by omega) hi hc M.k B ok hf))) (.of (Ev_meth hc hM (Ev_name rfl rfl) rfl (EvL_cons (Ev_name rfl rfl) EvL_nil) (il_fn (by omega) hi hc M.k B ok' hf))) Cmp.geN
    rw [List.all_cons]
    by_cases hlt : levelOf w (2 + i) < levelOf v (2 + i)
    · obtain ⟨ρ', L, z⟩ := ls_loop hc M B ok ok' r fun j hj => h j (.tail _ hj)
      rw [decide_eq_true hlt, Bool.true_and]
      refine ⟨ρ', .next ⟨_, AsgT_name rfl (by decide), ?_⟩ L, z⟩
      exact (Ex_cons (ExS_if (ht.conv (b' := false) (by simp; omega)) (fun e => nomatch e) (fun _ => Ex_nil)) Ex_nil).less ⟨rfl, rfl, rfl, trivial⟩
    · rw [decide_eq_false hlt, Bool.false_and, if_neg (by decide)]
      refine ⟨_, .ret ⟨_, AsgT_name rfl (by decide), Ex_stop (ExS_if (ht.conv (b' := true) (by simp; omega)) (fun _ => Ex_stop (ExS_return Ev_bool)) (fun e => nomatch e))⟩, trivial⟩
theorem ls_fn {C fa : Addr} {s s' : Str} {w v : WS} (hc : c.Ok) (M : WsM c C) (B : Blt c) (ok : WsOk w) (ok' : WsOk v) (hf : IsFn c (.ref fa) ["self", "other"] lsB lsS) : FnP c 2 (.ref fa) [.inst C (wsF s w), .inst C (wsF s' v)] (.bool (lessW w v)) := by
  have b1 := n_le ok ok'
  refine FnP_intro (fl := .ret (.bool (lessW w v))) (ρ' := []) hc hf (by decide) rfl ⟨nofun, nofun⟩ ?_
  unfold lessW
  by_cases h1 : v.n ≤ w.n
  · rw [if_pos h1]
    exact (Ex_stop (ExS_if ((Te_Compare (.of (Ev_attr hc M.k.cls M.k.n (Ev_name rfl rfl) rfl)) (.of (Ev_attr hc M.k.cls M.k.n (Ev_name rfl rfl) rfl)) Cmp.geN).conv (b' := true) (decide_eq_true h1)) (fun _ => Ex_stop (ExS_return Ev_bool)) (fun e => nomatch e))).less trivial
  rw [if_neg h1]
  refine Ex_cons (ExS_if ((Te_Compare (.of (Ev_attr hc M.k.cls M.k.n (Ev_name rfl rfl) rfl)) (.of (Ev_attr hc M.k.cls M.k.n (Ev_name rfl rfl) rfl)) Cmp.geN).conv (b' := false) (decide_eq_false h1)) (fun e => nomatch e) (fun _ => Ex_nil)) ?_
  have hte : Te c 1 lsS [("self", .val (.inst C (wsF s w))), ("other", .val (.inst C (wsF s' v)))] (iTest lsB 1) (decide (w.count.length ≤ 1) && (decide (v.count.length ≤ 1) && true)) :=
    Te_and (Te_plain (.of (Ev_attr hc M.k.cls M.k.simple (Ev_name rfl rfl) rfl)) Tru.bool) fun _ => Te_and (Te_plain (.of (Ev_attr hc M.k.cls M.k.simple (Ev_name rfl rfl) rfl)) Tru.bool) fun _ => Te_and_nil
  rw [Bool.and_true] at hte
  by_cases h2 : (decide (w.count.length ≤ 1) && decide (v.count.length ≤ 1)) = true
  · rw [if_pos h2]
    refine (Ex_stop (ExS_if (hte.conv h2) (fun _ => Ex_stop (ExS_return ((Ev_Compare (.of (Ev_attr hc M.k.cls M.k.nt (Ev_name rfl rfl) rfl)) (.of (Ev_attr hc M.k.cls M.k.nt (Ev_name rfl rfl) rfl)) Cmp.le).conv ?_))) (fun e => nomatch e))).less trivial
    congr 1; exact decide_eq_decide.mpr Int.ofNat_le
  rw [if_neg h2]
  refine Ex_cons (ExS_if (hte.conv (Bool.eq_false_iff.mpr h2)) (fun e => nomatch e) (fun _ => Ex_nil)) ?_
  obtain ⟨f, hM, hfl⟩ := M.lr
  refine Ex_cons (ExS_assign (d := .int (nOf w v)) ((Ev_BinOp (.of (Ev_callB hc B.max rfl nofun (EvLR_cons (.of (Ev_meth hc hM (Ev_name rfl rfl) rfl EvL_nil (lr_fn hc M.k B ok hfl))) (EvLR_cons (.of (Ev_meth hc hM (Ev_name rfl rfl) rfl EvL_nil (lr_fn hc M.k B ok' hfl))) EvLR_nil)) CallR.max2)) EvR_int Bin.add).conv rfl) rfl (by decide)) ?_
  obtain ⟨ρ', L, z⟩ := ls_loop (s := s) (s' := s') hc M B ok ok' (x := .int (nOf w v)) (List.range (nOf w v + 1 - 2).toNat) (fun i hi => by have := List.mem_range.mp hi; omega)
  have hE : Ev c 1 lsS [("self", .val (.inst C (wsF s w))), ("other", .val (.inst C (wsF s' v))), ("n", .val (.int (nOf w v)))] (fIter lsB 3) (.rng 2 (nOf w v + 1)) :=
    Ev_callB hc B.range rfl nofun (EvLR_cons EvR_int (EvLR_cons (.of (Ev_BinOp (EvR_name rfl rfl) EvR_int Bin.add)) EvLR_nil)) CallR.range2
  have hS : (D.rng 2 (nOf w v + 1)).small = true := by unfold D.small; simp; omega
  by_cases h3 : ((List.range (nOf w v + 1 - 2).toNat).all fun i => decide (levelOf w (2 + i) < levelOf v (2 + i))) = true
  · rw [if_pos h3] at L
    rw [h3]
    exact Ex_cons (ExS_for hE rfl hS L (.inl rfl)) ((Ex_stop (ExS_return Ev_bool)).less trivial)
  · rw [if_neg h3] at L
    rw [Bool.eq_false_iff.mpr h3]
    exact (Ex_stop (ExS_for hE rfl hS L (.inl rfl))).less z
end Mine
end

section
open PySem PySem.Calls PyProof.Rows PySem.W
set_option maxRecDepth 100000
set_option linter.unusedVariables false
namespace Mine
noncomputable def iThen (b : List Stmt) (i : Nat) : List Stmt := match b[i]? with
  | some (.If _ t _ _) => t
  | _ => []
variable {c : Cx} {n : Nat}
noncomputable abbrev hdB (f : Str) := mBody pw "Headers" f
noncomputable abbrev hdS (f : Str) := mScope pw "Headers" f
/-- the class Headers as it stands -/
structure HdK (c : Cx) (C : Addr) (nc vc : Array Nat) : Prop where
  cls : ClsK c C
  hd : findIn c.K (.ref C) "_headers" = some none
  glb : Glb c "Headers" (.ref C)
  type : Glb c "type" (.type "type")
  list : Glb c "list" (.type "list")
  str : Glb c "str" (.type "str")
  len : Glb c "len" (.builtin "len")
  nre : ∃ P, Glb c "_name_disallowed_re" (.ref P) ∧ PatAt c.hB P nc
  vre : ∃ P, Glb c "_value_disallowed_re" (.ref P) ∧ PatAt c.hB P vc
  conv : ∃ f fd, MethK c C "_convert_string_type" f ∧ DefAt c f fd (hdB "_convert_string_type") (hdS "_convert_string_type") ∧ ∀ v0 v b (s : Shared), Fle c.hB.get? s.heap.get? → BindsTo s fd ⟨[v0, v], [("name", .bool b)]⟩ [("self", v0), ("value", v), ("name", .bool b)]
  add : ∃ f fd, MethK c C "add_header" f ∧ DefAt c f fd (hdB "add_header") (hdS "add_header") ∧ ∀ v0 v1 v2 (s : Shared) (A : Around) (E : Value → Shared → Prop) (Q : List (Str × Value) → Shared → Prop), Fle c.hB.get? s.heap.get? →
    Q [("self", v0), ("_name", v1), ("_value", v2), ("_params", .ref s.heap.objs.size)] { s with heap := s.heap.push emptyDict } → wpAny (model c.prog c.w) A (bindArgs fd ⟨[v0, v1, v2], []⟩) Q E s
  getall : ∃ f fd, MethK c C "get_all" f ∧ DefAt c f fd (hdB "get_all") (hdS "get_all") ∧ ∀ v0 v (s : Shared), Fle c.hB.get? s.heap.get? → BindsTo s fd ⟨[v0, v], []⟩ [("self", v0), ("name", v)]
  get : ∃ f fd, MethK c C "get" f ∧ DefAt c f fd (hdB "get") (hdS "get") ∧ ∀ v0 v (s : Shared), Fle c.hB.get? s.heap.get? → BindsTo s fd ⟨[v0, v], []⟩ [("self", v0), ("name", v), ("default", .none)]
  lens : ∃ f fd, MethK c C "__len__" f ∧ DefAt c f fd (hdB "__len__") (hdS "__len__") ∧ ∀ v0 (s : Shared), Fle c.hB.get? s.heap.get? → BindsTo s fd ⟨[v0], []⟩ [("self", v0)]
  init : ∃ f fd, NewK c C f ∧ DefAt c f fd (hdB "__init__") (hdS "__init__") ∧ ∀ v0 (s : Shared), Fle c.hB.get? s.heap.get? → BindsTo s fd ⟨[v0], []⟩ [("self", v0), ("headers", .none)]
variable {C : Addr} {nc vc : Array Nat}
theorem patAt_get {h : Heap} {P : Addr} {code : Array Nat} (x : PatAt h P code) : ∃ o, h.get? P = some o := let ⟨o, _, _, _, _, _, e, _⟩ := x.ex; ⟨o, e⟩

theorem conv_fn {f : Addr} {fd : FuncData} {b : Bool} {x : Str} (hc : c.Ok) (H : HdK c C nc vc) (D0 : DefAt c f fd (hdB "_convert_string_type") (hdS "_convert_string_type")) (hb : ∀ v0 v b (s : Shared), Fle c.hB.get? s.heap.get? → BindsTo s fd ⟨[v0, v], [("name", .bool b)]⟩ [("self", v0), ("value", v), ("name", .bool b)])
    (hm : missB (if b then nc else vc) x = true) (hz : x.cps.size ≤ 1000) : FnK c 1 (.ref f) [("name", .bool b)] [.str x] (.str x) := fun A F s v0 vs R hB l r => by
  obtain ⟨v, rfl⟩ : ∃ v, vs = [v] := by cases r with | cons a r => cases r; exact ⟨_, rfl⟩
  have rv : Rd F (.str x) v := by cases r with | cons a r => exact a
  obtain ⟨P1, g1, p1⟩ := H.nre
  obtain ⟨P2, g2, p2⟩ := H.vre
  obtain ⟨o1, q1⟩ := patAt_get p1
  obtain ⟨o2, q2⟩ := patAt_get p2
  refine Ret.wp (codeRet_mono (run_val (n := 0) (fl := .ret (.str x)) (args := ⟨[v0, v], [("name", .bool b)]⟩) (binds := [("self", v0), ("value", v), ("name", .bool b)]) (ρ0 := [("value", .val (.str x)), ("name", .val (.bool b))]) (ρ' := []) hc D0 (by show scOk (hdS "_convert_string_type") (["self", "value", "name"] : List Str) = true; decide) R hB l (fun A' E Q q => hb v0 v b s (hB.trans l) _ _ _ _ q) (fun y sl e => ?_) ⟨nofun, nofun⟩ ?_) fun _ _ q => q.1)
  · rw [List.lookup_cons] at e
    by_cases h1 : y = "value"
    · subst h1; simp at e; subst e; exact ⟨v, rfl, .val rv⟩
    · have e1 : (y == ("value" : Str)) = false := by simpa using h1
      rw [e1, List.lookup_cons] at e
      by_cases h2 : y = "name"
      · subst h2; simp at e; subst e; exact ⟨.bool b, rfl, .val (.bool b)⟩
      · have e2 : (y == ("name" : Str)) = false := by simpa using h2
        rw [e2] at e; cases e
  · refine Ex_stop (ExS_if ((Te_is (EvV_type hc H.type rfl (EvR_name rfl rfl) rfl) (EvV_glob hc H.str rfl) rfl).conv (b' := true) (by decide)) (fun _ => ?_) (fun e => nomatch e))
    have key : ∀ P code, PatAt c.hB P code → missB code x = true → Ex c 0 (hdS "_convert_string_type") [] [("value", .val (.str x)), ("name", .val (.bool b)), ("regex", .val (.opq P))] ((iThen (hdB "_convert_string_type") 0).drop 1) (.ret (.str x)) [("value", .val (.str x)), ("name", .val (.bool b)), ("regex", .val (.opq P))] := fun P code hp hm =>
      Ex_cons (ExS_if (Te_plain (.of (Ev_search hc (EvV_opq rfl rfl) hp (Ev_name rfl rfl) hm hz)) Tru.none) (fun e => nomatch e) (fun _ => Ex_nil)) (Ex_stop (ExS_return (Ev_name rfl rfl)))
    cases b with
    | true => exact (Ex_cons (ExS_assign (d := .opq P1) (Ev_IfExp (x := true) (Te_plain (EvR_name rfl rfl) Tru.bool) (fun _ => Ev_opq hc g1 rfl q1) (fun e => nomatch e)) rfl (by decide)) (key P1 nc p1 hm)).less trivial
    | false => exact (Ex_cons (ExS_assign (d := .opq P2) (Ev_IfExp (x := false) (Te_plain (EvR_name rfl rfl) Tru.bool) (fun e => nomatch e) (fun _ => Ev_opq hc g2 rfl q2)) rfl (by decide)) (key P2 vc p2 hm)).less trivial
theorem lookup_or {β : Type} {x y : Str} {v w : β} {r : List (Str × β)} (h : List.lookup y ((x, v) :: r) = some w) : (y = x ∧ w = v) ∨ r.lookup y = some w := by
  rw [List.lookup_cons] at h
  by_cases q : y = x
  · subst q; simp at h; exact .inl ⟨rfl, h.symm⟩
  · rw [show (y == x) = false by simpa using q] at h; exact .inr h
theorem look4 {β : Type} {a b c d : Str} {s1 s2 s3 s4 : β} {P : Str → β → Prop} (h1 : P a s1) (h2 : P b s2) (h3 : P c s3) (h4 : P d s4) (y : Str) (sl : β) (e : List.lookup y [(a, s1), (b, s2), (c, s3), (d, s4)] = some sl) : P y sl := by
  rcases lookup_or e with ⟨rfl, rfl⟩ | e
  · exact h1
  rcases lookup_or e with ⟨rfl, rfl⟩ | e
  · exact h2
  rcases lookup_or e with ⟨rfl, rfl⟩ | e
  · exact h3
  rcases lookup_or e with ⟨rfl, rfl⟩ | e
  · exact h4
  cases e
noncomputable def addFp (l a : Addr) (y : Str) : List Addr := if y = "self" then [l] else if y = "_params" then [a] else []
theorem addFp_mem {l a b : Addr} {y : Str} (h : b ∈ addFp l a y) : (y = "self" ∧ b = l) ∨ (y = "_params" ∧ b = a) := by
  unfold addFp at h
  by_cases h1 : y = "self"
  · rw [if_pos h1] at h; exact .inl ⟨h1, List.mem_singleton.mp h⟩
  · rw [if_neg h1] at h
    by_cases h2 : y = "_params"
    · rw [if_pos h2] at h; exact .inr ⟨h2, List.mem_singleton.mp h⟩
    · rw [if_neg h2] at h; cases h
theorem addFp_nodup {l a : Addr} {y : Str} : (addFp l a y).Nodup := by
  unfold addFp
  split
  · simp
  · split <;> simp
theorem addFp_apart {l a : Addr} (h : l < a) {y z : Str} (hyz : y ≠ z) {b : Addr} (hb : b ∈ addFp l a y) : b ∉ addFp l a z := fun hb' => by
  rcases addFp_mem hb with ⟨h1, h2⟩ | ⟨h1, h2⟩ <;> rcases addFp_mem hb' with ⟨h3, h4⟩ | ⟨h3, h4⟩
  · exact hyz (h1.trans h3.symm)
  · exact Nat.ne_of_lt h (h2.symm.trans h4)
  · exact Nat.ne_of_lt h (h4.symm.trans h2)
  · exact hyz (h1.trans h3.symm)
noncomputable abbrev addR (C : Addr) (xs : List D) (k v : Str) : Vars := [("self", .hdr C xs), ("_name", .val (.str k)), ("_value", .val (.str v)), ("_params", .dict [])]
theorem addR_own {C l a : Addr} {xs : List D} {k v : Str} (b : Addr) : (∃ y sl, (addR C xs k v).lookup y = some sl ∧ b ∈ addFp l a y) ↔ (b = l ∨ b = a) := by
  constructor
  · rintro ⟨y, sl, e, q⟩
    exact (addFp_mem q).imp (·.2) (·.2)
  · rintro (q | q)
    · exact ⟨"self", .hdr C xs, rfl, by rw [q]; exact List.mem_singleton.mpr rfl⟩
    · exact ⟨"_params", .dict [], rfl, by rw [q]; exact List.mem_singleton.mpr rfl⟩
theorem add_fn {f : Addr} {fd : FuncData} {k v : Str} {xs : List D} (hc : c.Ok) (H : HdK c C nc vc) (D0 : DefAt c f fd (hdB "add_header") (hdS "add_header")) (hb : ∀ v0 v1 v2 (s : Shared) (A : Around) (E : Value → Shared → Prop) (Q : List (Str × Value) → Shared → Prop), Fle c.hB.get? s.heap.get? →
    Q [("self", v0), ("_name", v1), ("_value", v2), ("_params", .ref s.heap.objs.size)] { s with heap := s.heap.push emptyDict } → wpAny (model c.prog c.w) A (bindArgs fd ⟨[v0, v1, v2], []⟩) Q E s)
    (hk : missB nc k = true) (hv : missB vc v = true) (zk : k.cps.size ≤ 1000) (zv : v.cps.size ≤ 1000) (zx : xs.length ≤ 1000) : FnH c 2 (.ref f) C xs [.str k, .str v] (xs ++ [.tup [.str k, .str v]]) := fun A F s x l vs R hBF l0 O hFl r => by
  obtain ⟨v1, v2, rfl⟩ : ∃ v1 v2, vs = [v1, v2] := by cases r with | cons a r => cases r with | cons b r => cases r; exact ⟨_, _, rfl⟩
  have r1 : Rd F (.str k) v1 := by cases r with | cons a r => exact a
  have r2 : Rd F (.str v) v2 := by cases r with | cons a r => cases r with | cons b r => exact b
  have hown := addR_own (C := C) (l := l) (a := s.heap.objs.size) (xs := xs) (k := k) (v := v)
  obtain ⟨fc, fdc, hMc, Dc, hbc⟩ := H.conv
  have hl : l < s.heap.objs.size := O.lt l (.head _)
  have k1 : Fle s.heap.get? (s.heap.push emptyDict).get? := fun b o e => Heap.get?_push_of_some _ e
  have zs : (s.heap.push emptyDict).objs.size = s.heap.objs.size + 1 := Heap.size_push ..
  have hsys : (s.heap.objs.size == sysModules) = false := by
    obtain ⟨mc, hns, _⟩ := hc.top.nolimit.keeps (hBF.trans l0)
    have h2 : 2 < s.heap.objs.size := hns.lt
    exact beq_eq_false_iff_ne.mpr (Nat.ne_of_gt (Nat.lt_of_succ_lt h2))
  refine wpAny_mono (Ret.wp (run_fn (n := 1) (fl := .next) (args := ⟨[.ref x, v1, v2], []⟩) (binds := [("self", .ref x), ("_name", v1), ("_value", v2), ("_params", .ref s.heap.objs.size)]) (s' := { s with heap := s.heap.push emptyDict }) (pins := [("self", .ref x)])
    (ρ0 := addR C xs k v) (ρ' := [("self", .hdr C (xs ++ [.tup [.str k, .str v]]))]) (fp := addFp l s.heap.objs.size)
    hc D0 (by show scOk (hdS "add_header") (["self", "_name", "_value", "_params"] : List Str) = true; decide) R hBF l0 k1 ⟨_, _, rfl⟩ (fun A' E Q q => hb _ _ _ s A' E Q (hBF.trans l0) q)
    (look4 ⟨.ref x, rfl, O.mono (fun b _ => k1 b) (.refl F)⟩ ⟨v1, rfl, .val r1⟩ ⟨v2, rfl, .val r2⟩ ⟨_, rfl, .dict0 (Heap.get?_push_size _ rfl) hsys⟩) (fun q hq => by rw [List.mem_singleton.mp hq]; rfl) (fun y sl e b hb => ?_) (fun y sl e => addFp_nodup) (fun y sl z t e e' hyz b hb => addFp_apart hl hyz hb) ⟨nofun, nofun⟩ ?_))
    (fun v s₂ hp => ?_) fun _ _ x => x
  · rcases (addFp_mem hb) with ⟨_, q⟩ | ⟨_, q⟩
    · rw [q]; exact hFl
    · rw [q]; exact none_of_le l0 (Nat.le_refl _)
  · show Ex c 1 (hdS "add_header") (["self"] : List Str) _ _ _ _
    have cv : FnK c 1 (.ref fc) [("name", .bool false)] [.str v] (.str v) := conv_fn hc H Dc hbc hv zv
    have ck : FnK c 1 (.ref fc) [("name", .bool true)] [.str k] (.str k) := conv_fn hc H Dc hbc hk zk
    refine Ex_cons (ExS_assignNew (EvNew_List EvL_nil (by decide)) rfl (by decide)) ?_
    refine Ex_cons (ρ₁ := [("self", .hdr C xs), ("_name", .val (.str k)), ("_value", .val (.str v)), ("_params", .dict []), ("parts", .lst [.str v])]) (ExS_if (t := true) (Te_Compare (EvR_name rfl rfl) EvR_none Cmp.isNotNone) (fun _ => ?_) (fun e => nomatch e)) ?_
    · refine Ex_cons (ExS_assign (Ev_methK hc hMc (EvI_hdr rfl rfl (by decide)) (Ev_name rfl rfl) cv) rfl (by decide)) ?_
      exact Ex_cons (ExS_exprX (EvX_append rfl rfl (EvX.of (Ev_name rfl rfl)) rfl (by decide))) Ex_nil
    · refine Ex_cons (ExS_forItems0 rfl rfl) ?_
      refine (Ex_cons (ExS_exprX (EvX_hdrAppend hc H.cls H.hd rfl rfl (Ev_Tuple (EvL_cons (Ev_methK hc hMc (EvI_hdr rfl rfl (by decide)) (Ev_name rfl rfl) ck) (EvL_cons (Ev_join1 Ev_str (EvR_own rfl rfl) zv (by decide)) EvL_nil)) (by simp)) (by omega))) Ex_nil).less ⟨rfl, trivial⟩
  · obtain ⟨F', z1, z2, z3, z4, z5, z6, ⟨env, P', S', z7⟩, z8⟩ := hp
    have hv0 : v = .none := by cases z6; rfl
    obtain ⟨vm', fp', S''⟩ := S'
    obtain ⟨a, dx', l', od', es', k', e1, e2, e3, e4, e5, e6, e7, e8, e9⟩ := S''.hdr (x := "self") rfl
    have ha : a = x := by have e := S''.pin ("self", .ref x) (.head _); rw [e1] at e; cases e; rfl
    subst ha
    have hll : l' = l := by
      cases O with
      | hdr a1 a2 a3 a4 a5 a6 a7 =>
        have q1 := z1 _ _ a1
        rw [e3] at q1; cases q1
        have q2 := z1 _ _ a2
        rw [e4] at q2; cases q2
        rw [e5] at a3; cases a3
        rw [e7] at a5; cases a5; rfl
    subst hll
    have hP' : F' l' = none := S''.out l' ((S''.mem l').mpr (.inr ⟨"self", _, rfl, by rw [e2]; exact .head _⟩))
    refine ⟨hv0, F', z1, fun b o e => ?_, fun b o hne e => ?_, S''.le, hP', .hdr e3 e4 e5 e6 e7 e8 e9, z4, Nat.le_trans (by show _ ≤ (s.heap.push _).objs.size; rw [zs]; exact Nat.le_succ _) z5⟩
    · rcases z2 b o e with q | q | q
      · exact .inl q
      · rcases (hown b).mp q with q | q
        · rw [q, hP'] at e; cases e
        · exact .inr (by rw [eqA q]; exact Nat.le_refl _)
      · exact .inr (Nat.le_trans (by show _ ≤ (s.heap.push _).objs.size; rw [zs]; exact Nat.le_succ _) q)
    · exact z3 b o (fun q => (hown b).mp q |>.elim hne fun q => by have := Heap.lt_size e; rw [eqA q] at this; exact Nat.lt_irrefl _ this) (k1 b o e)
end Mine
end

section
open PySem PySem.Calls PyProof.Rows PySem.W
set_option maxRecDepth 100000
set_option linter.unusedVariables false
namespace Mine
noncomputable def sAt (b : List Stmt) (i : Nat) : Stmt := b.getD i default
variable {c : Cx} {n : Nat} {C : Addr} {nc vc : Array Nat}
noncomputable def FreeOk (csc : Scope) (ρ : Vars) : Vars → Prop
  | [] => True
  | (x, s) :: r => csc.names.lookup x = some .free ∧ ρ.lookup x = some s ∧ FreeOk csc ρ r
theorem FreeOk.get {csc : Scope} {ρ : Vars} : ∀ {ρc : Vars}, FreeOk csc ρ ρc → ∀ y sl, ρc.lookup y = some sl → csc.names.lookup y = some .free ∧ ρ.lookup y = some sl
  | [], _, y, sl, e => by cases e
  | (x, s) :: r, h, y, sl, e => by
    rw [List.lookup_cons] at e
    by_cases hy : y = x
    · subst hy; simp only [beq_self_eq_true] at e; cases e; exact ⟨h.1, h.2.1⟩
    · have hb : (y == x) = false := by simpa using hy
      rw [hb] at e; exact FreeOk.get h.2.2 y sl e
theorem compR_of {α : Type} {ts : D → Bool → Prop} {el : D → D → Prop} (f : α → D) (p : α → Bool) (g : α → D) : ∀ (xs : List α), (∀ a ∈ xs, ts (f a) (p a)) → (∀ a ∈ xs, p a = true → el (f a) (g a)) → CompR ts el (xs.map f) ((xs.filter p).map g)
  | [], _, _ => .nil
  | a :: r, h1, h2 => by
    have ih := compR_of f p g r (fun b hb => h1 b (.tail _ hb)) (fun b hb => h2 b (.tail _ hb))
    have t := h1 a (.head _)
    cases hp : p a with
    | true => rw [List.filter_cons, if_pos hp, List.map_cons, List.map_cons]; rw [hp] at t; exact .take t (h2 a (.head _) hp) ih
    | false => rw [List.filter_cons, if_neg (by rw [hp]; decide), List.map_cons]; rw [hp] at t; exact .skip t ih
/-- a table's rows -/
noncomputable abbrev Rows := List (Str × Str)
noncomputable def rowD (kv : Str × Str) : D := .tup [.str kv.1, .str kv.2]
noncomputable def rowsD (hs : Rows) : List D := hs.map rowD
noncomputable def getAllM (hs : Rows) (nm : Str) : List Str := (hs.filter fun kv => Txt.lower kv.1 == Txt.lower nm).map (·.2)
noncomputable abbrev instD (C : Addr) (hs : Rows) : D := .inst C (hdrF (rowsD hs))
noncomputable def cScope (b : List Stmt) (i : Nat) : Scope := match b[i]? with
  | some (.Return (some (.ListComp _ _ s _)) _) => s
  | some (.Assign _ (.ListComp _ _ s _) _) => s
  | _ => default
theorem getall_fn {f : Addr} {fd : FuncData} {nm : Str} {hs : Rows} (hc : c.Ok) (H : HdK c C nc vc) (D0 : DefAt c f fd (hdB "get_all") (hdS "get_all")) (hb : ∀ v0 v (s : Shared), Fle c.hB.get? s.heap.get? → BindsTo s fd ⟨[v0, v], []⟩ [("self", v0), ("name", v)])
    (hm : missB nc (Txt.lower nm) = true) (hz : nm.length ≤ 300) (hlz : (Txt.lower nm).cps.size ≤ 1000) (hn : hs.length ≤ 1000) (hkz : ∀ kv ∈ hs, kv.1.length ≤ 1000) : FnF c 2 (.ref f) [instD C hs, .str nm] (.lst ((getAllM hs nm).map .str)) := fun A F s vs R hBF l r => by
  obtain ⟨v0, v, rfl⟩ : ∃ v0 v, vs = [v0, v] := by cases r with | cons a r => cases r with | cons b r => cases r; exact ⟨_, _, rfl⟩
  obtain ⟨fc, fdc, hMc, Dc, hbc⟩ := H.conv
  have cv : FnK c 1 (.ref fc) [("name", .bool true)] [.str (Txt.lower nm)] (.str (Txt.lower nm)) := conv_fn hc H Dc hbc hm hlz
  refine Ret.wp (codeRet_mono (run_val (n := 1) (fl := .retF (.lst ((getAllM hs nm).map .str))) (args := ⟨[v0, v], []⟩) (binds := [("self", v0), ("name", v)]) (ρ0 := ((["self", "name"] : List Str).zip ([instD C hs, .str nm].map Slot.val))) (ρ' := [("self", .val (instD C hs)), ("name", .val (.str (Txt.lower nm)))]) hc D0 (by show scOk (hdS "get_all") (["self", "name"] : List Str) = true; decide) R hBF l (fun A' E Q q => hb v0 v s (hBF.trans l) _ _ _ _ q) (fun y sl e => zip_own (names := ["self", "name"]) r e) ⟨nofun, nofun⟩ ?_) fun v s' q => ⟨q.1, q.2 _ rfl⟩)
  refine Ex_cons (ExS_assign (Ev_methK hc hMc (EvI_ev (Ev_name rfl rfl) rfl) (Ev_lower (Ev_name rfl rfl) (by omega)) cv) rfl (by decide)) ?_
  refine Ex_stop (ExS_returnNew (EvNew_comp (ρc := [("name", .val (.str (Txt.lower nm)))]) ⟨by decide, FreeOk.get ⟨rfl, rfl, trivial⟩, fun _ _ => rfl, .lst (rowsD hs), rowsD hs, .of (Ev_attr hc H.cls H.hd (Ev_name rfl rfl) rfl), rfl, rfl, by unfold rowsD; rw [List.length_map]; omega, ?_⟩))
  unfold getAllM
  rw [List.map_map]
  refine compR_of rowD (fun kv => Txt.lower kv.1 == Txt.lower nm) (fun kv => .str kv.2) hs (fun kv hkv => ?_) (fun kv hkv _ => ?_)
  · exact .one (Te_Compare (.of (Ev_lower (Ev_Sub (EvR_name rfl rfl) EvR_int (Itm.tup (i := 0) (by decide) rfl (by decide))) (hkz kv hkv))) (EvR_name rfl rfl) Cmp.eqS)
  · exact Ev_Sub (EvR_name rfl rfl) EvR_int (Itm.tup (i := 1) (by decide) rfl (by decide))
noncomputable def getM (hs : Rows) (nm : Str) : Option Str := (hs.find? fun kv => Txt.lower kv.1 == Txt.lower nm).map (·.2)
noncomputable def optD : Option Str → D
  | some v => .str v
  | none => .none
noncomputable abbrev getρ (C : Addr) (hs : Rows) (nm : Str) : Vars := [("self", .val (instD C hs)), ("name", .val (.str (Txt.lower nm))), ("default", .val .none)]
theorem get_loop (C : Addr) (hs0 : Rows) (nm : Str) : ∀ (hs : Rows), (∀ kv ∈ hs, kv.1.length ≤ 1000) →
    LoopR (Turn c n (hdS "get") [] (fTarget (hdB "get") 1) (fBody (hdB "get") 1)) (rowsD hs) (getρ C hs0 nm) (match getM hs nm with | some v => .ret (.str v) | none => .next) (getρ C hs0 nm)
  | [], _ => .nil
  | kv :: r, hz => by
    have ht : Te c n (hdS "get") [("self", .val (instD C hs0)), ("name", .val (.str (Txt.lower nm))), ("default", .val .none), ("k", .val (.str kv.1)), ("v", .val (.str kv.2))] (iTest (fBody (hdB "get") 1) 0) (Txt.lower kv.1 == Txt.lower nm) :=
      Te_Compare (.of (Ev_lower (Ev_name rfl rfl) (hz kv (.head _)))) (EvR_name rfl rfl) Cmp.eqS
    have asg : AsgT c n (hdS "get") [] (getρ C hs0 nm) (fTarget (hdB "get") 1) (rowD kv) [("self", .val (instD C hs0)), ("name", .val (.str (Txt.lower nm))), ("default", .val .none), ("k", .val (.str kv.1)), ("v", .val (.str kv.2))] :=
      AsgT_tup (.cons (AsgT_name rfl (by decide)) (.cons (AsgT_name rfl (by decide)) .nil))
    unfold getM
    rw [List.find?_cons]
    cases he : Txt.lower kv.1 == Txt.lower nm with
    | true =>
      exact .ret ⟨_, asg, (Ex_stop (ExS_if (ht.conv he) (fun _ => Ex_stop (ExS_return (Ev_name rfl rfl))) (fun e => nomatch e))).less (ρ' := getρ C hs0 nm) ⟨rfl, rfl, rfl, trivial⟩⟩
    | false =>
      exact .next ⟨_, asg, (Ex_cons (ExS_if (ht.conv he) (fun e => nomatch e) (fun _ => Ex_nil)) Ex_nil).less (ρ' := getρ C hs0 nm) ⟨rfl, rfl, rfl, trivial⟩⟩ (get_loop C hs0 nm r fun q hq => hz q (.tail _ hq))
theorem get_fn {f : Addr} {fd : FuncData} {nm : Str} {hs : Rows} (hc : c.Ok) (H : HdK c C nc vc) (D0 : DefAt c f fd (hdB "get") (hdS "get")) (hb : ∀ v0 v (s : Shared), Fle c.hB.get? s.heap.get? → BindsTo s fd ⟨[v0, v], []⟩ [("self", v0), ("name", v), ("default", .none)])
    (hm : missB nc (Txt.lower nm) = true) (hz : nm.length ≤ 300) (hlz : (Txt.lower nm).cps.size ≤ 1000) (hkz : ∀ kv ∈ hs, kv.1.length ≤ 1000) : FnP c 2 (.ref f) [instD C hs, .str nm] (optD (getM hs nm)) := fun A F s vs R hBF l r => by
  obtain ⟨v0, v, rfl⟩ : ∃ v0 v, vs = [v0, v] := by cases r with | cons a r => cases r with | cons b r => cases r; exact ⟨_, _, rfl⟩
  obtain ⟨fc, fdc, hMc, Dc, hbc⟩ := H.conv
  have cv : FnK c 1 (.ref fc) [("name", .bool true)] [.str (Txt.lower nm)] (.str (Txt.lower nm)) := conv_fn hc H Dc hbc hm hlz
  have r' : RdL F [instD C hs, .str nm, .none] [v0, v, .none] := r.append (.cons .none .nil)
  refine Ret.wp (codeRet_mono (run_val (n := 1) (fl := .ret (optD (getM hs nm))) (args := ⟨[v0, v], []⟩) (binds := [("self", v0), ("name", v), ("default", .none)]) (ρ0 := ((["self", "name", "default"] : List Str).zip ([instD C hs, .str nm, .none].map Slot.val))) (ρ' := getρ C hs nm) hc D0 (by show scOk (hdS "get") (["self", "name", "default"] : List Str) = true; decide) R hBF l (fun A' E Q q => hb v0 v s (hBF.trans l) _ _ _ _ q) (fun y sl e => zip_own (names := ["self", "name", "default"]) r' e) ⟨nofun, nofun⟩ ?_) fun v s' q => q.1)
  refine Ex_cons (ExS_assign (Ev_methK hc hMc (EvI_ev (Ev_name rfl rfl) rfl) (Ev_lower (Ev_name rfl rfl) (by omega)) cv) rfl (by decide)) ?_
  have L := get_loop (c := c) (n := 1) C hs nm hs hkz
  have ht : isTupE (fTarget (hdB "get") 1) = true ∧ (D.lst (rowsD hs)).isLst = true ∧ ∀ x ∈ rowsD hs, x.isTup = true := ⟨rfl, rfl, fun x hx => by obtain ⟨kv, _, rfl⟩ := List.mem_map.mp hx; rfl⟩
  cases hg : getM hs nm with
  | some v =>
    rw [hg] at L
    exact Ex_stop (ExS_for (Ev_attr hc H.cls H.hd (Ev_name rfl rfl) rfl) rfl rfl L (.inr ht))
  | none =>
    rw [hg] at L
    exact Ex_cons (ExS_for (Ev_attr hc H.cls H.hd (Ev_name rfl rfl) rfl) rfl rfl L (.inr ht)) (Ex_stop (ExS_return (Ev_name rfl rfl)))
theorem len_fn {f : Addr} {fd : FuncData} {hs : Rows} (hc : c.Ok) (H : HdK c C nc vc) (D0 : DefAt c f fd (hdB "__len__") (hdS "__len__")) (hb : ∀ v0 (s : Shared), Fle c.hB.get? s.heap.get? → BindsTo s fd ⟨[v0], []⟩ [("self", v0)]) (hn : hs.length ≤ 1000) : FnP c 1 (.ref f) [instD C hs] (.int hs.length) := fun A F s vs R hBF l r => by
  obtain ⟨v0, rfl⟩ : ∃ v0, vs = [v0] := by cases r with | cons a r => cases r; exact ⟨_, rfl⟩
  refine Ret.wp (codeRet_mono (run_val (n := 0) (fl := .ret (.int hs.length)) (args := ⟨[v0], []⟩) (binds := [("self", v0)]) (ρ0 := ((["self"] : List Str).zip ([instD C hs].map Slot.val))) (ρ' := [("self", .val (instD C hs))]) hc D0 (by show scOk (hdS "__len__") (["self"] : List Str) = true; decide) R hBF l (fun A' E Q q => hb v0 s (hBF.trans l) _ _ _ _ q) (fun y sl e => zip_own (names := ["self"]) r e) ⟨nofun, nofun⟩ ?_) fun v s' q => q.1)
  refine Ex_stop (ExS_return ((Ev_callB hc H.len rfl nofun (EvLR_cons (.of (Ev_attr hc H.cls H.hd (Ev_name rfl rfl) rfl)) EvLR_nil) (CallR.lenL (by unfold rowsD; rw [List.length_map]; omega))).conv (by unfold rowsD; rw [List.length_map])))
theorem Room.in1 {A : Around} (r : Room (n + 1) A) : Room n A.in1 := ⟨r.1, by have := r.2.1; show A.depth + n ≤ 700; omega, by have := r.2.2; show A.units + 1 + 3 * n ≤ 9000; omega⟩
/-- len(table) -/
theorem Ev_lenHdr {sc : Scope} {ρ : Vars} {x : Str} {p px pos : Pos} {xs : List D} {f : Addr} {k : Int} (hc : c.Ok) (hg : Glb c "len" (.builtin "len")) (hi : isGlb sc "len" = true) (hM : MethK c C "__len__" f) (hx : ρ.lookup x = some (.hdr C xs)) (hl : isLoc sc x = true) (h : FnP c n (.ref f) [.inst C (hdrF xs)] (.int k)) (h0 : 0 ≤ k) (h1 : k < 2 ^ 63) :
    Ev c (n + 1) sc ρ (.Call (.Name "len" p) [.Name x px] [] pos) (.int k) := fun A env pins F P s R ok S => by
  have S0 := S
  obtain ⟨vm, fp, S⟩ := S
  obtain ⟨a, dx, l, od, es, kk, hv, hfp, h1', h2', hdd, hk, z, r, q⟩ := S.hdr hx
  refine wpAny_Call_Name_kw (load_glob hc ok S0.keep hi hg ?_)
  show wpAny _ _ (callWith pos (.builtin "len") [] (backTo pos (starEach [.Name x px] env)) []) _ _ _
  refine callWith_val (starFalse rfl) nofun ?_
  refine spliced_cons (load_var (h := s.heap) ok S.sto hl hv (spliced_nil ?_))
  obtain ⟨a', Ft, e1, e2, e3, e4⟩ := hdr_temp S hx
  have : a' = a := by rw [hv] at e1; cases e1; rfl
  subst this
  refine Calls.call_function_entry kind_len plain_len entry_len (args_len1 _) ?_
  unfold Builtin.«len»
  refine wpAny_bind (m := oneArg "len" _) (wpAny_pure ?_)
  refine wpAny_bind (m := callSpecial? (.ref a') (Str.ofString "__len__")) (special_fn (od := some od) (hc.at_ S0.keep) ⟨S.le _ _ h1', rfl, rfl, S.le _ _ h2'⟩ hM.find hM.ty ?_)
  refine wpAny_mono (h A.in1 Ft s [.ref a'] R.in1 (S.base.trans e2) e3 (.cons e4 .nil)) (fun v s₃ hp1 => ?_) fun _ _ x => x.elim
  obtain ⟨F₃, G₃, X₃, r₃⟩ := hp1
  cases r₃ with
  | int _ t =>
    refine wpAny_bind (wpAny_holding (wpAny_pure ?_))
    refine wpAny_bind (wpAny_letGo ?_)
    show wpAny _ _ (if k < 0 then _ else _) _ _ _
    rw [if_neg (by omega)]
    show wpAny _ _ (if k ≥ 2 ^ 63 then _ else _) _ _ _
    rw [if_neg (by omega)]
    exact wpAny_bind (wpAny_mkInt (wpAny_pure ⟨_, rfl, F, ⟨.refl _, fun _ _ e => .inl e, G₃.keep, S.le.trans G₃.keep, G₃.size⟩, X₃.trans ⟨_, _, rfl⟩, .int _ _⟩))

theorem hinit_fn {f : Addr} {fd : FuncData} (hc : c.Ok) (H : HdK c C nc vc) (D0 : DefAt c f fd (hdB "__init__") (hdS "__init__")) (hb : ∀ v0 (s : Shared), Fle c.hB.get? s.heap.get? → BindsTo s fd ⟨[v0], []⟩ [("self", v0), ("headers", .none)]) : FnHI c 2 (.ref f) C := fun A F s x dx R hBF l hne hx hdx fx fdx => by
  refine call_openG (n := 2) hc D0 (by show scOk (hdS "__init__") (["self", "headers"] : List Str) = true; decide) R (hBF.trans l) (.refl _) (fun A' E Q q => hb _ s (hBF.trans l) _ _ _ _ q) fun env s₁ ok X hce hcl => ?_
  have sk := scOk_of (show scOk (hdS "__init__") (["self", "headers"] : List Str) = true by decide)
  have hnd : (([("self", .ref x), ("headers", .none)] : List (Str × Value)).map (·.1)).Nodup := by show (["self", "headers"] : List Str).Nodup; decide
  obtain ⟨hst, S⟩ := enter_st (c := c) (pins := [("self", .ref x)]) (ρ0 := [("headers", .val .none)]) (fp := fun _ => []) ok X hce (fun x q => (sk.nofree _ (mem_of_lookup q)) rfl) hcl hBF l
    (fun y sl e => by
      rw [List.lookup_cons] at e
      by_cases h1 : y = "headers"
      · subst h1; simp at e; subst e; exact ⟨.none, vmB_lookup hnd rfl, .val .none⟩
      · have e1 : (y == ("headers" : Str)) = false := by simpa using h1
        rw [e1] at e; cases e) (fun q hq => by rw [List.mem_singleton.mp hq]; exact vmB_lookup hnd rfl) (fun _ _ _ _ q => nomatch q) (fun _ _ _ => .nil) (fun _ _ _ _ _ _ _ _ q => nomatch q)
  have hP₀ : ∀ b, (b ∈ stor env ∨ ∃ y sl, ([("headers", .val .none)] : Vars).lookup y = some sl ∧ b ∈ ([] : List Addr)) → s.heap.objs.size ≤ b := fun b q => q.elim (hst b) fun hp2 => by obtain ⟨_, _, _, q⟩ := hp2; exact nomatch q
  have kp : Fle s.heap.get? s₁.heap.get? := X.toInCall.keep
  have lt₁ : env.locals < s₁.heap.objs.size := X.toInCall.ns.lt
  have sz₁ : s.heap.objs.size ≤ s₁.heap.objs.size := Nat.le_trans X.toInCall.fresh (Nat.le_of_lt lt₁)
  have X₁ : Same s s₁ := by obtain ⟨h₁, tk, rfl, _⟩ := X.done; exact ⟨_, _, rfl⟩
  have xlt : x < s.heap.objs.size := Heap.lt_size hx
  have dlt : dx < s.heap.objs.size := Heap.lt_size hdx
  have R' : Room 1 (A.deeper env) := R.deeper
  -- headers = []
  have e0 : ExS c 1 (hdS "__init__") ["self"] [("headers", .val .none)] (sAt (hdB "__init__") 0) .next [("headers", .lst [])] :=
    ExS_assignNew (EvNew_IfExp (x := false) (Te_Compare (EvR_name rfl rfl) EvR_none Cmp.isNotNone) (fun e => nomatch e) (fun _ => EvNew_List EvL_nil (by decide))) rfl (by decide)
  have e1 : ExS c 1 (hdS "__init__") ["self"] [("headers", .lst [])] (sAt (hdB "__init__") 1) .next [("headers", .lst [])] :=
    ExS_if (t := false) ((Te_isNot (EvV_type hc H.type rfl (EvR_own rfl rfl) rfl) (EvV_glob hc H.list rfl) rfl).conv (by decide)) (fun e => nomatch e) (fun _ => Ex_nil)
  have e3 : ExS c 1 (hdS "__init__") ["headers", "self"] [("headers", .lst [])] (sAt (hdB "__init__") 3) .next [("headers", .lst [])] :=
    ExS_if (t := true) (Te_plain (.of Ev_bool) Tru.bool) (fun _ => Ex_cons (ExS_forOwn0 rfl rfl) Ex_nil) (fun e => nomatch e)
  have hbody : hdB "__init__" = [sAt (hdB "__init__") 0, sAt (hdB "__init__") 1, sAt (hdB "__init__") 2, sAt (hdB "__init__") 3] := rfl
  rw [hbody]
  refine wpAny_execs_cons (wpAny_mono (e0 (A.deeper env) env [("self", .ref x)] F _ s₁ R' ok rfl S) (fun f s₂ hp3 => ?_) fun _ _ x => x)
  obtain ⟨F₂, P₂, T₂, X₂, S₂, q₂⟩ := hp3
  cases q₂
  refine wpAny_execs_cons (wpAny_mono (e1 (A.deeper env) env [("self", .ref x)] F₂ P₂ s₂ R' ok rfl S₂) (fun f s₃ hp4 => ?_) fun _ _ x => x)
  obtain ⟨F₃, P₃, T₃, X₃, S₃, q₃⟩ := hp4
  cases q₃
  have T := T₂.trans T₃
  have out₀ : ∀ b, b < s.heap.objs.size → ¬ (b ∈ stor env ∨ ∃ y sl, ([("headers", .val .none)] : Vars).lookup y = some sl ∧ b ∈ ([] : List Addr)) := fun b hb q => Nat.not_lt.mpr (hP₀ b q) hb
  have out₃ : ∀ b, b < s.heap.objs.size → ¬ P₃ b := fun b hb q => (T.mem b q).elim (out₀ b hb) fun q => Nat.not_lt.mpr (Nat.le_trans sz₁ q) hb
  have hx₃ := T.keep x _ (out₀ x xlt) (kp _ _ hx)
  have hd₃ := T.keep dx _ (out₀ dx dlt) (kp _ _ hdx)
  have fd₃ : F₃ dx = none := by
    cases e : F₃ dx with
    | none => rfl
    | some o =>
      rcases T.new dx o e with q | q | q
      · rw [fdx] at q; cases q
      · exact absurd q (out₀ dx dlt)
      · exact absurd dlt (Nat.not_lt.mpr (Nat.le_trans sz₁ q))
  have K₃ := S₃.keep
  have S₃0 := S₃
  obtain ⟨vm, fp, S₃⟩ := S₃
  obtain ⟨a, hv, hfp, L⟩ := S₃.lst (x := "headers") rfl
  have hself := S₃.pin ("self", .ref x) (.head _)
  have pa : P₃ a := (S₃.mem a).mpr (.inr ⟨"headers", _, rfl, by rw [hfp]; exact .head _⟩)
  have ale : s.heap.objs.size ≤ a := (T.mem a pa).elim (hP₀ a) fun q => Nat.le_trans sz₁ q
  refine wpAny_execs_cons ?_
  refine plainObj_wpAny_Assign_Attribute (load_var (h := s₃.heap) ok S₃.sto rfl hv (load_var (h := s₃.heap) ok S₃.sto rfl hself ?_)) (swaps_plain rfl)
  refine set_field (hc.at_ K₃) H.cls hx₃ hd₃ (fun e he => by simp at he) (by decide) H.hd fun h' tk es' k' hd' hk' hz' hq sb => ?_
  have pins' : ∀ q ∈ ([("headers", .ref a), ("self", .ref x)] : Pins), vm q.1 = some q.2 := fun q hq => by
    rcases List.mem_cons.mp hq with rfl | hq
    · exact hv
    · rw [List.mem_singleton.mp hq]; exact hself
  have S₃' : St c env [("headers", .ref a), ("self", .ref x)] [("headers", .lst [])] F₃ P₃ s₃.heap := ⟨vm, fp, { S₃ with pin := pins' }⟩
  have S₄ : St c env [("headers", .ref a), ("self", .ref x)] [("headers", .lst [])] F₃ P₃ h' := S₃'.walk (I := dx) (fun b o hb e => (sb.2 b (by simpa using hb)).trans e) fd₃ (out₃ dx dlt) (Nat.le_of_eq sb.1.symm)
  refine wpAny_execs_cons (wpAny_mono (e3 (A.deeper env) env [("headers", .ref a), ("self", .ref x)] F₃ P₃ { s₃ with heap := h', toks := tk } R' ok rfl S₄) (fun f s₅ hp5 => ?_) fun _ _ x => x)
  obtain ⟨F₅, P₅, T₅, X₅, S₅, q₅⟩ := hp5
  cases q₅
  obtain ⟨vm₅, fp₅, S₅⟩ := S₅
  obtain ⟨a₅, hv₅, hfp₅, vs, pl, rl⟩ := S₅.lst (x := "headers") rfl
  have ha : a₅ = a := by have e := S₅.pin ("headers", .ref a) (.head _); rw [hv₅] at e; cases e; rfl
  subst ha
  have hvs : vs = #[] := by
    obtain ⟨l⟩ := vs
    cases rl
    rfl
  subst hvs
  refine wpAny_execs_nil ⟨rfl, a₅, es', k', fun b o hbd e => ?_, X₁.trans (X₂.trans (X₃.trans (Same.trans ⟨_, _, rfl⟩ X₅))), ?_, ale, T₅.keep dx _ (out₃ dx dlt) hd', hk', by rw [hq, if_pos rfl], fun y hy => by rw [hq, if_neg hy]; rfl, pl⟩
  · have hb := Heap.lt_size e
    exact T₅.keep b o (out₃ b hb) ((sb.2 b hbd).trans (T.keep b o (out₀ b hb) (kp b o e)))
  · have z5 : h'.objs.size ≤ s₅.heap.objs.size := T₅.size
    exact Nat.le_trans sz₁ (Nat.le_trans T.size (by rw [sb.1] at z5; exact z5))
end Mine
end

section
open PySem PySem.Calls PyProof.Rows PySem.W
set_option maxRecDepth 100000
set_option linter.unusedVariables false
namespace Mine
variable {c : Cx} {n : Nat}
noncomputable abbrev liB := defBody pw "_law_lines"
noncomputable abbrev liS := defScope pw "_law_lines"
noncomputable def leadOf (p : Int) : Str := strRep " " (p.fmod 3) ++ strRep "\t" ((p.fdiv 3).fmod 3) ++ strRep " " (p.fdiv 9)
noncomputable def letter (k : Nat) : Str := ⟨#[97 + k]⟩
noncomputable def lineOf (p : Int) (k : Nat) : Str := leadOf p ++ letter k
noncomputable def linesFrom : List Int → Nat → List Str
  | [], _ => []
  | m :: r, k => lineOf (m.fmod 27) k :: linesFrom r (k + 1)
noncomputable def firstSix (ns : List Int) : List Int := (ns.take 6 ++ [20, 5, 4, 3, 12, 21]).take 6
noncomputable def linesM (ns : List Int) : List Str := linesFrom (firstSix ns) 0
noncomputable def lst (l : List Str) : D := .lst (l.map .str)
theorem lead_len : ∀ q : Nat, q < 27 → (strRep " " ((q : Int).fmod 3)).length ≤ 10 ∧ (strRep "\t" (((q : Int).fdiv 3).fmod 3)).length ≤ 10 ∧ (strRep " " ((q : Int).fdiv 9)).length ≤ 10 ∧ (strRep " " ((q : Int).fmod 3) ++ strRep "\t" (((q : Int).fdiv 3).fmod 3)).length ≤ 20 ∧ (leadOf q).length ≤ 30 := by decide +kernel
theorem lead_int : ∀ q : Nat, q < 27 → 0 ≤ (q : Int).fmod 3 ∧ (q : Int).fmod 3 ≤ 3 ∧ 0 ≤ ((q : Int).fdiv 3).fmod 3 ∧ ((q : Int).fdiv 3).fmod 3 ≤ 3 ∧ 0 ≤ (q : Int).fdiv 9 ∧ (q : Int).fdiv 9 ≤ 3 := by decide +kernel
theorem mod27 (m : Int) : ∃ q : Nat, q < 27 ∧ m.fmod 27 = (q : Int) := by
  have h1 := Int.fmod_nonneg_of_pos m (b := 27) (by decide)
  have h2 := Int.fmod_lt_of_pos m (b := 27) (by decide)
  exact ⟨(m.fmod 27).toNat, by omega, by omega⟩
theorem abc_at : ∀ k : Nat, k < 6 → seqIndex? (k : Int) ("abcdef" : Str).length = some k ∧ ("abcdef" : Str).cps[k]? = some (97 + k) := by decide +kernel
theorem li_loop (sx : D) (gl : Glb c "len" (.builtin "len")) (hc : c.Ok) : ∀ (ns : List Int) (acc : List Str), acc.length + ns.length ≤ 6 →
    LoopR (Turn c n liS [] (fTarget liB 1) (fBody liB 1)) (ns.map .int) [("script", .val sx), ("lines", .lst (acc.map .str))] .next [("script", .val sx), ("lines", .lst ((acc ++ linesFrom ns acc.length).map .str))]
  | [], acc, _ => by unfold linesFrom; rw [List.append_nil]; exact .nil
  | m :: r, acc, h => by
    simp only [List.length_cons] at h
    have ih := li_loop sx gl hc r (acc ++ [lineOf (m.fmod 27) acc.length]) (by simp; omega)
    have e : (acc ++ [lineOf (m.fmod 27) acc.length]) ++ linesFrom r (acc ++ [lineOf (m.fmod 27) acc.length]).length = acc ++ linesFrom (m :: r) acc.length := by
      rw [List.append_assoc]; simp [linesFrom]
    rw [e] at ih
    obtain ⟨q, hq, he⟩ := mod27 m
    obtain ⟨l1, l2, l3, l4, l5⟩ := lead_len q hq
    obtain ⟨i1, i2, i3, i4, i5, i6⟩ := lead_int q hq
    obtain ⟨a1, a2⟩ := abc_at acc.length (by omega)
    refine .next ⟨_, AsgT_name rfl (by decide), ?_⟩ ih
    refine (Ex_cons (ExS_assign (d := .int q) ((Ev_BinOp (EvR_name rfl rfl) EvR_int (Bin.mod (by decide))).conv (by rw [he])) rfl (by decide)) (Ex_cons (ExS_assign (d := .str (leadOf q)) (Ev_BinOp (.of (Ev_BinOp (.of (Ev_BinOp EvR_str (.of (Ev_BinOp (EvR_name rfl rfl) EvR_int (Bin.mod (by decide)))) (Bin.mulS (by omega) (by omega) (by decide) (by decide)))) (.of (Ev_BinOp EvR_str (.of (Ev_BinOp (.of (Ev_BinOp (EvR_name rfl rfl) EvR_int (Bin.fdiv (by decide) (by decide)))) EvR_int (Bin.mod (by decide)))) (Bin.mulS (by omega) (by omega) (by decide) (by decide)))) (Bin.addS (by omega)))) (.of (Ev_BinOp EvR_str (.of (Ev_BinOp (EvR_name rfl rfl) EvR_int (Bin.fdiv (by decide) (by decide)))) (Bin.mulS (by omega) (by omega) (by decide) (by decide)))) (Bin.addS (by omega))) rfl (by decide))
      (Ex_cons (ExS_exprX (EvX_append rfl rfl (EvX.of (Ev_BinOp (d := .str (lineOf q acc.length)) (EvR_name rfl rfl) (.of (Ev_Sub EvR_str (.of (Ev_callB hc gl rfl nofun (EvLR_cons (EvR_own rfl rfl) EvLR_nil) (CallR.lenL (by simp; omega)))) (Itm.str (k := acc.length) (cp := 97 + acc.length) (by rw [List.length_map]; exact a1) a2 (by simp <;> omega) (by simp <;> omega)))) (Bin.addS (by simp [Str.length]; have : (leadOf q).cps.size ≤ 30 := l5; omega)))) rfl (by simp; omega))) Ex_nil))).less ⟨rfl, ?_, trivial⟩
    rw [he]
    show some (Slot.lst _) = some (Slot.lst _)
    rw [List.map_append]; rfl
theorem li_fn {fv : Value} {ns : List Int} (gl : Glb c "len" (.builtin "len")) (hc : c.Ok) (hf : IsFn c fv ["script"] liB liS) (hn : ns.length ≤ 100) : FnP c 1 fv [.lst (ns.map .int)] (lst (linesM ns)) := by
  refine FnP_intro (fl := .retF (lst (linesM ns))) (ρ' := []) hc hf (by decide) rfl ⟨nofun, nofun⟩ ?_
  refine Ex_cons (ExS_assignNew (EvNew_List EvL_nil (by decide)) rfl (by decide)) ?_
  have hE : Ev c 0 liS [("script", .val (.lst (ns.map .int))), ("lines", .lst [])] (fIter liB 1) (.lst (((ns.map D.int).take 6 ++ [D.int 20, D.int 5, D.int 4, D.int 3, D.int 12, D.int 21]).take 6)) :=
    Ev_sliceL (.of (Ev_BinOp (.of (Ev_sliceL (ys := (ns.map D.int).take 6) (EvR_name rfl rfl) .none (.int EvR_int) rfl (.inr (by decide)) (by simp; omega))) (.of (Ev_List (EvL_cons Ev_int (EvL_cons Ev_int (EvL_cons Ev_int (EvL_cons Ev_int (EvL_cons Ev_int (EvL_cons Ev_int EvL_nil)))))) (by decide))) (Bin.addL (by simp; omega)))) .none (.int EvR_int) rfl (.inr (by decide)) (by simp; omega)
  have e6 : ((ns.map D.int).take 6 ++ [D.int 20, D.int 5, D.int 4, D.int 3, D.int 12, D.int 21]).take 6 = (firstSix ns).map D.int := by
    unfold firstSix; rw [List.map_take, List.map_append, List.map_take]; rfl
  rw [e6] at hE
  have L := li_loop (n := 0) (.lst (ns.map .int)) gl hc (firstSix ns) [] (by unfold firstSix; simp <;> omega)
  rw [List.nil_append] at L
  exact Ex_cons (ExS_for hE rfl rfl L (.inl rfl)) (Ex_stop (ExS_returnOwn rfl rfl))
end Mine
end

section
open PySem PySem.Calls PyProof.Rows PySem.W
set_option maxRecDepth 100000
set_option linter.unusedVariables false
namespace Mine
variable {c : Cx} {n : Nat}
noncomputable abbrev coB := defBody pw "_law_columns"
noncomputable abbrev coS := defScope pw "_law_columns"
noncomputable def colStep (size col : Nat) (sign : Str) : Nat := col + (if sign = "\t" then size - col % size else 1)
noncomputable def colOf (size : Nat) (signs : List Str) : Nat := signs.foldl (colStep size) 0
noncomputable def bodyOf (x : Str) : Str := Txt.slice x none (some (-1))
noncomputable def colsM (x : Str) : List Nat := (List.range 5).map fun i => colOf (1 + i) (signsOf (bodyOf x))
noncomputable def nats (l : List Nat) : D := .lst (l.map dN)
noncomputable abbrev coρ (x : Str) (acc : List Nat) (size col : Nat) : Vars := [("line", .val (.str x)), ("columns", .lst (acc.map dN)), ("size", .val (.int size)), ("column", .val (.int col))]
theorem co_inner (x : Str) (acc : List Nat) (size : Nat) (hs : 0 < size) : ∀ (l : List Str) (col : Nat), 
    LoopR (Turn c n coS [] (fTarget (fBody coB 1) 1) (fBody (fBody coB 1) 1)) (l.map .str) (coρ x acc size col) .next (coρ x acc size (l.foldl (colStep size) col))
  | [], col => .nil
  | s :: r, col => by
    refine .next ⟨_, AsgT_name rfl (by decide), ?_⟩ (co_inner x acc size hs r (colStep size col s))
    have e1 : (size : Int) - (col : Int).fmod (size : Int) = ((size - col % size : Nat) : Int) := by
      have h1 : (col : Int).fmod (size : Int) = ((col % size : Nat) : Int) := by rw [Int.fmod_eq_emod_of_nonneg _ (Int.natCast_nonneg _)]; rfl
      have h2 := Nat.mod_lt col hs
      rw [h1]; omega
    refine (Ex_cons (ExS_assign (d := .int (colStep size col s : Nat)) ((Ev_BinOp (b := .int ((if s = "\t" then size - col % size else 1 : Nat) : Int)) (EvR_name rfl rfl) (.of (Ev_IfExp (x := s == "\t") (Te_Compare (EvR_name rfl rfl) EvR_str Cmp.eqS) (fun h => ?_) (fun h => ?_))) Bin.add).conv ?_) rfl (by decide)) Ex_nil).less ⟨rfl, rfl, rfl, rfl, trivial⟩
    · have h : s = "\t" := by simpa using h
      rw [if_pos h]
      exact (Ev_BinOp (EvR_name rfl rfl) (.of (Ev_BinOp (EvR_name rfl rfl) (EvR_name rfl rfl) (Bin.mod (by omega)))) Bin.sub).conv (by rw [e1])
    · have h : ¬ s = "\t" := by simpa using h
      rw [if_neg h]
      exact Ev_int
    · rfl
theorem co_loop (x : Str) (hz : x.length ≤ 1000) : ∀ (l : List Nat) (acc : List Nat), acc.length + l.length ≤ 100 →
    LoopR (Turn c n coS [] (fTarget coB 1) (fBody coB 1)) (l.map fun i => .int ((1 : Int) + (i : Nat))) [("line", .val (.str x)), ("columns", .lst (acc.map dN))] .next [("line", .val (.str x)), ("columns", .lst ((acc ++ l.map fun i => colOf (1 + i) (signsOf (bodyOf x))).map dN))]
  | [], acc, _ => by simp only [List.map_nil, List.append_nil]; exact .nil
  | i :: r, acc, h => by
    simp only [List.length_cons] at h
    have ih := co_loop x hz r (acc ++ [colOf (1 + i) (signsOf (bodyOf x))]) (by simp <;> omega)
    rw [List.append_assoc] at ih
    have e1 : (1 : Int) + (i : Nat) = ((1 + i : Nat) : Int) := by omega
    refine .next ⟨[("line", .val (.str x)), ("columns", .lst (acc.map dN)), ("size", .val (.int (1 + i : Nat)))], by rw [← e1]; exact AsgT_name rfl (by decide), ?_⟩ ih
    refine Ex_cons (ExS_assign (d := .int 0) Ev_int rfl (by decide)) ?_
    refine Ex_cons (ρ₁ := coρ x acc (1 + i) (colOf (1 + i) (signsOf (bodyOf x)))) (ExS_for (d := .str (bodyOf x)) (xs := (signsOf (bodyOf x)).map .str) (Ev_sliceS (EvR_name rfl rfl) (.of (Ev_UnaryOp EvR_int Una.neg)) hz) (by unfold signsOf; rw [List.map_map]; rfl) rfl (co_inner x acc (1 + i) (by omega) _ 0) (.inl rfl)) ?_
    refine (Ex_cons (ExS_exprX (EvX_append rfl rfl (EvX.of (Ev_name rfl rfl)) rfl (by simp <;> omega))) Ex_nil).less ⟨rfl, ?_, trivial⟩
    show some (Slot.lst _) = some (Slot.lst _)
    rw [List.map_append]; rfl
theorem co_fn {fv : Value} {x : Str} (B : Blt c) (hc : c.Ok) (hf : IsFn c fv ["line"] coB coS) (hz : x.length ≤ 1000) : FnP c 1 fv [.str x] (nats (colsM x)) := by
  refine FnP_intro (fl := .retF (nats (colsM x))) (ρ' := []) hc hf (by decide) rfl ⟨nofun, nofun⟩ ?_
  refine Ex_cons (ExS_assignNew (EvNew_List EvL_nil (by decide)) rfl (by decide)) ?_
  have L := co_loop (c := c) (n := 0) x hz (List.range 5) [] (by decide)
  rw [List.nil_append] at L
  exact Ex_cons (ExS_for (d := .rng 1 6) (Ev_callB hc B.range rfl nofun (EvLR_cons EvR_int (EvLR_cons EvR_int EvLR_nil)) CallR.range2) rfl rfl L (.inl rfl)) (Ex_stop (ExS_returnOwn rfl rfl))
/-! _law_left -/
noncomputable abbrev leB := defBody pw "_law_left"
noncomputable abbrev leS := defScope pw "_law_left"
noncomputable def leftM (a b : List Nat) : Bool := (List.range 5).all fun k => decide (a.getD k 0 < b.getD k 0)
noncomputable def bools (l : List Bool) : D := .lst (l.map .bool)
noncomputable def matD (l : List (List Bool)) : D := .lst (l.map bools)
noncomputable def leftMat (lines : List Str) : List (List Bool) := (lines.map colsM).map fun one => (lines.map colsM).map fun other => leftM one other
theorem cols_len (x : Str) : (colsM x).length = 5 := by simp [colsM]
/-- what a comprehension over a list gives, one by one -/
theorem compR_map {α : Type} {ts : D → Bool → Prop} {el : D → D → Prop} (f : α → D) (g : α → D) (xs : List α) (h1 : ∀ a, ts a true) (h2 : ∀ a ∈ xs, el (f a) (g a)) : CompR ts el (xs.map f) (xs.map g) := by
  have := compR_of (ts := ts) (el := el) f (fun _ => true) g xs (fun a _ => h1 _) (fun a h _ => h2 a h)
  rwa [List.filter_eq_self.mpr (fun _ _ => rfl)] at this
end Mine
end

section
open PySem PySem.Calls PyProof.Rows PySem.W
set_option maxRecDepth 100000
set_option linter.unusedVariables false
namespace Mine
variable {c : Cx} {n : Nat}
theorem pyAll_ints : ∀ l : List Int, D.py.pyAll (l.map .int) = l.map PyData.int
  | [] => rfl
  | a :: r => by show D.py (.int a) :: D.py.pyAll (r.map .int) = _; rw [pyAll_ints r]; rfl
theorem plainAll_ints : ∀ l : List Int, D.plain.plainAll (l.map .int) = true
  | [] => rfl
  | a :: r => by show (D.plain (.int a) && D.plain.plainAll (r.map .int)) = true; rw [plainAll_ints r]; rfl
theorem okEq_ints (l : List Int) : okEq (.lst (l.map .int)) = true := by
  have e : (D.lst (l.map .int)).py = .list (l.map PyData.int) := by show PyData.list _ = _; rw [pyAll_ints]
  unfold okEq
  rw [e]
  have h1 : (D.lst (l.map .int)).plain = true := plainAll_ints l
  have h2 : (PyData.list (l.map PyData.int)).canLay0 = true := canLayAll0_ints l
  have h3 : (PyData.list (l.map PyData.int)).depth ≤ 64 := by
    show PyData.depthAll _ + 1 ≤ 64
    have := W.depthAll_ints l
    omega
  rw [h1, h2, decide_eq_true h3]; rfl
theorem eqv_nil (l : List Int) : PyData.eqv (D.lst (l.map .int)).py (D.lst []).py = l.isEmpty := by
  cases l <;> rfl
noncomputable def ixs (p : Nat → Bool) (l : List Nat) : List Int := (l.filter p).map fun i => (0 : Int) + (i : Nat)
theorem ixs_map (p : Nat → Bool) (l : List Nat) : (l.filter p).map (fun i => D.int ((0 : Int) + (i : Nat))) = (ixs p l).map .int := by unfold ixs; rw [List.map_map]; rfl
theorem filter_all (p : Nat → Bool) : ∀ l : List Nat, (ixs p l).isEmpty = l.all fun i => !p i
  | [] => rfl
  | a :: r => by
    have ih := filter_all p r
    unfold ixs at ih ⊢
    cases h : p a with
    | true => simp [h]
    | false => rw [List.filter_cons, if_neg (by rw [h]; decide), ih, List.all_cons, h]; rfl
theorem getD_five (l : List Nat) (hl : l.length = 5) (i : Nat) (hi : i < 5) : (l.map dN)[((0 : Int) + (i : Nat)).toNat]? = some (dN (l.getD i 0)) := by
  have : ((0 : Int) + (i : Nat)).toNat = i := by omega
  rw [this]; exact map_getD l i (by omega)
theorem le_fn {fv fco : Value} {lines : List Str} (B : Blt c) (hc : c.Ok) (hg : Callee c "_law_columns" fco) (hco : IsFn c fco ["line"] coB coS) (hf : IsFn c fv ["lines"] leB leS) (hz : ∀ x ∈ lines, x.length ≤ 1000) (hn : lines.length ≤ 100) : FnP c 2 fv [lst lines] (matD (leftMat lines)) := by
  refine FnP_intro (fl := .retF (matD (leftMat lines))) (ρ' := [("lines", .val (lst lines)), ("columns", .val (.lst ((lines.map colsM).map nats)))]) hc hf (by decide) rfl ⟨nofun, nofun⟩ ?_
  refine Ex_cons (ExS_comp (ρc := []) (ys := (lines.map colsM).map nats) ⟨by decide, FreeOk.get (ρc := []) trivial, fun _ _ => rfl, lst lines, lines.map .str, EvR_name rfl rfl, rfl, rfl, by simp <;> omega, ?_⟩ rfl (by decide)) ?_
  · rw [List.map_map]
    exact compR_map .str (nats ∘ colsM) lines (fun _ => .nil) fun x hx => Ev_callP hc hg (co_fn B hc hco (hz x hx)) rfl (EvL_cons (Ev_name rfl rfl) EvL_nil)
  refine Ex_stop (ExS_returnNew (EvNew_comp (ρc := [("columns", .val (.lst ((lines.map colsM).map nats)))]) ⟨by decide, FreeOk.get ⟨rfl, rfl, trivial⟩, fun _ _ => rfl, .lst ((lines.map colsM).map nats), (lines.map colsM).map nats, EvR_name rfl rfl, rfl, rfl, by simp <;> omega, ?_⟩))
  have e0 : (leftMat lines).map bools = (lines.map colsM).map fun one => bools ((lines.map colsM).map fun other => leftM one other) := by unfold leftMat; rw [List.map_map]; rfl
  rw [e0]
  refine compR_map nats _ (lines.map colsM) (fun _ => .nil) fun one hone => ?_
  have l1 : one.length = 5 := by obtain ⟨x, _, rfl⟩ := List.mem_map.mp hone; exact cols_len x
  refine (EvNew_comp (ρc := [("one", .val (nats one))]) ⟨by decide, FreeOk.get ⟨rfl, rfl, trivial⟩, fun _ _ => rfl, .lst ((lines.map colsM).map nats), (lines.map colsM).map nats, EvR_name rfl rfl, rfl, rfl, by simp <;> omega, ?_⟩).ev
  have e1 : ((lines.map colsM).map fun other => leftM one other).map D.bool = (lines.map colsM).map fun other => D.bool (leftM one other) := by rw [List.map_map]; rfl
  rw [e1]
  refine compR_map nats _ (lines.map colsM) (fun _ => .nil) fun other hother => ?_
  have l2 : other.length = 5 := by obtain ⟨x, _, rfl⟩ := List.mem_map.mp hother; exact cols_len x
  have hval : PyData.eqv (D.lst ((ixs (fun i => decide (other.getD i 0 ≤ one.getD i 0)) (List.range 5)).map .int)).py (D.lst []).py = leftM one other := by
    rw [eqv_nil, filter_all]
    unfold leftM
    congr 1
    funext i
    by_cases h : one.getD i 0 < other.getD i 0
    · rw [decide_eq_true h, decide_eq_false (by omega)]; rfl
    · rw [decide_eq_false h, decide_eq_true (by omega)]; rfl
  refine (Ev_Compare (a := .lst ((ixs (fun i => decide (other.getD i 0 ≤ one.getD i 0)) (List.range 5)).map .int)) (b := .lst []) (.of (EvNew_comp (ρc := [("one", .val (nats one)), ("other", .val (nats other))]) ⟨by decide, FreeOk.get ⟨rfl, rfl, rfl, rfl, trivial⟩, fun _ _ => rfl, .rng 0 5, (List.range 5).map (fun i => .int ((0 : Int) + (i : Nat))), .of (Ev_callB hc B.range rfl nofun (EvLR_cons EvR_int EvLR_nil) CallR.range1), rfl, rfl, by decide, ?_⟩).ev) (.of (Ev_List EvL_nil (by decide))) (Cmp.eqD (okEq_ints _) (okEq_ints []))).conv (by rw [hval])
  rw [← ixs_map]
  refine compR_of (fun i => .int ((0 : Int) + (i : Nat))) (fun i => decide (other.getD i 0 ≤ one.getD i 0)) (fun i => .int ((0 : Int) + (i : Nat))) (List.range 5) (fun i hi => .one ?_) (fun i hi _ => Ev_name rfl rfl)
  have hi := List.mem_range.mp hi
  exact Te_Compare (.of (Ev_Sub (d := dN (one.getD i 0)) (EvR_name rfl rfl) (EvR_name rfl rfl) (Itm.lst (by omega) (getD_five one l1 i hi) (by omega)))) (.of (Ev_Sub (d := dN (other.getD i 0)) (EvR_name rfl rfl) (EvR_name rfl rfl) (Itm.lst (by omega) (getD_five other l2 i hi) (by omega)))) Cmp.geN
end Mine
end

section
open PySem PySem.Calls PyProof.Rows PySem.W
set_option maxRecDepth 100000
set_option linter.unusedVariables false
namespace Mine
variable {c : Cx} {n : Nat}
noncomputable abbrev mpB := defBody pw "_law_most_pairs"
noncomputable abbrev mpS := defScope pw "_law_most_pairs"
noncomputable def atM (mat : List (List Bool)) (i j : Nat) : Bool := (mat.getD i []).getD j false
noncomputable def cutAt (rest : List Nat) (k : Nat) : List Nat := (rest.drop 1).take (k - 1) ++ rest.drop (k + 1)
noncomputable def mpM (L : Nat → Nat → Bool) : Nat → List Nat → Nat
  | 0, _ => 0
  | f + 1, rest =>
    let best := (List.range (rest.length - 1)).foldl (fun b i => if (!L (rest.getD 0 0) (rest.getD (1 + i) 0) && !L (rest.getD (1 + i) 0) (rest.getD 0 0)) = true then max b (1 + mpM L f (cutAt rest (1 + i))) else b) 0
    if best = rest.length / 2 then best else max best (mpM L f (rest.drop 1))
/-- a square table of truths -/
structure MatOk (mat : List (List Bool)) (m : Nat) : Prop where
  len : mat.length = m
  row : ∀ r ∈ mat, r.length = m
theorem MatOk.at_ {mat : List (List Bool)} {m : Nat} (h : MatOk mat m) {i j : Nat} (hi : i < m) (hj : j < m) : (mat.map bools)[i]? = some (bools (mat.getD i [])) ∧ ((mat.getD i []).map D.bool)[j]? = some (.bool (atM mat i j)) := by
  have h1 : i < mat.length := by rw [h.len]; exact hi
  have e : mat.getD i [] = mat[i] := by rw [List.getD_eq_getElem?_getD, List.getElem?_eq_getElem h1]; rfl
  have h2 : j < (mat.getD i []).length := by rw [e, h.row _ (List.getElem_mem h1)]; exact hj
  refine ⟨by rw [List.getElem?_map, List.getElem?_eq_getElem h1, e]; rfl, ?_⟩
  unfold atM
  rw [List.getElem?_map, List.getD_eq_getElem?_getD (l := mat.getD i []), List.getElem?_eq_getElem h2]; rfl
theorem max2N (a b : Nat) : (if (b : Int) > (a : Int) then (b : Int) else (a : Int)) = ((max a b : Nat) : Int) := by
  split <;> omega
noncomputable abbrev mpρ (rest : List Nat) (mat : List (List Bool)) (b : Nat) : Vars := [("rest", .val (nats rest)), ("left", .val (matD mat)), ("best", .val (.int b))]
theorem Ev_at {sc : Scope} {ρ : Vars} {e1 e2 e3 : Expr} {p1 p2 : Pos} {mat : List (List Bool)} {m i j : Nat} (h : MatOk mat m) (hi : i < m) (hj : j < m) (h1 : EvR c n sc ρ e1 (matD mat)) (h2 : EvR c n sc ρ e2 (dN i)) (h3 : EvR c n sc ρ e3 (dN j)) (hs : notSlice e2 = true) (hs' : notSlice e3 = true) (hm : m ≤ 1000) : Ev c n sc ρ (.Subscript (.Subscript e1 e2 p1) e3 p2) (.bool (atM mat i j)) :=
  Ev_Sub (.of (Ev_Sub h1 h2 (Itm.lst (Int.natCast_nonneg _) (by rw [Int.toNat_natCast]; exact (h.at_ hi hj).1) (by omega)) hs)) h3 (Itm.lst (Int.natCast_nonneg _) (by rw [Int.toNat_natCast]; exact (h.at_ hi hj).2) (by omega)) hs'
theorem mp_loop {fv : Value} {m : Nat} (B : Blt c) (hc : c.Ok) (hg : Callee c "_law_most_pairs" fv) {mat : List (List Bool)} {q : Nat} (hm : MatOk mat q) (hq : q ≤ 1000) (rest : List Nat) (hr : ∀ x ∈ rest, x < q) (hl : rest.length ≤ 100) (f : Nat)
    (H : ∀ r' : List Nat, r'.length < rest.length → (∀ x ∈ r', x < q) → FnP c n fv [nats r', matD mat] (.int (mpM (atM mat) f r'))) : ∀ (l : List Nat) (b : Nat), (∀ i ∈ l, 1 + i < rest.length) →
    LoopR (Turn c n mpS [] (fTarget mpB 1) (fBody mpB 1)) (l.map fun i => .int ((1 : Int) + (i : Nat))) (mpρ rest mat b) .next (mpρ rest mat (l.foldl (fun b i => if (!atM mat (rest.getD 0 0) (rest.getD (1 + i) 0) && !atM mat (rest.getD (1 + i) 0) (rest.getD 0 0)) = true then max b (1 + mpM (atM mat) f (cutAt rest (1 + i))) else b) b))
  | [], b, _ => .nil
  | i :: r, b, h => by
    have hi := h i (.head _)
    have h0 : 0 < rest.length := by omega
    have e1 : (1 : Int) + (i : Nat) = ((1 + i : Nat) : Int) := by omega
    have g0 : rest.getD 0 0 < q := hr _ (by rw [List.getD_eq_getElem?_getD, List.getElem?_eq_getElem h0]; exact List.getElem_mem h0)
    have g1 : rest.getD (1 + i) 0 < q := hr _ (by rw [List.getD_eq_getElem?_getD, List.getElem?_eq_getElem hi]; exact List.getElem_mem hi)
    have hcut : (cutAt rest (1 + i)).length < rest.length := by unfold cutAt; simp; omega
    have hcutq : ∀ x ∈ cutAt rest (1 + i), x < q := fun x hx => by
      unfold cutAt at hx
      rcases List.mem_append.mp hx with z | z
      · exact hr x (List.mem_of_mem_drop (List.mem_of_mem_take z))
      · exact hr x (List.mem_of_mem_drop z)
    rw [List.map_cons, List.foldl_cons, e1]
    refine .next ⟨[("rest", .val (nats rest)), ("left", .val (matD mat)), ("best", .val (.int b)), ("k", .val (.int (1 + i : Nat)))], AsgT_name rfl (by decide), ?_⟩ (mp_loop (m := m) B hc hg hm hq rest hr hl f H r _ fun j hj => h j (.tail _ hj))
    have R0 : ∀ {pos p1 k0 p2}, EvR c n mpS [("rest", .val (nats rest)), ("left", .val (matD mat)), ("best", .val (.int b)), ("k", .val (.int (1 + i : Nat)))] (.Subscript (.Name "rest" p1) (.Constant (.int 0) k0 p2) pos) (dN (rest.getD 0 0)) := fun {pos p1 k0 p2} => .of (Ev_Sub (EvR_name rfl rfl) EvR_int (Itm.lst (i := 0) (by decide) (map_getD rest 0 h0) (by decide)))
    have Rk : ∀ {pos p1 p2}, EvR c n mpS [("rest", .val (nats rest)), ("left", .val (matD mat)), ("best", .val (.int b)), ("k", .val (.int (1 + i : Nat)))] (.Subscript (.Name "rest" p1) (.Name "k" p2) pos) (dN (rest.getD (1 + i) 0)) := fun {pos p1 p2} => .of (Ev_Sub (EvR_name rfl rfl) (EvR_name rfl rfl) (Itm.lst (Int.natCast_nonneg _) (by rw [Int.toNat_natCast]; exact map_getD rest (1 + i) hi) (by omega)))
    have hte : Te c n mpS [("rest", .val (nats rest)), ("left", .val (matD mat)), ("best", .val (.int b)), ("k", .val (.int (1 + i : Nat)))] (iTest (fBody mpB 1) 0) (!atM mat (rest.getD 0 0) (rest.getD (1 + i) 0) && (!atM mat (rest.getD (1 + i) 0) (rest.getD 0 0) && true)) :=
      Te_and (Te_not (Te_plain (.of (Ev_at hm g0 g1 (EvR_name rfl rfl) R0 Rk rfl rfl hq)) Tru.bool)) fun _ => Te_and (Te_not (Te_plain (.of (Ev_at hm g1 g0 (EvR_name rfl rfl) Rk R0 rfl rfl hq)) Tru.bool)) fun _ => Te_and_nil
    rw [Bool.and_true] at hte
    by_cases ht : (!atM mat (rest.getD 0 0) (rest.getD (1 + i) 0) && !atM mat (rest.getD (1 + i) 0) (rest.getD 0 0)) = true
    · rw [if_pos ht]
      have hA : cutD (rest.map dN) (some 1) (some ((1 + i : Nat) : Int)) = some (((rest.map dN).drop 1).take (1 + i - 1)) := by
        exact (if_pos (e := (none : Option (List D))) (show (0 : Int) ≤ 1 ∧ (1 : Int) ≤ ((1 + i : Nat) : Int) ∧ ((1 + i : Nat) : Int) ≤ ((rest.map dN).length : Int) from ⟨by decide, by omega, by rw [List.length_map]; omega⟩)).trans (by rw [Int.toNat_natCast]; rfl)
      have hB : cutD (rest.map dN) (some (((1 + i : Nat) : Int) + 1)) none = some ((rest.map dN).drop (1 + i + 1)) := by
        have e2 : ((((1 + i : Nat) : Int) + 1)).toNat = 1 + i + 1 := by omega
        exact (if_pos (e := (none : Option (List D))) (show (0 : Int) ≤ ((1 + i : Nat) : Int) + 1 by omega)).trans (by rw [e2])
      have hC : D.lst (((rest.map dN).drop 1).take (1 + i - 1) ++ (rest.map dN).drop (1 + i + 1)) = nats (cutAt rest (1 + i)) := by
        unfold nats cutAt; rw [List.map_append, List.map_take, List.map_drop, List.map_drop]
      refine (Ex_cons (ExS_if (hte.conv ht) (fun _ => Ex_cons (ExS_assign (d := .int (max b (1 + mpM (atM mat) f (cutAt rest (1 + i))) : Nat)) ((Ev_callB hc B.max rfl nofun (EvLR_cons (EvR_name rfl rfl) (EvLR_cons (d := .int ((1 + mpM (atM mat) f (cutAt rest (1 + i)) : Nat) : Int)) (.of ((Ev_BinOp EvR_int (.of (Ev_callP hc hg (H (cutAt rest (1 + i)) hcut hcutq) rfl (EvL_cons ((Ev_BinOp (.of (Ev_sliceL (EvR_name rfl rfl) (.int EvR_int) (.int (EvR_name rfl rfl)) hA (.inl nofun) (by rw [List.length_map]; omega))) (.of (Ev_sliceL (EvR_name rfl rfl) (.int (.of (Ev_BinOp (EvR_name rfl rfl) EvR_int Bin.add))) .none hB (.inl nofun) (by rw [List.length_map]; omega))) (Bin.addL (by simp <;> omega))).conv hC) (EvL_cons (Ev_name rfl rfl) EvL_nil)))) Bin.add).conv rfl)) EvLR_nil)) CallR.max2).conv (by rw [max2N])) rfl (by decide)) Ex_nil) (fun e => nomatch e)) Ex_nil).less ⟨rfl, rfl, rfl, trivial⟩
    · rw [if_neg ht]
      exact (Ex_cons (ExS_if (hte.conv (Bool.eq_false_iff.mpr ht)) (fun e => nomatch e) (fun _ => Ex_nil)) Ex_nil).less ⟨rfl, rfl, rfl, trivial⟩
theorem cut_mem {rest : List Nat} {k x : Nat} (h : x ∈ cutAt rest k) : x ∈ rest := by
  unfold cutAt at h
  rcases List.mem_append.mp h with z | z
  · exact List.mem_of_mem_drop (List.mem_of_mem_take z)
  · exact List.mem_of_mem_drop z
theorem mp_fn {fv : Value} (B : Blt c) (hc : c.Ok) (hg : Callee c "_law_most_pairs" fv) (hf : IsFn c fv ["rest", "left"] mpB mpS) {mat : List (List Bool)} {q : Nat} (hm : MatOk mat q) (hq : q ≤ 1000) : ∀ (f : Nat) (rest : List Nat), rest.length ≤ f → f ≤ 100 → (∀ x ∈ rest, x < q) → FnP c (f + 2) fv [nats rest, matD mat] (.int (mpM (atM mat) (f + 1) rest)) := by
  intro f
  induction f with
  | zero =>
    intro rest h0 _ hr
    have : rest = [] := List.length_eq_zero_iff.mp (by omega)
    subst this
    refine FnP_intro (fl := .ret (.int 0)) (ρ' := mpρ [] mat 0) hc hf (by decide) rfl ⟨nofun, nofun⟩ ?_
    refine Ex_cons (ExS_assign (d := .int 0) Ev_int rfl (by decide)) ?_
    refine Ex_cons (ρ₁ := mpρ [] mat 0) (ExS_for (d := .rng 1 0) (xs := []) (Ev_callB hc B.range rfl nofun (EvLR_cons EvR_int (EvLR_cons (.of (Ev_callB hc B.len rfl nofun (EvLR_cons (EvR_name rfl rfl) EvLR_nil) (CallR.lenL (xs := []) (by decide)))) EvLR_nil)) CallR.range2) rfl rfl .nil (.inl rfl)) ?_
    exact Ex_stop (ExS_if (t := true) (Te_Compare (EvR_name rfl rfl) (.of (Ev_BinOp (.of (Ev_callB hc B.len rfl nofun (EvLR_cons (EvR_name rfl rfl) EvLR_nil) (CallR.lenL (xs := []) (by decide)))) EvR_int (Bin.fdiv (by decide) (by decide)))) Cmp.eqI) (fun _ => Ex_stop (ExS_return (Ev_name rfl rfl))) (fun e => nomatch e))
  | succ f ih =>
    intro rest h0 h1 hr
    have H : ∀ r' : List Nat, r'.length < rest.length → (∀ x ∈ r', x < q) → FnP c (f + 2) fv [nats r', matD mat] (.int (mpM (atM mat) (f + 1) r')) := fun r' hl hx => ih r' (by omega) (by omega) hx
    generalize hbest : (List.range (rest.length - 1)).foldl (fun b i => if (!atM mat (rest.getD 0 0) (rest.getD (1 + i) 0) && !atM mat (rest.getD (1 + i) 0) (rest.getD 0 0)) = true then max b (1 + mpM (atM mat) (f + 1) (cutAt rest (1 + i))) else b) 0 = best
    have hmp : mpM (atM mat) (f + 1 + 1) rest = if best = rest.length / 2 then best else max best (mpM (atM mat) (f + 1) (rest.drop 1)) := by
      rw [← hbest]; rfl
    have L := mp_loop (m := 0) B hc hg hm hq rest hr (by omega) (f + 1) H (List.range (rest.length - 1)) 0 (fun i hi => by have := List.mem_range.mp hi; omega)
    rw [hbest] at L
    have hlen : ((rest.map dN).length : Int) = (rest.length : Int) := by rw [List.length_map]
    have hfor : ExS c (f + 2) mpS [] (mpρ rest mat 0) (sAt mpB 1) .next (mpρ rest mat best) := by
      refine ExS_for (d := .rng 1 rest.length) (xs := (List.range (rest.length - 1)).map fun i => .int ((1 : Int) + (i : Nat))) ((Ev_callB hc B.range rfl nofun (EvLR_cons EvR_int (EvLR_cons (.of (Ev_callB hc B.len rfl nofun (EvLR_cons (EvR_name rfl rfl) EvLR_nil) (CallR.lenL (by rw [List.length_map]; omega)))) EvLR_nil)) CallR.range2).conv (by rw [hlen])) ?_ ?_ L (.inl rfl)
      · show some ((List.range _).map _) = _
        congr 3; omega
      · unfold D.small; simp; omega
    have hdiv : (rest.length : Int).fdiv 2 = ((rest.length / 2 : Nat) : Int) := by rw [Int.fdiv_eq_ediv_of_nonneg _ (by decide)]; rfl
    have hcmp : ((best : Int) == ((rest.map dN).length : Int).fdiv 2) = decide (best = rest.length / 2) := by
      rw [hlen, hdiv]
      by_cases h : best = rest.length / 2
      · rw [decide_eq_true h, h]; simp
      · rw [decide_eq_false h]; exact beq_eq_false_iff_ne.mpr (by omega)
    have hte : Te c (f + 2) mpS (mpρ rest mat best) (iTest mpB 2) (decide (best = rest.length / 2)) :=
      (Te_Compare (EvR_name rfl rfl) (.of (Ev_BinOp (.of (Ev_callB hc B.len rfl nofun (EvLR_cons (EvR_name rfl rfl) EvLR_nil) (CallR.lenL (by rw [List.length_map]; omega)))) EvR_int (Bin.fdiv (by decide) (by decide)))) Cmp.eqI).conv hcmp
    refine FnP_intro (fl := .ret (.int (mpM (atM mat) (f + 1 + 1) rest))) (ρ' := mpρ rest mat best) hc hf (by decide) rfl ⟨nofun, nofun⟩ ?_
    rw [hmp]
    refine Ex_cons (ExS_assign (d := .int 0) Ev_int rfl (by decide)) ?_
    refine Ex_cons hfor ?_
    by_cases hb : best = rest.length / 2
    · rw [if_pos hb]
      exact Ex_stop (ExS_if (hte.conv (decide_eq_true hb)) (fun _ => Ex_stop (ExS_return (Ev_name rfl rfl))) (fun e => nomatch e))
    · rw [if_neg hb]
      refine Ex_cons (ExS_if (hte.conv (decide_eq_false hb)) (fun e => nomatch e) (fun _ => Ex_nil)) ?_
      have hne : rest ≠ [] := fun e => hb (by subst e; subst hbest; rfl)
      have hpos : 0 < rest.length := List.length_pos_iff.mpr hne
      have hA : cutD (rest.map dN) (some 1) none = some ((rest.map dN).drop 1) := rfl
      have hd : FnP c (f + 2) fv [nats (rest.drop 1), matD mat] (.int (mpM (atM mat) (f + 1) (rest.drop 1))) := H _ (by rw [List.length_drop]; omega) fun x hx => hr x (List.mem_of_mem_drop hx)
      exact Ex_stop (ExS_return ((Ev_callB hc B.max rfl nofun (EvLR_cons (EvR_name rfl rfl) (EvLR_cons (.of (Ev_callP hc hg hd rfl (EvL_cons ((Ev_sliceL (EvR_name rfl rfl) (.int EvR_int) .none hA (.inl nofun) (by rw [List.length_map]; omega)).conv (by unfold nats; rw [List.map_drop])) (EvL_cons (Ev_name rfl rfl) EvL_nil)))) EvLR_nil)) CallR.max2).conv (by rw [max2N])))
end Mine
end

section
open PySem PySem.Calls PyProof.Rows PySem.W
set_option maxRecDepth 100000
set_option linter.unusedVariables false
namespace Mine
variable {c : Cx} {n : Nat}
/-- the comprehension in x.append([..]) at the head of a body -/
noncomputable def cArg (b : List Stmt) : Expr := match b with
  | .Expr (.Call _ [e] _ _) _ :: _ => e
  | _ => default
noncomputable def cElt (b : List Stmt) : Expr := match cArg b with
  | .ListComp e _ _ _ => e
  | _ => default
noncomputable def cIter (b : List Stmt) : Expr := match cArg b with
  | .ListComp _ [⟨_, i, _, _⟩] _ _ => i
  | _ => default
noncomputable def cIfs (b : List Stmt) : List Expr := match cArg b with
  | .ListComp _ [⟨_, _, i, _⟩] _ _ => i
  | _ => []
noncomputable def cSc (b : List Stmt) : Scope := match cArg b with
  | .ListComp _ _ s _ => s
  | _ => default
noncomputable abbrev rbB := defBody pw "_law_right_behind"
noncomputable abbrev rbS := defScope pw "_law_right_behind"
noncomputable def instW (C : Addr) (x : Str) : D := .inst C (wsF x (wsOf x))
theorem wsOk_of {x : Str} (hz : x.length ≤ 400) : WsOk (wsOf x) := by
  have hsl : (signsOf x).length ≤ 400 := by unfold signsOf; rw [List.length_map]; exact hz
  have h := wsGo_le (signsOf x) ⟨[], 0, 0, 0⟩
  have h1 := h.1; have h2 := h.2
  simp at h1 h2
  exact ⟨by unfold wsOf; omega, by unfold wsOf; omega⟩
theorem rng0 : (fun i : Nat => D.int ((0 : Int) + (i : Nat))) = dN := by funext i; unfold dN; rw [Int.zero_add]
noncomputable def toldRow (lines : List Str) (x : Str) : List Nat := (List.range 6).filter fun k => lessW (wsOf x) (wsOf (lines.getD k Str.empty))
theorem told_loop {C : Addr} (B : Blt c) (hc : c.Ok) (M : WsM c C) (lines : List Str) (h6 : lines.length = 6) (hz : ∀ x ∈ lines, x.length ≤ 400) (lv : D) : ∀ (l : List Str) (acc : List (List Nat)), (∀ x ∈ l, x ∈ lines) → acc.length + l.length ≤ 100 →
    LoopR (Turn c 3 rbS [] (fTarget rbB 2) (fBody rbB 2)) (l.map (instW C)) [("lines", .val lv), ("leads", .val (.lst (lines.map (instW C)))), ("told", .lst (acc.map nats))] .next [("lines", .val lv), ("leads", .val (.lst (lines.map (instW C)))), ("told", .lst ((acc ++ l.map (toldRow lines)).map nats))]
  | [], acc, _, _ => by simp only [List.map_nil, List.append_nil]; exact .nil
  | x :: r, acc, hm, h => by
    simp only [List.length_cons] at h
    have ih := told_loop B hc M lines h6 hz lv r (acc ++ [toldRow lines x]) (fun y hy => hm y (.tail _ hy)) (by simp <;> omega)
    rw [List.append_assoc] at ih
    obtain ⟨f, hM, hf⟩ := M.ls
    refine .next ⟨_, AsgT_name rfl (by decide), ?_⟩ ih
    have hx := hz x (hm x (.head _))
    have hcomp : CompOf c 3 rbS [("lines", .val lv), ("leads", .val (.lst (lines.map (instW C)))), ("told", .lst (acc.map nats)), ("lead", .val (instW C x))] (cElt (fBody rbB 2)) (cIter (fBody rbB 2)) "k" (cIfs (fBody rbB 2)) (cSc (fBody rbB 2)) [("leads", .val (.lst (lines.map (instW C)))), ("lead", .val (instW C x))] ((toldRow lines x).map dN) := by
      refine ⟨by decide, FreeOk.get ⟨rfl, rfl, rfl, rfl, trivial⟩, fun _ _ => rfl, .rng 0 6, (List.range 6).map (fun i => .int ((0 : Int) + (i : Nat))), .of (Ev_callB hc B.range rfl nofun (EvLR_cons EvR_int EvLR_nil) CallR.range1), rfl, rfl, by decide, ?_⟩
      rw [← rng0]
      refine compR_of (fun i : Nat => .int ((0 : Int) + (i : Nat))) _ (fun i : Nat => .int ((0 : Int) + (i : Nat))) (List.range 6) (fun i hi => .one ?_) (fun i hi _ => Ev_name rfl rfl)
      have hi := List.mem_range.mp hi
      have hil : i < lines.length := by omega
      have hg : lines.getD i Str.empty = lines[i] := by rw [List.getD_eq_getElem?_getD, List.getElem?_eq_getElem hil]; rfl
      have hy : (lines.getD i Str.empty).length ≤ 400 := by rw [hg]; exact hz _ (List.getElem_mem hil)
      have hn : ((0 : Int) + (i : Nat)).toNat = i := by omega
      refine Te_plain (.of (Ev_meth hc hM (Ev_name rfl rfl) rfl (EvL_cons (Ev_Sub (d := instW C (lines.getD i Str.empty)) (EvR_name rfl rfl) (EvR_name rfl rfl) (Itm.lst (by omega) (by rw [hn, List.getElem?_map, List.getElem?_eq_getElem hil, hg]; rfl) (by omega))) EvL_nil) ((ls_fn hc M B (wsOk_of hx) (wsOk_of hy) hf).le (by omega)))) Tru.bool
    refine (Ex_cons (ExS_exprX (EvX_append rfl rfl (EvX.of (EvNew_comp hcomp).ev) rfl (by simp <;> omega))) Ex_nil).less ⟨rfl, rfl, ?_, trivial⟩
    show some (Slot.lst _) = some (Slot.lst _)
    rw [List.map_append]; rfl
end Mine
end

section
open PySem PySem.Calls PyProof.Rows PySem.W
set_option maxRecDepth 100000
set_option linter.unusedVariables false
namespace Mine
variable {c : Cx} {n : Nat}
theorem dN_ints (l : List Nat) : l.map dN = (l.map fun i : Nat => (i : Int)).map D.int := by rw [List.map_map]; rfl
theorem inN (a : Nat) : ∀ l : List Nat, ((D.py.pyAll (l.map dN)).any fun y => PyData.eqv y (dN a).py) = l.contains a
  | [] => rfl
  | b :: r => by
    have ih := inN a r
    show (PyData.eqv (dN b).py (dN a).py || (D.py.pyAll (r.map dN)).any fun y => PyData.eqv y (dN a).py) = (b :: r).contains a
    rw [ih, List.contains_cons]
    congr 1
    show ((b : Int) == (a : Int)) = (a == b)
    by_cases h : b = a
    · subst h; simp
    · have h1 : (b : Int) ≠ (a : Int) := by omega
      have h2 : a ≠ b := fun q => h q.symm
      rw [beq_eq_false_iff_ne.mpr h1, beq_eq_false_iff_ne.mpr h2]
theorem okEq_nats (l : List Nat) : okEq (.lst (l.map dN)) = true := by rw [dN_ints]; exact okEq_ints _
theorem okEq_dN (a : Nat) : okEq (dN a) = true := rfl
theorem eqv_nilN (l : List Nat) : PyData.eqv (D.lst (l.map dN)).py (D.lst []).py = l.isEmpty := by
  cases l <;> rfl
noncomputable def nextB (told : List (List Nat)) (k other : Nat) : Bool := ((told.getD k []).filter fun mid => (told.getD mid []).contains other).isEmpty
theorem told_at {told : List (List Nat)} {k : Nat} (hk : k < told.length) : (told.map nats)[k]? = some (nats (told.getD k [])) := by
  rw [List.getElem?_map, List.getElem?_eq_getElem hk, List.getD_eq_getElem?_getD, List.getElem?_eq_getElem hk]; rfl
noncomputable def iElt (b : List Stmt) (i : Nat) : Expr := match iTest b i with
  | .Compare (.ListComp e _ _ _) _ _ _ => e
  | _ => default
noncomputable abbrev rbρ (lines : List Str) (told : List (List Nat)) (C : Addr) (hs : Rows) : Vars := [("lines", .val (lst lines)), ("told", .lst (told.map nats)), ("table", .hdr C (rowsD hs))]
noncomputable abbrev rbI := fBody (fBody rbB 4) 0
theorem next_te {C : Addr} {hs : Rows} (B : Blt c) (hc : c.Ok) {lines : List Str} {told : List (List Nat)} (h6 : told.length = 6) (hr : ∀ r ∈ told, ∀ x ∈ r, x < 6) (hl : ∀ r ∈ told, r.length ≤ 6) {k other : Nat} (hk : k < 6) :
    Te c n rbS [("lines", .val (lst lines)), ("told", .lst (told.map nats)), ("table", .hdr C (rowsD hs)), ("k", .val (dN k)), ("other", .val (dN other))] (iTest rbI 0) (nextB told k other) := by
  have hkt : k < told.length := by omega
  have hmem : told.getD k [] ∈ told := by rw [List.getD_eq_getElem?_getD, List.getElem?_eq_getElem hkt]; exact List.getElem_mem hkt
  refine (Te_Compare (a := .lst (((told.getD k []).filter fun mid => (told.getD mid []).contains other).map dN)) (b := .lst []) (.of (EvNew_comp (ρc := [("told", .lst (told.map nats)), ("other", .val (dN other))]) ⟨by decide, FreeOk.get ⟨rfl, rfl, rfl, rfl, trivial⟩, fun _ _ => rfl, nats (told.getD k []), (told.getD k []).map dN, .of (Ev_Sub (EvR_own rfl rfl) (EvR_name rfl rfl) (Itm.lst (Int.natCast_nonneg _) (by rw [Int.toNat_natCast]; exact told_at hkt) (by omega))), rfl, rfl, by rw [List.length_map]; have := hl _ hmem; omega, ?_⟩).ev) (.of (Ev_List EvL_nil (by decide))) (Cmp.eqD (okEq_nats _) rfl)).conv (eqv_nilN _)
  refine compR_of dN _ dN (told.getD k []) (fun mid hmid => .one ?_) (fun mid _ _ => Ev_name rfl rfl)
  have hm6 := hr _ hmem mid hmid
  exact (Te_Compare (EvR_name rfl rfl) (.of (Ev_Sub (d := nats (told.getD mid [])) (EvR_own rfl rfl) (EvR_name rfl rfl) (Itm.lst (Int.natCast_nonneg _) (by rw [Int.toNat_natCast]; exact told_at (by omega)) (by omega)))) (Cmp.inL (okEq_dN other) (okEq_nats _))).conv (inN other _)
theorem FnH.le {m : Nat} {fv : Value} {C : Addr} {xs ds xs' : List D} (h : FnH c n fv C xs ds xs') (hm : n ≤ m) : FnH c m fv C xs ds xs' := fun A F s x l vs R => h A F s x l vs (R.le hm)
noncomputable def rowOf (lines : List Str) (k other : Nat) : Str × Str := (letter k, lines.getD other Str.empty)
theorem rb_inner {C : Addr} {nc vc : Array Nat} (B : Blt c) (hc : c.Ok) (H : HdK c C nc vc) {lines : List Str} {told : List (List Nat)} (hL : lines.length = 6) (hvc : ∀ x ∈ lines, missB vc x = true ∧ x.cps.size ≤ 400) (hnc : ∀ k, k < 6 → missB nc (letter k) = true) (h6 : told.length = 6) (hr : ∀ r ∈ told, ∀ x ∈ r, x < 6) (hl : ∀ r ∈ told, r.length ≤ 6) {k : Nat} (hk : k < 6) : ∀ (l : List Nat) (hs : Rows), (∀ x ∈ l, x < 6) → hs.length + l.length ≤ 900 →
    LoopR (Turn c 3 rbS [] (fTarget (fBody rbB 4) 0) rbI) (l.map dN) [("lines", .val (lst lines)), ("told", .lst (told.map nats)), ("table", .hdr C (rowsD hs)), ("k", .val (dN k))] .next [("lines", .val (lst lines)), ("told", .lst (told.map nats)), ("table", .hdr C (rowsD (hs ++ (l.filter (nextB told k)).map (rowOf lines k)))), ("k", .val (dN k))]
  | [], hs, _, _ => by simp only [List.filter_nil, List.map_nil, List.append_nil]; exact .nil
  | o :: r, hs, ho, hz => by
    simp only [List.length_cons] at hz
    have ho6 := ho o (.head _)
    have hol : o < lines.length := by omega
    have hg : lines.getD o Str.empty = lines[o] := by rw [List.getD_eq_getElem?_getD, List.getElem?_eq_getElem hol]; rfl
    have hv := hvc _ (List.getElem_mem hol)
    rw [← hg] at hv
    obtain ⟨fa, fda, hMa, Da, hba⟩ := H.add
    have te := next_te (c := c) (n := 3) (C := C) (hs := hs) (other := o) B hc h6 hr hl hk (lines := lines)
    by_cases ht : nextB told k o = true
    · have ih := rb_inner B hc H hL hvc hnc h6 hr hl hk r (hs ++ [rowOf lines k o]) (fun x hx => ho x (.tail _ hx)) (by simp <;> omega)
      rw [List.append_assoc] at ih
      rw [List.filter_cons, if_pos ht, List.map_cons]
      refine .next ⟨_, AsgT_name rfl (by decide), ?_⟩ ih
      have ha : FnH c 3 (.ref fa) C (rowsD hs) [.str (letter k), .str (lines.getD o Str.empty)] (rowsD (hs ++ [rowOf lines k o])) := by
        have := (add_fn hc H Da hba (hnc k hk) hv.1 (by show 1 ≤ 1000; decide) (by have := hv.2; omega) (xs := rowsD hs) (by unfold rowsD; rw [List.length_map]; omega)).le (show 2 ≤ 3 by decide)
        unfold rowsD at this ⊢
        rw [List.map_append]; exact this
      obtain ⟨a1, a2⟩ := abc_at k hk
      refine (Ex_cons (ExS_if (te.conv ht) (fun _ => Ex_cons (ExS_exprX (EvX_callHdr hc hMa ha (by decide) rfl rfl (EvL_cons (Ev_Sub (d := .str (letter k)) EvR_str (EvR_name rfl rfl) (Itm.str (k := k) (cp := 97 + k) a1 a2 (by omega) (by omega))) (EvL_cons (Ev_Sub (d := .str (lines.getD o Str.empty)) (EvR_name rfl rfl) (EvR_name rfl rfl) (Itm.lst (Int.natCast_nonneg _) (by rw [Int.toNat_natCast, List.getElem?_map, List.getElem?_eq_getElem hol, hg]; rfl) (by omega))) EvL_nil)))) Ex_nil) (fun e => nomatch e)) Ex_nil).less ⟨rfl, rfl, rfl, rfl, trivial⟩
    · have ih := rb_inner B hc H hL hvc hnc h6 hr hl hk r hs (fun x hx => ho x (.tail _ hx)) (by omega)
      rw [List.filter_cons, if_neg ht]
      refine .next ⟨_, AsgT_name rfl (by decide), ?_⟩ ih
      exact (Ex_cons (ExS_if (te.conv (Bool.eq_false_iff.mpr ht)) (fun e => nomatch e) (fun _ => Ex_nil)) Ex_nil).less ⟨rfl, rfl, rfl, rfl, trivial⟩
/-- the table's rows, line by line -/
noncomputable def rowsFor (lines : List Str) (told : List (List Nat)) (k : Nat) : Rows := ((told.getD k []).filter (nextB told k)).map (rowOf lines k)
theorem rb_outer {C : Addr} {nc vc : Array Nat} (B : Blt c) (hc : c.Ok) (H : HdK c C nc vc) {lines : List Str} {told : List (List Nat)} (hL : lines.length = 6) (hvc : ∀ x ∈ lines, missB vc x = true ∧ x.cps.size ≤ 400) (hnc : ∀ k, k < 6 → missB nc (letter k) = true) (h6 : told.length = 6) (hr : ∀ r ∈ told, ∀ x ∈ r, x < 6) (hl : ∀ r ∈ told, r.length ≤ 6) : ∀ (l : List Nat) (hs : Rows), (∀ x ∈ l, x < 6) → hs.length + 6 * l.length ≤ 900 →
    LoopR (Turn c 3 rbS [] (fTarget rbB 4) (fBody rbB 4)) (l.map dN) (rbρ lines told C hs) .next (rbρ lines told C (hs ++ l.flatMap (rowsFor lines told)))
  | [], hs, _, _ => by simp only [List.flatMap_nil, List.map_nil, List.append_nil]; exact .nil
  | k :: r, hs, ho, hz => by
    simp only [List.length_cons] at hz
    have hk := ho k (.head _)
    have hkt : k < told.length := by omega
    have hmem : told.getD k [] ∈ told := by rw [List.getD_eq_getElem?_getD, List.getElem?_eq_getElem hkt]; exact List.getElem_mem hkt
    have hlen := hl _ hmem
    have hrl : (rowsFor lines told k).length ≤ 6 := by unfold rowsFor; rw [List.length_map]; exact Nat.le_trans (List.length_filter_le _ _) hlen
    have ih := rb_outer B hc H hL hvc hnc h6 hr hl r (hs ++ rowsFor lines told k) (fun x hx => ho x (.tail _ hx)) (by rw [List.length_append]; omega)
    rw [List.append_assoc] at ih
    rw [List.flatMap_cons]
    refine .next ⟨_, AsgT_name rfl (by decide), ?_⟩ ih
    have L := rb_inner B hc H hL hvc hnc h6 hr hl hk (told.getD k []) hs (hr _ hmem) (by omega)
    exact (Ex_cons (ExS_for (d := nats (told.getD k [])) (Ev_Sub (EvR_own rfl rfl) (EvR_name rfl rfl) (Itm.lst (Int.natCast_nonneg _) (by rw [Int.toNat_natCast]; exact told_at hkt) (by omega))) rfl rfl L (.inl rfl)) Ex_nil).less ⟨rfl, rfl, rfl, trivial⟩
end Mine
end

section
open PySem PySem.Calls PyProof.Rows PySem.W
set_option maxRecDepth 100000
set_option linter.unusedVariables false
namespace Mine
variable {c : Cx} {n : Nat}
theorem FnF.le {m : Nat} {fv : Value} {ds : List D} {d : D} (h : FnF c n fv ds d) (hm : n ≤ m) : FnF c m fv ds d := fun A F s vs R => h A F s vs (R.le hm)
noncomputable def rExp (b : List Stmt) (i : Nat) : Expr := match b[i]? with
  | some (.Return (some e) _) => e
  | _ => default
noncomputable def lastOf (x : Str) : Str := ⟨#[x.cps.getD (x.cps.size - 1) 0]⟩
theorem Itm.last {x : Str} (h0 : 0 < x.cps.size) (hz : x.cps.size ≤ 400) : Itm c (.str x) (.int (-1)) (.str (lastOf x)) := by
  refine Itm.str (k := x.cps.size - 1) ?_ ?_ (by decide) (by decide)
  · unfold seqIndex?
    have e : x.length = x.cps.size := rfl
    rw [e]
    simp
    omega
  · rw [Array.getD_eq_getD_getElem?, Array.getElem?_eq_getElem (by omega)]; rfl
noncomputable def caps : List Str := signsOf "ABCDEF"
noncomputable def rowsOutM (hs : Rows) : List (List Str) := caps.map fun u => (getAllM hs u).map lastOf
noncomputable def lst2 (l : List (List Str)) : D := .lst (l.map lst)
theorem rb_rows {C : Addr} {nc vc : Array Nat} (hc : c.Ok) (H : HdK c C nc vc) {lv : D} {tv : List D} {hs : Rows} (hn : hs.length ≤ 1000) (hkz : ∀ kv ∈ hs, kv.1.length ≤ 1000 ∧ 0 < kv.2.cps.size ∧ kv.2.cps.size ≤ 400) (hu : ∀ u ∈ caps, missB nc (Txt.lower u) = true ∧ u.length ≤ 300 ∧ (Txt.lower u).cps.size ≤ 1000) :
    EvNew c 3 rbS [("lines", .val lv), ("told", .lst tv), ("table", .hdr C (rowsD hs))] (rExp rbB 5) ((rowsOutM hs).map lst) := by
  obtain ⟨fg, fdg, hMg, Dg, hbg⟩ := H.getall
  refine EvNew_comp (ρc := [("table", .hdr C (rowsD hs))]) ⟨by decide, FreeOk.get ⟨rfl, rfl, trivial⟩, fun _ _ => rfl, .str "ABCDEF", caps.map .str, EvR_str, rfl, rfl, by decide, ?_⟩
  unfold rowsOutM
  rw [List.map_map]
  refine compR_map .str _ caps (fun _ => .nil) fun u hmem => ?_
  obtain ⟨m1, m2, m3⟩ := hu u hmem
  have hg := (getall_fn hc H Dg hbg m1 m2 m3 hn (fun kv h => (hkz kv h).1)).le (show 2 ≤ 3 by decide)
  refine (EvNew_comp (ρc := []) (ys := ((getAllM hs u).map lastOf).map .str) ⟨by decide, FreeOk.get (ρc := []) trivial, fun _ _ => rfl, .lst ((getAllM hs u).map .str), (getAllM hs u).map .str, .of (Ev_hdrList hc hMg rfl rfl (by decide) (EvL_cons (Ev_name rfl rfl) EvL_nil) hg (fun y hy => by obtain ⟨z, _, rfl⟩ := List.mem_map.mp hy; rfl)), rfl, rfl, ?_, ?_⟩).ev
  · rw [List.length_map]; unfold getAllM; rw [List.length_map]; exact Nat.le_trans (List.length_filter_le _ _) (by omega)
  · rw [List.map_map]
    refine compR_map .str _ (getAllM hs u) (fun _ => .nil) fun x hx => ?_
    obtain ⟨kv, hkv, rfl⟩ := List.mem_map.mp (show x ∈ (hs.filter _).map (·.2) from hx)
    have hk := hkz kv (List.mem_filter.mp hkv).1
    exact Ev_Sub (EvR_name rfl rfl) (.of (Ev_UnaryOp EvR_int Una.neg)) (Itm.last hk.2.1 hk.2.2)
end Mine
end

section
open PySem PySem.Calls PyProof.Rows PySem.W
set_option maxRecDepth 100000
set_option linter.unusedVariables false
namespace Mine
variable {c : Cx} {n : Nat}
theorem FnI.le {m : Nat} {fi : Value} {C : Addr} {ds : List D} {fs : List (Str × D)} (h : FnI c n fi C ds fs) (hm : n ≤ m) : FnI c m fi C ds fs := fun A F s x dx vs R => h A F s x dx vs (R.le hm)
noncomputable def toldM (lines : List Str) : List (List Nat) := lines.map (toldRow lines)
noncomputable def tableM (lines : List Str) : Rows := (List.range 6).flatMap (rowsFor lines (toldM lines))
theorem flat_len {α β : Type} (f : α → List β) (m : Nat) : ∀ l : List α, (∀ a ∈ l, (f a).length ≤ m) → (l.flatMap f).length ≤ m * l.length
  | [], _ => by simp
  | a :: r, h => by
    have ih := flat_len f m r fun b hb => h b (.tail _ hb)
    have := h a (.head _)
    rw [List.flatMap_cons, List.length_append, List.length_cons, Nat.mul_add]; omega
theorem told_facts {lines : List Str} (hL : lines.length = 6) : (toldM lines).length = 6 ∧ (∀ r ∈ toldM lines, ∀ x ∈ r, x < 6) ∧ ∀ r ∈ toldM lines, r.length ≤ 6 := by
  refine ⟨by unfold toldM; rw [List.length_map, hL], fun r hr x hx => ?_, fun r hr => ?_⟩
  · obtain ⟨y, _, rfl⟩ := List.mem_map.mp hr
    exact List.mem_range.mp (List.mem_filter.mp hx).1
  · obtain ⟨y, _, rfl⟩ := List.mem_map.mp hr
    exact Nat.le_trans (List.length_filter_le _ _) (by simp)
theorem rb_fn {fv : Value} {Cw Ch : Addr} {nc vc : Array Nat} {lines : List Str} (B : Blt c) (hc : c.Ok) (M : WsM c Cw) (H : HdK c Ch nc vc) (hf : IsFn c fv ["lines"] rbB rbS) (hL : lines.length = 6) (hv : ∀ x ∈ lines, missB vc x = true ∧ x.cps.size ≤ 400 ∧ 0 < x.cps.size) (hnc : ∀ k, k < 6 → missB nc (letter k) = true) (hu : ∀ u ∈ caps, missB nc (Txt.lower u) = true ∧ u.length ≤ 300 ∧ (Txt.lower u).cps.size ≤ 1000) : FnP c 4 fv [lst lines] (lst2 (rowsOutM (tableM lines))) := by
  obtain ⟨fi, fdi, hN, Di, hbi⟩ := M.init
  obtain ⟨fh, fdh, hNh, Dh, hbh⟩ := H.init
  obtain ⟨t6, tr, tl⟩ := told_facts hL
  have hz : ∀ x ∈ lines, x.length ≤ 400 := fun x hx => (hv x hx).2.1
  refine FnP_intro (n := 3) (fl := .retF (lst2 (rowsOutM (tableM lines)))) (ρ' := rbρ lines (toldM lines) Ch (tableM lines)) hc hf (by decide) rfl ⟨nofun, nofun⟩ ?_
  refine Ex_cons (ExS_comp (ρc := []) (ys := lines.map (instW Cw)) ⟨by decide, FreeOk.get (ρc := []) trivial, fun _ _ => rfl, lst lines, lines.map .str, EvR_name rfl rfl, rfl, rfl, by rw [List.length_map]; omega, ?_⟩ rfl (by decide)) ?_
  · refine compR_map .str (instW Cw) lines (fun _ => .nil) fun x hx => ?_
    exact Ev_new (n := 2) hc M.k.glb hN ((ws_init hc M.k B.len B.tuple Di hbi (hz x hx)).le (by decide)) rfl (EvL_cons (Ev_name rfl rfl) EvL_nil)
  refine Ex_cons (ExS_assignNew (EvNew_List EvL_nil (by decide)) rfl (by decide)) ?_
  have L2 := told_loop (c := c) B hc M lines hL hz (lst lines) lines [] (fun x hx => hx) (by simp <;> omega)
  rw [List.nil_append] at L2
  refine Ex_cons (ExS_for (d := .lst (lines.map (instW Cw))) (Ev_name rfl rfl) rfl rfl L2 (.inl rfl)) ?_
  refine Ex_cons ((ExS_assignHdr (n := 2) (pn := []) hc H.glb hNh (hinit_fn hc H Dh hbh) rfl rfl (by decide)).less (ρ' := rbρ lines (toldM lines) Ch []) ⟨rfl, rfl, rfl, trivial⟩) ?_
  have L4 := rb_outer (c := c) B hc H hL (fun x hx => ⟨(hv x hx).1, (hv x hx).2.1⟩) hnc t6 tr tl (List.range 6) [] (fun x hx => List.mem_range.mp hx) (by decide)
  rw [List.nil_append] at L4
  refine Ex_cons (ρ₁ := rbρ lines (toldM lines) Ch (tableM lines)) (ExS_for (d := .rng 0 6) (xs := (List.range 6).map dN) (Ev_callB hc B.range rfl nofun (EvLR_cons EvR_int EvLR_nil) CallR.range1) (by rw [← rng0]; rfl) rfl L4 (.inl rfl)) ?_
  have hrow : ∀ k ∈ List.range 6, (rowsFor lines (toldM lines) k).length ≤ 6 := fun k hk => by
    have hkt : k < (toldM lines).length := by rw [t6]; exact List.mem_range.mp hk
    have hmem : (toldM lines).getD k [] ∈ toldM lines := by rw [List.getD_eq_getElem?_getD, List.getElem?_eq_getElem hkt]; exact List.getElem_mem hkt
    unfold rowsFor; rw [List.length_map]; exact Nat.le_trans (List.length_filter_le _ _) (tl _ hmem)
  have hlen := flat_len _ 6 (List.range 6) hrow
  refine Ex_stop (ExS_returnNew (rb_rows hc H (Nat.le_trans hlen (by decide)) (fun kv hkv => ?_) hu))
  obtain ⟨k, hk, hkv⟩ := List.mem_flatMap.mp hkv
  have hkt : k < (toldM lines).length := by rw [t6]; exact List.mem_range.mp hk
  have hmem : (toldM lines).getD k [] ∈ toldM lines := by rw [List.getD_eq_getElem?_getD, List.getElem?_eq_getElem hkt]; exact List.getElem_mem hkt
  obtain ⟨o, ho, rfl⟩ := List.mem_map.mp (show kv ∈ ((_ : List Nat).filter _).map _ from hkv)
  have ho6 := tr _ hmem o (List.mem_filter.mp ho).1
  have hol : o < lines.length := by omega
  have hg : lines.getD o Str.empty = lines[o] := by rw [List.getD_eq_getElem?_getD, List.getElem?_eq_getElem hol]; rfl
  have hvo := hv _ (List.getElem_mem hol)
  rw [← hg] at hvo
  exact ⟨by show 1 ≤ 1000; decide, hvo.2.2, hvo.2.1⟩
end Mine
end

section
open PySem PySem.Calls PyProof.Rows PySem.W
set_option maxRecDepth 100000
set_option linter.unusedVariables false
namespace Mine
variable {c : Cx} {n : Nat}
theorem eqvAll_ints : ∀ xs ys : List Int, PyData.eqvAll (xs.map PyData.int) (ys.map PyData.int) = decide (xs = ys)
  | [], [] => rfl
  | [], _ :: _ => rfl
  | _ :: _, [] => rfl
  | a :: r, b :: s => by
    have ih := eqvAll_ints r s
    show ((a == b) && PyData.eqvAll (r.map PyData.int) (s.map PyData.int)) = _
    rw [ih]
    by_cases h : a = b
    · subst h; simp
    · have : (a == b) = false := by simpa using h
      rw [this]; simp [h]
theorem eqv_ints (xs ys : List Int) : PyData.eqv (D.lst (xs.map .int)).py (D.lst (ys.map .int)).py = decide (xs = ys) := by
  show PyData.eqvAll (D.py.pyAll _) (D.py.pyAll _) = _
  rw [pyAll_ints, pyAll_ints, eqvAll_ints]
/-- (marks, line) as the heap of the numbers holds them -/
noncomputable def entryLt (p q : List Int × Int) : Bool := if p.1 = q.1 then decide (p.2 < q.2) else lexLt p.1 q.1
noncomputable def entryD (p : List Int × Int) : D := .tup [.lst (p.1.map .int), .int p.2]
theorem Cmp.ltEntry (p q : List Int × Int) : Cmp c .Lt (entryD p) (entryD q) (entryLt p q) := by
  refine Cmp.ofLt (LtU.tup (u := 80) ?_) (by decide)
  unfold entryLt
  by_cases h : p.1 = q.1
  · rw [if_pos h]
    refine .eq (okEq_ints _) (okEq_ints _) (by rw [eqv_ints]; exact decide_eq_true h) ?_
    by_cases h2 : p.2 = q.2
    · have : decide (p.2 < q.2) = false := decide_eq_false (by omega)
      rw [this]
      exact .eq rfl rfl (by show (p.2 == q.2) = true; simpa using h2) .nil
    · exact .ne rfl rfl (by show (p.2 == q.2) = false; simpa using h2) LtU.int
  · rw [if_neg h]
    exact .ne (okEq_ints _) (okEq_ints _) (by rw [eqv_ints]; exact decide_eq_false h) (LtU.lst (u := 0) (ltL_ints _ _))
end Mine
end

section
open PySem PySem.Calls PyProof.Rows PySem.W
set_option maxRecDepth 100000
set_option linter.unusedVariables false
namespace Mine
variable {c : Cx} {n : Nat} {sc : Scope} {pn : List Str} {ρ : Vars}
theorem FnF.p {fv : Value} {ds : List D} {d : D} (h : FnF c n fv ds d) : FnP c n fv ds d := fun A F s vs R hb l r => wpAny_mono (h A F s vs R hb l r) (fun _ _ q => q.1) fun _ _ x => x
/-- return of an own table -/
theorem ExS_returnHdr {x : Str} {p pos : Pos} {C : Addr} {xs : List D} (hx : ρ.lookup x = some (.hdr C xs)) (hl : isLoc sc x = true) : ExS c n sc pn ρ (.Return (some (.Name x p)) pos) (.ret (.inst C (hdrF xs))) [] := fun A env pins F P s R ok hp S => by
  obtain ⟨vm, fp, S⟩ := S
  obtain ⟨a, dx, l, od, es, k, hv, hfp, ha, hd, hdd, hk, z, r, vs, ⟨m, pl⟩, q⟩ := S.hdr hx
  refine wpAny_Return_some (load_var (h := s.heap) ok S.sto hl hv ?_)
  have hm : l ∈ fp x := by rw [hfp]; exact .head _
  have hPa : P l := (S.mem l).mpr (.inr ⟨x, _, hx, hm⟩)
  have hn := S.out l hPa
  have g := Fz.ins_le (o := { cls := .type "list", data := .seq vs m }) hn
  have le' : Fle (F.ins l { cls := .type "list", data := .seq vs m }) s.heap.get? := fun b o e => by
    unfold Fz.ins at e
    by_cases h1 : b = l
    · subst h1; rw [if_pos rfl] at e; cases e; exact pl
    · rw [if_neg h1] at e; exact S.le b o e
  refine ⟨F.ins l { cls := .type "list", data := .seq vs m }, fun b => b ∈ Mine.stor env, ⟨g, fun b o e => ?_, fun b o _ e => e, fun b q => .inl ((S.mem b).mpr (.inl q)), Nat.le_refl _⟩, .refl s, ⟨vm, fp, ?_⟩, .ret (.inst (g _ _ ha) (g _ _ hd) hdd hk (.cons z (.lst (Fz.ins_self _ _ _) rfl rfl (q.mono g)) .nil) fun y hy => r y fun e => ?_)⟩
  · unfold Fz.ins at e
    by_cases h1 : b = l
    · subst h1; exact .inr (.inl hPa)
    · rw [if_neg h1] at e; exact .inl e
  · exact {
      base := S.base.trans g
      le := le'
      sto := S.sto
      own := fun _ _ e => nomatch e
      pin := S.pin
      mem := fun b => ⟨.inl, fun q => q.elim id fun hp1 => by obtain ⟨_, _, e, _⟩ := hp1; exact nomatch e⟩
      lt := fun b q => S.lt b ((S.mem b).mpr (.inl q))
      out := fun b q => by
        unfold Fz.ins
        rw [if_neg (fun z => S.aparts x _ hx l hm (by rw [← z]; exact q))]
        exact S.out b ((S.mem b).mpr (.inl q))
      nd := fun _ _ e => nomatch e
      apart := fun _ _ _ _ e => nomatch e
      aparts := fun _ _ e => nomatch e }
  · subst e; simp [hdrF] at hy
/-- len of a table that is read only -/
theorem Ev_lenInst {C : Addr} {sc : Scope} {ρ : Vars} {e : Expr} {p pos : Pos} {fs : List (Str × D)} {f : Addr} {k : Int} (hc : c.Ok) (hg : Glb c "len" (.builtin "len")) (hi : isGlb sc "len" = true) (hM : MethK c C "__len__" f) (he : Ev c (n + 1) sc ρ e (.inst C fs)) (hp : plainArg e = true) (h : FnP c n (.ref f) [.inst C fs] (.int k)) (h0 : 0 ≤ k) (h1 : k < 2 ^ 63) :
    Ev c (n + 1) sc ρ (.Call (.Name "len" p) [e] [] pos) (.int k) := fun A env pins F P s R ok S => by
  refine wpAny_Call_Name_kw (load_glob hc ok S.keep hi hg ?_)
  rw [starEach_plain hp]
  show wpAny _ _ (callWith pos (.builtin "len") [] (backTo pos [(false, eval e env)]) []) _ _ _
  refine callWith_val rfl nofun ?_
  refine spliced_cons (wpAny_mono (he A env pins F P s R ok S) (fun v s₁ hp2 => ?_) fun _ _ x => x)
  obtain ⟨F₁, G₁, X₁, r₁⟩ := hp2
  refine spliced_nil ?_
  cases r₁ with
  | @inst a dx _ od es kk _ h1' h2' hdd hk rf nm =>
    refine Calls.call_function_entry kind_len plain_len entry_len (args_len1 _) ?_
    unfold Builtin.«len»
    refine wpAny_bind (m := oneArg "len" _) (wpAny_pure ?_)
    refine wpAny_bind (m := callSpecial? (.ref a) (Str.ofString "__len__")) (special_fn (od := some od) (hc.at_ (S.grow G₁).keep) ⟨G₁.le _ _ h1', rfl, rfl, G₁.le _ _ h2'⟩ hM.find hM.ty ?_)
    refine wpAny_mono (h A.in1 F₁ s₁ [.ref a] R.in1 (S.grow G₁).base G₁.le (.cons (.inst h1' h2' hdd hk rf nm) .nil)) (fun v s₃ hp3 => ?_) fun _ _ x => x.elim
    obtain ⟨F₃, G₃, X₃, r₃⟩ := hp3
    cases r₃ with
    | int _ t =>
      refine wpAny_bind (wpAny_holding (wpAny_pure ?_))
      refine wpAny_bind (wpAny_letGo ?_)
      show wpAny _ _ (if k < 0 then _ else _) _ _ _
      rw [if_neg (by omega)]
      show wpAny _ _ (if k ≥ 2 ^ 63 then _ else _) _ _ _
      rw [if_neg (by omega)]
      exact wpAny_bind (wpAny_mkInt (wpAny_pure ⟨_, rfl, F₃, G₁.trans G₃, X₁.trans (X₃.trans ⟨_, _, rfl⟩), .int _ _⟩))
end Mine
end

section
open PySem PySem.Calls PyProof.Rows PySem.W
set_option maxRecDepth 100000
set_option linter.unusedVariables false
namespace Mine
/-! a heap, in plain words -/
structure LtOk (lt : D → D → Bool) (ok : D → Prop) : Prop where
  asym : ∀ a b, ok a → ok b → lt a b = true → lt b a = false
  tr : ∀ a b e, ok a → ok b → ok e → lt b a = false → lt e b = false → lt e a = false
noncomputable abbrev gd (h : List D) (i : Nat) : D := h.getD i .none
theorem gd_set {h : List D} {i j : Nat} {x : D} (hi : i < h.length) : gd (h.set i x) j = if j = i then x else gd h j := by
  unfold gd
  rw [List.getD_eq_getElem?_getD, List.getElem?_set, List.getD_eq_getElem?_getD]
  by_cases e : i = j
  · subst e; simp [hi]
  · rw [if_neg e, if_neg (fun q => e q.symm)]
noncomputable def HeapI (lt : D → D → Bool) (h : List D) : Prop := ∀ i, 0 < i → i < h.length → lt (gd h i) (gd h ((i - 1) / 2)) = false
structure Hole (lt : D → D → Bool) (h : List D) (p : Nat) : Prop where
  far : ∀ i, 0 < i → i < h.length → i ≠ p → (i - 1) / 2 ≠ p → lt (gd h i) (gd h ((i - 1) / 2)) = false
  up : ∀ i, 0 < i → i < h.length → (i - 1) / 2 = p → 0 < p → lt (gd h i) (gd h ((p - 1) / 2)) = false
theorem perm_set {x : D} : ∀ {l : List D} {i : Nat}, i < l.length → (x :: l).Perm (gd l i :: l.set i x)
  | [], i, h => by simp at h
  | a :: r, 0, _ => List.Perm.swap a x r
  | a :: r, i + 1, h => by
    have ih := perm_set (x := x) (l := r) (i := i) (by simpa using h)
    show (x :: a :: r).Perm (gd r i :: a :: r.set i x)
    exact ((List.Perm.swap a x r).trans (ih.cons a)).trans (List.Perm.swap (gd r i) a _)
theorem set_set_perm {h : List D} {p q : Nat} {x : D} (hp : p < h.length) (hq : q < h.length) (hne : q ≠ p) : ((h.set p (gd h q)).set q x).Perm (h.set p x) := by
  have e : gd (h.set p (gd h q)) q = gd h q := by rw [gd_set hp, if_neg hne]
  have a1 := perm_set (x := x) (l := h.set p (gd h q)) (i := q) (by simpa using hq)
  rw [e] at a1
  have a2 := perm_set (x := gd h q) (l := h) hp
  have a3 := perm_set (x := x) (l := h) hp
  -- h[p] :: h[q] :: L ~ h[p] :: x :: h1 ~ x :: h[q] :: h ~ h[q] :: h[p] :: R
  have b1 : (gd h p :: gd h q :: ((h.set p (gd h q)).set q x)).Perm (gd h p :: gd h q :: h.set p x) :=
    (a1.symm.cons (gd h p)).trans ((List.Perm.swap x (gd h p) _).trans ((a2.symm.cons x).trans ((List.Perm.swap (gd h q) x h).trans ((a3.cons (gd h q)).trans (List.Perm.swap (gd h p) (gd h q) _)))))
  exact b1.cons_inv.cons_inv
variable {lt : D → D → Bool} {ok : D → Prop}
theorem par_ne {i : Nat} (h : 0 < i) : ¬ (i - 1) / 2 = i := Nat.ne_of_lt (par_lt (Nat.ne_of_gt h))
theorem par2_ne {p : Nat} (h : p ≠ 0) : ((p - 1) / 2 - 1) / 2 ≠ p := by omega
theorem ch_ne {q p : Nat} (h : (q - 1) / 2 = p) (q0 : 0 < q) : q ≠ p := fun e => par_ne q0 (h.trans e.symm)
theorem gg_ne {i q p : Nat} (h1 : (i - 1) / 2 = q) (h2 : (q - 1) / 2 = p) (q0 : 0 < q) : i ≠ p := by omega
theorem su_step {l f p q : Nat} (h : l ≤ f + 1 + p) (h2 : (q - 1) / 2 = p) (q0 : 0 < q) : l ≤ f + q := by omega
theorem ch1 (p : Nat) : (2 * p + 1 - 1) / 2 = p := by omega
theorem ch2 (p : Nat) : (2 * p + 2 - 1) / 2 = p := by omega
theorem sib1 {i p : Nat} (h : (i - 1) / 2 = p) (i0 : 0 < i) (h2 : i ≠ 2 * p + 2) : i = 2 * p + 1 := by omega
theorem sib2 {i p : Nat} (h : (i - 1) / 2 = p) (i0 : 0 < i) (h2 : i ≠ 2 * p + 1) : i = 2 * p + 2 := by omega
theorem sdGo_heap (L : LtOk lt ok) (x : D) (hx : ok x) : ∀ (f : Nat) (h : List D) (p : Nat), p ≤ f → p < h.length → (∀ d ∈ h, ok d) → Hole lt h p → (∀ i, 0 < i → i < h.length → (i - 1) / 2 = p → lt (gd h i) x = false) →
    HeapI lt ((sdGo lt x f h p).1.set (sdGo lt x f h p).2 x) ∧ ((sdGo lt x f h p).1.set (sdGo lt x f h p).2 x).Perm (h.set p x) := by
  have fin : ∀ (h : List D) (p : Nat), p < h.length → (∀ d ∈ h, ok d) → Hole lt h p → (∀ i, 0 < i → i < h.length → (i - 1) / 2 = p → lt (gd h i) x = false) → (0 < p → lt x (gd h ((p - 1) / 2)) = false) → HeapI lt (h.set p x) := by
    intro h p hp hok H hc hu i i0 il
    rw [List.length_set] at il
    rw [gd_set hp, gd_set hp]
    by_cases e : i = p
    · subst e
      rw [if_pos rfl, if_neg (par_ne i0)]
      exact hu i0
    · rw [if_neg e]
      by_cases e2 : (i - 1) / 2 = p
      · rw [if_pos e2]; exact hc i i0 il e2
      · rw [if_neg e2]; exact H.far i i0 il e e2
  intro f
  induction f with
  | zero =>
    intro h p hp hl hok H hc
    have : p = 0 := Nat.le_zero.mp hp
    subst this
    exact ⟨fin h 0 hl hok H hc (fun q => absurd q (Nat.lt_irrefl 0)), .refl _⟩
  | succ f ih =>
    intro h p hp hl hok H hc
    unfold sdGo
    by_cases h0 : p = 0
    · subst h0
      exact ⟨fin h 0 hl hok H hc (fun q => absurd q (Nat.lt_irrefl 0)), .refl _⟩
    · rw [if_neg h0]
      have hq : (p - 1) / 2 < h.length := Nat.lt_trans (par_lt h0) hl
      have hqp : (p - 1) / 2 ≠ p := Nat.ne_of_lt (par_lt h0)
      have oq : ok (gd h ((p - 1) / 2)) := all_get hok hq
      by_cases hlt : lt x (gd h ((p - 1) / 2)) = true
      · rw [if_pos hlt]
        refine (fun q => ⟨q.1, q.2.trans (set_set_perm hl hq hqp)⟩) (ih (h.set p (gd h ((p - 1) / 2))) ((p - 1) / 2) (Nat.le_of_lt_succ (Nat.lt_of_lt_of_le (par_lt h0) hp)) (by simpa using hq) (all_set hok oq) ⟨?_, ?_⟩ ?_)
        · intro i i0 il e1 e2
          rw [List.length_set] at il
          have hip : i ≠ p := fun q => e2 (by rw [q])
          rw [gd_set hl, gd_set hl, if_neg hip]
          by_cases e3 : (i - 1) / 2 = p
          · rw [if_pos e3]; exact H.up i i0 il e3 (Nat.pos_of_ne_zero h0)
          · rw [if_neg e3]; exact H.far i i0 il hip e3
        · intro i i0 il e1 e2
          rw [List.length_set] at il
          rw [gd_set hl, gd_set hl, if_neg (par2_ne h0)]
          have hb := H.far ((p - 1) / 2) e2 hq hqp (par2_ne h0)
          by_cases e3 : i = p
          · rw [if_pos e3]; exact hb
          · rw [if_neg e3]
            have ha := H.far i i0 il e3 (by rw [e1]; exact hqp)
            rw [e1] at ha
            exact L.tr _ _ _ (all_get hok (Nat.lt_of_le_of_lt (Nat.le_trans (par_le _) (par_le _)) hl)) oq (all_get hok il) hb ha
        · intro i i0 il e1
          rw [List.length_set] at il
          rw [gd_set hl]
          by_cases e3 : i = p
          · rw [if_pos e3]; exact L.asym _ _ hx oq hlt
          · rw [if_neg e3]
            have ha := H.far i i0 il e3 (by rw [e1]; exact hqp)
            rw [e1] at ha
            exact L.tr _ _ _ hx oq (all_get hok il) (L.asym _ _ hx oq hlt) ha
      · rw [if_neg hlt]
        exact ⟨fin h p hl hok H hc (fun _ => Bool.eq_false_iff.mpr hlt), .refl _⟩
theorem set_self {h : List D} {p : Nat} (hp : p < h.length) : h.set p (gd h p) = h := by
  unfold gd
  rw [List.getD_eq_getElem?_getD, List.getElem?_eq_getElem hp]
  exact List.set_getElem_self hp
theorem sd_heap (L : LtOk lt ok) {h : List D} {p : Nat} (hp : p < h.length) (hok : ∀ d ∈ h, ok d) (H : Hole lt h p) (hc : ∀ i, 0 < i → i < h.length → (i - 1) / 2 = p → lt (gd h i) (gd h p) = false) : HeapI lt (sd lt h p) ∧ (sd lt h p).Perm h := by
  have := sdGo_heap L (gd h p) (all_get hok hp) p h p (Nat.le_refl _) hp hok H hc
  rw [set_self hp] at this
  exact this
theorem hpush_heap (L : LtOk lt ok) {h : List D} {x : D} (hok : ∀ d ∈ h, ok d) (hx : ok x) (H : HeapI lt h) : HeapI lt (hpush lt h x) ∧ (hpush lt h x).Perm (x :: h) := by
  have hok' : ∀ d ∈ h ++ [x], ok d := fun d hd => by
    rcases List.mem_append.mp hd with q | q
    · exact hok d q
    · rw [List.mem_singleton.mp q]; exact hx
  have gl : ∀ i, i < h.length → gd (h ++ [x]) i = gd h i := fun i hi => by unfold gd; rw [List.getD_eq_getElem?_getD, List.getElem?_append_left hi, List.getD_eq_getElem?_getD]
  obtain ⟨a, b⟩ := sd_heap L (h := h ++ [x]) (p := h.length) (by simp) hok' ⟨fun i i0 il e1 e2 => by
    simp only [List.length_append, List.length_singleton] at il
    rw [gl i (by omega), gl _ (by omega)]
    exact H i i0 (by omega), fun i i0 il e1 => by simp only [List.length_append, List.length_singleton] at il; omega⟩ (fun i i0 il e1 => by simp only [List.length_append, List.length_singleton] at il; omega)
  exact ⟨a, b.trans (List.perm_append_comm (l₁ := h) (l₂ := [x]))⟩
theorem suGo_heap (L : LtOk lt ok) : ∀ (f : Nat) (h : List D) (p : Nat) (x : D), h.length ≤ f + p → p < h.length → (∀ d ∈ h, ok d) → Hole lt h p →
    Hole lt (suGo lt f h p).1 (suGo lt f h p).2 ∧ (suGo lt f h p).1.length ≤ 2 * (suGo lt f h p).2 + 1 ∧ ((suGo lt f h p).1.set (suGo lt f h p).2 x).Perm (h.set p x) := by
  intro f
  induction f with
  | zero => intro h p x hf hp; exact absurd hp (Nat.not_lt.mpr (Nat.zero_add p ▸ hf))
  | succ f ih =>
    intro h p x hf hp hok H
    have step : ∀ q, q < h.length → (q - 1) / 2 = p → 0 < q → (∀ i, 0 < i → i < h.length → (i - 1) / 2 = p → i ≠ q → lt (gd h i) (gd h q) = false) →
        Hole lt (suGo lt f (h.set p (gd h q)) q).1 (suGo lt f (h.set p (gd h q)) q).2 ∧ (suGo lt f (h.set p (gd h q)) q).1.length ≤ 2 * (suGo lt f (h.set p (gd h q)) q).2 + 1 ∧ ((suGo lt f (h.set p (gd h q)) q).1.set (suGo lt f (h.set p (gd h q)) q).2 x).Perm (h.set p x) := by
      intro q hq hqp q0 hs
      have hne : q ≠ p := ch_ne hqp q0
      refine (fun z => ⟨z.1, z.2.1, z.2.2.trans (set_set_perm hp hq hne)⟩) (ih (h.set p (gd h q)) q x (by rw [List.length_set]; exact su_step hf hqp q0) (by simpa using hq) (all_set hok (all_get hok hq)) ⟨?_, ?_⟩)
      · intro i i0 il e1 e2
        rw [List.length_set] at il
        rw [gd_set hp, gd_set hp]
        by_cases e3 : i = p
        · subst e3
          rw [if_pos rfl, if_neg (par_ne i0)]
          exact H.up q q0 hq hqp i0
        · rw [if_neg e3]
          by_cases e4 : (i - 1) / 2 = p
          · rw [if_pos e4]; exact hs i i0 il e4 e1
          · rw [if_neg e4]; exact H.far i i0 il e3 e4
      · intro i i0 il e1 _
        rw [List.length_set] at il
        rw [gd_set hp, gd_set hp, hqp, if_pos rfl, if_neg (gg_ne e1 hqp q0)]
        have := H.far i i0 il (gg_ne e1 hqp q0) (by rw [e1]; exact hne)
        rw [e1] at this; exact this
    unfold suGo
    by_cases hc : 2 * p + 1 < h.length
    · rw [if_pos hc]
      dsimp only
      by_cases hr : (decide (2 * p + 2 < h.length) && !lt (h.getD (2 * p + 1) .none) (h.getD (2 * p + 2) .none)) = true
      · rw [if_pos hr]
        simp only [Bool.and_eq_true, decide_eq_true_eq, Bool.not_eq_true'] at hr
        refine step (2 * p + 2) hr.1 (ch2 p) (Nat.succ_pos _) fun i i0 il e1 e2 => ?_
        have : i = 2 * p + 1 := sib1 e1 i0 e2
        subst this; exact hr.2
      · rw [if_neg hr]
        refine step (2 * p + 1) hc (ch1 p) (Nat.succ_pos _) fun i i0 il e1 e2 => ?_
        have : i = 2 * p + 2 := sib2 e1 i0 e2
        subst this
        simp only [Bool.and_eq_true, decide_eq_true_eq, Bool.not_eq_true', not_and, Bool.not_eq_false] at hr
        exact L.asym _ _ (all_get hok hc) (all_get hok il) (hr il)
    · rw [if_neg hc]
      exact ⟨H, Nat.not_lt.mp hc, .refl _⟩
theorem su_heap (L : LtOk lt ok) {h : List D} (h0 : 0 < h.length) (hok : ∀ d ∈ h, ok d) (H : Hole lt h 0) : HeapI lt (su lt h) ∧ (su lt h).Perm h := by
  obtain ⟨a, b, e⟩ := suGo_heap L h.length h 0 (gd h 0) (by omega) h0 hok H
  have l1 := suGo_len lt h.length h 0
  have l2 := suGo_lt lt h.length h 0 h0
  have hok' := suGo_all (ok := ok) lt h.length h 0 hok
  unfold su
  dsimp only
  generalize hg : suGo lt h.length h 0 = r at a b e l1 l2 hok' ⊢
  have hlen : r.2 < r.1.length := by omega
  rw [set_self h0] at e
  refine (fun z => ⟨z.1, z.2.trans e⟩) (sd_heap L (h := r.1.set r.2 (gd h 0)) (p := r.2) (by simpa using hlen) (all_set hok' (all_get hok h0)) ⟨fun i i0 il e1 e2 => ?_, fun i i0 il e1 => ?_⟩ (fun i i0 il e1 => ?_))
  · rw [List.length_set] at il
    rw [gd_set hlen, gd_set hlen, if_neg e1, if_neg e2]
    exact a.far i i0 il e1 e2
  · rw [List.length_set] at il; omega
  · rw [List.length_set] at il; omega
theorem heap_min (L : LtOk lt ok) {h : List D} (hok : ∀ d ∈ h, ok d) (H : HeapI lt h) : ∀ i, i < h.length → lt (gd h i) (gd h 0) = false := by
  intro i
  induction i using Nat.strongRecOn with
  | ind i ih =>
    intro hi
    by_cases h0 : i = 0
    · subst h0
      cases hb : lt (gd h 0) (gd h 0) with
      | false => rfl
      | true => rw [L.asym _ _ (all_get hok hi) (all_get hok hi) hb] at hb; cases hb
    · exact L.tr _ _ _ (all_get hok (Nat.lt_of_le_of_lt (Nat.zero_le _) hi)) (all_get hok (Nat.lt_trans (par_lt h0) hi)) (all_get hok hi) (ih ((i - 1) / 2) (par_lt h0) (Nat.lt_trans (par_lt h0) hi)) (H i (Nat.pos_of_ne_zero h0) hi)
/-- what comes off is a least one, the others stay -/
theorem hpop_heap (L : LtOk lt ok) {h : List D} (hne : h ≠ []) (hok : ∀ d ∈ h, ok d) (H : HeapI lt h) : HeapI lt (hpop lt h).2 ∧ h.Perm ((hpop lt h).1 :: (hpop lt h).2) ∧ ∀ d ∈ h, lt d (hpop lt h).1 = false := by
  have hmin := heap_min L hok H
  have e : h = h.dropLast ++ [h.getLastD .none] := by
    rw [List.getLastD_eq_getLast?, List.getLast?_eq_some_getLast hne]; exact (List.dropLast_concat_getLast hne).symm
  unfold hpop
  generalize h.getLastD .none = d at e ⊢
  generalize h.dropLast = ys at e ⊢
  subst e
  have mem : ∀ (l : List D) (d : D), d ∈ l → ∃ i, i < l.length ∧ gd l i = d := fun l d hd => by
    obtain ⟨i, hi, e⟩ := List.mem_iff_getElem.mp hd
    exact ⟨i, hi, by unfold gd; rw [List.getD_eq_getElem?_getD, List.getElem?_eq_getElem hi, e]; rfl⟩
  cases ys with
  | nil =>
    refine ⟨fun i i0 il => by simp at il, .refl _, fun e he => ?_⟩
    obtain ⟨i, hi, rfl⟩ := mem _ _ he
    exact hmin i hi
  | cons y ys =>
    have hok' : ∀ e ∈ d :: ys, ok e := fun e he => by
      rcases List.mem_cons.mp he with rfl | q
      · exact hok _ (by simp)
      · exact hok e (by simp [q])
    have gl : ∀ i, 0 < i → i < ys.length + 1 → gd (d :: ys) i = gd (y :: ys ++ [d]) i := fun i i0 hi => by
      unfold gd
      cases i with
      | zero => omega
      | succ i => 
        rw [List.getD_eq_getElem?_getD, List.getD_eq_getElem?_getD, List.cons_append, List.getElem?_cons_succ, List.getElem?_cons_succ, List.getElem?_append_left (by omega)]
    obtain ⟨a, b⟩ := su_heap L (h := d :: ys) (by simp) hok' ⟨fun i i0 il e1 e2 => by
      simp only [List.length_cons] at il
      rw [gl i i0 il, gl _ (by omega) (by omega)]
      exact H i i0 (by simp; omega), fun i i0 il e1 e2 => by omega⟩
    refine ⟨a, ?_, fun e he => ?_⟩
    · show (y :: (ys ++ [d])).Perm (y :: su lt (d :: ys))
      exact (List.Perm.trans (List.perm_append_comm (l₁ := ys) (l₂ := [d])) b.symm).cons y
    · obtain ⟨i, hi, rfl⟩ := mem _ _ he
      exact hmin i hi
end Mine
end

section
open PySem PySem.Calls PyProof.Rows PySem.W
set_option maxRecDepth 100000
set_option linter.unusedVariables false
namespace Mine
variable {c : Cx} {n : Nat}
/-! texts in lists -/
theorem inS (a : Str) : ∀ l : List Str, ((D.py.pyAll (l.map .str)).any fun y => PyData.eqv y (D.str a).py) = l.contains a
  | [] => rfl
  | b :: r => by
    have ih := inS a r
    show (PyData.eqv (D.str b).py (D.str a).py || (D.py.pyAll (r.map .str)).any fun y => PyData.eqv y (D.str a).py) = (b :: r).contains a
    rw [ih, List.contains_cons]
    congr 1
    show (b == a) = (a == b)
    by_cases h : b = a
    · subst h; rfl
    · have h1 : (b == a) = false := by simpa using h
      have h2 : (a == b) = false := by simpa using (fun q : a = b => h q.symm)
      rw [h1, h2]
theorem pyAll_strs : ∀ l : List Str, D.py.pyAll (l.map .str) = l.map PyData.str
  | [] => rfl
  | a :: r => by show D.py (.str a) :: D.py.pyAll (r.map .str) = _; rw [pyAll_strs r]; rfl
theorem plainAll_strs : ∀ l : List Str, D.plain.plainAll (l.map .str) = true
  | [] => rfl
  | a :: r => by show (D.plain (.str a) && D.plain.plainAll (r.map .str)) = true; rw [plainAll_strs r]; rfl
theorem canAll_strs : ∀ l : List Str, (∀ x ∈ l, PyData.strOk x = true) → PyData.canLayAll0 (l.map PyData.str) = true
  | [], _ => rfl
  | a :: r, h => by
    show (PyData.canLay0 (.str a) && PyData.canLayAll0 (r.map PyData.str)) = true
    rw [canAll_strs r fun x hx => h x (.tail _ hx)]
    show (PyData.strOk a && true) = true
    rw [h a (.head _)]; rfl
theorem okEq_strs (l : List Str) (h : ∀ x ∈ l, PyData.strOk x = true) : okEq (.lst (l.map .str)) = true := by
  have e : (D.lst (l.map .str)).py = .list (l.map PyData.str) := by show PyData.list _ = _; rw [pyAll_strs]
  unfold okEq
  rw [e]
  have h1 : (D.lst (l.map .str)).plain = true := plainAll_strs l
  have h2 : (PyData.list (l.map PyData.str)).canLay0 = true := canAll_strs l h
  have h3 : (PyData.list (l.map PyData.str)).depth ≤ 64 := by
    show PyData.depthAll _ + 1 ≤ 64
    have := depthAll_strs' l
    omega
  rw [h1, h2, decide_eq_true h3]; rfl
theorem letter_inj {a b : Nat} (h : letter a = letter b) : a = b := by
  unfold letter at h
  have h1 : (#[97 + a] : Array Nat) = #[97 + b] := congrArg Str.cps h
  have h2 := congrArg Array.toList h1
  simp at h2
  omega
theorem letters_contains (k : Nat) : ∀ l : List Nat, (l.map letter).contains (letter k) = l.contains k
  | [] => rfl
  | a :: r => by
    rw [List.map_cons, List.contains_cons, List.contains_cons, letters_contains k r]
    congr 1
    by_cases h : k = a
    · subst h; simp
    · have h2 : letter k ≠ letter a := fun q => h (letter_inj q)
      rw [beq_eq_false_iff_ne.mpr h, beq_eq_false_iff_ne.mpr h2]
theorem letter_ok (k : Nat) (h : k < 6) : PyData.strOk (letter k) = true := by
  have : ∀ k, k < 6 → PyData.strOk (letter k) = true := by decide +kernel
  exact this k h
theorem okEq_letter {k : Nat} (h : k < 6) : okEq (.str (letter k)) = true := by
  have : ∀ k, k < 6 → okEq (.str (letter k)) = true := by decide +kernel
  exact this k h
theorem okEq_letters {l : List Nat} (h : ∀ x ∈ l, x < 6) : okEq (.lst ((l.map letter).map .str)) = true := okEq_strs _ fun x hx => by
  obtain ⟨k, hk, rfl⟩ := List.mem_map.mp hx
  exact letter_ok k (h k hk)

/-! the heaps' calls -/
structure HpK (c : Cx) : Prop where
  push : ∃ fv, Callee c "heappush" fv ∧ IsFn c fv ["heap", "item"] hpuB hpuS
  pop : ∃ fv, Callee c "heappop" fv ∧ IsFn c fv ["heap"] hpoB hpoS
  down : ∃ fv, Callee c "_siftdown" fv ∧ IsFn c fv ["heap", "startpos", "pos"] sdB sdS
  up : ∃ fv, Callee c "_siftup" fv ∧ IsFn c fv ["heap", "pos"] suB suS
section
variable {sc : Scope} {pn : List Str} {ρ : Vars} {lt : D → D → Bool} {ok : D → Prop}
theorem ExS_push (hc : c.Ok) (K : HpK c) (B : Blt c) (hlt : ∀ a b, ok a → ok b → Cmp c .Lt a b (lt a b)) {x : Str} {p px pos spos : Pos} {e : Expr} {d : D} {h : List D} (hok : ∀ d ∈ h, ok d) (hd : ok d) (hz : h.length < 1000) (hn : 2 ≤ n) (hi : isGlb sc "heappush" = true) (hx : ρ.lookup x = some (.lst h)) (hl : isLoc sc x = true) (he : Ev c n sc ρ e d)
    (hp : [e].all plainArg = true := by rfl) (hi2 : sc.more.any (fun q => q.1 == ("interactive" : Str)) = false := by rfl) : ExS c n sc pn ρ (.Expr (.Call (.Name "heappush" p) [.Name x px, e] [] pos) spos) .next (Vars.put ρ x (.lst (hpush lt h d))) := by
  obtain ⟨fv, g, hf⟩ := K.push
  obtain ⟨fd, gd, hfd⟩ := K.down
  exact ExS_exprX (EvX_callM hc g ((heappush_fn hc hf B.len gd hfd hlt hok hd hz).le hn) hi hx hl (EvL_cons he EvL_nil (by simpa using hp)) hp) rfl hi2
/-- heappop(heap)[1] -/
theorem EvX_pop1 (hc : c.Ok) (K : HpK c) (B : Blt c) (hlt : ∀ a b, ok a → ok b → Cmp c .Lt a b (lt a b)) {x : Str} {p px pos p1 pos2 : Pos} {k1 : Nat} {h : List D} {k : D} {a : D} (hne : h ≠ []) (hok : ∀ d ∈ h, ok d) (hz : h.length ≤ 1000) (hn : 3 ≤ n) (hi : isGlb sc "heappop" = true) (hx : ρ.lookup x = some (.lst h)) (hl : isLoc sc x = true) (hk : (hpop lt h).1 = .tup [a, k]) :
    EvX c n sc pn ρ (.Subscript (.Call (.Name "heappop" p) [.Name x px] [] pos) (.Constant (.int 1) k1 p1) pos2) k (Vars.put ρ x (.lst (hpop lt h).2)) := by
  obtain ⟨fv, g, hf⟩ := K.pop
  obtain ⟨fd, gd, hfd⟩ := K.down
  obtain ⟨fu, gu, hfu⟩ := K.up
  have hh := (heappop_fn hc hf B.len gu hfu gd hfd hlt hne hok hz).le hn
  rw [hk] at hh
  exact EvX_Sub (EvX_callM hc g hh hi hx hl EvL_nil) EvR_int (Itm.tup (i := 1) (by decide) rfl (by decide))
end
end Mine
end

section
open PySem PySem.Calls PyProof.Rows PySem.W
set_option maxRecDepth 100000
set_option linter.unusedVariables false
namespace Mine
variable {c : Cx} {n : Nat}
/-! the heap of the numbers -/
noncomputable def intsOf : List D → List Int
  | .int i :: r => i :: intsOf r
  | _ => []
theorem intsOf_map : ∀ l : List Int, intsOf (l.map .int) = l
  | [] => rfl
  | a :: r => by show a :: intsOf (r.map .int) = _; rw [intsOf_map r]
noncomputable def entOf : D → List Int × Int
  | .tup [.lst ms, .int k] => (intsOf ms, k)
  | _ => ([], 0)
theorem entOf_ent (p : List Int × Int) : entOf (entryD p) = p := by
  show (intsOf (p.1.map .int), p.2) = p
  rw [intsOf_map]
noncomputable def ltE (a b : D) : Bool := entryLt (entOf a) (entOf b)
noncomputable def entN (ms : List Int) (k : Nat) : D := entryD (ms, (k : Int))
noncomputable def okE (d : D) : Prop := ∃ ms k, d = entN ms k ∧ k < 6
noncomputable def keyE (d : D) : Nat := (entOf d).2.toNat
theorem keyE_ent (ms : List Int) (k : Nat) : keyE (entN ms k) = k := by unfold keyE entN; rw [entOf_ent]; rfl
theorem ltE_cmp (a b : D) (ha : okE a) (hb : okE b) : Cmp c .Lt a b (ltE a b) := by
  obtain ⟨ms, k, rfl, _⟩ := ha
  obtain ⟨ns, j, rfl, _⟩ := hb
  unfold ltE entN
  rw [entOf_ent, entOf_ent]
  exact Cmp.ltEntry _ _
/-! names and numbers -/
noncomputable def capL (k : Nat) : Str := ⟨#[65 + k]⟩
noncomputable def tStr (i : Nat) : Str := Str.ofString (toString ((i : Nat) : Int))
theorem cap_lower : ∀ k, k < 6 → Txt.lower (capL k) = letter k := by decide +kernel
theorem letter_lower : ∀ k, k < 6 → Txt.lower (letter k) = letter k := by decide +kernel
theorem tStr_int : ∀ i, i < 10 → PySem.intText? (tStr i) = some (i : Int) ∧ (tStr i).length ≤ 10 := by decide +kernel
theorem CAP_at : ∀ k : Nat, k < 6 → seqIndex? (k : Int) ("ABCDEF" : Str).length = some k ∧ ("ABCDEF" : Str).cps[k]? = some (65 + k) := by decide +kernel
/-- where a line stands in the order of the numbers -/
noncomputable def posOf : List Nat → Nat → Option Nat
  | [], _ => none
  | k :: r, z => if k = z then some 0 else (posOf r z).map (· + 1)
noncomputable def mk (s : List Nat) (z : Nat) : Nat := (posOf s z).getD 0 + 1
noncomputable def seqTabFrom : List Nat → Nat → Rows
  | [], _ => []
  | k :: r, i => (capL k, tStr (i + 1)) :: seqTabFrom r (i + 1)
noncomputable def seqTab (s : List Nat) : Rows := seqTabFrom s 0
theorem seqTabFrom_len : ∀ (s : List Nat) (i : Nat), (seqTabFrom s i).length = s.length
  | [], _ => rfl
  | k :: r, i => by simp [seqTabFrom, seqTabFrom_len r]
theorem seqTabFrom_snoc (k : Nat) : ∀ (s : List Nat) (i : Nat), seqTabFrom (s ++ [k]) i = seqTabFrom s i ++ [(capL k, tStr (i + s.length + 1))]
  | [], i => rfl
  | a :: r, i => by
    show _ :: seqTabFrom (r ++ [k]) (i + 1) = _ :: (seqTabFrom r (i + 1) ++ _)
    rw [seqTabFrom_snoc k r (i + 1), List.length_cons]
    congr 5; omega
theorem seqTab_snoc (s : List Nat) (k : Nat) : seqTab (s ++ [k]) = seqTab s ++ [(capL k, tStr (s.length + 1))] := by
  have := seqTabFrom_snoc k s 0
  rw [Nat.zero_add] at this; exact this
theorem seqTab_keys : ∀ (s : List Nat) (i : Nat), ∀ kv ∈ seqTabFrom s i, kv.1.length ≤ 1000
  | [], _, kv, h => nomatch h
  | k :: r, i, kv, h => by
    rcases List.mem_cons.mp h with rfl | h
    · show 1 ≤ 1000; decide
    · exact seqTab_keys r (i + 1) kv h
theorem getM_seq {z : Nat} (hz : z < 6) : ∀ (s : List Nat) (i : Nat), (∀ x ∈ s, x < 6) → getM (seqTabFrom s i) (letter z) = (posOf s z).map fun j => tStr (i + j + 1)
  | [], _, _ => rfl
  | k :: r, i, h => by
    have ih := getM_seq hz r (i + 1) fun x hx => h x (.tail _ hx)
    unfold getM at ih ⊢
    show Option.map _ (List.find? _ (_ :: _)) = _
    rw [List.find?_cons]
    have e : (Txt.lower (capL k) == Txt.lower (letter z)) = decide (k = z) := by
      rw [cap_lower k (h k (.head _)), letter_lower z hz]
      by_cases q : k = z
      · subst q; simp
      · rw [decide_eq_false q]; exact beq_eq_false_iff_ne.mpr fun w => q (letter_inj w)
    dsimp only
    rw [e]
    unfold posOf
    by_cases q : k = z
    · rw [decide_eq_true q, if_pos q]; rfl
    · rw [decide_eq_false q, if_neg q, Option.map_map]
      dsimp only
      rw [ih]
      congr 1
      funext j
      show tStr (i + 1 + j + 1) = tStr (i + (j + 1) + 1)
      congr 1; omega
noncomputable def rowsL (rows : List (List Nat)) : D := lst2 (rows.map fun r => r.map letter)
/-- rows of lines, six of them -/
structure RowsOk (rows : List (List Nat)) : Prop where
  len : rows.length = 6
  lt : ∀ r ∈ rows, ∀ x ∈ r, x < 6
  sz : ∀ r ∈ rows, r.length ≤ 6
theorem RowsOk.mem {rows : List (List Nat)} (h : RowsOk rows) {k : Nat} (hk : k < 6) : rows.getD k [] ∈ rows := by
  have hk' : k < rows.length := by rw [h.len]; exact hk
  rw [List.getD_eq_getElem?_getD, List.getElem?_eq_getElem hk']; exact List.getElem_mem hk'
theorem RowsOk.at_ {rows : List (List Nat)} (h : RowsOk rows) {k : Nat} (hk : k < 6) : ((rows.map fun r => r.map letter).map lst)[k]? = some (lst ((rows.getD k []).map letter)) := by
  have hk' : k < rows.length := by rw [h.len]; exact hk
  rw [List.getElem?_map, List.getElem?_map, List.getElem?_eq_getElem hk', List.getD_eq_getElem?_getD, List.getElem?_eq_getElem hk']; rfl
noncomputable abbrev nuB := defBody pw "_law_numbers"
noncomputable abbrev nuS := defScope pw "_law_numbers"
noncomputable abbrev nuρ (rows : List (List Nat)) (C : Addr) (tb : Rows) (h : List D) : Vars := [("rows", .val (rowsL rows)), ("table", .hdr C (rowsD tb)), ("heap", .lst h)]
noncomputable def nu0 (rows : List (List Nat)) (h : List D) (k : Nat) : List D := if (rows.getD k []).isEmpty = true then hpush ltE h (entN [] k) else h
theorem hpush_len (lt : D → D → Bool) (h : List D) (x : D) : (hpush lt h x).length = h.length + 1 := by unfold hpush; rw [sd_len]; simp
theorem okE_ent {ms : List Int} {k : Nat} (hk : k < 6) : okE (entN ms k) := ⟨ms, k, rfl, hk⟩
theorem nu_first (hc : c.Ok) (K : HpK c) (B : Blt c) {rows : List (List Nat)} (hr : RowsOk rows) {C : Addr} {tb : Rows} : ∀ (l : List Nat) (h : List D), (∀ x ∈ l, x < 6) → (∀ d ∈ h, okE d) → h.length + l.length ≤ 900 →
    LoopR (Turn c 3 nuS [] (fTarget nuB 2) (fBody nuB 2)) (l.map dN) (nuρ rows C tb h) .next (nuρ rows C tb (l.foldl (nu0 rows) h))
  | [], h, _, _, _ => .nil
  | k :: r, h, hl, hok, hz => by
    simp only [List.length_cons] at hz
    have hk := hl k (.head _)
    have te : Te c 3 nuS (Vars.put (nuρ rows C tb h) "k" (.val (dN k))) (iTest (fBody nuB 2) 0) ((rows.getD k []).isEmpty) := by
      refine (Te_Compare (a := lst ((rows.getD k []).map letter)) (b := .lst []) (.of (Ev_Sub (EvR_name rfl rfl) (EvR_name rfl rfl) (Itm.lst (Int.natCast_nonneg _) (by rw [Int.toNat_natCast]; exact hr.at_ hk) (by omega)))) (.of (Ev_List EvL_nil (by decide))) (Cmp.eqD (okEq_letters (hr.lt _ (hr.mem hk))) rfl)).conv ?_
      cases rows.getD k [] <;> rfl
    rw [List.foldl_cons]
    unfold nu0
    by_cases ht : (rows.getD k []).isEmpty = true
    · rw [if_pos ht]
      refine .next ⟨_, AsgT_name rfl (by decide), ?_⟩ (nu_first hc K B hr r (hpush ltE h (entN [] k)) (fun x hx => hl x (.tail _ hx)) (hpush_all ltE hok (okE_ent hk)) (by rw [hpush_len]; omega))
      exact (Ex_cons (ExS_if (te.conv ht) (fun _ => Ex_cons (ExS_push (ok := okE) hc K B ltE_cmp hok (okE_ent hk) (by omega) (by decide) rfl rfl rfl (Ev_Tuple (ds := [.lst [], dN k]) (EvL_cons (Ev_List EvL_nil (by decide)) (EvL_cons (Ev_name rfl rfl) EvL_nil)) (by simp))) Ex_nil) (fun e => nomatch e)) Ex_nil).less ⟨rfl, rfl, rfl, trivial⟩
    · rw [if_neg ht]
      refine .next ⟨_, AsgT_name rfl (by decide), ?_⟩ (nu_first hc K B hr r h (fun x hx => hl x (.tail _ hx)) hok (by omega))
      exact (Ex_cons (ExS_if (te.conv (Bool.eq_false_iff.mpr ht)) (fun e => nomatch e) (fun _ => Ex_nil)) Ex_nil).less ⟨rfl, rfl, rfl, trivial⟩
end Mine
end

section
open PySem PySem.Calls PyProof.Rows PySem.W
set_option maxRecDepth 100000
set_option linter.unusedVariables false
namespace Mine
variable {c : Cx} {n : Nat}
/-- what the patterns let through -/
structure PatOk (nc vc : Array Nat) : Prop where
  low : ∀ k, k < 6 → missB nc (letter k) = true
  cap : ∀ k, k < 6 → missB nc (capL k) = true
  num : ∀ i, i < 10 → missB vc (tStr i) = true
noncomputable def allIn (seq l : List Nat) : Bool := l.all fun z => (posOf seq z).isSome
noncomputable def marksOf (seq l : List Nat) : List Int := l.map fun z => ((mk seq z : Nat) : Int)
noncomputable def nuTurn (rows : List (List Nat)) (seq : List Nat) (k : Nat) (h : List D) (other : Nat) : List D :=
  if (rows.getD other []).contains k = true then (if allIn seq (rows.getD other []) = true then hpush ltE h (entN (sortD (marksOf seq (rows.getD other []))) other) else h) else h
theorem posOf_lt {z : Nat} : ∀ {s : List Nat} {j : Nat}, posOf s z = some j → j < s.length
  | [], _, h => by cases h
  | k :: r, j, h => by
    unfold posOf at h
    by_cases q : k = z
    · rw [if_pos q] at h; cases h; simp
    · rw [if_neg q] at h
      obtain ⟨i, hi, rfl⟩ := Option.map_eq_some_iff.mp h
      have := posOf_lt hi
      simp; omega
theorem posOf_get {z : Nat} : ∀ {s : List Nat} {j : Nat}, posOf s z = some j → s[j]? = some z
  | [], _, h => by cases h
  | k :: r, j, h => by
    unfold posOf at h
    by_cases q : k = z
    · rw [if_pos q] at h; cases h; rw [q]; rfl
    · rw [if_neg q] at h
      obtain ⟨i, hi, rfl⟩ := Option.map_eq_some_iff.mp h
      rw [List.getElem?_cons_succ]; exact posOf_get hi
/-- None not in marks -/
theorem noneIn (l : List (Option Str)) : (!(D.py.pyAll (l.map optD)).any fun y => PyData.eqv y D.none.py) = l.all Option.isSome := by
  induction l with
  | nil => rfl
  | cons a r ih =>
    show (!(PyData.eqv (optD a).py D.none.py || (D.py.pyAll (r.map optD)).any fun y => PyData.eqv y D.none.py)) = _
    rw [Bool.not_or, ih, List.all_cons]
    cases a <;> rfl
theorem okEq_opts (l : List (Option Str)) (h : ∀ x, some x ∈ l → PyData.strOk x = true) : okEq (.lst (l.map optD)) = true := by
  have h1 : D.plain.plainAll (l.map optD) = true := by
    induction l with
    | nil => rfl
    | cons a r ih =>
      show ((optD a).plain && D.plain.plainAll (r.map optD)) = true
      rw [ih fun x hx => h x (.tail _ hx)]; cases a <;> rfl
  have h2 : PyData.canLayAll0 (D.py.pyAll (l.map optD)) = true := by
    clear h1
    induction l with
    | nil => rfl
    | cons a r ih =>
      show (PyData.canLay0 (optD a).py && PyData.canLayAll0 (D.py.pyAll (r.map optD))) = true
      rw [ih fun x hx => h x (.tail _ hx)]
      cases a with
      | none => rfl
      | some x => show (PyData.strOk x && true) = true; rw [h x (.head _)]; rfl
  have h3 : PyData.depthAll (D.py.pyAll (l.map optD)) = 0 := by
    clear h1 h2 h
    induction l with
    | nil => rfl
    | cons a r ih =>
      show max (optD a).py.depth (PyData.depthAll (D.py.pyAll (r.map optD))) = 0
      rw [ih]; cases a <;> rfl
  unfold okEq
  show (D.plain.plainAll (l.map optD) && PyData.canLayAll0 (D.py.pyAll (l.map optD)) && decide (PyData.depthAll (D.py.pyAll (l.map optD)) + 1 ≤ 64)) = true
  rw [h1, h2, h3]; rfl
theorem tStr_ok : ∀ i, i < 10 → PyData.strOk (tStr i) = true := by decide +kernel
noncomputable abbrev nuW := wBody nuB 3
noncomputable abbrev nuI := fBody nuW 2
noncomputable abbrev nuJ := iThen nuI 0
/-- the inner state -/
noncomputable abbrev nuσ (rows : List (List Nat)) (C : Addr) (tb : Rows) (h : List D) (k : Nat) : Vars := Vars.put (nuρ rows C tb h) "k" (.val (dN k))
theorem nu_inner {C : Addr} {nc vc : Array Nat} (hc : c.Ok) (K : HpK c) (B : Blt c) (H : HdK c C nc vc) (PO : PatOk nc vc) {rows : List (List Nat)} (hr : RowsOk rows) {seq : List Nat} {k : Nat} (hk : k < 6) (hs : ∀ x ∈ seq, x < 6) (hs6 : seq.length ≤ 6) : ∀ (l : List Nat) (h : List D), (∀ x ∈ l, x < 6) → (∀ d ∈ h, okE d) → h.length + l.length ≤ 900 →
    LoopR (Turn c 3 nuS [] (fTarget nuW 2) nuI) (l.map dN) (nuσ rows C (seqTab seq) h k) .next (nuσ rows C (seqTab seq) (l.foldl (nuTurn rows seq k) h) k)
  | [], h, _, _, _ => .nil
  | o :: r, h, hl, hok, hz => by
    simp only [List.length_cons] at hz
    have ho := hl o (.head _)
    have hrow := hr.mem ho
    obtain ⟨a1, a2⟩ := abc_at k hk
    generalize hR : rows.getD o [] = R at *
    have hR6 : ∀ z ∈ R, z < 6 := fun z hz => hr.lt R hrow z hz
    have hRl : R.length ≤ 6 := hr.sz R hrow
    have te : Te c 3 nuS (Vars.put (nuσ rows C (seqTab seq) h k) "other" (.val (dN o))) (iTest nuI 0) (R.contains k) := by
      refine (Te_Compare (a := .str (letter k)) (b := lst (R.map letter)) (.of (Ev_Sub EvR_str (EvR_name rfl rfl) (Itm.str (k := k) (cp := 97 + k) a1 a2 (by omega) (by omega)))) (.of (Ev_Sub (EvR_name rfl rfl) (EvR_name rfl rfl) (Itm.lst (Int.natCast_nonneg _) (by rw [Int.toNat_natCast, hr.at_ ho, hR]) (by omega)))) (Cmp.inL (okEq_letter hk) (okEq_letters hR6))).conv ?_
      rw [inS, letters_contains]
    rw [List.foldl_cons]
    unfold nuTurn
    rw [hR]
    by_cases ht : R.contains k = true
    · rw [if_pos ht]
      obtain ⟨fg, fdg, hMg, Dg, hbg⟩ := H.get
      have hmarks : CompOf c 3 nuS (Vars.put (nuσ rows C (seqTab seq) h k) "other" (.val (dN o))) (match (sAt nuJ 0) with | .Assign _ (.ListComp e _ _ _) _ => e | _ => default) (match (sAt nuJ 0) with | .Assign _ (.ListComp _ [⟨_, i, _, _⟩] _ _) _ => i | _ => default) "letter" [] (cScope nuJ 0) [("table", .hdr C (rowsD (seqTab seq)))] (R.map fun z => optD ((posOf seq z).map fun j => tStr (j + 1))) := by
        refine ⟨by decide, FreeOk.get ⟨rfl, rfl, trivial⟩, fun _ _ => rfl, lst (R.map letter), (R.map letter).map .str, .of (Ev_Sub (EvR_name rfl rfl) (EvR_name rfl rfl) (Itm.lst (Int.natCast_nonneg _) (by rw [Int.toNat_natCast, hr.at_ ho, hR]) (by omega))), rfl, rfl, by simp; omega, ?_⟩
        rw [List.map_map]
        refine compR_map _ _ R (fun _ => .nil) fun z hzR => ?_
        have hz6 := hR6 z hzR
        have e0 := getM_seq hz6 seq 0 hs
        have e : optD ((posOf seq z).map fun j => tStr (j + 1)) = optD (getM (seqTab seq) (letter z)) := by
          unfold seqTab; rw [e0]; congr 2; funext j; rw [Nat.zero_add]
        rw [e]
        refine Ev_hdrFlat hc hMg rfl rfl (by decide) (EvL_cons (Ev_name rfl rfl) EvL_nil) ((get_fn hc H Dg hbg (by rw [letter_lower z hz6]; exact PO.low z hz6) (by show 1 ≤ 300; decide) (by rw [letter_lower z hz6]; show 1 ≤ 1000; decide) (seqTab_keys seq 0)).le (by decide)) ?_
        cases getM (seqTab seq) (letter z) <;> rfl
      have hmN : R.map (fun z => optD ((posOf seq z).map fun j => tStr (j + 1))) = (R.map fun z => (posOf seq z).map fun j => tStr (j + 1)).map optD := by rw [List.map_map]; rfl
      have hall : (R.map fun z => (posOf seq z).map fun j => tStr (j + 1)).all Option.isSome = allIn seq R := by
        unfold allIn
        rw [List.all_map]
        congr 1; funext z; show ((posOf seq z).map _).isSome = _; rw [Option.isSome_map]
      have ok2 : okEq (.lst (R.map fun z => optD ((posOf seq z).map fun j => tStr (j + 1)))) = true := by
        rw [hmN]
        refine okEq_opts _ fun x hx => ?_
        obtain ⟨z, hzR, e⟩ := List.mem_map.mp hx
        obtain ⟨j, hj, rfl⟩ := Option.map_eq_some_iff.mp e
        have := posOf_lt hj
        exact tStr_ok _ (by omega)
      have te2 : Te c 3 nuS (Vars.put (Vars.put (nuσ rows C (seqTab seq) h k) "other" (.val (dN o))) "marks" (.val (.lst (R.map fun z => optD ((posOf seq z).map fun j => tStr (j + 1)))))) (iTest nuJ 1) (allIn seq R) :=
        (Te_Compare EvR_none (EvR_name rfl rfl) (Cmp.notInL rfl ok2)).conv (by rw [hmN, noneIn, hall])
      by_cases ht2 : allIn seq R = true
      · rw [if_pos ht2]
        have hall2 : ∀ z ∈ R, ∃ j, posOf seq z = some j := fun z hzR => by
          have := List.all_eq_true.mp ht2 z hzR
          exact Option.isSome_iff_exists.mp this
        refine .next ⟨_, AsgT_name rfl (by decide), ?_⟩ (nu_inner hc K B H PO hr hk hs hs6 r (hpush ltE h (entN (sortD (marksOf seq R)) o)) (fun x hx => hl x (.tail _ hx)) (hpush_all ltE hok (okE_ent ho)) (by rw [hpush_len]; omega))
        have hints : CompOf c 3 nuS (Vars.put (Vars.put (nuσ rows C (seqTab seq) h k) "other" (.val (dN o))) "marks" (.val (.lst (R.map fun z => optD ((posOf seq z).map fun j => tStr (j + 1)))))) (match (sAt (iThen nuJ 1) 0) with | .Expr (.Call _ [_, .Tuple [.Call _ [.ListComp e _ _ _] _ _, _] _ _] _ _) _ => e | _ => default) (match (sAt (iThen nuJ 1) 0) with | .Expr (.Call _ [_, .Tuple [.Call _ [.ListComp _ [⟨_, i, _, _⟩] _ _] _ _, _] _ _] _ _) _ => i | _ => default) "mark" [] (match (sAt (iThen nuJ 1) 0) with | .Expr (.Call _ [_, .Tuple [.Call _ [.ListComp _ _ s _] _ _, _] _ _] _ _) _ => s | _ => default) [] ((marksOf seq R).map .int) := by
          refine ⟨by decide, FreeOk.get (ρc := []) trivial, fun _ _ => rfl, .lst (R.map fun z => optD ((posOf seq z).map fun j => tStr (j + 1))), _, EvR_name rfl rfl, rfl, rfl, by simp; omega, ?_⟩
          unfold marksOf
          rw [List.map_map]
          refine compR_map _ _ R (fun _ => .nil) fun z hzR => ?_
          obtain ⟨j, hj⟩ := hall2 z hzR
          have hj6 := posOf_lt hj
          have e1 : mk seq z = j + 1 := by unfold mk; rw [hj]; rfl
          obtain ⟨t1, t2⟩ := tStr_int (j + 1) (by omega)
          show Ev _ _ _ _ _ (D.int ((mk seq z : Nat) : Int))
          rw [hj, e1]
          exact Ev_callB hc B.int rfl nofun (EvLR_cons (EvR_name rfl rfl) EvLR_nil) (CallR.intOf (x := tStr (j + 1)) t1 (by omega))
        refine (Ex_cons (ExS_if (te.conv ht) (fun _ => Ex_cons (ExS_comp hmarks rfl (by decide)) (Ex_cons (ExS_if (te2.conv ht2) (fun _ => Ex_cons (ExS_push (ok := okE) hc K B ltE_cmp hok (okE_ent ho) (by omega) (by decide) rfl rfl rfl (Ev_Tuple (ds := [.lst ((sortD (marksOf seq R)).map .int), dN o]) (EvL_cons (Ev_sortedRev hc B.sorted rfl (.of (EvNew_comp hints).ev) (by unfold marksOf; rw [List.length_map]; omega)) (EvL_cons (Ev_name rfl rfl) EvL_nil)) (by simp))) Ex_nil) (fun e => nomatch e)) Ex_nil)) (fun e => nomatch e)) Ex_nil).less ⟨rfl, rfl, rfl, rfl, trivial⟩
      · rw [if_neg ht2]
        refine .next ⟨_, AsgT_name rfl (by decide), ?_⟩ (nu_inner hc K B H PO hr hk hs hs6 r h (fun x hx => hl x (.tail _ hx)) hok (by omega))
        exact (Ex_cons (ExS_if (te.conv ht) (fun _ => Ex_cons (ExS_comp hmarks rfl (by decide)) (Ex_cons (ExS_if (te2.conv (Bool.eq_false_iff.mpr ht2)) (fun e => nomatch e) (fun _ => Ex_nil)) Ex_nil)) (fun e => nomatch e)) Ex_nil).less ⟨rfl, rfl, rfl, rfl, trivial⟩
    · rw [if_neg ht]
      refine .next ⟨_, AsgT_name rfl (by decide), ?_⟩ (nu_inner hc K B H PO hr hk hs hs6 r h (fun x hx => hl x (.tail _ hx)) hok (by omega))
      exact (Ex_cons (ExS_if (te.conv (Bool.eq_false_iff.mpr ht)) (fun e => nomatch e) (fun _ => Ex_nil)) Ex_nil).less ⟨rfl, rfl, rfl, rfl, trivial⟩
end Mine
end

section
open PySem PySem.Calls PyProof.Rows PySem.W
set_option maxRecDepth 100000
set_option linter.unusedVariables false
namespace Mine
variable {c : Cx} {n : Nat}
theorem hpop_all {lt : D → D → Bool} {ok : D → Prop} {h : List D} (hne : h ≠ []) (hok : ∀ d ∈ h, ok d) : ok (hpop lt h).1 ∧ (∀ d ∈ (hpop lt h).2, ok d) ∧ (hpop lt h).2.length + 1 = h.length := by
  have e : h = h.dropLast ++ [h.getLastD .none] := by
    rw [List.getLastD_eq_getLast?, List.getLast?_eq_some_getLast hne]; exact (List.dropLast_concat_getLast hne).symm
  unfold hpop
  generalize h.getLastD .none = d at e ⊢
  generalize h.dropLast = ys at e ⊢
  subst e
  have hd : ok d := hok d (by simp)
  cases ys with
  | nil => exact ⟨hd, fun _ q => (nomatch q), rfl⟩
  | cons y ys =>
    have hy : ∀ e ∈ d :: ys, ok e := fun e he => by
      rcases List.mem_cons.mp he with rfl | q
      · exact hd
      · exact hok e (by simp [q])
    exact ⟨hok y (by simp), su_all lt (d :: ys) (by simp) hy, by show (su lt (d :: ys)).length + 1 = _; rw [su_len]; simp⟩
theorem nuTurn_ok {rows : List (List Nat)} {seq : List Nat} {k : Nat} : ∀ (l : List Nat) (h : List D), (∀ x ∈ l, x < 6) → (∀ d ∈ h, okE d) → (∀ d ∈ l.foldl (nuTurn rows seq k) h, okE d) ∧ (l.foldl (nuTurn rows seq k) h).length ≤ h.length + l.length
  | [], h, _, hok => ⟨hok, Nat.le_refl _⟩
  | o :: r, h, hl, hok => by
    rw [List.foldl_cons, List.length_cons]
    have key : (∀ d ∈ nuTurn rows seq k h o, okE d) ∧ (nuTurn rows seq k h o).length ≤ h.length + 1 := by
      unfold nuTurn
      split
      · split
        · exact ⟨hpush_all ltE hok (okE_ent (hl o (.head _))), by rw [hpush_len]; omega⟩
        · exact ⟨hok, by omega⟩
      · exact ⟨hok, by omega⟩
    obtain ⟨a, b⟩ := nuTurn_ok (seq := seq) (k := k) r (nuTurn rows seq k h o) (fun x hx => hl x (.tail _ hx)) key.1
    exact ⟨a, by have := key.2; omega⟩
theorem nu0_ok {rows : List (List Nat)} : ∀ (l : List Nat) (h : List D), (∀ x ∈ l, x < 6) → (∀ d ∈ h, okE d) → (∀ d ∈ l.foldl (nu0 rows) h, okE d) ∧ (l.foldl (nu0 rows) h).length ≤ h.length + l.length
  | [], h, _, hok => ⟨hok, Nat.le_refl _⟩
  | o :: r, h, hl, hok => by
    rw [List.foldl_cons, List.length_cons]
    have key : (∀ d ∈ nu0 rows h o, okE d) ∧ (nu0 rows h o).length ≤ h.length + 1 := by
      unfold nu0
      split
      · exact ⟨hpush_all ltE hok (okE_ent (hl o (.head _))), by rw [hpush_len]; omega⟩
      · exact ⟨hok, by omega⟩
    obtain ⟨a, b⟩ := nu0_ok r (nu0 rows h o) (fun x hx => hl x (.tail _ hx)) key.1
    exact ⟨a, by have := key.2; omega⟩
noncomputable def nuLoop (rows : List (List Nat)) : Nat → List D → List Nat → Option (List Nat)
  | _, [], s => some s
  | 0, _ :: _, _ => none
  | f + 1, d :: h, s => nuLoop rows f ((List.range 6).foldl (nuTurn rows (s ++ [keyE (hpop ltE (d :: h)).1]) (keyE (hpop ltE (d :: h)).1)) (hpop ltE (d :: h)).2) (s ++ [keyE (hpop ltE (d :: h)).1])
theorem small_log : ∀ m, m < 10 → ((m : Nat) : Int).natAbs.log2 < 1920 := by decide +kernel
theorem nu_while {C : Addr} {nc vc : Array Nat} (hc : c.Ok) (K : HpK c) (B : Blt c) (H : HdK c C nc vc) (PO : PatOk nc vc) {rows : List (List Nat)} (hr : RowsOk rows) : ∀ (f : Nat) (h : List D) (s s' : List Nat), nuLoop rows f h s = some s' → s.length + f ≤ 6 → (∀ x ∈ s, x < 6) → (∀ d ∈ h, okE d) → h.length + 6 * f ≤ 500 →
    WhileR c 3 nuS [] (wTest nuB 3) nuW (f + 1) (nuρ rows C (seqTab s) h) .next (nuρ rows C (seqTab s') []) ∧ s'.length ≤ 6 ∧ ∀ x ∈ s', x < 6 := by
  intro f
  induction f with
  | zero =>
    intro h s s' e hs6 hs hok hz
    cases h with
    | nil =>
      unfold nuLoop at e
      cases e
      exact ⟨.done (Te_plain (EvR_own rfl rfl) (Tru.lst (by simp))), by omega, hs⟩
    | cons d h => cases e
  | succ f ih =>
    intro h s s' e hs6 hs hok hz
    cases h with
    | nil =>
      unfold nuLoop at e
      cases e
      exact ⟨.done (Te_plain (EvR_own rfl rfl) (Tru.lst (by simp))), by omega, hs⟩
    | cons d h =>
      have te : Te c 3 nuS (nuρ rows C (seqTab s) (d :: h)) (wTest nuB 3) true := Te_plain (EvR_own rfl rfl) (Tru.lst (by simp at hz ⊢; omega))
      unfold nuLoop at e
      obtain ⟨o1, o2, o3⟩ := hpop_all (lt := ltE) (h := d :: h) nofun hok
      obtain ⟨ms, k, ek, hk⟩ := o1
      have hzz : (d :: h).length ≤ 1000 := by omega
      have hpp : ∀ {p px pos p1 pos2 k1}, EvX c 3 nuS [] (nuρ rows C (seqTab s) (d :: h)) (.Subscript (.Call (.Name "heappop" p) [.Name "heap" px] [] pos) (.Constant (.int 1) k1 p1) pos2) (dN k) (Vars.put (nuρ rows C (seqTab s) (d :: h)) "heap" (.lst (hpop ltE (d :: h)).2)) := fun {p px pos p1 pos2 k1} => EvX_pop1 (ok := okE) hc K B ltE_cmp nofun hok hzz (by decide) rfl rfl rfl (by rw [ek]; rfl)
      rw [ek, keyE_ent] at e
      generalize hh : (hpop ltE (d :: h)).2 = h2 at e o2 o3 hpp
      have hs2 : ∀ x ∈ s ++ [k], x < 6 := fun x hx => by
        rcases List.mem_append.mp hx with q | q
        · exact hs x q
        · rw [List.mem_singleton.mp q]; exact hk
      obtain ⟨t1, t2⟩ := nuTurn_ok (rows := rows) (seq := s ++ [k]) (k := k) (List.range 6) h2 (fun x hx => List.mem_range.mp hx) o2
      simp only [List.length_range] at t2
      have hl2 : h2.length = h.length := by simpa using o3
      simp only [List.length_cons] at hz
      obtain ⟨w1, w2⟩ := ih _ (s ++ [k]) s' e (by simp; omega) hs2 t1 (by omega)
      refine ⟨.next te ?_ w1, w2⟩
      refine Ex_cons (ExS_assignX hpp rfl (by decide)) ?_
      obtain ⟨fa, fda, hMa, Da, hba⟩ := H.add
      obtain ⟨fl, fdl, hMl, Dl, hbl⟩ := H.lens
      have hlen : (seqTab s).length = s.length := seqTabFrom_len s 0
      have ha : FnH c 3 (.ref fa) C (rowsD (seqTab s)) [.str (capL k), .str (tStr (s.length + 1))] (rowsD (seqTab (s ++ [k]))) := by
        have := (add_fn hc H Da hba (PO.cap k hk) (PO.num (s.length + 1) (by omega)) (by show 1 ≤ 1000; decide) (by have := (tStr_int (s.length + 1) (by omega)).2; show (tStr (s.length + 1)).length ≤ _; omega) (xs := rowsD (seqTab s)) (by unfold rowsD; rw [List.length_map, hlen]; omega)).le (show 2 ≤ 3 by decide)
        rw [seqTab_snoc]
        unfold rowsD at this ⊢
        rw [List.map_append]; exact this
      obtain ⟨a1, a2⟩ := CAP_at k hk
      have hlf : FnP c 2 (.ref fl) [instD C (seqTab s)] (.int ((s.length : Nat) : Int)) := by
        have := (len_fn hc H Dl hbl (hs := seqTab s) (by rw [hlen]; omega)).le (show 1 ≤ 2 by decide)
        rw [hlen] at this; exact this
      refine Ex_cons (ρ₁ := nuσ rows C (seqTab (s ++ [k])) h2 k) ((ExS_exprX (EvX_callHdr hc hMa ha (by decide) rfl rfl (EvL_cons (Ev_Sub (d := .str (capL k)) EvR_str (EvR_name rfl rfl) (Itm.str (k := k) (cp := 65 + k) a1 a2 (by omega) (by omega))) (EvL_cons ((Ev_callB (ds := [.int ((s.length + 1 : Nat) : Int)]) hc B.str rfl nofun (EvLR_cons (.of ((Ev_BinOp (.of (Ev_lenHdr (n := 2) hc B.len rfl hMl rfl rfl hlf (by omega) (by omega))) EvR_int Bin.add).conv rfl)) EvLR_nil) (CallR.strOf (small_log (s.length + 1) (by omega)))).conv (d' := .str (tStr (s.length + 1))) rfl) EvL_nil)))).less ⟨rfl, rfl, rfl, rfl, trivial⟩) ?_
      have L := nu_inner hc K B H PO hr hk hs2 (by simp; omega) (List.range 6) h2 (fun x hx => List.mem_range.mp hx) o2 (by simp; omega)
      exact (Ex_cons (ExS_for (d := .rng 0 6) (xs := (List.range 6).map dN) (Ev_callB hc B.range rfl nofun (EvLR_cons EvR_int EvLR_nil) CallR.range1) (by rw [← rng0]; rfl) rfl L (.inl rfl)) Ex_nil).less ⟨rfl, rfl, rfl, trivial⟩
/-- the whole -/
theorem nu_fn {fv : Value} {C : Addr} {nc vc : Array Nat} (hc : c.Ok) (K : HpK c) (B : Blt c) (H : HdK c C nc vc) (PO : PatOk nc vc) (hf : IsFn c fv ["rows"] nuB nuS) {rows : List (List Nat)} (hr : RowsOk rows) {s : List Nat} (hl : nuLoop rows 6 ((List.range 6).foldl (nu0 rows) []) [] = some s) (hall : ∀ z, z < 6 → (posOf s z).isSome = true) : FnP c 4 fv [rowsL rows] (nats ((List.range 6).map (mk s))) := by
  obtain ⟨fh, fdh, hNh, Dh, hbh⟩ := H.init
  obtain ⟨o1, o2⟩ := nu0_ok (rows := rows) (List.range 6) [] (fun x hx => List.mem_range.mp hx) (fun _ q => nomatch q)
  simp only [List.length_range, List.length_nil] at o2
  obtain ⟨W, s6, slt⟩ := nu_while hc K B H PO hr 6 _ [] s hl (by decide) (fun _ q => nomatch q) o1 (by omega)
  refine FnP_intro (n := 3) (fl := .retF (nats ((List.range 6).map (mk s)))) (ρ' := nuρ rows C (seqTab s) []) hc hf (by decide) rfl ⟨nofun, nofun⟩ ?_
  refine Ex_cons ((ExS_assignHdr (n := 2) (pn := []) hc H.glb hNh (hinit_fn hc H Dh hbh) rfl rfl (by decide)).less (ρ' := [("rows", .val (rowsL rows)), ("table", .hdr C [])]) ⟨rfl, rfl, trivial⟩) ?_
  refine Ex_cons ((ExS_assignNew (EvNew_List EvL_nil (by decide)) rfl (by decide)).less (ρ' := nuρ rows C (seqTab []) []) ⟨rfl, rfl, rfl, trivial⟩) ?_
  have L := nu_first hc K B hr (C := C) (tb := seqTab []) (List.range 6) [] (fun x hx => List.mem_range.mp hx) (fun _ q => nomatch q) (by simp)
  refine Ex_cons (ExS_for (d := .rng 0 6) (xs := (List.range 6).map dN) (Ev_callB hc B.range rfl nofun (EvLR_cons EvR_int EvLR_nil) CallR.range1) (by rw [← rng0]; rfl) rfl L (.inl rfl)) ?_
  refine Ex_cons (ExS_while W) ?_
  obtain ⟨fg, fdg, hMg, Dg, hbg⟩ := H.get
  refine Ex_stop (ExS_returnNew (EvNew_comp (ρc := [("table", .hdr C (rowsD (seqTab s)))]) ⟨by decide, FreeOk.get ⟨rfl, rfl, trivial⟩, fun _ _ => rfl, .str "abcdef", (List.range 6).map fun k => .str (letter k), EvR_str, rfl, rfl, by decide, ?_⟩))
  rw [List.map_map]
  refine compR_map _ _ (List.range 6) (fun _ => .nil) fun z hz => ?_
  have hz6 := List.mem_range.mp hz
  obtain ⟨j, hj⟩ := Option.isSome_iff_exists.mp (hall z hz6)
  have hj6 := posOf_lt hj
  have e0 := getM_seq hz6 s 0 slt
  rw [hj] at e0
  have e1 : optD (getM (seqTab s) (letter z)) = .str (tStr (j + 1)) := by
    unfold seqTab; rw [e0]; show D.str (tStr (0 + j + 1)) = _; rw [Nat.zero_add]
  have hg := (get_fn hc H Dg hbg (hs := seqTab s) (nm := letter z) (by rw [letter_lower z hz6]; exact PO.low z hz6) (by show 1 ≤ 300; decide) (by rw [letter_lower z hz6]; show 1 ≤ 1000; decide) (seqTab_keys s 0)).le (show 2 ≤ 3 by decide)
  rw [e1] at hg
  obtain ⟨t1, t2⟩ := tStr_int (j + 1) (by omega)
  have e2 : mk s z = j + 1 := by unfold mk; rw [hj]; rfl
  show Ev _ _ _ _ _ (D.int ((mk s z : Nat) : Int))
  rw [e2]
  exact Ev_callB hc B.int rfl nofun (EvLR_cons (.of (Ev_hdrFlat hc hMg rfl rfl (by decide) (EvL_cons (Ev_name rfl rfl) EvL_nil) hg rfl)) EvLR_nil) (CallR.intOf (x := tStr (j + 1)) t1 (by omega))
end Mine
end

section
open PySem PySem.Calls PyProof.Rows PySem.W
set_option maxRecDepth 100000
set_option linter.unusedVariables false
namespace Mine
variable {c : Cx} {n : Nat}
/-! two hands -/
noncomputable def pairOf : D → List Int
  | .tup xs => intsOf xs
  | _ => []
noncomputable def ltP (a b : D) : Bool := lexLt (pairOf a) (pairOf b)
noncomputable def pairN (m k : Nat) : D := .tup ([-(m : Int), (k : Int)].map .int)
theorem pairOf_pair (m k : Nat) : pairOf (pairN m k) = [-(m : Int), (k : Int)] := intsOf_map _
noncomputable def okP (d : D) : Prop := ∃ m k, d = pairN m k ∧ k < 6
noncomputable def keyP (d : D) : Nat := ((pairOf d).getD 1 0).toNat
theorem keyP_pair (m k : Nat) : keyP (pairN m k) = k := by unfold keyP; rw [pairOf_pair]; rfl
theorem okP_pair {m k : Nat} (hk : k < 6) : okP (pairN m k) := ⟨m, k, rfl, hk⟩
theorem ltP_cmp (a b : D) (ha : okP a) (hb : okP b) : Cmp c .Lt a b (ltP a b) := by
  obtain ⟨m, k, rfl, _⟩ := ha
  obtain ⟨m', j, rfl, _⟩ := hb
  unfold ltP
  rw [pairOf_pair, pairOf_pair]
  exact Cmp.ltInts _ _
noncomputable abbrev thB := defBody pw "_law_two_hands"
noncomputable abbrev thS := defScope pw "_law_two_hands"
noncomputable abbrev thW := wBody thB 6
noncomputable def needsM (rows : List (List Nat)) : List (List Nat) := (List.range 6).map fun j => (List.range 6).filter fun k => (rows.getD k []).contains j
theorem needs_ok (rows : List (List Nat)) : RowsOk (needsM rows) := by
  refine ⟨by simp [needsM], fun r hr x hx => ?_, fun r hr => ?_⟩
  · obtain ⟨y, _, rfl⟩ := List.mem_map.mp hr
    exact List.mem_range.mp (List.mem_filter.mp hx).1
  · obtain ⟨y, _, rfl⟩ := List.mem_map.mp hr
    exact Nat.le_trans (List.length_filter_le _ _) (by simp)
noncomputable def hourN (hand hour : Nat) : Str := ⟨#[(if hand = 0 then 117 else 85) + hour]⟩
noncomputable def hourRows (lines : List Str) (i : Nat) : List Nat → Nat → Rows
  | [], _ => []
  | k :: r, j => (hourN j i, lines.getD k Str.empty) :: hourRows lines i r (j + 1)
noncomputable def schedTabFrom (lines : List Str) : List (List Nat) → Nat → Rows
  | [], _ => []
  | t :: r, i => hourRows lines i t 0 ++ schedTabFrom lines r (i + 1)
noncomputable def schedTab (lines : List Str) (sc : List (List Nat)) : Rows := schedTabFrom lines sc 0
theorem schedTab_snoc (lines : List Str) (t : List Nat) : ∀ (sc : List (List Nat)) (i : Nat), schedTabFrom lines (sc ++ [t]) i = schedTabFrom lines sc i ++ hourRows lines (i + sc.length) t 0
  | [], i => by show _ ++ [] = [] ++ _; simp
  | a :: r, i => by
    show _ ++ schedTabFrom lines (r ++ [t]) (i + 1) = (_ ++ _) ++ _
    rw [schedTab_snoc lines t r (i + 1), List.append_assoc, List.length_cons]
    congr 3; omega
theorem hourRows_len (lines : List Str) (i : Nat) : ∀ (t : List Nat) (j : Nat), (hourRows lines i t j).length = t.length
  | [], _ => rfl
  | k :: r, j => by simp [hourRows, hourRows_len lines i r]
theorem hourRows_snoc (lines : List Str) (i k : Nat) : ∀ (t : List Nat) (j : Nat), hourRows lines i (t ++ [k]) j = hourRows lines i t j ++ [(hourN (j + t.length) i, lines.getD k Str.empty)]
  | [], j => rfl
  | a :: r, j => by
    show _ :: hourRows lines i (r ++ [k]) (j + 1) = _ :: (_ ++ _)
    rw [hourRows_snoc lines i k r (j + 1), List.length_cons]
    congr 5; omega
noncomputable def hdTake (h : List D) : List Nat × List D := match (hpop ltP h).2 with
  | [] => ([keyP (hpop ltP h).1], [])
  | e :: g => ([keyP (hpop ltP h).1, keyP (hpop ltP (e :: g)).1], (hpop ltP (e :: g)).2)
noncomputable def hdTurn (needs : List (List Nat)) (nums taken done : List Nat) (h : List D) (k : Nat) : List D :=
  if ((needs.getD k []).filter fun o => taken.contains o).isEmpty = true then h
  else if ((needs.getD k []).filter fun o => !done.contains o).isEmpty = true then hpush ltP h (pairN (nums.getD k 0) k) else h
noncomputable def hdLoop (needs : List (List Nat)) (nums : List Nat) : Nat → List D → List (List Nat) → Option (List (List Nat))
  | _, [], sc => some sc
  | 0, _ :: _, _ => none
  | f + 1, d :: h, sc => hdLoop needs nums f ((List.range 6).foldl (hdTurn needs nums (hdTake (d :: h)).1 (sc ++ [(hdTake (d :: h)).1]).flatten) (hdTake (d :: h)).2) (sc ++ [(hdTake (d :: h)).1])
noncomputable def hd0 (needs : List (List Nat)) (nums : List Nat) (h : List D) (k : Nat) : List D := if (needs.getD k []).isEmpty = true then hpush ltP h (pairN (nums.getD k 0) k) else h
theorem hd0_ok {needs : List (List Nat)} {nums : List Nat} : ∀ (l : List Nat) (h : List D), (∀ x ∈ l, x < 6) → (∀ d ∈ h, okP d) → (∀ d ∈ l.foldl (hd0 needs nums) h, okP d) ∧ (l.foldl (hd0 needs nums) h).length ≤ h.length + l.length
  | [], h, _, hok => ⟨hok, Nat.le_refl _⟩
  | o :: r, h, hl, hok => by
    rw [List.foldl_cons, List.length_cons]
    have key : (∀ d ∈ hd0 needs nums h o, okP d) ∧ (hd0 needs nums h o).length ≤ h.length + 1 := by
      unfold hd0
      split
      · exact ⟨hpush_all ltP hok (okP_pair (hl o (.head _))), by rw [hpush_len]; omega⟩
      · exact ⟨hok, by omega⟩
    obtain ⟨a, b⟩ := hd0_ok r (hd0 needs nums h o) (fun x hx => hl x (.tail _ hx)) key.1
    exact ⟨a, by have := key.2; omega⟩
theorem hdTurn_ok {needs : List (List Nat)} {nums taken done : List Nat} : ∀ (l : List Nat) (h : List D), (∀ x ∈ l, x < 6) → (∀ d ∈ h, okP d) → (∀ d ∈ l.foldl (hdTurn needs nums taken done) h, okP d) ∧ (l.foldl (hdTurn needs nums taken done) h).length ≤ h.length + l.length
  | [], h, _, hok => ⟨hok, Nat.le_refl _⟩
  | o :: r, h, hl, hok => by
    rw [List.foldl_cons, List.length_cons]
    have key : (∀ d ∈ hdTurn needs nums taken done h o, okP d) ∧ (hdTurn needs nums taken done h o).length ≤ h.length + 1 := by
      unfold hdTurn
      split
      · exact ⟨hok, by omega⟩
      · split
        · exact ⟨hpush_all ltP hok (okP_pair (hl o (.head _))), by rw [hpush_len]; omega⟩
        · exact ⟨hok, by omega⟩
    obtain ⟨a, b⟩ := hdTurn_ok (taken := taken) (done := done) r (hdTurn needs nums taken done h o) (fun x hx => hl x (.tail _ hx)) key.1
    exact ⟨a, by have := key.2; omega⟩
theorem hdTake_ok {h : List D} (hne : h ≠ []) (hok : ∀ d ∈ h, okP d) : (∀ x ∈ (hdTake h).1, x < 6) ∧ (∀ d ∈ (hdTake h).2, okP d) ∧ (hdTake h).2.length ≤ h.length ∧ 1 ≤ (hdTake h).1.length ∧ (hdTake h).1.length ≤ 2 := by
  obtain ⟨o1, o2, o3⟩ := hpop_all (lt := ltP) hne hok
  obtain ⟨m, k, e, hk⟩ := o1
  unfold hdTake
  cases hg : (hpop ltP h).2 with
  | nil =>
    dsimp only
    rw [e, keyP_pair]
    exact ⟨fun x hx => by rw [List.mem_singleton.mp hx]; exact hk, fun _ q => (nomatch q), Nat.zero_le _, by simp, by simp⟩
  | cons d g =>
    dsimp only
    rw [hg] at o2 o3
    obtain ⟨q1, q2, q3⟩ := hpop_all (lt := ltP) (h := d :: g) nofun o2
    obtain ⟨m', k', e', hk'⟩ := q1
    rw [e, keyP_pair, e', keyP_pair]
    refine ⟨fun x hx => ?_, q2, by simp at q3 o3; omega, by simp, by simp⟩
    rcases List.mem_cons.mp hx with rfl | hx
    · exact hk
    · rw [List.mem_singleton.mp hx]; exact hk'
/-- the state -/
noncomputable abbrev thρ (lines : List Str) (rows : List (List Nat)) (nums : List Nat) (needs : List (List Nat)) : Vars := [("lines", .val (lst lines)), ("rows", .val (rowsL rows)), ("numbers", .val (nats nums)), ("needs", .val (.lst (needs.map nats)))]
noncomputable abbrev thσ (lines : List Str) (rows : List (List Nat)) (nums : List Nat) (needs : List (List Nat)) (C : Addr) (h : List D) (tb : Rows) (done : List Nat) (hour : Nat) : Vars := [("lines", .val (lst lines)), ("rows", .val (rowsL rows)), ("numbers", .val (nats nums)), ("needs", .val (.lst (needs.map nats))), ("heap", .lst h), ("table", .hdr C (rowsD tb)), ("done", .lst (done.map dN)), ("hour", .val (dN hour))]
theorem RowsOk.natsAt {rows : List (List Nat)} (h : RowsOk rows) {k : Nat} (hk : k < 6) : (rows.map nats)[k]? = some (nats (rows.getD k [])) := told_at (by rw [h.len]; exact hk)
theorem Ev_pair {sc : Scope} {ρ : Vars} {m k : Nat} {e1 e2 : Expr} {p1 : Pos} {kk : Nat} {pos : Pos} (h1 : Ev c n sc ρ e1 (dN m)) (h2 : Ev c n sc ρ e2 (dN k)) (hp2 : plainArg e2 = true) : Ev c n sc ρ (.Tuple [.UnaryOp .USub e1 p1, e2] kk pos) (pairN m k) :=
  Ev_Tuple (ds := [.int (-(m : Int)), dN k]) (EvL_cons (Ev_UnaryOp (.of h1) Una.neg) (EvL_cons h2 EvL_nil hp2)) (by simp)
theorem th_first (hc : c.Ok) (K : HpK c) (B : Blt c) {lines : List Str} {rows : List (List Nat)} {nums : List Nat} (hn : nums.length = 6) {needs : List (List Nat)} (hr : RowsOk needs) : ∀ (l : List Nat) (h : List D), (∀ x ∈ l, x < 6) → (∀ d ∈ h, okP d) → h.length + l.length ≤ 900 →
    LoopR (Turn c 3 thS [] (fTarget thB 2) (fBody thB 2)) (l.map dN) (Vars.put (thρ lines rows nums needs) "heap" (.lst h)) .next (Vars.put (thρ lines rows nums needs) "heap" (.lst (l.foldl (hd0 needs nums) h)))
  | [], h, _, _, _ => .nil
  | k :: r, h, hl, hok, hz => by
    simp only [List.length_cons] at hz
    have hk := hl k (.head _)
    have te : Te c 3 thS (Vars.put (Vars.put (thρ lines rows nums needs) "heap" (.lst h)) "k" (.val (dN k))) (iTest (fBody thB 2) 0) ((needs.getD k []).isEmpty) :=
      (Te_Compare (a := nats (needs.getD k [])) (b := .lst []) (.of (Ev_Sub (EvR_name rfl rfl) (EvR_name rfl rfl) (Itm.lst (Int.natCast_nonneg _) (by rw [Int.toNat_natCast]; exact hr.natsAt hk) (by omega)))) (.of (Ev_List EvL_nil (by decide))) (Cmp.eqD (okEq_nats _) rfl)).conv (eqv_nilN _)
    rw [List.foldl_cons]
    unfold hd0
    by_cases ht : (needs.getD k []).isEmpty = true
    · rw [if_pos ht]
      refine .next ⟨_, AsgT_name rfl (by decide), ?_⟩ (th_first hc K B hn hr r (hpush ltP h (pairN (nums.getD k 0) k)) (fun x hx => hl x (.tail _ hx)) (hpush_all ltP hok (okP_pair hk)) (by rw [hpush_len]; omega))
      exact (Ex_cons (ExS_if (te.conv ht) (fun _ => Ex_cons (ExS_push (ok := okP) hc K B ltP_cmp hok (okP_pair hk) (by omega) (by decide) rfl rfl rfl (Ev_pair (Ev_Sub (d := dN (nums.getD k 0)) (EvR_name rfl rfl) (EvR_name rfl rfl) (Itm.lst (Int.natCast_nonneg _) (by rw [Int.toNat_natCast]; exact map_getD nums k (by omega)) (by omega))) (Ev_name rfl rfl) rfl)) Ex_nil) (fun e => nomatch e)) Ex_nil).less ⟨rfl, rfl, rfl, rfl, rfl, trivial⟩
    · rw [if_neg ht]
      refine .next ⟨_, AsgT_name rfl (by decide), ?_⟩ (th_first hc K B hn hr r h (fun x hx => hl x (.tail _ hx)) hok (by omega))
      exact (Ex_cons (ExS_if (te.conv (Bool.eq_false_iff.mpr ht)) (fun e => nomatch e) (fun _ => Ex_nil)) Ex_nil).less ⟨rfl, rfl, rfl, rfl, rfl, trivial⟩
end Mine
end

section
open PySem PySem.Calls PyProof.Rows PySem.W
set_option maxRecDepth 100000
set_option linter.unusedVariables false
namespace Mine
variable {c : Cx} {n : Nat}
noncomputable def hourAbc (j : Nat) : Str := if j = 0 then "uvwxyz" else "UVWXYZ"
theorem hourAbc_at : ∀ j, j < 2 → ∀ i : Nat, i < 6 → seqIndex? (i : Int) (hourAbc j).length = some i ∧ (hourAbc j).cps[i]? = some ((if j = 0 then 117 else 85) + i) := by decide +kernel
/-- what the lines and the hours' names keep to -/
structure LinesOk (vc : Array Nat) (lines : List Str) : Prop where
  len : lines.length = 6
  ok : ∀ x ∈ lines, missB vc x = true ∧ x.cps.size ≤ 400
theorem LinesOk.at_ {vc : Array Nat} {lines : List Str} (h : LinesOk vc lines) {k : Nat} (hk : k < 6) : (lines.map D.str)[k]? = some (.str (lines.getD k Str.empty)) ∧ missB vc (lines.getD k Str.empty) = true ∧ (lines.getD k Str.empty).cps.size ≤ 400 := by
  have hk' : k < lines.length := by rw [h.len]; exact hk
  have e : lines.getD k Str.empty = lines[k] := by rw [List.getD_eq_getElem?_getD, List.getElem?_eq_getElem hk']; rfl
  rw [e]
  exact ⟨by rw [List.getElem?_map, List.getElem?_eq_getElem hk']; rfl, h.ok _ (List.getElem_mem hk')⟩
noncomputable abbrev thτ (lines : List Str) (rows : List (List Nat)) (nums : List Nat) (needs : List (List Nat)) (C : Addr) (h : List D) (tb : Rows) (done : List Nat) (hour : Nat) (t : List Nat) : Vars := Vars.put (thσ lines rows nums needs C h tb done hour) "taken" (.lst (t.map dN))
theorem th_hands {C : Addr} {nc vc : Array Nat} (hc : c.Ok) (B : Blt c) (H : HdK c C nc vc) (hho : ∀ j, j < 2 → ∀ i, i < 6 → missB nc (hourN j i) = true) {lines : List Str} (LO : LinesOk vc lines) {rows : List (List Nat)} {nums : List Nat} {needs : List (List Nat)} {h : List D} {done : List Nat} {hour : Nat} (hh : hour < 6) {t : List Nat} (ht : ∀ x ∈ t, x < 6) (ht2 : t.length ≤ 2) {tb : Rows} (htb : tb.length ≤ 100) : ∀ (m j : Nat), j + m = t.length →
    LoopR (Turn c 3 thS [] (fTarget thW 2) (fBody thW 2)) ((List.range' j m).map dN) (thτ lines rows nums needs C h (tb ++ hourRows lines hour (t.take j) 0) done hour t) .next (thτ lines rows nums needs C h (tb ++ hourRows lines hour t 0) done hour t)
  | 0, j, e => by
    rw [List.take_of_length_le (by omega)]
    exact .nil
  | m + 1, j, e => by
    have hj : j < t.length := by omega
    have ih := th_hands hc B H hho LO hh ht ht2 htb m (j + 1) (by omega) (rows := rows) (nums := nums) (needs := needs) (h := h) (done := done)
    have hg : t.getD j 0 = t[j] := by rw [List.getD_eq_getElem?_getD, List.getElem?_eq_getElem hj]; rfl
    have ek : t.take (j + 1) = t.take j ++ [t.getD j 0] := by rw [hg, List.take_add_one, List.getElem?_eq_getElem hj]; rfl
    have hk : t.getD j 0 < 6 := by rw [hg]; exact ht _ (List.getElem_mem hj)
    have etk : (t.take j).length = j := by rw [List.length_take]; omega
    rw [ek, hourRows_snoc, etk, Nat.zero_add, ← List.append_assoc] at ih
    obtain ⟨fa, fda, hMa, Da, hba⟩ := H.add
    obtain ⟨l1, l2, l3⟩ := LO.at_ hk
    obtain ⟨a1, a2⟩ := hourAbc_at j (by omega) hour hh
    have ha : FnH c 3 (.ref fa) C (rowsD (tb ++ hourRows lines hour (t.take j) 0)) [.str (hourN j hour), .str (lines.getD (t.getD j 0) Str.empty)] (rowsD (tb ++ hourRows lines hour (t.take j) 0 ++ [(hourN j hour, lines.getD (t.getD j 0) Str.empty)])) := by
      have := (add_fn hc H Da hba (hho j (by omega) hour hh) l2 (by show 1 ≤ 1000; decide) (by omega) (xs := rowsD (tb ++ hourRows lines hour (t.take j) 0)) (by unfold rowsD; rw [List.length_map, List.length_append, hourRows_len, etk]; omega)).le (show 2 ≤ 3 by decide)
      unfold rowsD at this ⊢
      rw [List.map_append (l₁ := tb ++ hourRows lines hour (t.take j) 0)]; exact this
    have tupj : ([D.str "uvwxyz", D.str "UVWXYZ"] : List D)[((j : Nat) : Int).toNat]? = some (.str (hourAbc j)) := by
      have : j = 0 ∨ j = 1 := by omega
      rcases this with rfl | rfl <;> rfl
    refine .next ⟨_, AsgT_name rfl (by decide), ?_⟩ ih
    refine (Ex_cons (ExS_exprX (EvX_callHdr hc hMa ha (by decide) rfl rfl (EvL_cons (Ev_Sub (d := .str (hourN j hour)) (.of (Ev_Sub (.of (Ev_Tuple (ds := [.str "uvwxyz", .str "UVWXYZ"]) (EvL_cons Ev_str (EvL_cons Ev_str EvL_nil)) (by simp))) (EvR_name rfl rfl) (Itm.tup (Int.natCast_nonneg _) tupj (by omega)))) (EvR_name rfl rfl) (Itm.str (k := hour) a1 a2 (by omega) (by omega))) (EvL_cons (Ev_Sub (d := .str (lines.getD (t.getD j 0) Str.empty)) (EvR_name rfl rfl) (.of (Ev_Sub (d := dN (t.getD j 0)) (EvR_own rfl rfl) (EvR_name rfl rfl) (Itm.lst (Int.natCast_nonneg _) (by rw [Int.toNat_natCast]; exact map_getD t j hj) (by omega)))) (Itm.lst (Int.natCast_nonneg _) (by rw [Int.toNat_natCast]; exact l1) (by omega))) EvL_nil)))) Ex_nil).less ⟨rfl, rfl, rfl, rfl, rfl, rfl, rfl, rfl, rfl, trivial⟩
noncomputable abbrev thT := fBody thW 5
theorem th_turns {C : Addr} (hc : c.Ok) (K : HpK c) (B : Blt c) {lines : List Str} {rows : List (List Nat)} {nums : List Nat} (hn : nums.length = 6) {needs : List (List Nat)} (hr : RowsOk needs) {tb : Rows} {done : List Nat} {hour : Nat} {t : List Nat} : ∀ (l : List Nat) (h : List D), (∀ x ∈ l, x < 6) → (∀ d ∈ h, okP d) → h.length + l.length ≤ 900 →
    LoopR (Turn c 3 thS [] (fTarget thW 5) thT) (l.map dN) (thτ lines rows nums needs C h tb done hour t) .next (thτ lines rows nums needs C (l.foldl (hdTurn needs nums t done) h) tb done hour t)
  | [], h, _, _, _ => .nil
  | k :: r, h, hl, hok, hz => by
    simp only [List.length_cons] at hz
    have hk := hl k (.head _)
    have hrow := hr.mem hk
    have hat := hr.natsAt hk
    have hRl := hr.sz _ hrow
    rw [List.foldl_cons]
    unfold hdTurn
    generalize hR : needs.getD k [] = R at *
    have te1 : Te c 3 thS (Vars.put (thτ lines rows nums needs C h tb done hour t) "k" (.val (dN k))) (iTest thT 0) (!(R.filter fun o => t.contains o).isEmpty) := by
      refine (Te_Compare (a := .lst ((R.filter fun o => t.contains o).map dN)) (b := .lst []) (.of (EvNew_comp (ρc := [("taken", .lst (t.map dN))]) ⟨by decide, FreeOk.get ⟨rfl, rfl, trivial⟩, fun _ _ => rfl, nats R, R.map dN, .of (Ev_Sub (EvR_name rfl rfl) (EvR_name rfl rfl) (Itm.lst (Int.natCast_nonneg _) (by rw [Int.toNat_natCast]; exact hat) (by omega))), rfl, rfl, by rw [List.length_map]; omega, ?_⟩).ev) (.of (Ev_List EvL_nil (by decide))) (Cmp.neD (okEq_nats _) rfl)).conv (by rw [eqv_nilN])
      exact compR_of dN _ dN R (fun o ho => .one ((Te_Compare (EvR_name rfl rfl) (EvR_own rfl rfl) (Cmp.inL (okEq_dN _) (okEq_nats _))).conv (inN o t))) (fun o _ _ => Ev_name rfl rfl)
    by_cases h1 : (R.filter fun o => t.contains o).isEmpty = true
    · rw [if_pos h1]
      rw [h1] at te1
      refine .next ⟨_, AsgT_name rfl (by decide), ?_⟩ (th_turns hc K B hn hr r h (fun x hx => hl x (.tail _ hx)) hok (by omega))
      exact (Ex_cons (ExS_if te1 (fun e => nomatch e) (fun _ => Ex_nil)) Ex_nil).less ⟨rfl, rfl, rfl, rfl, rfl, rfl, rfl, rfl, rfl, trivial⟩
    · rw [if_neg h1]
      rw [Bool.eq_false_iff.mpr h1] at te1
      have te2 : Te c 3 thS (Vars.put (thτ lines rows nums needs C h tb done hour t) "k" (.val (dN k))) (iTest (iThen thT 0) 0) ((R.filter fun o => !done.contains o).isEmpty) := by
        refine (Te_Compare (a := .lst ((R.filter fun o => !done.contains o).map dN)) (b := .lst []) (.of (EvNew_comp (ρc := [("done", .lst (done.map dN))]) ⟨by decide, FreeOk.get ⟨rfl, rfl, trivial⟩, fun _ _ => rfl, nats R, R.map dN, .of (Ev_Sub (EvR_name rfl rfl) (EvR_name rfl rfl) (Itm.lst (Int.natCast_nonneg _) (by rw [Int.toNat_natCast]; exact hat) (by omega))), rfl, rfl, by rw [List.length_map]; omega, ?_⟩).ev) (.of (Ev_List EvL_nil (by decide))) (Cmp.eqD (okEq_nats _) rfl)).conv (eqv_nilN _)
        exact compR_of dN _ dN R (fun o ho => .one ((Te_Compare (EvR_name rfl rfl) (EvR_own rfl rfl) (Cmp.notInL (okEq_dN _) (okEq_nats _))).conv (by rw [inN]))) (fun o _ _ => Ev_name rfl rfl)
      by_cases h2 : (R.filter fun o => !done.contains o).isEmpty = true
      · rw [if_pos h2]
        refine .next ⟨_, AsgT_name rfl (by decide), ?_⟩ (th_turns hc K B hn hr r (hpush ltP h (pairN (nums.getD k 0) k)) (fun x hx => hl x (.tail _ hx)) (hpush_all ltP hok (okP_pair hk)) (by rw [hpush_len]; omega))
        exact (Ex_cons (ExS_if te1 (fun _ => Ex_cons (ExS_if (te2.conv h2) (fun _ => Ex_cons (ExS_push (ok := okP) hc K B ltP_cmp hok (okP_pair hk) (by omega) (by decide) rfl rfl rfl (Ev_pair (Ev_Sub (d := dN (nums.getD k 0)) (EvR_name rfl rfl) (EvR_name rfl rfl) (Itm.lst (Int.natCast_nonneg _) (by rw [Int.toNat_natCast]; exact map_getD nums k (by omega)) (by omega))) (Ev_name rfl rfl) rfl)) Ex_nil) (fun e => nomatch e)) Ex_nil) (fun e => nomatch e)) Ex_nil).less ⟨rfl, rfl, rfl, rfl, rfl, rfl, rfl, rfl, rfl, trivial⟩
      · rw [if_neg h2]
        refine .next ⟨_, AsgT_name rfl (by decide), ?_⟩ (th_turns hc K B hn hr r h (fun x hx => hl x (.tail _ hx)) hok (by omega))
        exact (Ex_cons (ExS_if te1 (fun _ => Ex_cons (ExS_if (te2.conv (Bool.eq_false_iff.mpr h2)) (fun e => nomatch e) (fun _ => Ex_nil)) Ex_nil) (fun e => nomatch e)) Ex_nil).less ⟨rfl, rfl, rfl, rfl, rfl, rfl, rfl, rfl, rfl, trivial⟩
end Mine
end

section
open PySem PySem.Calls PyProof.Rows PySem.W
set_option maxRecDepth 100000
set_option linter.unusedVariables false
namespace Mine
variable {c : Cx} {n : Nat}
theorem schedTab_len (lines : List Str) : ∀ (sc : List (List Nat)) (i : Nat), (∀ t ∈ sc, t.length ≤ 2) → (schedTabFrom lines sc i).length ≤ 2 * sc.length
  | [], _, _ => Nat.le_refl _
  | t :: r, i, h => by
    show (hourRows lines i t 0 ++ schedTabFrom lines r (i + 1)).length ≤ _
    rw [List.length_append, hourRows_len, List.length_cons]
    have := schedTab_len lines r (i + 1) fun x hx => h x (.tail _ hx)
    have := h t (.head _)
    omega
theorem flat_snoc (sc : List (List Nat)) (t : List Nat) : (sc ++ [t]).flatten = sc.flatten ++ t := by simp
theorem flat_len2 : ∀ (sc : List (List Nat)), (∀ t ∈ sc, t.length ≤ 2) → sc.flatten.length ≤ 2 * sc.length
  | [], _ => Nat.le_refl _
  | t :: r, h => by
    have := flat_len2 r fun x hx => h x (.tail _ hx)
    have := h t (.head _)
    simp only [List.flatten_cons, List.length_append, List.length_cons]; omega
theorem th_while {C : Addr} {nc vc : Array Nat} (hc : c.Ok) (K : HpK c) (B : Blt c) (H : HdK c C nc vc) (hho : ∀ j, j < 2 → ∀ i, i < 6 → missB nc (hourN j i) = true) {lines : List Str} (LO : LinesOk vc lines) {rows : List (List Nat)} {nums : List Nat} (hn : nums.length = 6) {needs : List (List Nat)} (hr : RowsOk needs) : ∀ (f : Nat) (h : List D) (sc sc' : List (List Nat)), hdLoop needs nums f h sc = some sc' → sc.length + f ≤ 6 → (∀ t ∈ sc, (∀ x ∈ t, x < 6) ∧ 1 ≤ t.length ∧ t.length ≤ 2) → (∀ d ∈ h, okP d) → h.length + 6 * f ≤ 500 →
    WhileR c 3 thS [] (wTest thB 6) thW (f + 1) (thσ lines rows nums needs C h (schedTab lines sc) sc.flatten sc.length) .next (thσ lines rows nums needs C [] (schedTab lines sc') sc'.flatten sc'.length) ∧ sc'.length ≤ 6 ∧ (∀ t ∈ sc', (∀ x ∈ t, x < 6) ∧ 1 ≤ t.length ∧ t.length ≤ 2) := by
  intro f
  induction f with
  | zero =>
    intro h sc sc' e h6 hsc hok hz
    cases h with
    | nil =>
      unfold hdLoop at e
      cases e
      exact ⟨.done (Te_plain (EvR_own rfl rfl) (Tru.lst (by simp))), by omega, hsc⟩
    | cons d h => cases e
  | succ f ih =>
    intro h sc sc' e h6 hsc hok hz
    cases h with
    | nil =>
      unfold hdLoop at e
      cases e
      exact ⟨.done (Te_plain (EvR_own rfl rfl) (Tru.lst (by simp))), by omega, hsc⟩
    | cons d h =>
      have te : Te c 3 thS (thσ lines rows nums needs C (d :: h) (schedTab lines sc) sc.flatten sc.length) (wTest thB 6) true := Te_plain (EvR_own rfl rfl) (Tru.lst (by simp at hz ⊢; omega))
      unfold hdLoop at e
      obtain ⟨k1, k2, k3, k4, k5⟩ := hdTake_ok (h := d :: h) nofun hok
      -- the two statements that take
      have take2 : ∀ {r fl ρ'}, Ex c 3 thS [] (thτ lines rows nums needs C (hdTake (d :: h)).2 (schedTab lines sc) sc.flatten sc.length (hdTake (d :: h)).1) r fl ρ' → r = thW.drop 2 → Ex c 3 thS [] (thσ lines rows nums needs C (d :: h) (schedTab lines sc) sc.flatten sc.length) thW fl ρ' := by
        intro r fl ρ' hx er
        subst er
        obtain ⟨o1, o2, o3⟩ := hpop_all (lt := ltP) (h := d :: h) nofun hok
        obtain ⟨m, k, ek, hk⟩ := o1
        refine Ex_cons (ExS_assignList1X (d := dN k) (EvX_pop1 (ok := okP) hc K B ltP_cmp (h := d :: h) nofun hok (by omega) (by decide) rfl rfl rfl (by rw [ek]; rfl)) rfl (by decide)) ?_
        unfold hdTake at hx
        rw [ek, keyP_pair] at hx
        cases hg : (hpop ltP (d :: h)).2 with
        | nil =>
          rw [hg] at hx
          exact Ex_cons (ExS_if (t := false) (Te_plain (EvR_own rfl rfl) (Tru.lst (by simp))) (fun e => nomatch e) (fun _ => Ex_nil)) hx
        | cons d' g =>
          rw [hg] at hx o2 o3
          dsimp only at hx
          obtain ⟨q1, q2, q3⟩ := hpop_all (lt := ltP) (h := d' :: g) nofun o2
          obtain ⟨m', k', ek', hk'⟩ := q1
          rw [ek', keyP_pair] at hx
          simp only [List.length_cons] at o3 hz
          exact Ex_cons (ExS_if (t := true) (Te_plain (EvR_own rfl rfl) (Tru.lst (by simp; omega))) (fun _ => Ex_cons (ExS_exprX (EvX_append (d := dN k') rfl rfl (EvX_pop1 (ok := okP) hc K B ltP_cmp (h := d' :: g) nofun o2 (by simp; omega) (by decide) rfl rfl rfl (by rw [ek']; rfl)) rfl (by simp))) Ex_nil) (fun e => nomatch e)) hx
      generalize (hdTake (d :: h)).1 = t at *
      generalize (hdTake (d :: h)).2 = h2 at *
      have hsc2 : ∀ u ∈ sc ++ [t], (∀ x ∈ u, x < 6) ∧ 1 ≤ u.length ∧ u.length ≤ 2 := fun u hu => by
        rcases List.mem_append.mp hu with q | q
        · exact hsc u q
        · rw [List.mem_singleton.mp q]; exact ⟨k1, k4, k5⟩
      obtain ⟨t1, t2⟩ := hdTurn_ok (needs := needs) (nums := nums) (taken := t) (done := (sc ++ [t]).flatten) (List.range 6) h2 (fun x hx => List.mem_range.mp hx) k2
      simp only [List.length_range] at t2
      simp only [List.length_cons] at hz k3
      obtain ⟨w1, w2, w3⟩ := ih _ (sc ++ [t]) sc' e (by simp; omega) hsc2 t1 (by omega)
      refine ⟨.next te (take2 ?_ rfl) w1, w2, w3⟩
      have hfl := flat_len2 sc fun u hu => (hsc u hu).2.2
      have htl := schedTab_len lines sc 0 fun u hu => (hsc u hu).2.2
      have L1 := th_hands (c := c) (nc := nc) hc B H hho LO (rows := rows) (nums := nums) (needs := needs) (h := h2) (done := sc.flatten) (hour := sc.length) (by omega) k1 k5 (tb := schedTab lines sc) (by unfold schedTab; omega) t.length 0 (by omega)
      rw [← List.range_eq_range', List.take_zero, show hourRows lines sc.length [] 0 = [] from rfl, List.append_nil] at L1
      have es : schedTab lines sc ++ hourRows lines sc.length t 0 = schedTab lines (sc ++ [t]) := by
        unfold schedTab; rw [schedTab_snoc, Nat.zero_add]
      rw [es] at L1
      refine Ex_cons (ρ₁ := thτ lines rows nums needs C h2 (schedTab lines (sc ++ [t])) sc.flatten sc.length t) (ExS_for (d := .rng 0 t.length) (xs := (List.range t.length).map dN) ((Ev_callB hc B.range rfl nofun (EvLR_cons (.of (Ev_callB hc B.len rfl nofun (EvLR_cons (EvR_own rfl rfl) EvLR_nil) (CallR.lenL (by rw [List.length_map]; omega)))) EvLR_nil) CallR.range1).conv (by rw [List.length_map])) (by show some _ = some _; rw [← rng0]; simp) (by unfold D.small; simp; omega) L1 (.inl rfl)) ?_
      refine Ex_cons (ρ₁ := thτ lines rows nums needs C h2 (schedTab lines (sc ++ [t])) (sc ++ [t]).flatten sc.length t) ((ExS_exprX (EvX_extend rfl rfl rfl rfl (by decide) (by rw [List.length_map, List.length_map]; omega))).less ⟨rfl, rfl, rfl, rfl, rfl, rfl, by rw [flat_snoc, List.map_append]; rfl, rfl, rfl, trivial⟩) ?_
      refine Ex_cons (ρ₁ := thτ lines rows nums needs C h2 (schedTab lines (sc ++ [t])) (sc ++ [t]).flatten (sc.length + 1) t) ((ExS_assign (d := dN (sc.length + 1)) ((Ev_BinOp (EvR_name rfl rfl) EvR_int Bin.add).conv rfl) rfl (by decide)).less ⟨rfl, rfl, rfl, rfl, rfl, rfl, rfl, rfl, rfl, trivial⟩) ?_
      have L2 := th_turns (c := c) (C := C) hc K B (lines := lines) (rows := rows) hn hr (tb := schedTab lines (sc ++ [t])) (done := (sc ++ [t]).flatten) (hour := sc.length + 1) (t := t) (List.range 6) h2 (fun x hx => List.mem_range.mp hx) k2 (by simp; omega)
      have el : (sc ++ [t]).length = sc.length + 1 := by simp
      rw [el]
      exact (Ex_cons (ExS_for (d := .rng 0 6) (xs := (List.range 6).map dN) (Ev_callB hc B.range rfl nofun (EvLR_cons EvR_int EvLR_nil) CallR.range1) (by rw [← rng0]; rfl) rfl L2 (.inl rfl)) Ex_nil).less ⟨rfl, rfl, rfl, rfl, rfl, rfl, rfl, rfl, trivial⟩
theorem th_fn {fv : Value} {C : Addr} {nc vc : Array Nat} (hc : c.Ok) (K : HpK c) (B : Blt c) (H : HdK c C nc vc) (hho : ∀ j, j < 2 → ∀ i, i < 6 → missB nc (hourN j i) = true) (hf : IsFn c fv ["lines", "rows", "numbers"] thB thS) {lines : List Str} (LO : LinesOk vc lines) {rows : List (List Nat)} (hr : RowsOk rows) {nums : List Nat} (hn : nums.length = 6) {sc : List (List Nat)} (hl : hdLoop (needsM rows) nums 6 ((List.range 6).foldl (hd0 (needsM rows) nums) []) [] = some sc) : FnP c 4 fv [lst lines, rowsL rows, nats nums] (instD C (schedTab lines sc)) := by
  obtain ⟨fh, fdh, hNh, Dh, hbh⟩ := H.init
  obtain ⟨o1, o2⟩ := hd0_ok (needs := needsM rows) (nums := nums) (List.range 6) [] (fun x hx => List.mem_range.mp hx) (fun _ q => nomatch q)
  simp only [List.length_range, List.length_nil] at o2
  obtain ⟨W, w2, w3⟩ := th_while hc K B H hho LO hn (needs_ok rows) (rows := rows) 6 _ [] sc hl (by decide) (fun _ q => nomatch q) o1 (by omega)
  refine FnP_intro (n := 3) (fl := .ret (instD C (schedTab lines sc))) (ρ' := []) hc hf (by decide) rfl ⟨nofun, nofun⟩ ?_
  refine Ex_cons ((ExS_comp (ρc := [("rows", .val (rowsL rows))]) (ys := (needsM rows).map nats) ⟨by decide, FreeOk.get ⟨rfl, rfl, trivial⟩, fun _ _ => rfl, .str "abcdef", (List.range 6).map fun k => .str (letter k), EvR_str, rfl, rfl, by decide, ?_⟩ rfl (by decide)).less (ρ' := thρ lines rows nums (needsM rows)) ⟨rfl, rfl, rfl, rfl, trivial⟩) ?_
  · unfold needsM
    rw [List.map_map]
    refine compR_map _ _ (List.range 6) (fun _ => .nil) fun j hj => ?_
    have hj6 := List.mem_range.mp hj
    refine (EvNew_comp (ρc := [("rows", .val (rowsL rows)), ("letter", .val (.str (letter j)))]) ⟨by decide, FreeOk.get ⟨rfl, rfl, rfl, rfl, trivial⟩, fun _ _ => rfl, .rng 0 6, (List.range 6).map dN, .of (Ev_callB hc B.range rfl nofun (EvLR_cons EvR_int EvLR_nil) CallR.range1), by rw [← rng0]; rfl, rfl, by decide, ?_⟩).ev
    refine compR_of dN _ dN (List.range 6) (fun k hk => .one ?_) (fun k _ _ => Ev_name rfl rfl)
    have hk6 := List.mem_range.mp hk
    refine (Te_Compare (a := .str (letter j)) (b := lst ((rows.getD k []).map letter)) (EvR_name rfl rfl) (.of (Ev_Sub (EvR_name rfl rfl) (EvR_name rfl rfl) (Itm.lst (Int.natCast_nonneg _) (by rw [Int.toNat_natCast]; exact hr.at_ hk6) (by omega)))) (Cmp.inL (okEq_letter hj6) (okEq_letters (hr.lt _ (hr.mem hk6))))).conv ?_
    rw [inS, letters_contains]
  refine Ex_cons ((ExS_assignNew (EvNew_List EvL_nil (by decide)) rfl (by decide)).less (ρ' := Vars.put (thρ lines rows nums (needsM rows)) "heap" (.lst [])) ⟨rfl, rfl, rfl, rfl, rfl, trivial⟩) ?_
  have L := th_first hc K B (lines := lines) (rows := rows) hn (needs_ok rows) (List.range 6) [] (fun x hx => List.mem_range.mp hx) (fun _ q => nomatch q) (by simp)
  refine Ex_cons (ExS_for (d := .rng 0 6) (xs := (List.range 6).map dN) (Ev_callB hc B.range rfl nofun (EvLR_cons EvR_int EvLR_nil) CallR.range1) (by rw [← rng0]; rfl) rfl L (.inl rfl)) ?_
  refine Ex_cons (ExS_assignHdr (n := 2) (pn := []) hc H.glb hNh (hinit_fn hc H Dh hbh) rfl rfl (by decide)) ?_
  refine Ex_cons (ExS_assignNew (EvNew_List EvL_nil (by decide)) rfl (by decide)) ?_
  refine Ex_cons ((ExS_assign (d := .int 0) Ev_int rfl (by decide)).less (ρ' := thσ lines rows nums (needsM rows) C ((List.range 6).foldl (hd0 (needsM rows) nums) []) (schedTab lines []) ([] : List (List Nat)).flatten 0) ⟨rfl, rfl, rfl, rfl, rfl, rfl, rfl, rfl, trivial⟩) ?_
  exact Ex_cons (ExS_while W) (Ex_stop (ExS_returnHdr rfl rfl))
end Mine
end

section
open PySem PySem.Calls PyProof.Rows PySem.W
set_option maxRecDepth 100000
set_option linter.unusedVariables false
namespace Mine
variable {c : Cx} {n : Nat}
/-! what the table of the hours holds -/
noncomputable def hourU (i : Nat) : Str := ⟨#[(if i % 2 = 0 then 85 else 117) + i]⟩
theorem hourU_lower : ∀ i, i < 6 → Txt.lower (hourU i) = hourN 0 i ∧ (hourU i).length ≤ 300 ∧ (hourN 0 i).cps.size ≤ 1000 := by decide +kernel
theorem hourN_lower (j : Nat) : ∀ i, i < 6 → Txt.lower (hourN j i) = hourN 0 i := by
  have h0 : ∀ i, i < 6 → Txt.lower (hourN 0 i) = hourN 0 i := by decide +kernel
  have h1 : ∀ i, i < 6 → Txt.lower (hourN 1 i) = hourN 0 i := by decide +kernel
  intro i hi
  by_cases h : j = 0
  · subst h; exact h0 i hi
  · have e : hourN j i = hourN 1 i := by unfold hourN; rw [if_neg h]; rfl
    rw [e]; exact h1 i hi
theorem hourN_inj {a b : Nat} (h : hourN 0 a = hourN 0 b) : a = b := by
  have h1 : (#[117 + a] : Array Nat) = #[117 + b] := congrArg Str.cps h
  have h2 := congrArg Array.toList h1
  simp at h2
  omega
theorem getAll_hour (lines : List Str) {i i' : Nat} (hi : i < 6) (hi' : i' < 6) : ∀ (t : List Nat) (j : Nat), getAllM (hourRows lines i t j) (hourU i') = if i = i' then t.map fun k => lines.getD k Str.empty else []
  | [], j => by split <;> rfl
  | k :: r, j => by
    have ih := getAll_hour lines hi hi' r (j + 1)
    unfold getAllM at ih ⊢
    show List.map _ (List.filter _ ((hourN j i, lines.getD k Str.empty) :: hourRows lines i r (j + 1))) = _
    rw [List.filter_cons]
    have e : (Txt.lower (hourN j i) == Txt.lower (hourU i')) = decide (i = i') := by
      rw [hourN_lower j i hi, (hourU_lower i' hi').1]
      by_cases q : i = i'
      · subst q; simp
      · rw [decide_eq_false q]; exact beq_eq_false_iff_ne.mpr fun w => q (hourN_inj w)
    dsimp only
    rw [e]
    by_cases q : i = i'
    · rw [decide_eq_true q, if_pos rfl, if_pos q, List.map_cons, ih, if_pos q]; rfl
    · rw [decide_eq_false q, if_neg (by decide), if_neg q, ih, if_neg q]
theorem getAllM_append (a b : Rows) (nm : Str) : getAllM (a ++ b) nm = getAllM a nm ++ getAllM b nm := by unfold getAllM; rw [List.filter_append, List.map_append]
theorem getAll_sched (lines : List Str) {i : Nat} (hi : i < 6) : ∀ (sc : List (List Nat)) (s : Nat), s + sc.length ≤ 6 → getAllM (schedTabFrom lines sc s) (hourU i) = if s ≤ i then (sc.getD (i - s) []).map (fun k => lines.getD k Str.empty) else []
  | [], s, _ => by split <;> rfl
  | t :: r, s, h => by
    simp only [List.length_cons] at h
    have ih := getAll_sched lines hi r (s + 1) (by omega)
    show getAllM (hourRows lines s t 0 ++ schedTabFrom lines r (s + 1)) _ = _
    rw [getAllM_append, ih, getAll_hour lines (by omega) hi]
    by_cases q : s = i
    · subst q
      rw [if_pos rfl, if_neg (by omega), if_pos (Nat.le_refl _), Nat.sub_self]; simp
    · rw [if_neg q]
      by_cases w : s + 1 ≤ i
      · rw [if_pos w, if_pos (by omega)]
        have e : i - s = (i - (s + 1)) + 1 := by omega
        rw [e]; rfl
      · rw [if_neg w, if_neg (by omega)]; rfl
noncomputable def hoursL (lines : List Str) (sc : List (List Nat)) : List (List Str) := sc.map fun t => t.map fun k => lines.getD k Str.empty
theorem map_range_getD {α : Type} (d : α) : ∀ (l : List α), (List.range l.length).map (fun i => l.getD i d) = l
  | [] => rfl
  | a :: r => by
    rw [List.length_cons, List.range_succ_eq_map, List.map_cons, List.map_map]
    show a :: (List.range r.length).map (fun i => r.getD i d) = _
    rw [map_range_getD d r]
/-- the hours that are not empty, in their order -/
theorem hours_filter (lines : List Str) {sc : List (List Nat)} (h6 : sc.length ≤ 6) (hne : ∀ t ∈ sc, 1 ≤ t.length) : ((List.range 6).map fun i => getAllM (schedTab lines sc) (hourU i)).filter (fun r => !r.isEmpty) = hoursL lines sc := by
  have e : (List.range 6).map (fun i => getAllM (schedTab lines sc) (hourU i)) = (List.range 6).map fun i => (sc.getD i []).map fun k => lines.getD k Str.empty := by
    refine List.map_congr_left fun i hi => ?_
    have := getAll_sched lines (List.mem_range.mp hi) sc 0 (by omega)
    rw [if_pos (Nat.zero_le _), Nat.sub_zero] at this; exact this
  rw [e]
  have e2 : List.range 6 = List.range sc.length ++ (List.range (6 - sc.length)).map (sc.length + ·) := by
    rw [← List.range_add]; congr 1; omega
  rw [e2, List.map_append, List.filter_append]
  have h1 : ((List.range sc.length).map fun i => (sc.getD i []).map fun k => lines.getD k Str.empty) = hoursL lines sc := by
    unfold hoursL
    have := map_range_getD ([] : List Nat) sc
    conv => rhs; rw [← this]
    rw [List.map_map]; rfl
  rw [h1]
  have h2 : (hoursL lines sc).filter (fun r => !r.isEmpty) = hoursL lines sc := List.filter_eq_self.mpr fun r hr => by
    obtain ⟨t, ht, rfl⟩ := List.mem_map.mp hr
    have := hne t ht
    cases t with
    | nil => simp at this
    | cons a t => rfl
  have h3 : (((List.range (6 - sc.length)).map (sc.length + ·)).map fun i => (sc.getD i []).map fun k => lines.getD k Str.empty).filter (fun r => !r.isEmpty) = [] := by
    rw [List.filter_eq_nil_iff]
    intro r hr
    obtain ⟨i, hi, rfl⟩ := List.mem_map.mp hr
    obtain ⟨j, _, rfl⟩ := List.mem_map.mp hi
    have : sc.getD (sc.length + j) [] = [] := by rw [List.getD_eq_getElem?_getD, List.getElem?_eq_none (by omega)]; rfl
    rw [this]; simp
  rw [h2, h3, List.append_nil]
noncomputable def whenM (sc : List (List Nat)) (k : Nat) : List Nat := (List.range sc.length).filter fun i => (sc.getD i []).contains k
theorem line_contains {lines : List Str} (hinj : ∀ i, i < 6 → ∀ j, j < 6 → lines.getD i Str.empty = lines.getD j Str.empty → i = j) {k : Nat} (hk : k < 6) : ∀ t : List Nat, (∀ x ∈ t, x < 6) → (t.map fun k => lines.getD k Str.empty).contains (lines.getD k Str.empty) = t.contains k
  | [], _ => rfl
  | a :: r, h => by
    rw [List.map_cons, List.contains_cons, List.contains_cons, line_contains hinj hk r fun x hx => h x (.tail _ hx)]
    congr 1
    by_cases q : k = a
    · subst q; simp
    · rw [beq_eq_false_iff_ne.mpr q]; exact beq_eq_false_iff_ne.mpr fun w => q (hinj k hk a (h a (.head _)) w)
end Mine
end

section
open PySem PySem.Calls PyProof.Rows PySem.W
set_option maxRecDepth 100000
set_option linter.unusedVariables false
namespace Mine
variable {c : Cx} {n : Nat}
noncomputable abbrev keB := defBody pw "_law_kept"
noncomputable abbrev keS := defScope pw "_law_kept"
theorem okEq_str {x : Str} (h : PyData.strOk x = true) : okEq (.str x) = true := by
  show (true && PyData.strOk x && decide ((PyData.str x).depth ≤ 64)) = true
  rw [h]; rfl
theorem eqv_nilS (l : List Str) : PyData.eqv (D.lst (l.map .str)).py (D.lst []).py = l.isEmpty := by
  cases l <;> rfl
theorem eqv_nilL (l : List (List Nat)) : PyData.eqv (D.lst (l.map nats)).py (D.lst []).py = l.isEmpty := by
  cases l <;> rfl
/-- what the plain law must say of the schedule -/
structure KeptOk (sc : List (List Nat)) (left : List (List Bool)) (w : Nat → Nat) : Prop where
  l6 : sc.length ≤ 6
  row : ∀ t ∈ sc, (∀ x ∈ t, x < 6) ∧ 1 ≤ t.length ∧ t.length ≤ 2
  tot : sc.flatten.length = 6
  wh : ∀ k, k < 6 → whenM sc k = [w k]
  ord : ∀ i, i < 6 → ∀ j, j < 6 → atM left i j = true → w i < w j
  alone : ∀ i, i < 6 → ∀ j, j < 6 → (sc.getD (w i) []).length = 1 → w i < w j → atM left i j = true
  pairs : sc.length + mpM (atM left) 7 [0, 1, 2, 3, 4, 5] = 6
theorem KeptOk.wlt {sc : List (List Nat)} {left : List (List Bool)} {w : Nat → Nat} (h : KeptOk sc left w) {k : Nat} (hk : k < 6) : w k < sc.length := by
  have : w k ∈ whenM sc k := by rw [h.wh k hk]; exact .head _
  exact List.mem_range.mp (List.mem_filter.mp this).1
theorem schedTab_len' (lines : List Str) : ∀ (sc : List (List Nat)) (i : Nat), (schedTabFrom lines sc i).length = sc.flatten.length
  | [], _ => rfl
  | t :: r, i => by
    show (hourRows lines i t 0 ++ schedTabFrom lines r (i + 1)).length = _
    rw [List.length_append, hourRows_len, schedTab_len' lines r, List.flatten_cons, List.length_append]
theorem hourRows_keys (lines : List Str) (i : Nat) : ∀ (t : List Nat) (j : Nat), ∀ kv ∈ hourRows lines i t j, kv.1.length ≤ 1000
  | [], _, kv, h => nomatch h
  | k :: r, j, kv, h => by
    rcases List.mem_cons.mp h with rfl | h
    · show 1 ≤ 1000; decide
    · exact hourRows_keys lines i r (j + 1) kv h
theorem schedTab_keys (lines : List Str) : ∀ (sc : List (List Nat)) (i : Nat), ∀ kv ∈ schedTabFrom lines sc i, kv.1.length ≤ 1000
  | [], _, kv, h => nomatch h
  | t :: r, i, kv, h => by
    rcases List.mem_append.mp (show kv ∈ hourRows lines i t 0 ++ schedTabFrom lines r (i + 1) from h) with h | h
    · exact hourRows_keys lines i t 0 kv h
    · exact schedTab_keys lines r (i + 1) kv h
noncomputable abbrev keρ (lines : List Str) (tb : D) (left : List (List Bool)) : Vars := [("lines", .val (lst lines)), ("table", .val tb), ("left", .val (matD left))]
noncomputable abbrev keσ (lines : List Str) (tb : D) (left : List (List Bool)) (sc : List (List Nat)) (w : Nat → Nat) : Vars := [("lines", .val (lst lines)), ("table", .val tb), ("left", .val (matD left)), ("hours", .val (.lst ((hoursL lines sc).map lst))), ("when", .val (.lst (((List.range 6).map fun k => [w k]).map nats)))]
noncomputable def LsOk (lines : List Str) : Prop := ∀ x ∈ lines, PyData.strOk x = true
theorem hours_strs {lines : List Str} (hl : lines.length = 6) (ho : LsOk lines) {sc : List (List Nat)} (hr : ∀ t ∈ sc, ∀ x ∈ t, x < 6) : ∀ r ∈ hoursL lines sc, ∀ x ∈ r, PyData.strOk x = true := fun r hrr x hx => by
  obtain ⟨t, ht, rfl⟩ := List.mem_map.mp hrr
  obtain ⟨k, hk, rfl⟩ := List.mem_map.mp hx
  have hk6 : k < lines.length := by rw [hl]; exact hr t ht k hk
  have e : lines.getD k Str.empty = lines[k] := by rw [List.getD_eq_getElem?_getD, List.getElem?_eq_getElem hk6]; rfl
  rw [e]; exact ho _ (List.getElem_mem hk6)
/-- hours -/
theorem ke_hours {C : Addr} {nc vc : Array Nat} (hc : c.Ok) (B : Blt c) (H : HdK c C nc vc) (hho : ∀ i, i < 6 → missB nc (hourN 0 i) = true) {lines : List Str} (hl : lines.length = 6) (ho : LsOk lines) {left : List (List Bool)} {sc : List (List Nat)} {w : Nat → Nat} (hk : KeptOk sc left w) (h8 : 3 ≤ n) :
    ExS c n keS [] (keρ lines (instD C (schedTab lines sc)) left) (sAt keB 0) .next (Vars.put (keρ lines (instD C (schedTab lines sc)) left) "hours" (.val (.lst ((hoursL lines sc).map lst)))) := by
  obtain ⟨fg, fdg, hMg, Dg, hbg⟩ := H.getall
  have htl : (schedTab lines sc).length = 6 := by unfold schedTab; rw [schedTab_len', hk.tot]
  refine ExS_comp (ρc := []) (ys := (hoursL lines sc).map lst) ⟨by decide, FreeOk.get (ρc := []) trivial, fun _ _ => rfl, .lst (((List.range 6).map fun i => getAllM (schedTab lines sc) (hourU i)).map lst), ((List.range 6).map fun i => getAllM (schedTab lines sc) (hourU i)).map lst, .of (EvNew_comp (ρc := [("table", .val (instD C (schedTab lines sc)))]) ⟨by decide, FreeOk.get ⟨rfl, rfl, trivial⟩, fun _ _ => rfl, .str "UvWxYz", (List.range 6).map (fun i => .str (hourU i)), EvR_str, rfl, rfl, by decide, ?_⟩).ev, rfl, rfl, by simp, ?_⟩ rfl (by decide)
  · rw [List.map_map]
    refine compR_map _ _ (List.range 6) (fun _ => .nil) fun i hi => ?_
    have hi6 := List.mem_range.mp hi
    obtain ⟨u1, u2, u3⟩ := hourU_lower i hi6
    have hg := (getall_fn hc H Dg hbg (nm := hourU i) (hs := schedTab lines sc) (by rw [u1]; exact hho i hi6) u2 (by rw [u1]; exact u3) (by omega) (schedTab_keys lines sc 0)).p.le (show 2 ≤ n by omega)
    exact Ev_meth hc hMg (Ev_name rfl rfl) rfl (EvL_cons (Ev_name rfl rfl) EvL_nil) hg
  · have hf := hours_filter lines hk.l6 (fun t ht => (hk.row t ht).2.1)
    have hs : ∀ r ∈ (List.range 6).map fun i => getAllM (schedTab lines sc) (hourU i), ∀ x ∈ r, PyData.strOk x = true := fun r hr x hx => by
      obtain ⟨i, hi, rfl⟩ := List.mem_map.mp hr
      have hi6 := List.mem_range.mp hi
      have e := getAll_sched lines hi6 sc 0 (by have := hk.l6; omega)
      rw [if_pos (Nat.zero_le _), Nat.sub_zero] at e
      rw [show getAllM (schedTab lines sc) (hourU i) = _ from e] at hx
      by_cases hil : i < sc.length
      · have e2 : sc.getD i [] = sc[i] := by rw [List.getD_eq_getElem?_getD, List.getElem?_eq_getElem hil]; rfl
        rw [e2] at hx
        exact hours_strs hl ho (fun t ht => (hk.row t ht).1) _ (List.mem_map.mpr ⟨_, List.getElem_mem hil, rfl⟩) x hx
      · have e2 : sc.getD i [] = [] := by rw [List.getD_eq_getElem?_getD, List.getElem?_eq_none (by omega)]; rfl
        rw [e2] at hx; simp at hx
    rw [← hf]
    exact compR_of lst _ lst _ (fun r hr => .one ((Te_Compare (a := lst r) (b := .lst []) (EvR_name rfl rfl) (.of (Ev_List EvL_nil (by decide))) (Cmp.neD (okEq_strs r (hs r hr)) rfl)).conv (by show (!PyData.eqv (D.lst (r.map .str)).py (D.lst []).py) = _; rw [eqv_nilS]))) (fun r _ _ => Ev_name rfl rfl)
/-- when -/
theorem ke_when {tb : D} (hc : c.Ok) (B : Blt c) {lines : List Str} (hl : lines.length = 6) (ho : LsOk lines) (hinj : ∀ i, i < 6 → ∀ j, j < 6 → lines.getD i Str.empty = lines.getD j Str.empty → i = j) {left : List (List Bool)} {sc : List (List Nat)} {w : Nat → Nat} (hk : KeptOk sc left w) :
    ExS c n keS [] (Vars.put (keρ lines tb left) "hours" (.val (.lst ((hoursL lines sc).map lst)))) (sAt keB 1) .next (keσ lines tb left sc w) := by
  have e1 : lines = (List.range 6).map fun k => lines.getD k Str.empty := by
    have := map_range_getD Str.empty lines
    rw [hl] at this; exact this.symm
  have hlen : (hoursL lines sc).length = sc.length := by unfold hoursL; rw [List.length_map]
  have h6 := hk.l6
  refine (ExS_comp (ρc := [("hours", .val (.lst ((hoursL lines sc).map lst)))]) (ys := ((List.range 6).map fun k => [w k]).map nats) ⟨by decide, FreeOk.get ⟨rfl, rfl, trivial⟩, fun _ _ => rfl, lst lines, ((List.range 6).map fun k => lines.getD k Str.empty).map .str, EvR_name rfl rfl, by rw [← e1]; rfl, rfl, by simp, ?_⟩ rfl (by decide)).less ⟨rfl, rfl, rfl, rfl, rfl, trivial⟩
  rw [List.map_map, List.map_map]
  refine compR_map _ _ (List.range 6) (fun _ => .nil) fun k hkr => ?_
  have hk6 := List.mem_range.mp hkr
  have hkl : k < lines.length := by omega
  have ek : lines.getD k Str.empty = lines[k] := by rw [List.getD_eq_getElem?_getD, List.getElem?_eq_getElem hkl]; rfl
  have hsk : PyData.strOk (lines.getD k Str.empty) = true := by rw [ek]; exact ho _ (List.getElem_mem hkl)
  show Ev _ _ _ _ _ (nats [w k])
  rw [← hk.wh k hk6]
  refine (EvNew_comp (ρc := [("hours", .val (.lst ((hoursL lines sc).map lst))), ("line", .val (.str (lines.getD k Str.empty)))]) ⟨by decide, FreeOk.get ⟨rfl, rfl, rfl, rfl, trivial⟩, fun _ _ => rfl, .rng 0 sc.length, (List.range sc.length).map dN, .of ((Ev_callB hc B.range rfl nofun (EvLR_cons (.of (Ev_callB hc B.len rfl nofun (EvLR_cons (EvR_name rfl rfl) EvLR_nil) (CallR.lenL (by rw [List.length_map, hlen]; omega)))) EvLR_nil) CallR.range1).conv (by rw [List.length_map, hlen])), by show some _ = some _; rw [← rng0]; simp, by unfold D.small; simp; omega, by simp; omega, ?_⟩).ev
  unfold whenM
  refine compR_of dN _ dN (List.range sc.length) (fun i hi => .one ?_) (fun i _ _ => Ev_name rfl rfl)
  have hi := List.mem_range.mp hi
  have es : sc.getD i [] = sc[i] := by rw [List.getD_eq_getElem?_getD, List.getElem?_eq_getElem hi]; rfl
  have hrow := (hk.row _ (List.getElem_mem hi)).1
  rw [← es] at hrow
  have hat : ((hoursL lines sc).map lst)[i]? = some (lst ((sc.getD i []).map fun k => lines.getD k Str.empty)) := by
    unfold hoursL
    rw [List.getElem?_map, List.getElem?_map, List.getElem?_eq_getElem hi, es]; rfl
  refine (Te_Compare (a := .str (lines.getD k Str.empty)) (b := lst ((sc.getD i []).map fun k => lines.getD k Str.empty)) (EvR_name rfl rfl) (.of (Ev_Sub (EvR_name rfl rfl) (EvR_name rfl rfl) (Itm.lst (Int.natCast_nonneg _) (by rw [Int.toNat_natCast]; exact hat) (by omega)))) (Cmp.inL (okEq_str hsk) (okEq_strs _ fun x hx => ?_))).conv ?_
  · obtain ⟨j, hj, rfl⟩ := List.mem_map.mp hx
    have hjl : j < lines.length := by rw [hl]; exact hrow j hj
    have e : lines.getD j Str.empty = lines[j] := by rw [List.getD_eq_getElem?_getD, List.getElem?_eq_getElem hjl]; rfl
    rw [e]; exact ho _ (List.getElem_mem hjl)
  · rw [inS, line_contains hinj hk6 _ hrow]
end Mine
end

section
open PySem PySem.Calls PyProof.Rows PySem.W
set_option maxRecDepth 100000
set_option linter.unusedVariables false
namespace Mine
variable {c : Cx} {n : Nat}
section
variable {tb : D} {lines : List Str} {left : List (List Bool)} {sc : List (List Nat)} {w : Nat → Nat}
/-- when[k][0] -/
theorem Ev_when {ρ : Vars} {x : Str} {k : Nat} {p1 p2 p3 p4 p5 : Pos} {k0 : Nat} (hw : ρ.lookup ("when" : Str) = some (.val (.lst (((List.range 6).map fun k => [w k]).map nats)))) (hx : ρ.lookup x = some (.val (dN k))) (hl : isLoc keS x = true) (hk : k < 6) : Ev c n keS ρ (.Subscript (.Subscript (.Name "when" p1) (.Name x p2) p3) (.Constant (.int 0) k0 p4) p5) (dN (w k)) := by
  have hat : (((List.range 6).map fun k => [w k]).map nats)[k]? = some (nats [w k]) := by
    rw [List.getElem?_map, List.getElem?_map, List.getElem?_range hk]; rfl
  exact Ev_Sub (.of (Ev_Sub (EvR_name hw rfl) (EvR_name hx hl) (Itm.lst (Int.natCast_nonneg _) (by rw [Int.toNat_natCast]; exact hat) (by omega)))) EvR_int (Itm.lst (i := 0) (by decide) rfl (by decide))
noncomputable abbrev keF := fBody keB 3
noncomputable abbrev keI := fBody keF 1
theorem Cmp.geN' {a b : Nat} : Cmp c .GtE (dN a) (dN b) (decide (b ≤ a)) := Cmp.geN
theorem Cmp.ltN' {a b : Nat} : Cmp c .Lt (dN a) (dN b) (decide (a < b)) := Cmp.ltN
noncomputable abbrev ke1 (lines : List Str) (tb : D) (left : List (List Bool)) (sc : List (List Nat)) (w : Nat → Nat) (one : Nat) (al : Bool) : Vars := Vars.put (Vars.put (keσ lines tb left sc w) "one" (.val (dN one))) "alone" (.val (.bool al))
theorem ke_inner (hk : KeptOk sc left w) (hm : MatOk left 6) {one : Nat} (h1 : one < 6) : ∀ (l : List Nat), (∀ x ∈ l, x < 6) →
    LoopR (Turn c n keS [] (fTarget keF 1) keI) (l.map dN) (ke1 lines tb left sc w one ((sc.getD (w one) []).length == 1)) .next (ke1 lines tb left sc w one ((sc.getD (w one) []).length == 1))
  | [], _ => .nil
  | o :: r, hl => by
    have ho := hl o (.head _)
    refine .next ⟨_, AsgT_name rfl (by decide), ?_⟩ (ke_inner hk hm h1 r fun x hx => hl x (.tail _ hx))
    have hat : ∀ {p1 p2 p3 p4 p5}, Ev c n keS (Vars.put (ke1 lines tb left sc w one ((sc.getD (w one) []).length == 1)) "other" (.val (dN o))) (.Subscript (.Subscript (.Name "left" p1) (.Name "one" p2) p3) (.Name "other" p4) p5) (.bool (atM left one o)) := fun {p1 p2 p3 p4 p5} => Ev_at hm h1 ho (EvR_name rfl rfl) (EvR_name rfl rfl) (EvR_name rfl rfl) rfl rfl (by decide)
    have t1 : Te c n keS (Vars.put (ke1 lines tb left sc w one ((sc.getD (w one) []).length == 1)) "other" (.val (dN o))) (iTest keI 0) false := by
      refine (Te_and (Te_plain (.of hat) Tru.bool) fun _ => Te_and (Te_Compare (.of (Ev_when (w := w) rfl rfl rfl h1)) (.of (Ev_when (w := w) rfl rfl rfl ho)) Cmp.geN') fun _ => Te_and_nil).conv ?_
      cases ha : atM left one o with
      | false => rfl
      | true =>
        have := hk.ord one h1 o ho ha
        rw [decide_eq_false (by omega)]; rfl
    have t2 : Te c n keS (Vars.put (ke1 lines tb left sc w one ((sc.getD (w one) []).length == 1)) "other" (.val (dN o))) (iTest keI 1) false := by
      refine (Te_and (Te_plain (EvR_name rfl rfl) Tru.bool) fun _ => Te_and (Te_Compare (.of (Ev_when (w := w) rfl rfl rfl h1)) (.of (Ev_when (w := w) rfl rfl rfl ho)) Cmp.ltN') fun _ => Te_and (Te_not (Te_plain (.of hat) Tru.bool)) fun _ => Te_and_nil).conv ?_
      by_cases q : (sc.getD (w one) []).length = 1
      · by_cases q2 : w one < w o
        · rw [hk.alone one h1 o ho q q2]; simp
        · rw [decide_eq_false q2]; simp
      · have : ((sc.getD (w one) []).length == 1) = false := by simpa using q
        rw [this]; rfl
    exact (Ex_cons (ExS_if t1 (fun e => nomatch e) (fun _ => Ex_nil)) (Ex_cons (ExS_if t2 (fun e => nomatch e) (fun _ => Ex_nil)) Ex_nil)).less ⟨rfl, rfl, rfl, rfl, rfl, rfl, rfl, trivial⟩
theorem ke_outer (hc : c.Ok) (B : Blt c) (hk : KeptOk sc left w) (hm : MatOk left 6) : ∀ (l : List Nat), (∀ x ∈ l, x < 6) →
    LoopR (Turn c n keS [] (fTarget keB 3) keF) (l.map dN) (keσ lines tb left sc w) .next (keσ lines tb left sc w)
  | [], _ => .nil
  | o :: r, hl => by
    have ho := hl o (.head _)
    refine .next ⟨_, AsgT_name rfl (by decide), ?_⟩ (ke_outer hc B hk hm r fun x hx => hl x (.tail _ hx))
    have hwl := hk.wlt ho
    have h6 := hk.l6
    have es : sc.getD (w o) [] = sc[w o] := by rw [List.getD_eq_getElem?_getD, List.getElem?_eq_getElem hwl]; rfl
    have hat : ((hoursL lines sc).map lst)[w o]? = some (lst ((sc.getD (w o) []).map fun k => lines.getD k Str.empty)) := by
      unfold hoursL
      rw [List.getElem?_map, List.getElem?_map, List.getElem?_eq_getElem hwl, es]; rfl
    have hrl : (sc.getD (w o) []).length ≤ 2 := by rw [es]; exact (hk.row _ (List.getElem_mem hwl)).2.2
    refine Ex_cons (ρ₁ := ke1 lines tb left sc w o ((sc.getD (w o) []).length == 1)) (ExS_assign (d := .bool ((sc.getD (w o) []).length == 1)) ((Ev_Compare (a := dN (sc.getD (w o) []).length) (b := .int 1) (.of ((Ev_callB hc B.len rfl nofun (EvLR_cons (.of (Ev_Sub (d := lst ((sc.getD (w o) []).map fun k => lines.getD k Str.empty)) (EvR_name rfl rfl) (.of (Ev_when (w := w) rfl rfl rfl ho)) (Itm.lst (Int.natCast_nonneg _) (by rw [Int.toNat_natCast]; exact hat) (by omega)))) EvLR_nil) (CallR.lenL (by rw [List.length_map, List.length_map]; omega))).conv (by rw [List.length_map, List.length_map]; rfl))) EvR_int Cmp.eqI).conv (by
      congr 1
      by_cases q : (sc.getD (w o) []).length = 1
      · rw [q]; rfl
      · have e1 : ((sc.getD (w o) []).length == 1) = false := by simpa using q
        rw [e1]; exact beq_eq_false_iff_ne.mpr (by omega))) rfl (by decide)) ?_
    exact (Ex_cons (ExS_for (d := .rng 0 6) (xs := (List.range 6).map dN) (Ev_callB hc B.range rfl nofun (EvLR_cons EvR_int EvLR_nil) CallR.range1) (by rw [← rng0]; rfl) rfl (ke_inner hk hm ho (List.range 6) fun x hx => List.mem_range.mp hx) (.inl rfl)) Ex_nil).less ⟨rfl, rfl, rfl, rfl, rfl, trivial⟩
end
theorem ke_fn {fv fmp : Value} {C : Addr} {nc vc : Array Nat} (hc : c.Ok) (B : Blt c) (H : HdK c C nc vc) (hho : ∀ i, i < 6 → missB nc (hourN 0 i) = true) (hf : IsFn c fv ["lines", "table", "left"] keB keS) (hg : Callee c "_law_most_pairs" fmp) (hmp : IsFn c fmp ["rest", "left"] mpB mpS) {lines : List Str} (hl : lines.length = 6) (ho : LsOk lines) (hinj : ∀ i, i < 6 → ∀ j, j < 6 → lines.getD i Str.empty = lines.getD j Str.empty → i = j) {left : List (List Bool)} (hm : MatOk left 6) {sc : List (List Nat)} {w : Nat → Nat} (hk : KeptOk sc left w) :
    FnP c 9 fv [lst lines, instD C (schedTab lines sc), matD left] (.bool true) := by
  have h6 := hk.l6
  have htl : (schedTab lines sc).length = 6 := by unfold schedTab; rw [schedTab_len', hk.tot]
  have hlen : (hoursL lines sc).length = sc.length := by unfold hoursL; rw [List.length_map]
  refine FnP_intro (n := 8) (fl := .ret (.bool true)) (ρ' := keσ lines (instD C (schedTab lines sc)) left sc w) hc hf (by decide) rfl ⟨nofun, nofun⟩ ?_
  refine Ex_cons (ke_hours hc B H hho hl ho hk (by decide)) ?_
  refine Ex_cons (ke_when hc B hl ho hinj hk) ?_
  obtain ⟨fl, fdl, hMl, Dl, hbl⟩ := H.lens
  have hlf : FnP c 7 (.ref fl) [instD C (schedTab lines sc)] (.int 6) := by
    have := (len_fn hc H Dl hbl (hs := schedTab lines sc) (by omega)).le (show 1 ≤ 7 by decide)
    rw [htl] at this; exact this
  have hte : Te c 8 keS (keσ lines (instD C (schedTab lines sc)) left sc w) (iTest keB 2) false := by
    refine (Te_or (b := false) ((Te_Compare (a := .int 6) (b := .int 6) (.of (Ev_lenInst (n := 7) hc B.len rfl hMl (Ev_name rfl rfl) rfl hlf (by decide) (by decide))) EvR_int Cmp.neI).conv (by decide)) fun _ => Te_or (b := false) ((Te_Compare (a := .lst (([] : List (List Nat)).map nats)) (b := .lst []) (.of (EvNew_comp (ρc := []) ⟨by decide, FreeOk.get (ρc := []) trivial, fun _ _ => rfl, .lst (((List.range 6).map fun k => [w k]).map nats), ((List.range 6).map fun k => [w k]).map nats, EvR_name rfl rfl, rfl, rfl, by simp, ?_⟩).ev) (.of (Ev_List EvL_nil (by decide))) (Cmp.neD rfl rfl)).conv rfl) fun _ => Te_or_nil).conv rfl
    have hfi : (((List.range 6).map fun k => [w k]).filter fun l => !(l.length == 1)) = [] := by
      rw [List.filter_eq_nil_iff]
      intro l hl'
      obtain ⟨k, _, rfl⟩ := List.mem_map.mp hl'
      simp
    rw [← hfi]
    refine compR_of nats _ nats _ (fun l hl' => .one ?_) (fun _ _ _ => Ev_name rfl rfl)
    obtain ⟨k, _, rfl⟩ := List.mem_map.mp hl'
    exact (Te_Compare (a := .int 1) (b := .int 1) (.of (Ev_callB hc B.len rfl nofun (EvLR_cons (EvR_name rfl rfl) EvLR_nil) (CallR.lenL (xs := [dN (w k)]) (by simp)))) EvR_int Cmp.neI).conv rfl
  refine Ex_cons (ExS_if hte (fun e => nomatch e) (fun _ => Ex_nil)) ?_
  refine Ex_cons (ExS_for (d := .rng 0 6) (xs := (List.range 6).map dN) (Ev_callB hc B.range rfl nofun (EvLR_cons EvR_int EvLR_nil) CallR.range1) (by rw [← rng0]; rfl) rfl (ke_outer hc B hk hm (List.range 6) fun x hx => List.mem_range.mp hx) (.inl rfl)) ?_
  have hmpf := mp_fn B hc hg hmp hm (by decide) 6 [0, 1, 2, 3, 4, 5] (by decide) (by decide) (by decide)
  refine Ex_stop (ExS_return ((Ev_Compare (a := dN sc.length) (b := .int (6 - (mpM (atM left) 7 [0, 1, 2, 3, 4, 5] : Nat))) (.of ((Ev_callB hc B.len rfl nofun (EvLR_cons (EvR_name rfl rfl) EvLR_nil) (CallR.lenL (by rw [List.length_map, hlen]; omega))).conv (by rw [List.length_map, hlen]; rfl))) (.of (Ev_BinOp EvR_int (.of (Ev_callP hc hg hmpf rfl (EvL_cons (Ev_List (ds := [dN 0, dN 1, dN 2, dN 3, dN 4, dN 5]) (EvL_cons Ev_int (EvL_cons Ev_int (EvL_cons Ev_int (EvL_cons Ev_int (EvL_cons Ev_int (EvL_cons Ev_int EvL_nil)))))) (by simp)) (EvL_cons (Ev_name rfl rfl) EvL_nil)))) Bin.sub)) Cmp.eqI).conv (by
    have := hk.pairs
    congr 1
    have e : ((sc.length : Nat) : Int) = 6 - ((mpM (atM left) 7 [0, 1, 2, 3, 4, 5] : Nat) : Int) := by omega
    rw [e]; simp)))
end Mine
end

section
open PySem PySem.Calls PyProof.Rows PySem.W
set_option maxRecDepth 100000
set_option linter.unusedVariables false
namespace Mine
variable {c : Cx} {n : Nat}
noncomputable abbrev lawB := defBody pw "law"
noncomputable abbrev lawS := defScope pw "law"
/-- all that the world must give -/
structure LawK (c : Cx) (Cw Ch : Addr) (nc vc : Array Nat) : Prop where
  hc : c.Ok
  B : Blt c
  M : WsM c Cw
  H : HdK c Ch nc vc
  K : HpK c
  li : ∃ fv, Callee c "_law_lines" fv ∧ IsFn c fv ["script"] liB liS
  rb : ∃ fv, Callee c "_law_right_behind" fv ∧ IsFn c fv ["lines"] rbB rbS
  nu : ∃ fv, Callee c "_law_numbers" fv ∧ IsFn c fv ["rows"] nuB nuS
  th : ∃ fv, Callee c "_law_two_hands" fv ∧ IsFn c fv ["lines", "rows", "numbers"] thB thS
  ke : ∃ fv, Callee c "_law_kept" fv ∧ IsFn c fv ["lines", "table", "left"] keB keS
  co : ∃ fv, Callee c "_law_columns" fv ∧ IsFn c fv ["line"] coB coS
  le : ∃ fv, Callee c "_law_left" fv ∧ IsFn c fv ["lines"] leB leS
  mp : ∃ fv, Callee c "_law_most_pairs" fv ∧ IsFn c fv ["rest", "left"] mpB mpS
/-- what the patterns say of the texts met -/
structure TxtOk (nc vc : Array Nat) (lines : List Str) : Prop where
  po : PatOk nc vc
  line : ∀ x ∈ lines, missB vc x = true ∧ x.cps.size ≤ 400 ∧ 0 < x.cps.size ∧ PyData.strOk x = true
  caps : ∀ u ∈ caps, missB nc (Txt.lower u) = true ∧ u.length ≤ 300 ∧ (Txt.lower u).cps.size ≤ 1000
  hour : ∀ j, j < 2 → ∀ i, i < 6 → missB nc (hourN j i) = true
/-- the plain law -/
structure PlainOk (lines : List Str) (rows : List (List Nat)) (s : List Nat) (sc : List (List Nat)) (w : Nat → Nat) : Prop where
  len : lines.length = 6
  inj : ∀ i, i < 6 → ∀ j, j < 6 → lines.getD i Str.empty = lines.getD j Str.empty → i = j
  rowsE : rowsOutM (tableM lines) = rows.map fun r => r.map letter
  rok : RowsOk rows
  num : nuLoop rows 6 ((List.range 6).foldl (nu0 rows) []) [] = some s
  all : ∀ z, z < 6 → (posOf s z).isSome = true
  hands : hdLoop (needsM rows) ((List.range 6).map (mk s)) 6 ((List.range 6).foldl (hd0 (needsM rows) ((List.range 6).map (mk s))) []) [] = some sc
  kept : KeptOk sc (leftMat lines) w
theorem mat_ok {lines : List Str} (h : lines.length = 6) : MatOk (leftMat lines) 6 := by
  refine ⟨by unfold leftMat; rw [List.length_map, List.length_map, h], fun r hr => ?_⟩
  obtain ⟨x, _, rfl⟩ := List.mem_map.mp hr
  rw [List.length_map, List.length_map, h]
theorem law_ex {Cw Ch : Addr} {nc vc : Array Nat} (L : LawK c Cw Ch nc vc) {ns : List Int} (hn : ns.length ≤ 100) {rows : List (List Nat)} {s : List Nat} {sc : List (List Nat)} {w : Nat → Nat} (T : TxtOk nc vc (linesM ns)) (Pl : PlainOk (linesM ns) rows s sc w) :
    ∃ ρ', Ex c 9 lawS [] [("script", .val (.lst (ns.map .int)))] lawB (.ret (.bool true)) ρ' := by
  obtain ⟨fli, gli, hli⟩ := L.li
  obtain ⟨frb, grb, hrb⟩ := L.rb
  obtain ⟨fnu, gnu, hnu⟩ := L.nu
  obtain ⟨fth, gth, hth⟩ := L.th
  obtain ⟨fke, gke, hke⟩ := L.ke
  obtain ⟨fco, gco, hco⟩ := L.co
  obtain ⟨fle, gle, hle⟩ := L.le
  obtain ⟨fmp, gmp, hmp⟩ := L.mp
  have h1 := (li_fn (ns := ns) L.B.len L.hc hli hn).le (show 1 ≤ 9 by decide)
  have h2 := (rb_fn (lines := linesM ns) L.B L.hc L.M L.H hrb Pl.len (fun x hx => ⟨(T.line x hx).1, (T.line x hx).2.1, (T.line x hx).2.2.1⟩) T.po.low T.caps).le (show 4 ≤ 9 by decide)
  rw [Pl.rowsE] at h2
  have h3 := (nu_fn L.hc L.K L.B L.H T.po hnu Pl.rok Pl.num Pl.all).le (show 4 ≤ 9 by decide)
  have h4 := (th_fn L.hc L.K L.B L.H T.hour hth (lines := linesM ns) ⟨Pl.len, fun x hx => ⟨(T.line x hx).1, (T.line x hx).2.1⟩⟩ Pl.rok (nums := (List.range 6).map (mk s)) (by simp) Pl.hands).le (show 4 ≤ 9 by decide)
  have h5 := (le_fn (lines := linesM ns) L.B L.hc gco hco hle (fun x hx => by have := (T.line x hx).2.1; show x.cps.size ≤ 1000; omega) (by rw [Pl.len]; decide)).le (show 2 ≤ 9 by decide)
  have h6 := ke_fn L.hc L.B L.H (fun i hi => T.hour 0 (by decide) i hi) hke gmp hmp Pl.len (fun x hx => (T.line x hx).2.2.2) Pl.inj (mat_ok Pl.len) Pl.kept
  refine ⟨_, Ex_cons (ExS_assign (d := lst (linesM ns)) (Ev_callP L.hc gli h1 rfl (EvL_cons (Ev_name rfl rfl) EvL_nil)) rfl (by decide)) (Ex_cons (ExS_assign (d := rowsL rows) (Ev_callP L.hc grb h2 rfl (EvL_cons (Ev_name rfl rfl) EvL_nil)) rfl (by decide)) (Ex_cons (ExS_assign (d := nats ((List.range 6).map (mk s))) (Ev_callP L.hc gnu h3 rfl (EvL_cons (Ev_name rfl rfl) EvL_nil)) rfl (by decide)) (Ex_cons (ExS_assign (d := instD Ch (schedTab (linesM ns) sc)) (Ev_callP L.hc gth h4 rfl (EvL_cons (Ev_name rfl rfl) (EvL_cons (Ev_name rfl rfl) (EvL_cons (Ev_name rfl rfl) EvL_nil)))) rfl (by decide)) (Ex_stop (ExS_return (Ev_callP L.hc gke h6 rfl (EvL_cons (Ev_name rfl rfl) (EvL_cons (Ev_name rfl rfl) (EvL_cons (Ev_callP L.hc gle h5 rfl (EvL_cons (Ev_name rfl rfl) EvL_nil)) EvL_nil))))))))) ⟩
end Mine
end

section
open PySem PySem.Calls PyProof.Rows PySem.W
set_option maxRecDepth 100000
set_option linter.unusedVariables false
namespace Mine
section
variable {c : Cx}
theorem defAt_of (X : c.K.In c.hB) {a : Addr} {o : Obj} {fd : FuncData} {b : List Stmt} {sc : Scope} (ho : c.K.lookup a = some o) (hd : o.data = .func fd) (hb : fd.body = .stmts b) (hs : fd.scope = sc) (hc : fd.closure = []) (hg : fd.globals = mainGlobals) (hbl : fd.builtins = builtinsNs) (hcd : codeIn c.K fd.code fd.qualname = true) : DefAt c a fd b sc :=
  ⟨⟨o, X a o ho, hd⟩, hb, hs, hc, hg, hbl, codeRec_of X hcd⟩
theorem isFn_of {a : Addr} {fd : FuncData} {names : List Str} {b : List Stmt} {sc : Scope} (D : DefAt c a fd b sc) (hbi : ∀ vs : List Value, vs.length = names.length → bindArgs fd ⟨vs, []⟩ = pure (names.zip vs)) : IsFn c (.ref a) names b sc :=
  let ⟨o, h1, h2⟩ := D.at_
  ⟨a, o, fd, rfl, h1, h2, D.body, D.scope, D.clo, D.glob, D.blt, D.code, hbi⟩
theorem callee_of {a : Addr} {fd : FuncData} {b : List Stmt} {sc : Scope} {f : Str} (D : DefAt c a fd b sc) (g : Glb c f (.ref a)) : Callee c f (.ref a) :=
  let ⟨o, h1, h2⟩ := D.at_
  ⟨g, a, o, fd, rfl, h1, h2⟩
theorem glb_of (X : c.K.In c.hB) (T : TopRead c.p c.loose c.mg c.mb c.hB) {x : Str} {v : Value} (e : nsIn c.K mainGlobals x = some (some v)) : Glb c x v := .inl (mg_of X T.g e)
theorem glb_builtin (X : c.K.In c.hB) (T : TopRead c.p c.loose c.mg c.mb c.hB) {x : Str} {v : Value} (e : nsIn c.K mainGlobals x = some none) (hv : bootBuiltins x = some v) (hn : x ≠ "__name__") : Glb c x v := .inr ⟨mg_none_of X T.g e, hv, hn⟩
theorem binds1 {fd : FuncData} {x : Str} (h : ∀ a : Value, bindArgs fd ⟨[a], []⟩ = pure [(x, a)]) : ∀ vs : List Value, vs.length = ([x] : List Str).length → bindArgs fd ⟨vs, []⟩ = pure (([x] : List Str).zip vs) := fun vs hl => by
  rcases vs with _ | ⟨a, _ | ⟨b, r⟩⟩
  · cases hl
  · exact h a
  · cases hl
theorem binds2 {fd : FuncData} {x y : Str} (h : ∀ a b : Value, bindArgs fd ⟨[a, b], []⟩ = pure [(x, a), (y, b)]) : ∀ vs : List Value, vs.length = ([x, y] : List Str).length → bindArgs fd ⟨vs, []⟩ = pure (([x, y] : List Str).zip vs) := fun vs hl => by
  rcases vs with _ | ⟨a, _ | ⟨b, _ | ⟨e, r⟩⟩⟩
  · cases hl
  · cases hl
  · exact h a b
  · cases hl
theorem binds3 {fd : FuncData} {x y z : Str} (h : ∀ a b e : Value, bindArgs fd ⟨[a, b, e], []⟩ = pure [(x, a), (y, b), (z, e)]) : ∀ vs : List Value, vs.length = ([x, y, z] : List Str).length → bindArgs fd ⟨vs, []⟩ = pure (([x, y, z] : List Str).zip vs) := fun vs hl => by
  rcases vs with _ | ⟨a, _ | ⟨b, _ | ⟨e, _ | ⟨g, r⟩⟩⟩⟩
  · cases hl
  · cases hl
  · cases hl
  · exact h a b e
  · cases hl
end
noncomputable def cx (w : World) (loose : List Str) (mg mb : Str → Option Value) (h : Heap) : Cx := { prog := PySem.Challenge.rw_pg0319_01.row.prog, w := w, K := KK w.params, p := q1, loose := loose, mg := mg, mb := mb, hB := h }
section
variable {w : World} {loose : List Str} {mg mb : Str → Option Value} {h : Heap}
end
end Mine
end

section
open PySem PySem.Calls PyProof.Rows PySem.W
set_option maxRecDepth 100000
set_option linter.unusedVariables false
namespace Mine
section
variable {w : World} {loose : List Str} {mg mb : Str → Option Value} {h : Heap}

theorem j_heappush (X : (KK w.params).In h) (T : TopRead q1 loose mg mb h) : ∃ fv, Callee (cx w loose mg mb h) "heappush" fv ∧ IsFn (cx w loose mg mb h) fv ["heap", "item"] hpuB hpuS := by
  have D : ∃ fd, DefAt (cx w loose mg mb h) 45 fd hpuB hpuS ∧ ∀ vs : List Value, vs.length = (["heap", "item"] : List Str).length → bindArgs fd ⟨vs, []⟩ = pure ((["heap", "item"] : List Str).zip vs) := ⟨_, defAt_of (c := cx w loose mg mb h) X rfl rfl rfl rfl rfl rfl rfl rfl, binds2 fun _ _ => rfl⟩
  obtain ⟨fd, D, hb⟩ := D
  exact ⟨_, callee_of D (glb_of (c := cx w loose mg mb h) X T rfl), isFn_of D hb⟩

theorem j_heappop (X : (KK w.params).In h) (T : TopRead q1 loose mg mb h) : ∃ fv, Callee (cx w loose mg mb h) "heappop" fv ∧ IsFn (cx w loose mg mb h) fv ["heap"] hpoB hpoS := by
  have D : ∃ fd, DefAt (cx w loose mg mb h) 52 fd hpoB hpoS ∧ ∀ vs : List Value, vs.length = (["heap"] : List Str).length → bindArgs fd ⟨vs, []⟩ = pure ((["heap"] : List Str).zip vs) := ⟨_, defAt_of (c := cx w loose mg mb h) X rfl rfl rfl rfl rfl rfl rfl rfl, binds1 fun _ => rfl⟩
  obtain ⟨fd, D, hb⟩ := D
  exact ⟨_, callee_of D (glb_of (c := cx w loose mg mb h) X T rfl), isFn_of D hb⟩

theorem j_siftdown (X : (KK w.params).In h) (T : TopRead q1 loose mg mb h) : ∃ fv, Callee (cx w loose mg mb h) "_siftdown" fv ∧ IsFn (cx w loose mg mb h) fv ["heap", "startpos", "pos"] sdB sdS := by
  have D : ∃ fd, DefAt (cx w loose mg mb h) 59 fd sdB sdS ∧ ∀ vs : List Value, vs.length = (["heap", "startpos", "pos"] : List Str).length → bindArgs fd ⟨vs, []⟩ = pure ((["heap", "startpos", "pos"] : List Str).zip vs) := ⟨_, defAt_of (c := cx w loose mg mb h) X rfl rfl rfl rfl rfl rfl rfl rfl, binds3 fun _ _ _ => rfl⟩
  obtain ⟨fd, D, hb⟩ := D
  exact ⟨_, callee_of D (glb_of (c := cx w loose mg mb h) X T rfl), isFn_of D hb⟩

theorem j_siftup (X : (KK w.params).In h) (T : TopRead q1 loose mg mb h) : ∃ fv, Callee (cx w loose mg mb h) "_siftup" fv ∧ IsFn (cx w loose mg mb h) fv ["heap", "pos"] suB suS := by
  have D : ∃ fd, DefAt (cx w loose mg mb h) 66 fd suB suS ∧ ∀ vs : List Value, vs.length = (["heap", "pos"] : List Str).length → bindArgs fd ⟨vs, []⟩ = pure ((["heap", "pos"] : List Str).zip vs) := ⟨_, defAt_of (c := cx w loose mg mb h) X rfl rfl rfl rfl rfl rfl rfl rfl, binds2 fun _ _ => rfl⟩
  obtain ⟨fd, D, hb⟩ := D
  exact ⟨_, callee_of D (glb_of (c := cx w loose mg mb h) X T rfl), isFn_of D hb⟩

theorem j_law_lines (X : (KK w.params).In h) (T : TopRead q1 loose mg mb h) : ∃ fv, Callee (cx w loose mg mb h) "_law_lines" fv ∧ IsFn (cx w loose mg mb h) fv ["script"] liB liS := by
  have D : ∃ fd, DefAt (cx w loose mg mb h) 287 fd liB liS ∧ ∀ vs : List Value, vs.length = (["script"] : List Str).length → bindArgs fd ⟨vs, []⟩ = pure ((["script"] : List Str).zip vs) := ⟨_, defAt_of (c := cx w loose mg mb h) X rfl rfl rfl rfl rfl rfl rfl rfl, binds1 fun _ => rfl⟩
  obtain ⟨fd, D, hb⟩ := D
  exact ⟨_, callee_of D (glb_of (c := cx w loose mg mb h) X T rfl), isFn_of D hb⟩

theorem j_law_right_behind (X : (KK w.params).In h) (T : TopRead q1 loose mg mb h) : ∃ fv, Callee (cx w loose mg mb h) "_law_right_behind" fv ∧ IsFn (cx w loose mg mb h) fv ["lines"] rbB rbS := by
  have D : ∃ fd, DefAt (cx w loose mg mb h) 292 fd rbB rbS ∧ ∀ vs : List Value, vs.length = (["lines"] : List Str).length → bindArgs fd ⟨vs, []⟩ = pure ((["lines"] : List Str).zip vs) := ⟨_, defAt_of (c := cx w loose mg mb h) X rfl rfl rfl rfl rfl rfl rfl rfl, binds1 fun _ => rfl⟩
  obtain ⟨fd, D, hb⟩ := D
  exact ⟨_, callee_of D (glb_of (c := cx w loose mg mb h) X T rfl), isFn_of D hb⟩

theorem j_law_numbers (X : (KK w.params).In h) (T : TopRead q1 loose mg mb h) : ∃ fv, Callee (cx w loose mg mb h) "_law_numbers" fv ∧ IsFn (cx w loose mg mb h) fv ["rows"] nuB nuS := by
  have D : ∃ fd, DefAt (cx w loose mg mb h) 297 fd nuB nuS ∧ ∀ vs : List Value, vs.length = (["rows"] : List Str).length → bindArgs fd ⟨vs, []⟩ = pure ((["rows"] : List Str).zip vs) := ⟨_, defAt_of (c := cx w loose mg mb h) X rfl rfl rfl rfl rfl rfl rfl rfl, binds1 fun _ => rfl⟩
  obtain ⟨fd, D, hb⟩ := D
  exact ⟨_, callee_of D (glb_of (c := cx w loose mg mb h) X T rfl), isFn_of D hb⟩

theorem j_law_two_hands (X : (KK w.params).In h) (T : TopRead q1 loose mg mb h) : ∃ fv, Callee (cx w loose mg mb h) "_law_two_hands" fv ∧ IsFn (cx w loose mg mb h) fv ["lines", "rows", "numbers"] thB thS := by
  have D : ∃ fd, DefAt (cx w loose mg mb h) 302 fd thB thS ∧ ∀ vs : List Value, vs.length = (["lines", "rows", "numbers"] : List Str).length → bindArgs fd ⟨vs, []⟩ = pure ((["lines", "rows", "numbers"] : List Str).zip vs) := ⟨_, defAt_of (c := cx w loose mg mb h) X rfl rfl rfl rfl rfl rfl rfl rfl, binds3 fun _ _ _ => rfl⟩
  obtain ⟨fd, D, hb⟩ := D
  exact ⟨_, callee_of D (glb_of (c := cx w loose mg mb h) X T rfl), isFn_of D hb⟩

theorem j_law_columns (X : (KK w.params).In h) (T : TopRead q1 loose mg mb h) : ∃ fv, Callee (cx w loose mg mb h) "_law_columns" fv ∧ IsFn (cx w loose mg mb h) fv ["line"] coB coS := by
  have D : ∃ fd, DefAt (cx w loose mg mb h) 309 fd coB coS ∧ ∀ vs : List Value, vs.length = (["line"] : List Str).length → bindArgs fd ⟨vs, []⟩ = pure ((["line"] : List Str).zip vs) := ⟨_, defAt_of (c := cx w loose mg mb h) X rfl rfl rfl rfl rfl rfl rfl rfl, binds1 fun _ => rfl⟩
  obtain ⟨fd, D, hb⟩ := D
  exact ⟨_, callee_of D (glb_of (c := cx w loose mg mb h) X T rfl), isFn_of D hb⟩

theorem j_law_left (X : (KK w.params).In h) (T : TopRead q1 loose mg mb h) : ∃ fv, Callee (cx w loose mg mb h) "_law_left" fv ∧ IsFn (cx w loose mg mb h) fv ["lines"] leB leS := by
  have D : ∃ fd, DefAt (cx w loose mg mb h) 314 fd leB leS ∧ ∀ vs : List Value, vs.length = (["lines"] : List Str).length → bindArgs fd ⟨vs, []⟩ = pure ((["lines"] : List Str).zip vs) := ⟨_, defAt_of (c := cx w loose mg mb h) X rfl rfl rfl rfl rfl rfl rfl rfl, binds1 fun _ => rfl⟩
  obtain ⟨fd, D, hb⟩ := D
  exact ⟨_, callee_of D (glb_of (c := cx w loose mg mb h) X T rfl), isFn_of D hb⟩

theorem j_law_most_pairs (X : (KK w.params).In h) (T : TopRead q1 loose mg mb h) : ∃ fv, Callee (cx w loose mg mb h) "_law_most_pairs" fv ∧ IsFn (cx w loose mg mb h) fv ["rest", "left"] mpB mpS := by
  have D : ∃ fd, DefAt (cx w loose mg mb h) 321 fd mpB mpS ∧ ∀ vs : List Value, vs.length = (["rest", "left"] : List Str).length → bindArgs fd ⟨vs, []⟩ = pure ((["rest", "left"] : List Str).zip vs) := ⟨_, defAt_of (c := cx w loose mg mb h) X rfl rfl rfl rfl rfl rfl rfl rfl, binds2 fun _ _ => rfl⟩
  obtain ⟨fd, D, hb⟩ := D
  exact ⟨_, callee_of D (glb_of (c := cx w loose mg mb h) X T rfl), isFn_of D hb⟩

theorem j_law_kept (X : (KK w.params).In h) (T : TopRead q1 loose mg mb h) : ∃ fv, Callee (cx w loose mg mb h) "_law_kept" fv ∧ IsFn (cx w loose mg mb h) fv ["lines", "table", "left"] keB keS := by
  have D : ∃ fd, DefAt (cx w loose mg mb h) 326 fd keB keS ∧ ∀ vs : List Value, vs.length = (["lines", "table", "left"] : List Str).length → bindArgs fd ⟨vs, []⟩ = pure ((["lines", "table", "left"] : List Str).zip vs) := ⟨_, defAt_of (c := cx w loose mg mb h) X rfl rfl rfl rfl rfl rfl rfl rfl, binds3 fun _ _ _ => rfl⟩
  obtain ⟨fd, D, hb⟩ := D
  exact ⟨_, callee_of D (glb_of (c := cx w loose mg mb h) X T rfl), isFn_of D hb⟩

end
end Mine
end

section
open PySem PySem.Calls PyProof.Rows PySem.W
set_option maxRecDepth 100000
set_option linter.unusedVariables false
namespace Mine
section
variable {w : World} {loose : List Str} {mg mb : Str → Option Value} {h : Heap}
theorem j_blt (X : (KK w.params).In h) (T : TopRead q1 loose mg mb h) : Blt (cx w loose mg mb h) where
  len := glb_builtin (c := cx w loose mg mb h) X T rfl rfl (by decide)
  max := glb_builtin (c := cx w loose mg mb h) X T rfl rfl (by decide)
  min := glb_builtin (c := cx w loose mg mb h) X T rfl rfl (by decide)
  range := glb_builtin (c := cx w loose mg mb h) X T rfl rfl (by decide)
  tuple := glb_builtin (c := cx w loose mg mb h) X T rfl rfl (by decide)
  int := glb_builtin (c := cx w loose mg mb h) X T rfl rfl (by decide)
  str := glb_builtin (c := cx w loose mg mb h) X T rfl rfl (by decide)
  sorted := glb_builtin (c := cx w loose mg mb h) X T rfl rfl (by decide)
theorem j_hp (X : (KK w.params).In h) (T : TopRead q1 loose mg mb h) : HpK (cx w loose mg mb h) := ⟨j_heappush X T, j_heappop X T, j_siftdown X T, j_siftup X T⟩
theorem j_clsW : ClsK (cx w loose mg mb h) 128 := ⟨rfl, rfl, rfl, rfl, rfl⟩
theorem j_clsH : ClsK (cx w loose mg mb h) 276 := ⟨rfl, rfl, rfl, rfl, rfl⟩
theorem j_wsK (X : (KK w.params).In h) (T : TopRead q1 loose mg mb h) : WsK (cx w loose mg mb h) 128 where
  cls := j_clsW
  raw := rfl
  n := rfl
  nt := rfl
  norm := rfl
  simple := rfl
  glb := glb_of (c := cx w loose mg mb h) X T rfl
  blank := ⟨.type "type", _, rfl, rfl⟩
  tab := ⟨.type "type", _, rfl, rfl⟩
theorem j_meth {C : Addr} {name : Str} {f : Addr} (hC : ClsK (cx w loose mg mb h) C) (e : findIn (KK w.params) (.ref C) name = some (some (.ref f))) (e1 : typeIn (KK w.params) (.ref f) = some (.type "function")) (e2 : keepIn (KK w.params) (.ref f) = true) : MethK (cx w loose mg mb h) C name f := ⟨hC, e, e1, e2⟩
theorem j_wsM (X : (KK w.params).In h) (T : TopRead q1 loose mg mb h) : WsM (cx w loose mg mb h) 128 where
  k := j_wsK X T
  lr := ⟨_, j_meth j_clsW rfl rfl rfl, isFn_of (defAt_of (c := cx w loose mg mb h) X rfl rfl rfl rfl rfl rfl rfl rfl) (binds1 fun _ => rfl)⟩
  il := ⟨_, j_meth j_clsW rfl rfl rfl, isFn_of (defAt_of (c := cx w loose mg mb h) X rfl rfl rfl rfl rfl rfl rfl rfl) (binds2 fun _ _ => rfl)⟩
  ls := ⟨_, j_meth j_clsW rfl rfl rfl, isFn_of (defAt_of (c := cx w loose mg mb h) X rfl rfl rfl rfl rfl rfl rfl rfl) (binds2 fun _ _ => rfl)⟩
  init := ⟨_, _, ⟨rfl, rfl, rfl, rfl⟩, defAt_of (c := cx w loose mg mb h) X rfl rfl rfl rfl rfl rfl rfl rfl, fun v0 vs hl s _ => by
    rcases vs with _ | ⟨a, _ | ⟨b, r⟩⟩
    · cases hl
    · exact .of_eq rfl
    · cases hl⟩
noncomputable def ncode : Array Nat := #[14, 10, 4, 1, 1, 22, 0, 31, 16, 127, 0, 13, 7, 22, 0, 31, 16, 127, 0, 1]
noncomputable def vcode : Array Nat := #[14, 14, 4, 1, 1, 9, 4294966783, 0, 0, 2147483648, 0, 0, 0, 0, 0, 13, 11, 9, 4294966783, 0, 0, 2147483648, 0, 0, 0, 0, 0, 1]
theorem j_nre (X : (KK w.params).In h) : PatAt h 142 ncode := ⟨_, _, _, _, _, _, X 142 _ rfl, rfl, rfl, rfl, rfl, rfl, rfl, X 141 _ rfl, rfl, by decide +kernel⟩
theorem j_vre (X : (KK w.params).In h) : PatAt h 147 vcode := ⟨_, _, _, _, _, _, X 147 _ rfl, rfl, rfl, rfl, rfl, rfl, rfl, X 146 _ rfl, rfl, by decide +kernel⟩
end
end Mine
end

section
open PySem PySem.Calls PyProof.Rows PySem.W
set_option maxRecDepth 100000
set_option linter.unusedVariables false
namespace Mine
section
variable {w : World} {loose : List Str} {mg mb : Str → Option Value} {h : Heap}
theorem j_hdK (X : (KK w.params).In h) (T : TopRead q1 loose mg mb h) : HdK (cx w loose mg mb h) 276 ncode vcode where
  cls := j_clsH
  hd := rfl
  glb := glb_of (c := cx w loose mg mb h) X T rfl
  type := glb_builtin (c := cx w loose mg mb h) X T rfl rfl (by decide)
  list := glb_builtin (c := cx w loose mg mb h) X T rfl rfl (by decide)
  str := glb_builtin (c := cx w loose mg mb h) X T rfl rfl (by decide)
  len := glb_builtin (c := cx w loose mg mb h) X T rfl rfl (by decide)
  nre := ⟨142, glb_of (c := cx w loose mg mb h) X T rfl, j_nre X⟩
  vre := ⟨147, glb_of (c := cx w loose mg mb h) X T rfl, j_vre X⟩
  conv := ⟨_, _, j_meth j_clsH rfl rfl rfl, defAt_of (c := cx w loose mg mb h) X rfl rfl rfl rfl rfl rfl rfl rfl, fun v0 v b s hs => .of_eq rfl⟩
  add := ⟨_, _, j_meth j_clsH rfl rfl rfl, defAt_of (c := cx w loose mg mb h) X rfl rfl rfl rfl rfl rfl rfl rfl, fun v0 v1 v2 s A E Q hs q => by
    refine wpAny_bind (m := alloc emptyDict) (wpAny_alloc ?_)
    exact wpAny_pure q⟩
  getall := ⟨_, _, j_meth j_clsH rfl rfl rfl, defAt_of (c := cx w loose mg mb h) X rfl rfl rfl rfl rfl rfl rfl rfl, fun v0 v s hs => .of_eq rfl⟩
  get := ⟨_, _, j_meth j_clsH rfl rfl rfl, defAt_of (c := cx w loose mg mb h) X rfl rfl rfl rfl rfl rfl rfl rfl, fun v0 v s hs => .of_defaults rfl (hs _ _ (X _ _ rfl)) rfl rfl rfl⟩
  lens := ⟨_, _, j_meth j_clsH rfl rfl rfl, defAt_of (c := cx w loose mg mb h) X rfl rfl rfl rfl rfl rfl rfl rfl, fun v0 s hs => .of_eq rfl⟩
  init := ⟨_, _, ⟨rfl, rfl, rfl, rfl⟩, defAt_of (c := cx w loose mg mb h) X rfl rfl rfl rfl rfl rfl rfl rfl, fun v0 s hs => .of_defaults rfl (hs _ _ (X _ _ rfl)) rfl rfl rfl⟩
end
end Mine
end

section
open PySem PySem.Calls PyProof.Rows PySem.W
set_option maxRecDepth 100000
set_option linter.unusedVariables false
namespace Mine

theorem t_low : ∀ k, k < 6 → missB ncode (letter k) = true := by decide +kernel
theorem t_cap : ∀ k, k < 6 → missB ncode (capL k) = true := by decide +kernel
theorem t_num : ∀ i, i < 10 → missB vcode (tStr i) = true := by decide +kernel
theorem t_caps : ∀ u ∈ caps, missB ncode (Txt.lower u) = true ∧ u.length ≤ 300 ∧ (Txt.lower u).cps.size ≤ 1000 := by decide +kernel
theorem t_hour : ∀ j, j < 2 → ∀ i, i < 6 → missB ncode (hourN j i) = true := by decide +kernel
theorem t_line : ∀ q : Nat, q < 27 → ∀ k, k < 6 → missB vcode (lineOf (q : Int) k) = true := by decide +kernel
theorem t_line2 : ∀ q : Nat, q < 27 → ∀ k, k < 6 → (lineOf (q : Int) k).cps.size ≤ 400 ∧ 0 < (lineOf (q : Int) k).cps.size ∧ PyData.strOk (lineOf (q : Int) k) = true := by decide +kernel
end Mine
end

section
open PySem PySem.Calls PyProof.Rows PySem.W
set_option maxRecDepth 100000
set_option linter.unusedVariables false
namespace Mine
section
variable {w : World} {loose : List Str} {mg mb : Str → Option Value} {h : Heap}
theorem j_law (X : (KK w.params).In h) (T : TopRead q1 loose mg mb h) : LawK (cx w loose mg mb h) 128 276 ncode vcode where
  hc := ⟨X, T⟩
  B := j_blt X T
  M := j_wsM X T
  H := j_hdK X T
  K := j_hp X T
  li := j_law_lines X T
  rb := j_law_right_behind X T
  nu := j_law_numbers X T
  th := j_law_two_hands X T
  ke := j_law_kept X T
  co := j_law_columns X T
  le := j_law_left X T
  mp := j_law_most_pairs X T
end
/-! the lines, six of them -/
noncomputable def sixL (q : Nat → Nat) : List Str := (List.range 6).map fun k => lineOf ((q k : Nat) : Int) k
theorem linesFrom_eq : ∀ (l : List Int) (k : Nat), linesFrom l k = (List.range l.length).map fun i => lineOf ((l.getD i 0).fmod 27) (k + i)
  | [], _ => rfl
  | m :: r, k => by
    rw [List.length_cons, List.range_succ_eq_map, List.map_cons, List.map_map]
    show lineOf (m.fmod 27) k :: linesFrom r (k + 1) = _
    rw [linesFrom_eq r (k + 1)]
    congr 1
    refine List.map_congr_left fun i _ => ?_
    show lineOf _ (k + 1 + i) = lineOf _ (k + (i + 1))
    congr 1; omega
theorem firstSix_len (ns : List Int) : (firstSix ns).length = 6 := by unfold firstSix; simp
theorem lines_six (ns : List Int) : ∃ q : Nat → Nat, (∀ k, q k < 27) ∧ linesM ns = sixL q := by
  refine ⟨fun k => (((firstSix ns).getD k 0).fmod 27).toNat, fun k => ?_, ?_⟩
  · obtain ⟨q, hq, e⟩ := mod27 ((firstSix ns).getD k 0)
    show (((firstSix ns).getD k 0).fmod 27).toNat < 27
    rw [e]; simpa using hq
  · unfold linesM sixL
    rw [linesFrom_eq, firstSix_len]
    refine List.map_congr_left fun i _ => ?_
    obtain ⟨q, hq, e⟩ := mod27 ((firstSix ns).getD i 0)
    rw [Nat.zero_add]
    show lineOf _ i = lineOf ((((firstSix ns).getD i 0).fmod 27).toNat : Nat) i
    rw [e]; rfl
theorem t_all {q : Nat → Nat} (hq : ∀ k, q k < 27) : TxtOk ncode vcode (sixL q) := by
  refine ⟨⟨t_low, t_cap, t_num⟩, fun x hx => ?_, t_caps, t_hour⟩
  obtain ⟨k, hk, rfl⟩ := List.mem_map.mp hx
  have hk6 := List.mem_range.mp hk
  exact ⟨t_line _ (hq k) k hk6, t_line2 _ (hq k) k hk6⟩
/-- the plain law, whole -/
noncomputable def PlainAll : Prop := ∀ q : Nat → Nat, (∀ k, q k < 27) → ∃ rows s sc w, PlainOk (sixL q) rows s sc w
theorem good_true {c : ClaimW} {cl : Str → Option Addr} {mean : ExcName → Option Value} {args : List WData} {s₁ s' : Shared} (h1 : ∀ cls, c.raises args cls = false) (h2 : c.post args (.bool true) args = true) (hk : ∀ b o, s₁.heap.get? b = some o → s'.heap.get? b = some o) (ho : s'.os = s₁.os) (hg : s'.gens = #[]) : GoodW c cl mean args s₁ (.ok (.ret (.bool true))) s' :=
  ⟨.inl ⟨_, .bool true, [], rfl, h1, .bool true, h2, fun _ => ⟨.nil, fun a ha => nomatch ha⟩⟩, hk, ho, hg⟩
/-- the call, from its head on -/
theorem law_end (PA : PlainAll) {w : World} {loose : List Str} {mg mb : Str → Option Value} {s₁ : Shared} {h₁ : Heap} {l fa : Addr} {cdv : Value} {vals : List Value} {ns : List Int} {m : Str → Option Value} {tk : Nat} {cl : Str → Option Addr} {mean : ExcName → Option Value} {args : List WData} {E : Value → Shared → Prop} {fl : Flow → Value}
    (KX : (KK w.params).In s₁.heap) (T : TopRead q1 loose mg mb s₁.heap) (hL : s₁.heap.IsList l vals.toArray) (hI : IntsAre vals ns) (F : Fr s₁.heap s₁.heap.objs.size h₁ m) (hm : m "script" = some (.ref l)) (hg : s₁.gens = #[]) (hn : ns.length ≤ 100) (hfl : ∀ v, fl (.ret v) = v)
    (h1 : ∀ cls, PySem.Challenge.rw_pg0319_01.row.claim.raises args cls = false) (h2 : PySem.Challenge.rw_pg0319_01.row.claim.post args (.bool true) args = true) :
    wpAny (model PySem.Challenge.rw_pg0319_01.row.prog w) (callerA.deeper (envOf "law" lawS s₁.heap.objs.size fa cdv)) (execs lawB (envOf "law" lawS s₁.heap.objs.size fa cdv))
      (fun f s' => GoodW PySem.Challenge.rw_pg0319_01.row.claim cl mean args s₁ (.ok (.ret (fl f))) s') E ⟨h₁, s₁.gens, s₁.drawn, tk, s₁.os⟩ := by
  obtain ⟨q, hq, eq⟩ := lines_six ns
  obtain ⟨rows, s, sc, ww, Pl⟩ := PA q hq
  have Tx := t_all hq
  rw [← eq] at Pl Tx
  obtain ⟨ρ', hex⟩ := law_ex (j_law KX T) hn Tx Pl
  have ok : EnvOk (envOf "law" lawS s₁.heap.objs.size fa cdv) lawS := ⟨rfl, rfl, rfl, rfl, by show [s₁.heap.objs.size].Nodup; simp⟩
  have R : Room 9 (callerA.deeper (envOf "law" lawS s₁.heap.objs.size fa cdv)) := ⟨rfl, by show callerA.depth + 1 + 9 ≤ 700; decide, by show callerA.units + 3 + 3 * 9 ≤ 9000; decide⟩
  have Lsz : s₁.heap.objs.size < h₁.objs.size := F.ns.lt
  obtain ⟨ol, ho, hcls, k, hdat⟩ := hL
  have S : St (cx w loose mg mb s₁.heap) (envOf "law" lawS s₁.heap.objs.size fa cdv) [] [("script", .val (.lst (ns.map .int)))] s₁.heap.get? (fun a => a = s₁.heap.objs.size) h₁ := by
    refine ⟨m, fun _ => [], ?_⟩
    exact {
      base := .refl _
      le := F.keep
      sto := ⟨⟨m, F.ns, fun x _ => rfl⟩, fun x hx => by
        exfalso
        have e : lawS.names.lookup x = some .cell ∨ lawS.names.lookup x = some .free := hx
        have hno : lawS.names.all (fun q => !(q.2 == .cell) && !(q.2 == .free)) = true := by decide
        have key : ∀ k, lawS.names.lookup x = some k → k ≠ .cell ∧ k ≠ .free := fun k hk => by
          have := List.all_eq_true.mp hno _ (mem_of_lookup hk)
          simp at this
          exact this
        rcases e with e | e
        · exact (key _ e).1 rfl
        · exact (key _ e).2 rfl⟩
      own := fun x sl e => by
        rw [List.lookup_cons] at e
        by_cases hx : x = "script"
        · subst hx
          simp at e; subst e
          exact ⟨.ref l, hm, .val (.lst ho hcls hdat (RdL.ofInts (by simpa using hI)))⟩
        · have : (x == ("script" : Str)) = false := by simpa using hx
          rw [this] at e; cases e
      pin := fun q hq => nomatch hq
      mem := fun a => ⟨fun e => .inl (by rw [e]; exact .head _), fun e => by
        rcases e with e | ⟨x, sl, e1, e2⟩
        · exact List.mem_singleton.mp e
        · cases e2⟩
      lt := fun a e => by rw [e]; exact Lsz
      out := fun a e => by
        subst e
        cases q : s₁.heap.get? s₁.heap.objs.size with
        | none => rfl
        | some o => exact absurd (Heap.lt_size q) (Nat.lt_irrefl _)
      nd := fun _ _ _ => .nil
      apart := fun _ _ _ _ _ _ _ _ ha => nomatch ha
      aparts := fun _ _ _ _ ha => nomatch ha }
  refine wpAny_mono (hex _ _ [] _ _ ⟨h₁, s₁.gens, s₁.drawn, tk, s₁.os⟩ R ok rfl S) (fun f s' hp1 => ?_) fun _ _ x => x.elim
  obtain ⟨F', P', St', ⟨h', tk', es⟩, _, fr⟩ := hp1
  cases fr with
  | ret r =>
    cases r
    rw [hfl]
    subst es
    exact good_true h1 h2 (fun b o e => St'.keep b o (fun q => by subst q; exact absurd (Heap.lt_size e) (Nat.lt_irrefl _)) (F.keep b o e)) rfl hg
end Mine
end

section
set_option maxRecDepth 100000
set_option linter.unusedVariables false
namespace Mine
/-! the most pairs, found by trying all -/
theorem cut_facts {rest : List Nat} (nd : rest.Nodup) {k : Nat} (h1 : 1 ≤ k) (hk : k < rest.length) : (cutAt rest k).Nodup ∧ (∀ z, z ∈ cutAt rest k ↔ z ∈ rest ∧ z ≠ rest.getD 0 0 ∧ z ≠ rest.getD k 0) ∧ (cutAt rest k).length + 2 = rest.length := by
  cases rest with
  | nil => simp at hk
  | cons a r =>
    obtain ⟨k, rfl⟩ : ∃ j, k = j + 1 := ⟨k - 1, by omega⟩
    have hk' : k < r.length := by simpa using hk
    have e : cutAt (a :: r) (k + 1) = r.take k ++ r.drop (k + 1) := rfl
    have eg : (a :: r).getD (k + 1) 0 = r[k] := by rw [List.getD_eq_getElem?_getD, List.getElem?_cons_succ, List.getElem?_eq_getElem hk']; rfl
    have e0 : (a :: r).getD 0 0 = a := rfl
    rw [e, eg, e0]
    obtain ⟨n1, n2⟩ := List.nodup_cons.mp nd
    have sp : r = r.take k ++ r[k] :: r.drop (k + 1) := by
      rw [← List.drop_eq_getElem_cons hk', List.take_append_drop]
    have n3 := n2
    rw [sp] at n3
    have n4 := (List.perm_middle (a := r[k]) (l₁ := r.take k) (l₂ := r.drop (k + 1))).nodup_iff.mp n3
    obtain ⟨n5, n6⟩ := List.nodup_cons.mp n4
    refine ⟨n6, fun z => ⟨fun hz => ⟨?_, ?_, ?_⟩, fun ⟨hz, h0, hn⟩ => ?_⟩, ?_⟩
    · refine .tail _ ?_
      rw [sp]
      rcases List.mem_append.mp hz with q | q
      · exact List.mem_append_left _ q
      · exact List.mem_append_right _ (.tail _ q)
    · intro q
      subst q
      refine n1 ?_
      rw [sp]
      rcases List.mem_append.mp hz with q | q
      · exact List.mem_append_left _ q
      · exact List.mem_append_right _ (.tail _ q)
    · intro q
      subst q
      exact n5 hz
    · rcases List.mem_cons.mp hz with q | q
      · exact absurd q h0
      · rw [sp] at q
        rcases List.mem_append.mp q with q | q
        · exact List.mem_append_left _ q
        · rcases List.mem_cons.mp q with q | q
          · exact absurd q hn
          · exact List.mem_append_right _ q
    · simp; omega
noncomputable def incL (L : Nat → Nat → Bool) (a b : Nat) : Prop := L a b = false ∧ L b a = false
theorem foldmax_ge (g : Nat → Nat) (p : Nat → Bool) : ∀ (l : List Nat) (b : Nat), b ≤ l.foldl (fun b i => if p i = true then max b (g i) else b) b ∧ ∀ i ∈ l, p i = true → g i ≤ l.foldl (fun b i => if p i = true then max b (g i) else b) b
  | [], b => ⟨Nat.le_refl _, fun _ h => nomatch h⟩
  | a :: r, b => by
    obtain ⟨h1, h2⟩ := foldmax_ge g p r (if p a = true then max b (g a) else b)
    rw [List.foldl_cons]
    refine ⟨Nat.le_trans ?_ h1, fun i hi hp => ?_⟩
    · split
      · exact Nat.le_max_left _ _
      · exact Nat.le_refl _
    · rcases List.mem_cons.mp hi with rfl | hi
      · refine Nat.le_trans ?_ h1
        rw [if_pos hp]; exact Nat.le_max_right _ _
      · exact h2 i hi hp
theorem foldmax_at (g : Nat → Nat) (p : Nat → Bool) : ∀ (l : List Nat) (b : Nat), l.foldl (fun b i => if p i = true then max b (g i) else b) b = b ∨ ∃ i ∈ l, p i = true ∧ l.foldl (fun b i => if p i = true then max b (g i) else b) b = g i
  | [], b => .inl rfl
  | a :: r, b => by
    rw [List.foldl_cons]
    by_cases hp : p a = true
    · rw [if_pos hp]
      rcases foldmax_at g p r (max b (g a)) with e | ⟨i, hi, h1, h2⟩
      · rw [e]
        by_cases q : g a ≤ b
        · exact .inl (Nat.max_eq_left q)
        · exact .inr ⟨a, .head _, hp, Nat.max_eq_right (by omega)⟩
      · exact .inr ⟨i, .tail _ hi, h1, h2⟩
    · rw [if_neg hp]
      rcases foldmax_at g p r b with e | ⟨i, hi, h1, h2⟩
      · exact .inl e
      · exact .inr ⟨i, .tail _ hi, h1, h2⟩
theorem inc_test {L : Nat → Nat → Bool} {a b : Nat} : (!L a b && !L b a) = true ↔ incL L a b := by
  unfold incL; simp
theorem mpM_at (L : Nat → Nat → Bool) : ∀ (f : Nat) (rest : List Nat), rest.Nodup → ∃ ps, ps.length = mpM L f rest ∧ Mat (incL L) (fun z => z ∈ rest) ps
  | 0, rest, nd => ⟨[], rfl, .nil, fun _ h => (nomatch h), fun _ h => nomatch h⟩
  | f + 1, rest, nd => by
    have key : ∃ ps, ps.length = (List.range (rest.length - 1)).foldl (fun b i => if (!L (rest.getD 0 0) (rest.getD (1 + i) 0) && !L (rest.getD (1 + i) 0) (rest.getD 0 0)) = true then max b (1 + mpM L f (cutAt rest (1 + i))) else b) 0 ∧ Mat (incL L) (fun z => z ∈ rest) ps := by
      rcases foldmax_at (fun i => 1 + mpM L f (cutAt rest (1 + i))) (fun i => !L (rest.getD 0 0) (rest.getD (1 + i) 0) && !L (rest.getD (1 + i) 0) (rest.getD 0 0)) (List.range (rest.length - 1)) 0 with e | ⟨i, hi, h1, h2⟩
      · exact ⟨[], by rw [e]; rfl, .nil, fun _ h => (nomatch h), fun _ h => nomatch h⟩
      · have hi := List.mem_range.mp hi
        obtain ⟨c1, c2, c3⟩ := cut_facts nd (k := 1 + i) (by omega) (by omega)
        obtain ⟨ps, p1, p2⟩ := mpM_at L f (cutAt rest (1 + i)) c1
        have g0 : rest.getD 0 0 ∈ rest := by rw [List.getD_eq_getElem?_getD, List.getElem?_eq_getElem (show 0 < rest.length by omega)]; exact List.getElem_mem _
        have g1 : rest.getD (1 + i) 0 ∈ rest := by rw [List.getD_eq_getElem?_getD, List.getElem?_eq_getElem (show 1 + i < rest.length by omega)]; exact List.getElem_mem _
        have gne : rest.getD 0 0 ≠ rest.getD (1 + i) 0 := fun q => by
          rw [List.getD_eq_getElem?_getD, List.getD_eq_getElem?_getD, List.getElem?_eq_getElem (show 0 < rest.length by omega), List.getElem?_eq_getElem (show 1 + i < rest.length by omega)] at q
          exact (List.pairwise_iff_getElem.mp nd) 0 (1 + i) (by omega) (by omega) (by omega) q
        refine ⟨(rest.getD 0 0, rest.getD (1 + i) 0) :: ps, by rw [List.length_cons, p1, h2]; omega, ?_, ?_, ?_⟩
        · rw [flatP_cons]
          refine List.nodup_cons.mpr ⟨fun q => ?_, List.nodup_cons.mpr ⟨fun q => ?_, p2.nd⟩⟩
          · rcases List.mem_cons.mp q with q | q
            · exact gne q
            · exact ((c2 _).mp (p2.inn _ q)).2.1 rfl
          · exact ((c2 _).mp (p2.inn _ q)).2.2 rfl
        · intro z hz
          rcases List.mem_cons.mp hz with rfl | hz
          · exact g0
          · rcases List.mem_cons.mp hz with rfl | hz
            · exact g1
            · exact ((c2 z).mp (p2.inn z hz)).1
        · intro p hp
          rcases List.mem_cons.mp hp with rfl | hp
          · exact inc_test.mp h1
          · exact p2.inc p hp
    obtain ⟨ps, p1, p2⟩ := key
    unfold mpM
    dsimp only
    generalize (List.range (rest.length - 1)).foldl (fun b i => if (!L (rest.getD 0 0) (rest.getD (1 + i) 0) && !L (rest.getD (1 + i) 0) (rest.getD 0 0)) = true then max b (1 + mpM L f (cutAt rest (1 + i))) else b) 0 = best at p1
    split
    · exact ⟨ps, p1, p2⟩
    · by_cases q : mpM L f (rest.drop 1) ≤ best
      · exact ⟨ps, by rw [p1, Nat.max_eq_left q], p2⟩
      · obtain ⟨qs, q1, q2⟩ := mpM_at L f (rest.drop 1) (nd.sublist (List.drop_sublist 1 rest))
        exact ⟨qs, by rw [q1, Nat.max_eq_right (by omega)], q2.le fun z _ h => List.mem_of_mem_drop h⟩
theorem mpM_ge (L : Nat → Nat → Bool) : ∀ (f : Nat) (rest : List Nat), rest.Nodup → rest.length < f → ∀ ps, Mat (incL L) (fun z => z ∈ rest) ps → ps.length ≤ mpM L f rest
  | 0, rest, _, h, _, _ => by omega
  | f + 1, rest, nd, hf, ps, h => by
    have h2 : 2 * ps.length ≤ rest.length := by rw [← flatP_len]; exact nodup_le h.nd h.inn
    obtain ⟨g1, g2⟩ := foldmax_ge (fun i => 1 + mpM L f (cutAt rest (1 + i))) (fun i => !L (rest.getD 0 0) (rest.getD (1 + i) 0) && !L (rest.getD (1 + i) 0) (rest.getD 0 0)) (List.range (rest.length - 1)) 0
    have main : ps.length ≤ (List.range (rest.length - 1)).foldl (fun b i => if (!L (rest.getD 0 0) (rest.getD (1 + i) 0) && !L (rest.getD (1 + i) 0) (rest.getD 0 0)) = true then max b (1 + mpM L f (cutAt rest (1 + i))) else b) 0 ∨ ps.length ≤ mpM L f (rest.drop 1) := by
      cases rest with
      | nil => left; simp at h2; omega
      | cons x r =>
        by_cases hx : x ∈ flatP ps
        · left
          obtain ⟨y, qs, s1, s2, hne, hinc, hl, hq⟩ := h.split (fun a b q => ⟨q.2, q.1⟩) hx
          have hy : y ∈ r := by
            rcases List.mem_cons.mp s2 with q | q
            · exact absurd q hne
            · exact q
          obtain ⟨i, hi, ei⟩ := List.mem_iff_getElem.mp hy
          have eg : (x :: r).getD (1 + i) 0 = y := by
            rw [Nat.add_comm, List.getD_eq_getElem?_getD, List.getElem?_cons_succ, List.getElem?_eq_getElem hi, ei]; rfl
          obtain ⟨c1, c2, c3⟩ := cut_facts nd (k := 1 + i) (by omega) (by simp; omega)
          have := mpM_ge L f (cutAt (x :: r) (1 + i)) c1 (by omega) qs (hq.le fun z _ q => (c2 z).mpr ⟨q.1, q.2.1, by rw [eg]; exact q.2.2⟩)
          have g := g2 i (List.mem_range.mpr (by simpa using hi)) (inc_test.mpr (by rw [eg]; exact hinc))
          exact Nat.le_trans (by omega) g
        · right
          refine mpM_ge L f r (List.nodup_cons.mp nd).2 (by simp at hf; omega) ps (h.le fun z hz q => ?_)
          rcases List.mem_cons.mp q with q | q
          · exact absurd (q ▸ hz) hx
          · exact q
    unfold mpM
    dsimp only
    generalize (List.range (rest.length - 1)).foldl (fun b i => if (!L (rest.getD 0 0) (rest.getD (1 + i) 0) && !L (rest.getD (1 + i) 0) (rest.getD 0 0)) = true then max b (1 + mpM L f (cutAt rest (1 + i))) else b) 0 = best at main
    split
    · omega
    · rcases main with q | q
      · exact Nat.le_trans q (Nat.le_max_left _ _)
      · exact Nat.le_trans q (Nat.le_max_right _ _)
end Mine
end

section
open PySem PySem.Calls PyProof.Rows PySem.W
set_option maxRecDepth 100000
set_option linter.unusedVariables false
namespace Mine
/-! the orders of the heaps -/
theorem lex_asym : ∀ a b : List Int, lexLt a b = true → lexLt b a = false
  | [], [], h => by cases h
  | [], _ :: _, _ => rfl
  | _ :: _, [], h => by cases h
  | a :: r, b :: s, h => by
    unfold lexLt at h ⊢
    by_cases e : a = b
    · rw [if_pos e] at h; rw [if_pos e.symm]; exact lex_asym r s h
    · rw [if_neg e] at h; rw [if_neg fun q => e q.symm]
      have := of_decide_eq_true h
      exact decide_eq_false (by omega)
theorem lex_irr : ∀ a : List Int, lexLt a a = false
  | [] => rfl
  | a :: r => by unfold lexLt; rw [if_pos rfl]; exact lex_irr r
theorem lex_anti : ∀ a b : List Int, lexLt a b = false → lexLt b a = false → a = b
  | [], [], _, _ => rfl
  | [], _ :: _, h, _ => by cases h
  | _ :: _, [], _, h => by cases h
  | a :: r, b :: s, h1, h2 => by
    unfold lexLt at h1 h2
    by_cases e : a = b
    · rw [if_pos e] at h1; rw [if_pos e.symm] at h2
      rw [e, lex_anti r s h1 h2]
    · rw [if_neg e] at h1; rw [if_neg fun q => e q.symm] at h2
      have := of_decide_eq_false h1
      have := of_decide_eq_false h2
      omega
theorem lex_tr : ∀ a b e : List Int, lexLt b a = false → lexLt e b = false → lexLt e a = false
  | [], [], [], _, _ => rfl
  | [], [], _ :: _, _, _ => rfl
  | [], _ :: _, [], _, h => by cases h
  | [], _ :: _, _ :: _, _, _ => rfl
  | _ :: _, [], _, h, _ => by cases h
  | _ :: _, _ :: _, [], _, h => by cases h
  | a :: r, b :: s, c :: t, h1, h2 => by
    unfold lexLt at h1 h2 ⊢
    by_cases e1 : b = a
    · rw [if_pos e1] at h1
      by_cases e2 : c = b
      · rw [if_pos e2] at h2; rw [if_pos (e2.trans e1)]; exact lex_tr r s t h1 h2
      · rw [if_neg e2] at h2; rw [if_neg (fun q => e2 (q.trans e1.symm))]
        have := of_decide_eq_false h2
        exact decide_eq_false (by omega)
    · rw [if_neg e1] at h1
      have k1 := of_decide_eq_false h1
      by_cases e2 : c = b
      · rw [if_pos e2] at h2; rw [if_neg (fun q => e1 (e2.symm.trans q))]
        exact decide_eq_false (by omega)
      · rw [if_neg e2] at h2
        have k2 := of_decide_eq_false h2
        rw [if_neg (by omega)]
        exact decide_eq_false (by omega)
theorem ent_asym (p q : List Int × Int) (h : entryLt p q = true) : entryLt q p = false := by
  unfold entryLt at h ⊢
  by_cases e : p.1 = q.1
  · rw [if_pos e] at h; rw [if_pos e.symm]
    have := of_decide_eq_true h
    exact decide_eq_false (by omega)
  · rw [if_neg e] at h; rw [if_neg fun w => e w.symm]; exact lex_asym _ _ h
theorem ent_tr (p q r : List Int × Int) (h1 : entryLt q p = false) (h2 : entryLt r q = false) : entryLt r p = false := by
  unfold entryLt at h1 h2 ⊢
  have l1 : lexLt q.1 p.1 = false := by
    by_cases e : q.1 = p.1
    · rw [e]; exact lex_irr _
    · rw [if_neg e] at h1; exact h1
  have l2 : lexLt r.1 q.1 = false := by
    by_cases e : r.1 = q.1
    · rw [e]; exact lex_irr _
    · rw [if_neg e] at h2; exact h2
  by_cases e : r.1 = p.1
  · rw [if_pos e]
    have e2 : q.1 = p.1 := lex_anti _ _ l1 (by rw [← e]; exact l2)
    rw [if_pos e2] at h1
    rw [if_pos (e.trans e2.symm)] at h2
    have := of_decide_eq_false h1
    have := of_decide_eq_false h2
    exact decide_eq_false (by omega)
  · rw [if_neg e]; exact lex_tr _ _ _ l1 l2
theorem ltE_ok : LtOk ltE okE := ⟨fun a b _ _ h => ent_asym _ _ h, fun a b e _ _ _ h1 h2 => ent_tr _ _ _ h1 h2⟩
theorem ltP_ok : LtOk ltP okP := ⟨fun a b _ _ h => lex_asym _ _ h, fun a b e _ _ _ h1 h2 => lex_tr _ _ _ h1 h2⟩
/-- what goes on a heap, one after the other -/
theorem push_fold {lt : D → D → Bool} {ok : D → Prop} (L : LtOk lt ok) (e : Nat → D) (he : ∀ k, k < 6 → ok (e k)) (P : Nat → Bool) : ∀ (l : List Nat) (h : List D), (∀ x ∈ l, x < 6) → (∀ d ∈ h, ok d) → HeapI lt h →
    HeapI lt (l.foldl (fun h k => if P k = true then hpush lt h (e k) else h) h) ∧ (∀ d ∈ l.foldl (fun h k => if P k = true then hpush lt h (e k) else h) h, ok d) ∧ (l.foldl (fun h k => if P k = true then hpush lt h (e k) else h) h).Perm ((l.filter P).map e ++ h)
  | [], h, _, hok, H => ⟨H, hok, .refl _⟩
  | k :: r, h, hl, hok, H => by
    rw [List.foldl_cons, List.filter_cons]
    by_cases hp : P k = true
    · rw [if_pos hp, if_pos hp]
      obtain ⟨p1, p2⟩ := hpush_heap L hok (he k (hl k (.head _))) H
      obtain ⟨a, b, c⟩ := push_fold L e he P r (hpush lt h (e k)) (fun x hx => hl x (.tail _ hx)) (hpush_all lt hok (he k (hl k (.head _)))) p1
      refine ⟨a, b, c.trans ?_⟩
      rw [List.map_cons, List.cons_append]
      exact ((List.Perm.refl _).append p2).trans List.perm_middle
    · rw [if_neg hp, if_neg hp]
      exact push_fold L e he P r h (fun x hx => hl x (.tail _ hx)) hok H
/-- the least of a bag comes off -/
theorem pop_bag {lt : D → D → Bool} {ok : D → Prop} (L : LtOk lt ok) (e : Nat → D) {l : List Nat} {h : List D} (hne : h ≠ []) (hok : ∀ d ∈ h, ok d) (H : HeapI lt h) (hp : h.Perm (l.map e)) :
    ∃ k, k ∈ l ∧ (hpop lt h).1 = e k ∧ (∀ j ∈ l, lt (e j) (e k) = false) ∧ HeapI lt (hpop lt h).2 ∧ (∀ d ∈ (hpop lt h).2, ok d) ∧ (hpop lt h).2.Perm ((l.erase k).map e) := by
  obtain ⟨a, b, c⟩ := hpop_heap L hne hok H
  have hm : (hpop lt h).1 ∈ l.map e := (hp.mem_iff.mp (b.mem_iff.mpr (.head _)))
  obtain ⟨k, hk, ek⟩ := List.mem_map.mp hm
  refine ⟨k, hk, ek.symm, fun j hj => ?_, a, (hpop_all hne hok).2.1, ?_⟩
  · rw [ek]; exact c _ (hp.mem_iff.mpr (List.mem_map.mpr ⟨j, hj, rfl⟩))
  · have h1 := (List.perm_cons_erase hk).map e
    rw [List.map_cons, ek] at h1
    exact (b.symm.trans (hp.trans h1)).cons_inv
/-! the order of the lines -/
structure OrdL (L : Nat → Nat → Bool) : Prop where
  irr : ∀ i, i < 6 → L i i = false
  tr : ∀ i, i < 6 → ∀ j, j < 6 → ∀ k, k < 6 → L i j = true → L j k = true → L i k = true
theorem exists_min {r : Nat → Nat → Bool} (irr : ∀ i, i < 6 → r i i = false) (tr : ∀ i, i < 6 → ∀ j, j < 6 → ∀ k, k < 6 → r i j = true → r j k = true → r i k = true) : ∀ l : List Nat, l ≠ [] → (∀ x ∈ l, x < 6) → ∃ m ∈ l, ∀ z ∈ l, r z m = false
  | [], h, _ => absurd rfl h
  | a :: t, _, hl => by
    have ha := hl a (.head _)
    by_cases ht : t = []
    · subst ht
      exact ⟨a, .head _, fun z hz => by rw [List.mem_singleton.mp hz]; exact irr a ha⟩
    · obtain ⟨m, hm, hmin⟩ := exists_min irr tr t ht fun x hx => hl x (.tail _ hx)
      have hm6 := hl m (.tail _ hm)
      cases q : r a m with
      | true =>
        refine ⟨a, .head _, fun z hz => ?_⟩
        rcases List.mem_cons.mp hz with rfl | hz
        · exact irr _ ha
        · cases q2 : r z a with
          | false => rfl
          | true =>
            have := hmin z hz
            rw [tr z (hl z (.tail _ hz)) a ha m hm6 q2 q] at this
            cases this
      | false =>
        refine ⟨m, .tail _ hm, fun z hz => ?_⟩
        rcases List.mem_cons.mp hz with rfl | hz
        · exact q
        · exact hmin z hz
theorem near_iff {L : Nat → Nat → Bool} {k o : Nat} : nearB L k o = true ↔ L k o = true ∧ ∀ j, j < 6 → L k j = true → L j o = false := by
  unfold nearB
  rw [Bool.and_eq_true, Bool.not_eq_true', ← Bool.not_eq_true, any6]
  constructor
  · rintro ⟨a, b⟩
    refine ⟨a, fun j hj q => ?_⟩
    cases q2 : L j o with
    | false => rfl
    | true => exact absurd ⟨j, hj, by rw [q, q2]; rfl⟩ b
  · rintro ⟨a, b⟩
    refine ⟨a, fun hp1 => ?_⟩
    obtain ⟨j, hj, q⟩ := hp1
    rw [Bool.and_eq_true] at q
    rw [b j hj q.1] at q
    cases q.2
theorem cov_down {L : Nat → Nat → Bool} (O : OrdL L) {k o : Nat} (hk : k < 6) (ho : o < 6) (h : L k o = true) : nearB L k o = true ∨ ∃ z, z < 6 ∧ nearB L k z = true ∧ L z o = true := by
  obtain ⟨m, hm, hmin⟩ := exists_min O.irr O.tr ((List.range 6).filter fun z => L k z && (z == o || L z o)) (fun e => by
    have : o ∈ (List.range 6).filter fun z => L k z && (z == o || L z o) := List.mem_filter.mpr ⟨List.mem_range.mpr ho, by simp [h]⟩
    rw [e] at this; cases this) (fun x hx => List.mem_range.mp (List.mem_filter.mp hx).1)
  obtain ⟨m1, m2⟩ := List.mem_filter.mp hm
  have m6 := List.mem_range.mp m1
  rw [Bool.and_eq_true, Bool.or_eq_true] at m2
  have key : ∀ j, j < 6 → L k j = true → L j m = true → (m = o ∨ L m o = true) → False := fun j hj q1 q2 q3 => by
    have hj' : j ∈ (List.range 6).filter fun z => L k z && (z == o || L z o) := by
      refine List.mem_filter.mpr ⟨List.mem_range.mpr hj, ?_⟩
      have : L j o = true := by
        rcases q3 with e | e
        · rw [← e]; exact q2
        · exact O.tr j hj m m6 o ho q2 e
      simp [q1, this]
    have := hmin j hj'
    rw [q2] at this; cases this
  have m3 : m = o ∨ L m o = true := m2.2.imp (fun e => by simpa using e) id
  have nm : nearB L k m = true := near_iff.mpr ⟨m2.1, fun j hj q1 => by
    cases q2 : L j m with
    | false => rfl
    | true => exact (key j hj q1 q2 m3).elim⟩
  rcases m3 with e | e
  · rw [e] at nm; exact .inl nm
  · exact .inr ⟨m, m6, nm, e⟩
theorem cov_up {L : Nat → Nat → Bool} (O : OrdL L) {k o : Nat} (hk : k < 6) (ho : o < 6) (h : L k o = true) : nearB L k o = true ∨ ∃ z, z < 6 ∧ L k z = true ∧ nearB L z o = true := by
  obtain ⟨m, hm, hmin⟩ := exists_min (r := fun a b => L b a) O.irr (fun i hi j hj k hk a b => O.tr k hk j hj i hi b a) ((List.range 6).filter fun z => L z o && (z == k || L k z)) (fun e => by
    have : k ∈ (List.range 6).filter fun z => L z o && (z == k || L k z) := List.mem_filter.mpr ⟨List.mem_range.mpr hk, by simp [h]⟩
    rw [e] at this; cases this) (fun x hx => List.mem_range.mp (List.mem_filter.mp hx).1)
  obtain ⟨m1, m2⟩ := List.mem_filter.mp hm
  have m6 := List.mem_range.mp m1
  rw [Bool.and_eq_true, Bool.or_eq_true] at m2
  have m3 : m = k ∨ L k m = true := m2.2.imp (fun e => by simpa using e) id
  have nm : nearB L m o = true := near_iff.mpr ⟨m2.1, fun j hj q1 => by
    cases q2 : L j o with
    | false => rfl
    | true =>
      have hj' : j ∈ (List.range 6).filter fun z => L z o && (z == k || L k z) := by
        refine List.mem_filter.mpr ⟨List.mem_range.mpr hj, ?_⟩
        have : L k j = true := by
          rcases m3 with e | e
          · rw [← e]; exact q1
          · exact O.tr k hk m m6 j hj e q1
        simp [q2, this]
      have := hmin j hj'
      rw [q1] at this; cases this⟩
  rcases m3 with e | e
  · rw [e] at nm; exact .inl nm
  · exact .inr ⟨m, m6, e, nm⟩
noncomputable def rowsN (L : Nat → Nat → Bool) : List (List Nat) := (List.range 6).map fun k => (List.range 6).filter (nearB L k)
theorem rowsN_at (L : Nat → Nat → Bool) {k : Nat} (hk : k < 6) : (rowsN L).getD k [] = (List.range 6).filter (nearB L k) := by
  unfold rowsN
  rw [List.getD_eq_getElem?_getD, List.getElem?_map, List.getElem?_range hk]; rfl
theorem rowsN_ok (L : Nat → Nat → Bool) : RowsOk (rowsN L) := by
  refine ⟨by simp [rowsN], fun r hr x hx => ?_, fun r hr => ?_⟩
  · obtain ⟨y, _, rfl⟩ := List.mem_map.mp hr
    exact List.mem_range.mp (List.mem_filter.mp hx).1
  · obtain ⟨y, _, rfl⟩ := List.mem_map.mp hr
    exact Nat.le_trans (List.length_filter_le _ _) (by simp)
theorem mem_rowsN {L : Nat → Nat → Bool} {k o : Nat} (hk : k < 6) : o ∈ (rowsN L).getD k [] ↔ o < 6 ∧ nearB L k o = true := by
  rw [rowsN_at L hk, List.mem_filter, List.mem_range]
end Mine
end

section
open PySem PySem.Calls PyProof.Rows PySem.W
set_option maxRecDepth 100000
set_option linter.unusedVariables false
namespace Mine
/-! the numbers: marks as masks -/
noncomputable def bitsD (m : Nat) : List Int := (([5, 4, 3, 2, 1, 0] : List Nat).filter fun j => m.testBit j).map fun j : Nat => (j : Int) + 1
theorem bitsD_lt : ∀ a, a < 64 → ∀ b, b < 64 → lexLt (bitsD a) (bitsD b) = decide (a < b) := by decide +kernel
theorem posOf_append {z j : Nat} {t : List Nat} : ∀ {s : List Nat}, posOf s z = some j → posOf (s ++ t) z = some j
  | [], h => by cases h
  | k :: r, h => by
    show (if k = z then some 0 else (posOf (r ++ t) z).map (· + 1)) = some j
    unfold posOf at h
    by_cases q : k = z
    · rw [if_pos q] at h ⊢; exact h
    · rw [if_neg q] at h ⊢
      obtain ⟨i, hi, e⟩ := Option.map_eq_some_iff.mp h
      rw [posOf_append hi]; exact congrArg some e
theorem posOf_some {z : Nat} : ∀ {s : List Nat}, z ∈ s → ∃ j, posOf s z = some j
  | k :: r, h => by
    unfold posOf
    by_cases q : k = z
    · exact ⟨0, if_pos q⟩
    · rw [if_neg q]
      rcases List.mem_cons.mp h with e | h
      · exact absurd e.symm q
      · obtain ⟨j, hj⟩ := posOf_some h
        exact ⟨j + 1, by rw [hj]; rfl⟩
theorem posOf_mem {z j : Nat} {s : List Nat} (h : posOf s z = some j) : z ∈ s := List.mem_of_getElem? (posOf_get h)
theorem posOf_isSome {z : Nat} {s : List Nat} : (posOf s z).isSome = true ↔ z ∈ s :=
  ⟨fun h => let ⟨j, e⟩ := Option.isSome_iff_exists.mp h; posOf_mem e, fun h => Option.isSome_iff_exists.mpr (posOf_some h)⟩
theorem posOf_new {z : Nat} : ∀ {s : List Nat}, z ∉ s → posOf (s ++ [z]) z = some s.length
  | [], _ => by show (if z = z then some 0 else _) = some 0; exact if_pos rfl
  | k :: r, h => by
    show (if k = z then some 0 else (posOf (r ++ [z]) z).map (· + 1)) = _
    rw [if_neg (fun (e : k = z) => h (e ▸ List.Mem.head _)), posOf_new fun q => h (.tail _ q)]; rfl
theorem posOf_nd {z j : Nat} : ∀ {s : List Nat}, s.Nodup → s[j]? = some z → posOf s z = some j
  | [], _, h => by simp at h
  | k :: r, nd, h => by
    obtain ⟨n1, n2⟩ := List.nodup_cons.mp nd
    unfold posOf
    cases j with
    | zero => simp at h; rw [if_pos h]
    | succ j =>
      rw [List.getElem?_cons_succ] at h
      rw [if_neg (fun (e : k = z) => n1 (e ▸ List.mem_of_getElem? h)), posOf_nd n2 h]; rfl
/-- the mask of o's marks -/
noncomputable def markB (L : Nat → Nat → Bool) (s : List Nat) (o j : Nat) : Bool := match s[j]? with
  | some z => nearB L o z
  | none => false
noncomputable def markM (L : Nat → Nat → Bool) (s : List Nat) (o : Nat) : Nat := ofB (markB L s o)
theorem desc_bits (m : Nat) : (bitsD m).Pairwise (· ≥ ·) := by
  unfold bitsD
  rw [List.pairwise_map]
  refine List.Pairwise.sublist List.filter_sublist ?_
  decide
theorem bitsD_mem {L : Nat → Nat → Bool} {s : List Nat} {o : Nat} {x : Int} : x ∈ bitsD (markM L s o) ↔ ∃ j, j < 6 ∧ markB L s o j = true ∧ x = (j : Int) + 1 := by
  unfold bitsD
  rw [List.mem_map]
  constructor
  · rintro ⟨j, hj, e⟩
    obtain ⟨h1, h2⟩ := List.mem_filter.mp hj
    have h6 : j < 6 := by simp at h1; omega
    exact ⟨j, h6, (ofB_test (markB L s o) j h6).symm.trans h2, e.symm⟩
  · rintro ⟨j, h6, h2, e⟩
    refine ⟨j, List.mem_filter.mpr ⟨by simp; omega, ?_⟩, e.symm⟩
    show (ofB (markB L s o)).testBit j = true
    rw [ofB_test _ j h6]; exact h2
theorem bitsD_nd (m : Nat) : (bitsD m).Nodup := by
  unfold bitsD
  refine List.pairwise_map.mpr (List.Pairwise.imp (fun {a b} (h : a ≠ b) => by omega) (List.Pairwise.sublist List.filter_sublist (by decide : ([5, 4, 3, 2, 1, 0] : List Nat).Nodup)))
/-- the marks, the greatest first, are the mask's -/
theorem marks_eq {L : Nat → Nat → Bool} {s : List Nat} (nd : s.Nodup) (h6 : s.length ≤ 6) (hs6 : ∀ z ∈ s, z < 6) {o : Nat} (ho : o < 6) (hall : ∀ z ∈ (rowsN L).getD o [], z ∈ s) : sortD (marksOf s ((rowsN L).getD o [])) = bitsD (markM L s o) := by
  have hpos : ∀ z ∈ (rowsN L).getD o [], ∃ j, posOf s z = some j ∧ mk s z = j + 1 := fun z hz => by
    obtain ⟨j, hj⟩ := posOf_some (hall z hz)
    exact ⟨j, hj, by unfold mk; rw [hj]; rfl⟩
  refine perm_desc_eq _ _ ((sortD_perm _).trans ((List.perm_ext_iff_of_nodup ?_ (bitsD_nd _)).mpr fun x => ?_)) (sortD_desc _) (desc_bits _)
  · unfold marksOf
    have hnd : ((rowsN L).getD o []).Nodup := by rw [rowsN_at L ho]; exact List.Pairwise.sublist List.filter_sublist List.nodup_range
    have key : ∀ l : List Nat, l.Nodup → (∀ z ∈ l, ∃ j, posOf s z = some j ∧ mk s z = j + 1) → (l.map fun z => ((mk s z : Nat) : Int)).Nodup := by
      intro l
      induction l with
      | nil => intro _ _; exact .nil
      | cons a r ih =>
        intro n h
        obtain ⟨n1, n2⟩ := List.nodup_cons.mp n
        rw [List.map_cons]
        refine List.nodup_cons.mpr ⟨fun q => ?_, ih n2 fun z hz => h z (.tail _ hz)⟩
        obtain ⟨b, hb, e⟩ := List.mem_map.mp q
        obtain ⟨i, hi, ei⟩ := h a (.head _)
        obtain ⟨j, hj, ej⟩ := h b (.tail _ hb)
        have : i = j := by omega
        subst this
        have e1 := posOf_get hi
        have e2 := posOf_get hj
        rw [e1] at e2
        cases e2
        exact n1 hb
    exact key _ hnd hpos
  · rw [bitsD_mem]
    unfold marksOf
    rw [List.mem_map]
    constructor
    · rintro ⟨z, hz, e⟩
      obtain ⟨j, hj, ej⟩ := hpos z hz
      refine ⟨j, by have := posOf_lt hj; omega, ?_, by omega⟩
      unfold markB
      rw [posOf_get hj]
      exact ((mem_rowsN ho).mp hz).2
    · rintro ⟨j, hj, hb, e⟩
      unfold markB at hb
      cases hs : s[j]? with
      | none => rw [hs] at hb; cases hb
      | some z =>
        rw [hs] at hb
        have hp := posOf_nd nd hs
        exact ⟨z, (mem_rowsN ho).mpr ⟨hs6 z (posOf_mem hp), hb⟩, by unfold mk; rw [hp, e]; rfl⟩
end Mine
end

section
open PySem PySem.Calls PyProof.Rows PySem.W
set_option maxRecDepth 100000
set_option linter.unusedVariables false
namespace Mine
/-! the loop of the numbers -/
noncomputable def avl (L : Nat → Nat → Bool) (seq : List Nat) : List Nat := (List.range 6).filter fun o => !(posOf seq o).isSome && allIn seq ((rowsN L).getD o [])
noncomputable def entK (L : Nat → Nat → Bool) (seq : List Nat) (o : Nat) : D := entN (sortD (marksOf seq ((rowsN L).getD o []))) o
theorem mem_avl {L : Nat → Nat → Bool} {seq : List Nat} {o : Nat} : o ∈ avl L seq ↔ o < 6 ∧ o ∉ seq ∧ ∀ z, z < 6 → nearB L o z = true → z ∈ seq := by
  unfold avl
  rw [List.mem_filter, List.mem_range, Bool.and_eq_true, Bool.not_eq_true', ← Bool.not_eq_true, posOf_isSome]
  constructor
  · rintro ⟨a, b, c⟩
    refine ⟨a, b, fun z hz q => ?_⟩
    exact posOf_isSome.mp (List.all_eq_true.mp c z ((mem_rowsN a).mpr ⟨hz, q⟩))
  · rintro ⟨a, b, c⟩
    refine ⟨a, b, List.all_eq_true.mpr fun z hz => ?_⟩
    obtain ⟨h1, h2⟩ := (mem_rowsN a).mp hz
    exact posOf_isSome.mpr (c z h1 h2)
structure NInv (L : Nat → Nat → Bool) (seq : List Nat) (h : List D) : Prop where
  nd : seq.Nodup
  lt : ∀ z ∈ seq, z < 6
  ord : ∀ z i, posOf seq z = some i → ∀ y, y < 6 → L z y = true → ∃ j, j < i ∧ posOf seq y = some j
  hp : HeapI ltE h
  ok : ∀ d ∈ h, okE d
  bag : h.Perm ((avl L seq).map (entK L seq))
  cg : ∀ i a b, seq[i]? = some a → seq[i + 1]? = some b → markM L seq a ≤ markM L seq b
  last : ∀ k, seq.getLast? = some k → ∀ o ∈ avl L seq, markM L seq k ≤ markM L seq o
theorem mark_stable {L : Nat → Nat → Bool} {seq : List Nat} {a k : Nat} (h : nearB L a k = false) : markM L (seq ++ [k]) a = markM L seq a := by
  unfold markM
  congr 1
  funext j
  unfold markB
  by_cases q : j < seq.length
  · rw [List.getElem?_append_left q]
  · rw [List.getElem?_append_right (by omega), List.getElem?_eq_none (l := seq) (by omega)]
    by_cases q2 : j = seq.length
    · subst q2; rw [Nat.sub_self]; exact h
    · rw [List.getElem?_eq_none (by simp; omega)]
theorem le_len {s : List Nat} (nd : s.Nodup) (h : ∀ z ∈ s, z < 6) : s.length ≤ 6 := by
  have := nodup_le (l' := List.range 6) nd fun x hx => List.mem_range.mpr (h x hx)
  simpa using this
theorem full_mem {s : List Nat} (nd : s.Nodup) (h : ∀ z ∈ s, z < 6) (h6 : s.length = 6) {z : Nat} (hz : z < 6) : z ∈ s := by
  by_cases q : z ∈ s
  · exact q
  · have := nodup_le (l := z :: s) (l' := List.range 6) (List.nodup_cons.mpr ⟨q, nd⟩) fun x hx => by
      rcases List.mem_cons.mp hx with rfl | hx
      · exact List.mem_range.mpr hz
      · exact List.mem_range.mpr (h x hx)
    simp at this; omega
theorem ent_lt {L : Nat → Nat → Bool} {seq : List Nat} (nd : seq.Nodup) (hl : ∀ z ∈ seq, z < 6) {a b : Nat} (ha : a ∈ avl L seq) (hb : b ∈ avl L seq) (h : ltE (entK L seq a) (entK L seq b) = false) : markM L seq b ≤ markM L seq a := by
  obtain ⟨a6, _, a3⟩ := mem_avl.mp ha
  obtain ⟨b6, _, b3⟩ := mem_avl.mp hb
  have hl6 := le_len nd hl
  unfold entK ltE entN at h
  rw [entOf_ent, entOf_ent, marks_eq nd hl6 hl a6 (fun z hz => a3 z ((mem_rowsN a6).mp hz).1 ((mem_rowsN a6).mp hz).2), marks_eq nd hl6 hl b6 (fun z hz => b3 z ((mem_rowsN b6).mp hz).1 ((mem_rowsN b6).mp hz).2)] at h
  unfold entryLt at h
  have key := bitsD_lt (markM L seq a) (ofB_lt _) (markM L seq b) (ofB_lt _)
  by_cases e : bitsD (markM L seq a) = bitsD (markM L seq b)
  · have k2 := bitsD_lt (markM L seq a) (ofB_lt _) (markM L seq b) (ofB_lt _)
    rw [e, lex_irr] at k2
    have := of_decide_eq_false k2.symm
    omega
  · dsimp only at h
    rw [if_neg e, key] at h
    have := of_decide_eq_false h
    omega
theorem nu_step {L : Nat → Nat → Bool} (O : OrdL L) {seq : List Nat} {h : List D} (I : NInv L seq h) (hne : h ≠ []) :
    NInv L (seq ++ [keyE (hpop ltE h).1]) ((List.range 6).foldl (nuTurn (rowsN L) (seq ++ [keyE (hpop ltE h).1]) (keyE (hpop ltE h).1)) (hpop ltE h).2) := by
  obtain ⟨k, hk, ek, hmin, p1, p2, p3⟩ := pop_bag ltE_ok (entK L seq) hne I.ok I.hp I.bag
  have ekk : keyE (hpop ltE h).1 = k := by rw [ek]; exact keyE_ent _ _
  rw [ekk]
  generalize (hpop ltE h).2 = h2 at p1 p2 p3 ⊢
  obtain ⟨k6, k2, k3⟩ := mem_avl.mp hk
  have hkk : nearB L k k = false := by
    cases q : nearB L k k with
    | false => rfl
    | true => have := (near_iff.mp q).1; rw [O.irr k k6] at this; cases this
  have nd' : (seq ++ [k]).Nodup := List.nodup_append.mpr ⟨I.nd, by simp, fun a ha b hb => by rw [List.mem_singleton.mp hb]; exact fun e => k2 (e ▸ ha)⟩
  have lt' : ∀ z ∈ seq ++ [k], z < 6 := fun z hz => by
    rcases List.mem_append.mp hz with q | q
    · exact I.lt z q
    · rw [List.mem_singleton.mp q]; exact k6
  -- nothing in seq, nothing available has k right behind it
  have hseq : ∀ a ∈ seq, nearB L a k = false := fun a ha => by
    cases q : nearB L a k with
    | false => rfl
    | true =>
      obtain ⟨i, hi⟩ := posOf_some ha
      obtain ⟨j, _, hj⟩ := I.ord a i hi k k6 (near_iff.mp q).1
      exact absurd (posOf_mem hj) k2
  have havl : ∀ a ∈ avl L seq, nearB L a k = false := fun a ha => by
    cases q : nearB L a k with
    | false => rfl
    | true => exact absurd ((mem_avl.mp ha).2.2 k k6 q) k2
  have hfold := push_fold ltE_ok (entK L (seq ++ [k])) (fun o ho => okE_ent ho) (fun o => ((rowsN L).getD o []).contains k && allIn (seq ++ [k]) ((rowsN L).getD o [])) (List.range 6) h2 (fun x hx => List.mem_range.mp hx) p2 p1
  have hfe : (fun (h : List D) (o : Nat) => if (((rowsN L).getD o []).contains k && allIn (seq ++ [k]) ((rowsN L).getD o [])) = true then hpush ltE h (entK L (seq ++ [k]) o) else h) = nuTurn (rowsN L) (seq ++ [k]) k := by
    funext h o
    unfold nuTurn entK
    by_cases c1 : ((rowsN L).getD o []).contains k = true
    · rw [if_pos c1, c1, Bool.true_and]
    · rw [if_neg c1, Bool.eq_false_iff.mpr c1]; rfl
  rw [hfe] at hfold
  obtain ⟨f1, f2, f3⟩ := hfold
  -- who is available now
  have newP : ∀ o, o < 6 → ((((rowsN L).getD o []).contains k && allIn (seq ++ [k]) ((rowsN L).getD o [])) = true ↔ nearB L o k = true ∧ ∀ z, z < 6 → nearB L o z = true → z ∈ seq ++ [k]) := fun o ho => by
    rw [Bool.and_eq_true, List.contains_iff_mem, mem_rowsN ho]
    constructor
    · rintro ⟨a, b⟩
      exact ⟨a.2, fun z hz q => posOf_isSome.mp (List.all_eq_true.mp b z ((mem_rowsN ho).mpr ⟨hz, q⟩))⟩
    · rintro ⟨a, b⟩
      exact ⟨⟨k6, a⟩, List.all_eq_true.mpr fun z hz => posOf_isSome.mpr (b z ((mem_rowsN ho).mp hz).1 ((mem_rowsN ho).mp hz).2)⟩
  have avl_nd : (avl L seq).Nodup := List.Pairwise.sublist List.filter_sublist List.nodup_range
  have hav : (avl L (seq ++ [k])).Perm (((List.range 6).filter fun o => ((rowsN L).getD o []).contains k && allIn (seq ++ [k]) ((rowsN L).getD o [])) ++ (avl L seq).erase k) := by
    have avl_nd' : (avl L (seq ++ [k])).Nodup := List.Pairwise.sublist List.filter_sublist List.nodup_range
    refine (List.perm_ext_iff_of_nodup avl_nd' (List.nodup_append.mpr ⟨List.Pairwise.sublist List.filter_sublist List.nodup_range, avl_nd.erase _, fun a ha b hb => ?_⟩)).mpr fun o => ?_
    · rintro rfl
      obtain ⟨h1, h2⟩ := List.mem_filter.mp ha
      have h3 := ((newP a (List.mem_range.mp h1)).mp h2).1
      rw [havl a (List.mem_of_mem_erase hb)] at h3
      cases h3
    · have e1 : o ∈ ((List.range 6).filter fun o => ((rowsN L).getD o []).contains k && allIn (seq ++ [k]) ((rowsN L).getD o [])) ++ (avl L seq).erase k ↔ (o < 6 ∧ (((rowsN L).getD o []).contains k && allIn (seq ++ [k]) ((rowsN L).getD o [])) = true) ∨ (o ≠ k ∧ o < 6 ∧ o ∉ seq ∧ ∀ z, z < 6 → nearB L o z = true → z ∈ seq) := by
        rw [List.mem_append, List.mem_filter, List.mem_range, avl_nd.mem_erase_iff, mem_avl]
      rw [mem_avl (seq := seq ++ [k]), e1]
      constructor
      · rintro ⟨a, b, c⟩
        have hok : o ≠ k := fun e => b (by rw [e]; simp)
        cases q : nearB L o k with
        | true => exact .inl ⟨a, (newP o a).mpr ⟨q, c⟩⟩
        | false =>
          refine .inr ⟨hok, a, fun q2 => b (List.mem_append_left _ q2), fun z hz q2 => ?_⟩
          rcases List.mem_append.mp (c z hz q2) with q3 | q3
          · exact q3
          · rw [List.mem_singleton.mp q3, q] at q2; cases q2
      · rintro (⟨a, b⟩ | ⟨a, b, c, d⟩)
        · obtain ⟨b1, b2⟩ := (newP o a).mp b
          refine ⟨a, fun q => ?_, b2⟩
          rcases List.mem_append.mp q with q | q
          · rw [hseq o q] at b1; cases b1
          · rw [List.mem_singleton.mp q, hkk] at b1; cases b1
        · refine ⟨b, fun q => ?_, fun z hz q => List.mem_append_left _ (d z hz q)⟩
          rcases List.mem_append.mp q with q | q
          · exact c q
          · exact a (List.mem_singleton.mp q)
  have stableE : ∀ o ∈ (avl L seq).erase k, entK L (seq ++ [k]) o = entK L seq o := fun o ho => by
    have ho2 := mem_avl.mp (List.mem_of_mem_erase ho)
    unfold entK
    congr 2
    unfold marksOf
    refine List.map_congr_left fun z hz => ?_
    obtain ⟨z1, z2⟩ := (mem_rowsN ho2.1).mp hz
    obtain ⟨j, hj⟩ := posOf_some (ho2.2.2 z z1 z2)
    unfold mk
    rw [posOf_append hj, hj]
  have min2 : ∀ o ∈ avl L seq, markM L seq k ≤ markM L seq o := fun o ho => ent_lt I.nd I.lt ho hk (hmin o ho)
  refine ⟨nd', lt', ?_, f1, f2, ?_, ?_, ?_⟩
  · intro z i hz y hy q
    by_cases hzs : z ∈ seq
    · obtain ⟨i', hi'⟩ := posOf_some hzs
      have := posOf_append (t := [k]) hi'
      rw [hz] at this; cases this
      obtain ⟨j, hj, hj'⟩ := I.ord z i hi' y hy q
      exact ⟨j, hj, posOf_append hj'⟩
    · have hzk : z = k := by
        rcases List.mem_append.mp (posOf_mem hz) with e | e
        · exact absurd e hzs
        · exact List.mem_singleton.mp e
      subst hzk
      have := posOf_new k2
      rw [hz] at this; cases this
      have hys : y ∈ seq := by
        rcases cov_down O k6 hy q with e | ⟨m, m6, e1, e2⟩
        · exact k3 y hy e
        · obtain ⟨i, hi⟩ := posOf_some (k3 m m6 e1)
          obtain ⟨j, _, hj⟩ := I.ord m i hi y hy e2
          exact posOf_mem hj
      obtain ⟨j, hj⟩ := posOf_some hys
      exact ⟨j, posOf_lt hj, posOf_append hj⟩
  · refine f3.trans ?_
    have e1 : ((avl L seq).erase k).map (entK L seq) = ((avl L seq).erase k).map (entK L (seq ++ [k])) := List.map_congr_left fun o ho => (stableE o ho).symm
    rw [e1] at p3
    refine ((List.Perm.refl _).append p3).trans ?_
    rw [← List.map_append]
    exact (hav.map _).symm
  · intro i a b ha hb
    by_cases q : i + 1 < seq.length
    · rw [List.getElem?_append_left (by omega)] at ha
      rw [List.getElem?_append_left q] at hb
      rw [mark_stable (hseq a (List.mem_of_getElem? ha)), mark_stable (hseq b (List.mem_of_getElem? hb))]
      exact I.cg i a b ha hb
    · have hlt : i + 1 < (seq ++ [k]).length := by
        rw [List.getElem?_eq_some_iff] at hb; exact hb.1
      have hi : i + 1 = seq.length := by simp at hlt; omega
      rw [List.getElem?_append_left (by omega)] at ha
      rw [List.getElem?_append_right (by omega), hi, Nat.sub_self] at hb
      cases hb
      rw [mark_stable (hseq a (List.mem_of_getElem? ha)), mark_stable hkk]
      refine I.last a ?_ k hk
      rw [List.getLast?_eq_getElem?, ← hi]; exact ha
  · intro k' hk' o ho
    have : k' = k := by simpa using hk'.symm
    subst this
    obtain ⟨o6, o2, o3⟩ := mem_avl.mp ho
    cases q : nearB L o k' with
    | false =>
      rw [mark_stable hkk, mark_stable q]
      refine min2 o (mem_avl.mpr ⟨o6, fun e => o2 (List.mem_append_left _ e), fun z hz e => ?_⟩)
      rcases List.mem_append.mp (o3 z hz e) with e2 | e2
      · exact e2
      · rw [List.mem_singleton.mp e2, q] at e; cases e
    | true =>
      have hl := le_len nd' lt'
      simp only [List.length_append, List.length_singleton] at hl
      have h1 : markM L (seq ++ [k']) k' < 2 ^ seq.length := lt_pow_of (ofB_lt _) fun j hj t => by
        have t := (ofB_test (markB L (seq ++ [k']) k') j hj).symm.trans t
        unfold markB at t
        by_cases e : j < seq.length
        · exact e
        · rw [List.getElem?_append_right (by omega)] at t
          by_cases e2 : j = seq.length
          · rw [e2, Nat.sub_self] at t
            have : nearB L k' k' = true := t
            rw [hkk] at this; cases this
          · rw [List.getElem?_eq_none (by simp; omega)] at t; cases t
      have h2 : (markM L (seq ++ [k']) o).testBit seq.length = true := by
        refine (ofB_test (markB L (seq ++ [k']) o) seq.length (by omega)).trans ?_
        unfold markB
        rw [List.getElem?_append_right (Nat.le_refl _), Nat.sub_self]
        exact q
      have h3 := Nat.ge_two_pow_of_testBit h2
      omega
end Mine
end

section
open PySem PySem.Calls PyProof.Rows PySem.W
set_option maxRecDepth 100000
set_option linter.unusedVariables false
namespace Mine
structure NumOk (L : Nat → Nat → Bool) (s : List Nat) : Prop where
  len : s.length = 6
  nd : s.Nodup
  lt : ∀ z ∈ s, z < 6
  ord : ∀ z i, posOf s z = some i → ∀ y, y < 6 → L z y = true → ∃ j, j < i ∧ posOf s y = some j
  cg : ∀ i a b, s[i]? = some a → s[i + 1]? = some b → markM L s a ≤ markM L s b
theorem avl_some {L : Nat → Nat → Bool} (O : OrdL L) {seq : List Nat} (nd : seq.Nodup) (lt : ∀ z ∈ seq, z < 6) (h : seq.length < 6) : avl L seq ≠ [] := by
  have hne : (List.range 6).filter (fun z => !seq.contains z) ≠ [] := fun e => by
    have := nodup_le (l := List.range 6) (l' := seq) List.nodup_range fun x hx => by
      by_cases q : x ∈ seq
      · exact q
      · have : x ∈ (List.range 6).filter fun z => !seq.contains z := List.mem_filter.mpr ⟨hx, by simpa using q⟩
        rw [e] at this; cases this
    simp at this; omega
  obtain ⟨m, hm, hmin⟩ := exists_min (r := fun a b => L b a) O.irr (fun i hi j hj k hk a b => O.tr k hk j hj i hi b a) _ hne fun x hx => List.mem_range.mp (List.mem_filter.mp hx).1
  obtain ⟨m1, m2⟩ := List.mem_filter.mp hm
  have m6 := List.mem_range.mp m1
  have : m ∈ avl L seq := mem_avl.mpr ⟨m6, by simpa using m2, fun z hz q => by
    by_cases hzs : z ∈ seq
    · exact hzs
    · have := hmin z (List.mem_filter.mpr ⟨List.mem_range.mpr hz, by simpa using hzs⟩)
      rw [(near_iff.mp q).1] at this; cases this⟩
  exact fun e => by rw [e] at this; cases this
theorem avl_none {L : Nat → Nat → Bool} {seq : List Nat} (nd : seq.Nodup) (lt : ∀ z ∈ seq, z < 6) (h : seq.length = 6) : avl L seq = [] := by
  cases e : avl L seq with
  | nil => rfl
  | cons a r =>
    have : a ∈ avl L seq := by rw [e]; exact .head _
    obtain ⟨a1, a2, _⟩ := mem_avl.mp this
    exact absurd (full_mem nd lt h a1) a2
theorem nu_run {L : Nat → Nat → Bool} (O : OrdL L) : ∀ (f : Nat) (h : List D) (seq : List Nat), f + seq.length = 6 → NInv L seq h → ∃ s, nuLoop (rowsN L) f h seq = some s ∧ NumOk L s
  | 0, h, seq, e, I => by
    have h0 := I.bag
    rw [avl_none I.nd I.lt (by omega)] at h0
    have : h = [] := h0.eq_nil
    subst this
    exact ⟨seq, rfl, by omega, I.nd, I.lt, I.ord, I.cg⟩
  | f + 1, h, seq, e, I => by
    cases h with
    | nil =>
      have h0 := I.bag.symm.eq_nil
      exact absurd (List.map_eq_nil_iff.mp h0) (avl_some O I.nd I.lt (by omega))
    | cons d h =>
      obtain ⟨s, h1, h2⟩ := nu_run O f _ (seq ++ [keyE (hpop ltE (d :: h)).1]) (by simp; omega) (nu_step O I nofun)
      exact ⟨s, h1, h2⟩
theorem numbers {L : Nat → Nat → Bool} (O : OrdL L) : ∃ s, nuLoop (rowsN L) 6 ((List.range 6).foldl (nu0 (rowsN L)) []) [] = some s ∧ NumOk L s := by
  obtain ⟨f1, f2, f3⟩ := push_fold ltE_ok (entN []) (fun o ho => okE_ent ho) (fun o => ((rowsN L).getD o []).isEmpty) (List.range 6) [] (fun x hx => List.mem_range.mp hx) (fun _ q => nomatch q) (fun i _ hi => by simp at hi)
  refine nu_run O 6 _ [] rfl (NInv.mk .nil (fun _ q => (nomatch q)) (fun _ _ q => (nomatch q)) f1 f2 ?_ (fun i a b q => (nomatch q)) (fun k q => (nomatch q)))
  rw [List.append_nil] at f3
  refine f3.trans ?_
  have e : avl L [] = (List.range 6).filter fun o => ((rowsN L).getD o []).isEmpty := by
    unfold avl
    refine List.filter_congr fun o _ => ?_
    show (true && allIn [] ((rowsN L).getD o [])) = _
    cases (rowsN L).getD o [] <;> rfl
  rw [e]
  have e2 : ((List.range 6).filter fun o => ((rowsN L).getD o []).isEmpty).map (entN []) = ((List.range 6).filter fun o => ((rowsN L).getD o []).isEmpty).map (entK L []) := by
    refine List.map_congr_left fun o ho => ?_
    have := (List.mem_filter.mp ho).2
    unfold entK
    cases q : (rowsN L).getD o [] with
    | nil => rfl
    | cons a r => rw [q] at this; cases this
  rw [e2]
end Mine
end

section
open PySem PySem.Calls PyProof.Rows PySem.W
set_option maxRecDepth 100000
set_option linter.unusedVariables false
namespace Mine
/-! the lines by their numbers -/
noncomputable def sg (s : List Nat) (i : Nat) : Nat := s.getD i 0
noncomputable def relR (L : Nat → Nat → Bool) (s : List Nat) (i j : Nat) : Bool := L (sg s i) (sg s j)
theorem sg_at {L : Nat → Nat → Bool} {s : List Nat} (N : NumOk L s) {i : Nat} (hi : i < 6) : s[i]? = some (sg s i) ∧ sg s i < 6 ∧ posOf s (sg s i) = some i := by
  have hl : i < s.length := by rw [N.len]; exact hi
  have e : s[i]? = some (sg s i) := by unfold sg; rw [List.getD_eq_getElem?_getD, List.getElem?_eq_getElem hl]; rfl
  exact ⟨e, N.lt _ (List.mem_of_getElem? e), posOf_nd N.nd e⟩
theorem pos_at {L : Nat → Nat → Bool} {s : List Nat} (N : NumOk L s) {k : Nat} (hk : k < 6) : ∃ i, i < 6 ∧ sg s i = k ∧ posOf s k = some i := by
  obtain ⟨i, hi⟩ := posOf_some (full_mem N.nd N.lt N.len hk)
  have h6 : i < 6 := by have := posOf_lt hi; rw [N.len] at this; exact this
  have e := posOf_get hi
  exact ⟨i, h6, by unfold sg; rw [List.getD_eq_getElem?_getD, e]; rfl, hi⟩
theorem sg_inj {L : Nat → Nat → Bool} {s : List Nat} (N : NumOk L s) {i j : Nat} (hi : i < 6) (hj : j < 6) (h : sg s i = sg s j) : i = j := by
  have a := (sg_at N hi).2.2
  have b := (sg_at N hj).2.2
  rw [h, b] at a; cases a; rfl
theorem nato {L : Nat → Nat → Bool} (O : OrdL L) {s : List Nat} (N : NumOk L s) : Nato (relR L s) := by
  refine ⟨fun i hi j hj h => ?_, fun i hi j hj k hk a b => O.tr _ (sg_at N hi).2.1 _ (sg_at N hj).2.1 _ (sg_at N hk).2.1 a b⟩
  obtain ⟨j', h1, h2⟩ := N.ord _ i (sg_at N hi).2.2 _ (sg_at N hj).2.1 h
  rw [(sg_at N hj).2.2] at h2
  cases h2; exact h1
theorem ofB_congr {p q : Nat → Bool} (h : ∀ i, i < 6 → p i = q i) : ofB p = ofB q := by
  unfold ofB
  rw [h 0 (by decide), h 1 (by decide), h 2 (by decide), h 3 (by decide), h 4 (by decide), h 5 (by decide)]
theorem near_rel {L : Nat → Nat → Bool} {s : List Nat} (N : NumOk L s) {i j : Nat} (hi : i < 6) (hj : j < 6) : nearB (relR L s) i j = nearB L (sg s i) (sg s j) := by
  rw [Bool.eq_iff_iff, near_iff, near_iff]
  refine and_congr Iff.rfl ⟨fun h z hz q => ?_, fun h k hk q => h _ (sg_at N hk).2.1 q⟩
  obtain ⟨k, hk, e, _⟩ := pos_at N hz
  subst e
  exact h k hk q
theorem near_mark {L : Nat → Nat → Bool} {s : List Nat} (N : NumOk L s) {i : Nat} (hi : i < 6) : nearM (relR L s) i = markM L s (sg s i) :=
  ofB_congr fun j hj => by
    unfold markB
    rw [(sg_at N hj).1]
    exact near_rel N hi hj
theorem cg_rel {L : Nat → Nat → Bool} {s : List Nat} (N : NumOk L s) : ∀ i, i + 1 < 6 → nearM (relR L s) i ≤ nearM (relR L s) (i + 1) := fun i hi => by
  rw [near_mark N (by omega), near_mark N hi]
  exact N.cg i _ _ (sg_at N (by omega)).1 (sg_at N hi).1
/-! the heap of the hands -/
noncomputable def avh (L : Nat → Nat → Bool) (done : List Nat) : List Nat := (List.range 6).filter fun k => !done.contains k && ((needsM (rowsN L)).getD k []).all fun z => done.contains z
noncomputable def entH (s : List Nat) (k : Nat) : D := pairN (((List.range 6).map (mk s)).getD k 0) k
theorem needs_at (L : Nat → Nat → Bool) {j : Nat} (hj : j < 6) : (needsM (rowsN L)).getD j [] = (List.range 6).filter fun k => ((rowsN L).getD k []).contains j := by
  unfold needsM
  rw [List.getD_eq_getElem?_getD, List.getElem?_map, List.getElem?_range hj]; rfl
theorem mem_needs {L : Nat → Nat → Bool} {j k : Nat} (hj : j < 6) : k ∈ (needsM (rowsN L)).getD j [] ↔ k < 6 ∧ nearB L k j = true := by
  rw [needs_at L hj, List.mem_filter, List.mem_range]
  constructor
  · rintro ⟨a, b⟩
    rw [List.contains_iff_mem] at b
    exact ⟨a, ((mem_rowsN a).mp b).2⟩
  · rintro ⟨a, b⟩
    exact ⟨a, by rw [List.contains_iff_mem]; exact (mem_rowsN a).mpr ⟨hj, b⟩⟩
theorem mem_avh {L : Nat → Nat → Bool} {done : List Nat} {k : Nat} : k ∈ avh L done ↔ k < 6 ∧ k ∉ done ∧ ∀ z, z < 6 → nearB L z k = true → z ∈ done := by
  unfold avh
  rw [List.mem_filter, List.mem_range, Bool.and_eq_true, Bool.not_eq_true', ← Bool.not_eq_true, List.contains_iff_mem, List.all_eq_true]
  constructor
  · rintro ⟨a, b, c⟩
    exact ⟨a, b, fun z hz q => by simpa using c z ((mem_needs a).mpr ⟨hz, q⟩)⟩
  · rintro ⟨a, b, c⟩
    exact ⟨a, b, fun z hz => by simpa using c z ((mem_needs a).mp hz).1 ((mem_needs a).mp hz).2⟩
theorem avh_nd (L : Nat → Nat → Bool) (done : List Nat) : (avh L done).Nodup := List.Pairwise.sublist List.filter_sublist List.nodup_range
/-- done is closed -/
noncomputable def Closed (L : Nat → Nat → Bool) (done : List Nat) : Prop := ∀ y ∈ done, y < 6 ∧ ∀ x, x < 6 → L x y = true → x ∈ done
theorem avh_all {L : Nat → Nat → Bool} (O : OrdL L) {done : List Nat} (C : Closed L done) {k : Nat} (hk : k ∈ avh L done) : ∀ x, x < 6 → L x k = true → x ∈ done := fun x hx q => by
  obtain ⟨k6, _, k3⟩ := mem_avh.mp hk
  rcases cov_up O hx k6 q with e | ⟨z, z6, e1, e2⟩
  · exact k3 x hx e
  · exact (C z (k3 z z6 e2)).2 x hx e1
theorem Closed.add {L : Nat → Nat → Bool} (O : OrdL L) {done t : List Nat} (C : Closed L done) (ht : ∀ x ∈ t, x ∈ avh L done) : Closed L (done ++ t) := fun y hy => by
  rcases List.mem_append.mp hy with q | q
  · exact ⟨(C y q).1, fun x hx e => List.mem_append_left _ ((C y q).2 x hx e)⟩
  · exact ⟨(mem_avh.mp (ht y q)).1, fun x hx e => List.mem_append_left _ (avh_all O C (ht y q) x hx e)⟩
theorem entH_mk (s : List Nat) {k : Nat} (hk : k < 6) : entH s k = pairN (mk s k) k := by
  unfold entH
  rw [List.getD_eq_getElem?_getD, List.getElem?_map, List.getElem?_range hk]; rfl
theorem entH_lt {L : Nat → Nat → Bool} {s : List Nat} (N : NumOk L s) {i j : Nat} (hi : i < 6) (hj : j < 6) (h : ltP (entH s (sg s j)) (entH s (sg s i)) = false) : j ≤ i := by
  rw [entH_mk s (sg_at N hi).2.1, entH_mk s (sg_at N hj).2.1] at h
  have m1 : mk s (sg s i) = i + 1 := by unfold mk; rw [(sg_at N hi).2.2]; rfl
  have m2 : mk s (sg s j) = j + 1 := by unfold mk; rw [(sg_at N hj).2.2]; rfl
  unfold ltP at h
  rw [pairOf_pair, pairOf_pair, m1, m2] at h
  unfold lexLt at h
  by_cases e : (-((j + 1 : Nat) : Int)) = -((i + 1 : Nat) : Int)
  · omega
  · rw [if_neg e] at h
    have := of_decide_eq_false h
    omega
noncomputable def pushB (L : Nat → Nat → Bool) (t done' : List Nat) (k : Nat) : Bool := !(((needsM (rowsN L)).getD k []).filter fun o => t.contains o).isEmpty && (((needsM (rowsN L)).getD k []).filter fun o => !done'.contains o).isEmpty
theorem pushB_iff {L : Nat → Nat → Bool} {t done' : List Nat} {k : Nat} (hk : k < 6) : pushB L t done' k = true ↔ (∃ z, z < 6 ∧ nearB L z k = true ∧ z ∈ t) ∧ ∀ z, z < 6 → nearB L z k = true → z ∈ done' := by
  unfold pushB
  rw [Bool.and_eq_true, Bool.not_eq_true', List.isEmpty_eq_false_iff, List.isEmpty_iff, List.filter_eq_nil_iff]
  constructor
  · rintro ⟨a, b⟩
    obtain ⟨z, hz⟩ := List.exists_mem_of_ne_nil _ a
    obtain ⟨h1, h2⟩ := List.mem_filter.mp hz
    obtain ⟨z1, z2⟩ := (mem_needs hk).mp h1
    refine ⟨⟨z, z1, z2, by simpa using h2⟩, fun z hz q => ?_⟩
    have := b z ((mem_needs hk).mpr ⟨hz, q⟩)
    simpa using this
  · rintro ⟨⟨z, z1, z2, z3⟩, b⟩
    refine ⟨fun e => ?_, fun z hz => ?_⟩
    · have : z ∈ ((needsM (rowsN L)).getD k []).filter fun o => t.contains o := List.mem_filter.mpr ⟨(mem_needs hk).mpr ⟨z1, z2⟩, by simpa using z3⟩
      rw [e] at this; cases this
    · have := b z ((mem_needs hk).mp hz).1 ((mem_needs hk).mp hz).2
      simpa using this
theorem bag_step {L : Nat → Nat → Bool} {done t l2 : List Nat} (C : Closed L done) (ht : ∀ x ∈ t, x ∈ avh L done) (n2 : l2.Nodup) (m2 : ∀ k, k ∈ l2 ↔ k ∈ avh L done ∧ k ∉ t) : (avh L (done ++ t)).Perm ((List.range 6).filter (pushB L t (done ++ t)) ++ l2) := by
  refine (List.perm_ext_iff_of_nodup (avh_nd L _) (List.nodup_append.mpr ⟨List.Pairwise.sublist List.filter_sublist List.nodup_range, n2, fun a ha b hb => ?_⟩)).mpr fun k => ?_
  · rintro rfl
    obtain ⟨h1, h2⟩ := List.mem_filter.mp ha
    obtain ⟨⟨z, z6, z1, z2⟩, _⟩ := (pushB_iff (List.mem_range.mp h1)).mp h2
    have := (mem_avh.mp ((m2 a).mp hb).1).2.2 z z6 z1
    exact (mem_avh.mp (ht z z2)).2.1 this
  · have e1 : k ∈ (List.range 6).filter (pushB L t (done ++ t)) ++ l2 ↔ (k < 6 ∧ pushB L t (done ++ t) k = true) ∨ (k ∈ avh L done ∧ k ∉ t) := by
      rw [List.mem_append, List.mem_filter, List.mem_range, m2]
    rw [mem_avh (done := done ++ t), e1]
    constructor
    · rintro ⟨a, b, c⟩
      by_cases q : ∃ z, z < 6 ∧ nearB L z k = true ∧ z ∈ t
      · exact .inl ⟨a, (pushB_iff a).mpr ⟨q, c⟩⟩
      · refine .inr ⟨mem_avh.mpr ⟨a, fun e => b (List.mem_append_left _ e), fun z hz e => ?_⟩, fun e => b (List.mem_append_right _ e)⟩
        rcases List.mem_append.mp (c z hz e) with h | h
        · exact h
        · exact absurd ⟨z, hz, e, h⟩ q
    · rintro (⟨a, b⟩ | ⟨a, b⟩)
      · obtain ⟨⟨z, z6, z1, z2⟩, c⟩ := (pushB_iff a).mp b
        refine ⟨a, fun e => ?_, c⟩
        have hzd := (mem_avh.mp (ht z z2)).2.1
        rcases List.mem_append.mp e with h | h
        · exact hzd ((C k h).2 z z6 (near_iff.mp z1).1)
        · exact hzd ((mem_avh.mp (ht k h)).2.2 z z6 z1)
      · obtain ⟨a1, a2, a3⟩ := mem_avh.mp a
        refine ⟨a1, fun e => ?_, fun z hz e => List.mem_append_left _ (a3 z hz e)⟩
        rcases List.mem_append.mp e with h | h
        · exact a2 h
        · exact b h
theorem av_iff {L : Nat → Nat → Bool} (O : OrdL L) {s : List Nat} (N : NumOk L s) {done : List Nat} (C : Closed L done) {d : Nat → Bool} (hd : ∀ i, i < 6 → (d i = true ↔ sg s i ∈ done)) {i : Nat} (hi : i < 6) : Av (relR L s) d i ↔ sg s i ∈ avh L done := by
  have hf : ∀ i, i < 6 → (d i = false ↔ sg s i ∉ done) := fun i hi => by rw [← hd i hi]; cases d i <;> simp
  unfold Av
  rw [hf i hi]
  constructor
  · rintro ⟨a, b⟩
    refine mem_avh.mpr ⟨(sg_at N hi).2.1, a, fun z hz q => ?_⟩
    obtain ⟨j, hj, e, _⟩ := pos_at N hz
    subst e
    by_cases h : sg s j ∈ done
    · exact h
    · have := b j hj ((hf j hj).mpr h)
      unfold relR at this
      rw [(near_iff.mp q).1] at this; cases this
  · intro h
    refine ⟨(mem_avh.mp h).2.1, fun j hj q => ?_⟩
    cases e : relR L s j i with
    | false => rfl
    | true => exact absurd (avh_all O C h _ (sg_at N hj).2.1 e) ((hf j hj).mp q)
end Mine
end

section
open PySem PySem.Calls PyProof.Rows PySem.W
set_option maxRecDepth 100000
set_option linter.unusedVariables false
namespace Mine
theorem hdTurn_eq (L : Nat → Nat → Bool) (s t done' : List Nat) : hdTurn (needsM (rowsN L)) ((List.range 6).map (mk s)) t done' = fun (h : List D) (k : Nat) => if pushB L t done' k = true then hpush ltP h (entH s k) else h := by
  funext h k
  unfold hdTurn pushB entH
  by_cases h1 : (((needsM (rowsN L)).getD k []).filter fun o => t.contains o).isEmpty = true
  · rw [if_pos h1, h1]; rfl
  · rw [if_neg h1, Bool.eq_false_iff.mpr h1]
    by_cases h2 : (((needsM (rowsN L)).getD k []).filter fun o => !done'.contains o).isEmpty = true
    · rw [if_pos h2, h2]; rfl
    · rw [if_neg h2, Bool.eq_false_iff.mpr h2]; rfl
structure HInv (L : Nat → Nat → Bool) (s done : List Nat) (h : List D) : Prop where
  cl : Closed L done
  hp : HeapI ltP h
  ok : ∀ d ∈ h, okP d
  bag : h.Perm ((avh L done).map (entH s))
theorem okH (s : List Nat) (k : Nat) (hk : k < 6) : okP (entH s k) := okP_pair hk
theorem HInv.next {L : Nat → Nat → Bool} (O : OrdL L) {s done t l2 : List Nat} {h h2 : List D} (I : HInv L s done h) (ht : ∀ x ∈ t, x ∈ avh L done) (n2 : l2.Nodup) (m2 : ∀ k, k ∈ l2 ↔ k ∈ avh L done ∧ k ∉ t) (p1 : HeapI ltP h2) (p2 : ∀ d ∈ h2, okP d) (p3 : h2.Perm (l2.map (entH s))) :
    HInv L s (done ++ t) ((List.range 6).foldl (hdTurn (needsM (rowsN L)) ((List.range 6).map (Mine.mk s)) t (done ++ t)) h2) := by
  obtain ⟨f1, f2, f3⟩ := push_fold ltP_ok (entH s) (okH s) (pushB L t (done ++ t)) (List.range 6) h2 (fun x hx => List.mem_range.mp hx) p2 p1
  rw [hdTurn_eq]
  refine ⟨I.cl.add O ht, f1, f2, f3.trans (((List.Perm.refl _).append p3).trans ?_)⟩
  rw [← List.map_append]
  exact ((bag_step I.cl ht n2 m2).map _).symm
theorem hdLoop_nil (needs : List (List Nat)) (nums : List Nat) (f : Nat) (sc : List (List Nat)) : hdLoop needs nums f [] sc = some sc := by cases f <;> rfl
theorem upd_says {L : Nat → Nat → Bool} {s : List Nat} (N : NumOk L s) {done : List Nat} {d : Nat → Bool} (hd : ∀ i, i < 6 → (d i = true ↔ sg s i ∈ done)) {x : Nat} (hx : x < 6) {t : List Nat} : ∀ i, i < 6 → (upd d x i = true ↔ sg s i ∈ done ++ [sg s x]) := fun i hi => by
  unfold upd
  rw [Bool.or_eq_true, hd i hi, List.mem_append, List.mem_singleton]
  refine or_congr Iff.rfl ⟨fun e => by rw [show i = x by simpa using e], fun e => by simpa using sg_inj N hi hx e⟩
theorem hd_run {L : Nat → Nat → Bool} (O : OrdL L) {s : List Nat} (N : NumOk L s) {W : Nat} {d : Nat → Bool} {tt : Nat} {sc : List (List Nat)} (hr : Run (relR L s) W d tt sc) : ∀ (f : Nat) (h : List D) (scL : List (List Nat)), sc.length ≤ f → (∀ i, i < 6 → (d i = true ↔ sg s i ∈ scL.flatten)) → HInv L s scL.flatten h →
    hdLoop (needsM (rowsN L)) ((List.range 6).map (mk s)) f h scL = some (scL ++ sc.map fun r => r.map (sg s)) := by
  induction hr with
  | fin h1 h2 =>
    intro f h scL hf hd I
    have : avh L scL.flatten = [] := by
      cases e : avh L scL.flatten with
      | nil => rfl
      | cons a r =>
        have ha : a ∈ avh L scL.flatten := by rw [e]; exact .head _
        obtain ⟨a6, a2, _⟩ := mem_avh.mp ha
        obtain ⟨i, hi, ei, _⟩ := pos_at N a6
        subst ei
        exact absurd ((hd i hi).mp (h1 i hi)) a2
    have hb := I.bag
    rw [this] at hb
    have : h = [] := hb.eq_nil
    subst this
    rw [hdLoop_nil]; simp
  | @one d t x rest hx hav ho hal _ ih =>
    intro f h scL hf hd I
    have hxa := (av_iff O N I.cl hd hx).mp hav
    have only : ∀ k ∈ avh L scL.flatten, k = sg s x := fun k hk => by
      obtain ⟨i, hi, e, _⟩ := pos_at N (mem_avh.mp hk).1
      subst e
      rw [ho i hi ((av_iff O N I.cl hd hi).mpr hk)]
    have hne : h ≠ [] := fun e => by
      subst e
      have := I.bag.symm.eq_nil
      rw [List.map_eq_nil_iff.mp this] at hxa; cases hxa
    obtain ⟨k, hk, ek, _, p1, p2, p3⟩ := pop_bag ltP_ok (entH s) hne I.ok I.hp I.bag
    rw [only k hk] at ek p3
    have he : (avh L scL.flatten).erase (sg s x) = [] := by
      cases q : (avh L scL.flatten).erase (sg s x) with
      | nil => rfl
      | cons a r =>
        have ha : a ∈ (avh L scL.flatten).erase (sg s x) := by rw [q]; exact .head _
        obtain ⟨h1, h2⟩ := (avh_nd L _).mem_erase_iff.mp ha
        exact absurd (only a h2) h1
    rw [he] at p3
    have h2 : (hpop ltP h).2 = [] := p3.eq_nil
    have htake : hdTake h = ([sg s x], []) := by
      unfold hdTake
      rw [h2, ek, entH_mk s (sg_at N hx).2.1, keyP_pair]
    obtain ⟨f, rfl⟩ : ∃ g, f = g + 1 := ⟨f - 1, by simp at hf; omega⟩
    cases h with
    | nil => exact absurd rfl hne
    | cons d0 h =>
      unfold hdLoop
      rw [htake]
      dsimp only
      have ef : (scL ++ [[sg s x]]).flatten = scL.flatten ++ [sg s x] := by simp
      have I2 := I.next O (t := [sg s x]) (l2 := []) (h2 := []) (fun y hy => by rw [List.mem_singleton.mp hy]; exact hxa) .nil (fun k => ⟨fun q => (nomatch q), fun ⟨q1, q2⟩ => absurd (by rw [only k q1]; exact .head _) q2⟩) (fun i _ hi => by simp at hi) (fun _ q => nomatch q) (.refl _)
      have := ih f ((List.range 6).foldl (hdTurn (needsM (rowsN L)) ((List.range 6).map (mk s)) [sg s x] (scL.flatten ++ [sg s x])) []) (scL ++ [[sg s x]]) (by simp at hf; omega) (by rw [ef]; exact upd_says N hd hx (t := [])) (by rw [ef]; exact I2)
      rw [ef, this]; simp
  | @two d t x y rest hx hy hax hay hmx hmy hyx _ ih =>
    intro f h scL hf hd I
    have hxa := (av_iff O N I.cl hd hx).mp hax
    have hya := (av_iff O N I.cl hd hy).mp hay
    have hne : h ≠ [] := fun e => by
      subst e
      have := I.bag.symm.eq_nil
      rw [List.map_eq_nil_iff.mp this] at hxa; cases hxa
    obtain ⟨k, hk, ek, kmin, p1, p2, p3⟩ := pop_bag ltP_ok (entH s) hne I.ok I.hp I.bag
    have hkx : k = sg s x := by
      obtain ⟨i, hi, e, _⟩ := pos_at N (mem_avh.mp hk).1
      subst e
      have a := hmx i hi ((av_iff O N I.cl hd hi).mpr hk)
      have b := entH_lt N hi hx (kmin _ hxa)
      rw [show i = x by omega]
    subst hkx
    have hys : sg s y ∈ (avh L scL.flatten).erase (sg s x) := (avh_nd L _).mem_erase_iff.mpr ⟨fun e => by have := sg_inj N hy hx e; omega, hya⟩
    have hne2 : (hpop ltP h).2 ≠ [] := fun e => by
      rw [e] at p3
      have := p3.symm.eq_nil
      rw [List.map_eq_nil_iff.mp this] at hys; cases hys
    obtain ⟨k', hk', ek', kmin', q1, q2, q3⟩ := pop_bag ltP_ok (entH s) hne2 p2 p1 p3
    have hky : k' = sg s y := by
      obtain ⟨h1, h2⟩ := (avh_nd L _).mem_erase_iff.mp hk'
      obtain ⟨i, hi, e, _⟩ := pos_at N (mem_avh.mp h2).1
      subst e
      have a := hmy i hi ((av_iff O N I.cl hd hi).mpr h2) (fun e => h1 (by rw [e]))
      have b := entH_lt N hi hy (kmin' _ hys)
      rw [show i = y by omega]
    subst hky
    have htake : hdTake h = ([sg s x, sg s y], (hpop ltP (hpop ltP h).2).2) := by
      unfold hdTake
      cases hg : (hpop ltP h).2 with
      | nil => exact absurd hg hne2
      | cons e g =>
        rw [hg] at ek'
        dsimp only
        rw [ek, ek', entH_mk s (sg_at N hx).2.1, entH_mk s (sg_at N hy).2.1, keyP_pair, keyP_pair]
    obtain ⟨f, rfl⟩ : ∃ g, f = g + 1 := ⟨f - 1, by simp at hf; omega⟩
    generalize (hpop ltP (hpop ltP h).2).2 = h3 at htake q1 q2 q3
    cases h with
    | nil => exact absurd rfl hne
    | cons d0 h =>
      unfold hdLoop
      rw [htake]
      dsimp only
      have ef : (scL ++ [[sg s x, sg s y]]).flatten = scL.flatten ++ [sg s x, sg s y] := by simp
      have I2 := I.next O (t := [sg s x, sg s y]) (h2 := h3) (fun z hz => by
        rcases List.mem_cons.mp hz with rfl | hz
        · exact hxa
        · rw [List.mem_singleton.mp hz]; exact hya) (((avh_nd L _).erase _).erase _) (fun k => by
          rw [((avh_nd L _).erase _).mem_erase_iff, (avh_nd L _).mem_erase_iff]
          constructor
          · rintro ⟨a, b, c⟩
            exact ⟨c, fun e => by
              rcases List.mem_cons.mp e with e | e
              · exact b e
              · exact a (List.mem_singleton.mp e)⟩
          · rintro ⟨a, b⟩
            exact ⟨fun e => b (by rw [e]; simp), fun e => b (by rw [e]; simp), a⟩) q1 q2 q3
      have hd2 : ∀ i, i < 6 → (upd (upd d x) y i = true ↔ sg s i ∈ (scL ++ [[sg s x, sg s y]]).flatten) := fun i hi => by
        have := upd_says N (upd_says N hd hx (t := [])) hy (t := []) i hi
        rw [this, ef, List.append_assoc]; rfl
      have := ih f ((List.range 6).foldl (hdTurn (needsM (rowsN L)) ((List.range 6).map (mk s)) [sg s x, sg s y] (scL.flatten ++ [sg s x, sg s y])) h3) (scL ++ [[sg s x, sg s y]]) (by simp at hf; omega) hd2 (by rw [ef]; exact I2)
      rw [ef, this]; simp
theorem hands {L : Nat → Nat → Bool} (O : OrdL L) {s : List Nat} (N : NumOk L s) : ∃ sc, Facts (relR L s) (pack (relR L s) 6) (fun _ => false) 0 sc ∧ hdLoop (needsM (rowsN L)) ((List.range 6).map (mk s)) 6 ((List.range 6).foldl (hd0 (needsM (rowsN L)) ((List.range 6).map (mk s))) []) [] = some (sc.map fun r => r.map (sg s)) := by
  obtain ⟨sc, hr⟩ := run_all (relR L s) (nato O N) (cg_rel N)
  have F := run_facts hr
  have hlen : sc.length ≤ 6 := by
    have h1 : sc.flatten.length ≤ 6 := le_len F.nd fun z hz => (F.inn z hz).1
    have h2 : ∀ l : List (List Nat), (∀ r ∈ l, 1 ≤ r.length ∧ r.length ≤ 2) → l.length ≤ l.flatten.length := by
      intro l
      induction l with
      | nil => intro _; exact Nat.le_refl _
      | cons a r ih =>
        intro h
        have := ih fun x hx => h x (.tail _ hx)
        have := (h a (.head _)).1
        simp only [List.length_cons, List.flatten_cons, List.length_append]; omega
    exact Nat.le_trans (h2 sc F.row) h1
  refine ⟨sc, F, ?_⟩
  obtain ⟨f1, f2, f3⟩ := push_fold ltP_ok (entH s) (okH s) (fun k => ((needsM (rowsN L)).getD k []).isEmpty) (List.range 6) [] (fun x hx => List.mem_range.mp hx) (fun _ q => nomatch q) (fun i _ hi => by simp at hi)
  have e : avh L [] = (List.range 6).filter fun k => ((needsM (rowsN L)).getD k []).isEmpty := by
    unfold avh
    refine List.filter_congr fun k _ => ?_
    show (true && ((needsM (rowsN L)).getD k []).all fun z => ([] : List Nat).contains z) = _
    cases (needsM (rowsN L)).getD k [] <;> rfl
  have := hd_run O N hr 6 ((List.range 6).foldl (hd0 (needsM (rowsN L)) ((List.range 6).map (mk s))) []) [] hlen (fun i _ => by simp) ⟨fun _ q => (nomatch q), f1, f2, by show List.Perm _ ((avh L []).map (entH s)); rw [e]; rw [List.append_nil] at f3; exact f3⟩
  rw [this]; rfl
end Mine
end

section
open PySem PySem.Calls PyProof.Rows PySem.W
set_option maxRecDepth 100000
set_option linter.unusedVariables false
namespace Mine
/-! the schedule, line by line -/
theorem good_map {L : Nat → Nat → Bool} (s : List Nat) : ∀ sc : List (List Nat), Good (relR L s) sc → Good L (sc.map fun r => r.map (sg s))
  | [], _ => trivial
  | r :: rest, h => by
    obtain ⟨h1, h2, h3, h4⟩ := h
    have fl : ∀ y, y ∈ (rest.map fun r => r.map (sg s)).flatten → ∃ z ∈ rest.flatten, sg s z = y := fun y hy => by
      rw [← List.map_flatten] at hy
      obtain ⟨z, hz, e⟩ := List.mem_map.mp hy
      exact ⟨z, hz, e⟩
    refine ⟨fun x hx y hy => ?_, fun y hy x hx => ?_, fun hl x hx y hy => ?_, good_map s rest h4⟩
    · obtain ⟨a, ha, rfl⟩ := List.mem_map.mp hx
      obtain ⟨b, hb, rfl⟩ := List.mem_map.mp hy
      exact h1 a ha b hb
    · obtain ⟨b, hb, rfl⟩ := List.mem_map.mp hy
      obtain ⟨a, ha, rfl⟩ := fl x hx
      exact h2 b hb a ha
    · obtain ⟨a, ha, rfl⟩ := List.mem_map.mp hx
      obtain ⟨b, hb, rfl⟩ := fl y hy
      exact h3 (by simpa using hl) a ha b hb
noncomputable def wIdx : List (List Nat) → Nat → Nat
  | [], _ => 0
  | r :: rest, k => if r.contains k = true then 0 else wIdx rest k + 1
theorem when_none : ∀ (sc : List (List Nat)) (k : Nat), k ∉ sc.flatten → whenM sc k = []
  | [], _, _ => rfl
  | r :: rest, k, h => by
    have ih := when_none rest k fun q => h (by simp only [List.flatten_cons, List.mem_append]; exact .inr q)
    unfold whenM at ih ⊢
    rw [List.length_cons, List.range_succ_eq_map, List.filter_cons, List.filter_map]
    have e1 : ((r :: rest).getD 0 []).contains k = false := by
      show r.contains k = false
      rw [← Bool.not_eq_true, List.contains_iff_mem]
      exact fun q => h (by simp only [List.flatten_cons, List.mem_append]; exact .inl q)
    rw [e1, if_neg (by decide)]
    have e2 : ((fun i => ((r :: rest).getD i []).contains k) ∘ Nat.succ) = fun i => (rest.getD i []).contains k := rfl
    rw [e2, ih]; rfl
theorem when_idx : ∀ (sc : List (List Nat)) (k : Nat), sc.flatten.Nodup → k ∈ sc.flatten → whenM sc k = [wIdx sc k]
  | [], _, _, h => nomatch h
  | r :: rest, k, nd, h => by
    rw [List.flatten_cons] at nd h
    obtain ⟨n1, n2, n3⟩ := List.nodup_append.mp nd
    by_cases q : k ∈ r
    · have hn : k ∉ rest.flatten := fun e => n3 k q k e rfl
      have ih := when_none rest k hn
      unfold whenM at ih ⊢
      rw [List.length_cons, List.range_succ_eq_map, List.filter_cons, List.filter_map]
      have e1 : ((r :: rest).getD 0 []).contains k = true := List.contains_iff_mem.mpr q
      have e2 : ((fun i => ((r :: rest).getD i []).contains k) ∘ Nat.succ) = fun i => (rest.getD i []).contains k := rfl
      rw [e1, if_pos rfl, e2, ih]
      show [0] = [if r.contains k = true then 0 else _]
      rw [if_pos (List.contains_iff_mem.mpr q)]
    · have hm : k ∈ rest.flatten := (List.mem_append.mp h).resolve_left q
      have ih := when_idx rest k n2 hm
      have hc : r.contains k = false := by rw [← Bool.not_eq_true, List.contains_iff_mem]; exact q
      unfold whenM at ih ⊢
      rw [List.length_cons, List.range_succ_eq_map, List.filter_cons, List.filter_map]
      have e1 : ((r :: rest).getD 0 []).contains k = false := hc
      have e2 : ((fun i => ((r :: rest).getD i []).contains k) ∘ Nat.succ) = fun i => (rest.getD i []).contains k := rfl
      rw [e1, if_neg (by decide), e2, ih]
      show [wIdx rest k + 1] = [if r.contains k = true then 0 else wIdx rest k + 1]
      rw [hc, if_neg (by decide)]
theorem good_ord {L : Nat → Nat → Bool} : ∀ (sc : List (List Nat)), Good L sc → ∀ i j, i ∈ sc.flatten → j ∈ sc.flatten → L i j = true → wIdx sc i < wIdx sc j
  | [], _, _, _, h, _, _ => nomatch h
  | r :: rest, G, i, j, hi, hj, h => by
    obtain ⟨g1, g2, g3, g4⟩ := G
    rw [List.flatten_cons, List.mem_append] at hi hj
    have hjr : j ∉ r := fun q => by
      rcases hi with a | a
      · rw [g1 i a j q] at h; cases h
      · rw [g2 j q i a] at h; cases h
    have hcj : r.contains j = false := by rw [← Bool.not_eq_true, List.contains_iff_mem]; exact hjr
    unfold wIdx
    rw [hcj, if_neg (show ¬ false = true by decide)]
    by_cases q : i ∈ r
    · rw [if_pos (List.contains_iff_mem.mpr q)]; omega
    · rw [if_neg (by rw [List.contains_iff_mem]; exact q)]
      have := good_ord rest g4 i j (hi.resolve_left q) (hj.resolve_left hjr) h
      omega
theorem good_alone {L : Nat → Nat → Bool} : ∀ (sc : List (List Nat)), Good L sc → ∀ i j, i ∈ sc.flatten → j ∈ sc.flatten → (sc.getD (wIdx sc i) []).length = 1 → wIdx sc i < wIdx sc j → L i j = true
  | [], _, _, _, h, _, _, _ => nomatch h
  | r :: rest, G, i, j, hi, hj, hl, h => by
    obtain ⟨g1, g2, g3, g4⟩ := G
    rw [List.flatten_cons, List.mem_append] at hi hj
    unfold wIdx at h hl
    by_cases qj : j ∈ r
    · rw [if_pos (List.contains_iff_mem.mpr qj)] at h; omega
    · rw [if_neg (show ¬ r.contains j = true by rw [List.contains_iff_mem]; exact qj)] at h
      by_cases q : i ∈ r
      · rw [if_pos (List.contains_iff_mem.mpr q)] at hl
        exact g3 hl i q j (hj.resolve_left qj)
      · have hci : ¬ r.contains i = true := by rw [List.contains_iff_mem]; exact q
        rw [if_neg hci] at hl h
        exact good_alone rest g4 i j (hi.resolve_left q) (hj.resolve_left qj) hl (by omega)
/-- the pairs of the hours -/
noncomputable def duos : List (List Nat) → List (Nat × Nat)
  | [] => []
  | [a, b] :: rest => (a, b) :: duos rest
  | _ :: rest => duos rest
theorem duos_facts {L : Nat → Nat → Bool} : ∀ (sc : List (List Nat)), Good L sc → sc.flatten.Nodup → (∀ r ∈ sc, 1 ≤ r.length ∧ r.length ≤ 2) → Mat (incL L) (fun z => z ∈ sc.flatten) (duos sc) ∧ sc.length + (duos sc).length = sc.flatten.length
  | [], _, _, _ => ⟨⟨.nil, fun _ h => (nomatch h), fun _ h => nomatch h⟩, rfl⟩
  | r :: rest, G, nd, hr => by
    obtain ⟨g1, g2, g3, g4⟩ := G
    rw [List.flatten_cons] at nd
    obtain ⟨n1, n2, n3⟩ := List.nodup_append.mp nd
    obtain ⟨ih, il⟩ := duos_facts rest g4 n2 fun x hx => hr x (.tail _ hx)
    have hl := hr r (.head _)
    match r, hl, n1, n3, g1 with
    | [a], _, n1, n3, g1 =>
      refine ⟨⟨ih.nd, fun z hz => ?_, ih.inc⟩, ?_⟩
      · simp only [List.flatten_cons, List.mem_append]; exact .inr (ih.inn z hz)
      · show rest.length + 1 + (duos rest).length = _
        simp only [List.flatten_cons, List.length_append, List.length_singleton]; omega
    | [a, b], _, n1, n3, g1 =>
      have hab : a ≠ b := by simpa using n1
      refine ⟨⟨?_, fun z hz => ?_, fun p hp => ?_⟩, ?_⟩
      · show (flatP ((a, b) :: duos rest)).Nodup
        rw [flatP_cons]
        refine List.nodup_cons.mpr ⟨fun q => ?_, List.nodup_cons.mpr ⟨fun q => n3 b (by simp) b (ih.inn _ q) rfl, ih.nd⟩⟩
        rcases List.mem_cons.mp q with q | q
        · exact hab q
        · exact n3 a (by simp) a (ih.inn _ q) rfl
      · simp only [List.flatten_cons, List.mem_append]
        rcases List.mem_cons.mp (show z ∈ a :: b :: flatP (duos rest) from hz) with q | q
        · exact .inl (by rw [q]; exact .head _)
        · rcases List.mem_cons.mp q with q | q
          · exact .inl (by rw [q]; exact .tail _ (.head _))
          · exact .inr (ih.inn z q)
      · rcases List.mem_cons.mp (show p ∈ (a, b) :: duos rest from hp) with q | q
        · rw [q]; exact ⟨g1 a (by simp) b (by simp), g1 b (by simp) a (by simp)⟩
        · exact ih.inc p q
      · show rest.length + 1 + ((duos rest).length + 1) = _
        simp only [List.flatten_cons, List.length_append, List.length_cons, List.length_nil]; omega
    | [], hl, _, _, _ => simp at hl
    | _ :: _ :: _ :: _, hl, _, _, _ => simp at hl
end Mine
end

section
open PySem PySem.Calls PyProof.Rows PySem.W
set_option maxRecDepth 100000
set_option linter.unusedVariables false
namespace Mine
theorem kept_ok {L : Nat → Nat → Bool} (O : OrdL L) {s : List Nat} (N : NumOk L s) {left : List (List Bool)} (hleft : ∀ i, i < 6 → ∀ j, j < 6 → atM left i j = L i j) {sc : List (List Nat)} (F : Facts (relR L s) (pack (relR L s) 6) (fun _ => false) 0 sc) :
    KeptOk (sc.map fun r => r.map (sg s)) left (wIdx (sc.map fun r => r.map (sg s))) := by
  have G := good_map s sc F.good
  have efl : (sc.map fun r => r.map (sg s)).flatten = sc.flatten.map (sg s) := List.map_flatten.symm
  have nd : (sc.map fun r => r.map (sg s)).flatten.Nodup := by
    rw [efl]
    refine List.pairwise_map.mpr (F.nd.imp_of_mem fun {a b} ha hb hne e => hne (sg_inj N (F.inn a ha).1 (F.inn b hb).1 e))
  have lt6 : ∀ z ∈ (sc.map fun r => r.map (sg s)).flatten, z < 6 := fun z hz => by
    rw [efl] at hz
    obtain ⟨i, hi, rfl⟩ := List.mem_map.mp hz
    exact (sg_at N (F.inn i hi).1).2.1
  have all : ∀ k, k < 6 → k ∈ (sc.map fun r => r.map (sg s)).flatten := fun k hk => by
    obtain ⟨i, hi, e, _⟩ := pos_at N hk
    rw [efl, ← e]
    exact List.mem_map.mpr ⟨i, F.all i hi rfl, rfl⟩
  have tot : (sc.map fun r => r.map (sg s)).flatten.length = 6 := by
    have h1 := le_len nd lt6
    have h2 := nodup_le (l := List.range 6) (l' := (sc.map fun r => r.map (sg s)).flatten) List.nodup_range fun x hx => all x (List.mem_range.mp hx)
    simp only [List.length_range] at h2
    omega
  have row : ∀ t ∈ sc.map fun r => r.map (sg s), (∀ x ∈ t, x < 6) ∧ 1 ≤ t.length ∧ t.length ≤ 2 := fun t ht => by
    refine ⟨fun x hx => lt6 x (List.mem_flatten.mpr ⟨t, ht, hx⟩), ?_⟩
    obtain ⟨r, hr, rfl⟩ := List.mem_map.mp ht
    rw [List.length_map]; exact F.row r hr
  obtain ⟨M, hM⟩ := duos_facts (sc.map fun r => r.map (sg s)) G nd fun r hr => (row r hr).2
  have hlen : (sc.map fun r => r.map (sg s)).length = sc.length := List.length_map ..
  refine ⟨by omega, row, tot, fun k hk => when_idx _ k nd (all k hk), fun i hi j hj h => good_ord _ G i j (all i hi) (all j hj) (by rw [← hleft i hi j hj]; exact h), fun i hi j hj h1 h2 => by rw [hleft i hi j hj]; exact good_alone _ G i j (all i hi) (all j hj) h1 h2, ?_⟩
  -- the pairs
  have nd6 : ([0, 1, 2, 3, 4, 5] : List Nat).Nodup := by decide
  have low : (duos (sc.map fun r => r.map (sg s))).length ≤ mpM (atM left) 7 [0, 1, 2, 3, 4, 5] := by
    refine mpM_ge (atM left) 7 _ nd6 (by decide) _ ⟨M.nd, fun z hz => ?_, fun p hp => ?_⟩
    · have := lt6 z (M.inn z hz)
      simp; omega
    · have h1 : p.1 < 6 := lt6 _ (M.inn _ (List.mem_flatMap.mpr ⟨p, hp, by simp⟩))
      have h2 : p.2 < 6 := lt6 _ (M.inn _ (List.mem_flatMap.mpr ⟨p, hp, by simp⟩))
      exact ⟨by rw [hleft _ h1 _ h2]; exact (M.inc p hp).1, by rw [hleft _ h2 _ h1]; exact (M.inc p hp).2⟩
  obtain ⟨ps, p1, p2⟩ := mpM_at (atM left) 7 [0, 1, 2, 3, 4, 5] nd6
  have plt : ∀ z ∈ flatP ps, z < 6 := fun z hz => by
    have := p2.inn z hz
    simp at this; omega
  have up := hasM_best F.best (ps := ps.map fun p => ((posOf s p.1).getD 0, (posOf s p.2).getD 0)) (by
    have efp : flatP (ps.map fun p => ((posOf s p.1).getD 0, (posOf s p.2).getD 0)) = (flatP ps).map fun z => (posOf s z).getD 0 := by
      clear p1 p2 plt
      induction ps with
      | nil => rfl
      | cons a r ih => rw [List.map_cons, flatP_cons, flatP_cons, List.map_cons, List.map_cons, ih]
    have hp : ∀ z, z < 6 → ∃ i, i < 6 ∧ sg s i = z ∧ (posOf s z).getD 0 = i := fun z hz => by
      obtain ⟨i, hi, e, e2⟩ := pos_at N hz
      exact ⟨i, hi, e, by rw [e2]; rfl⟩
    refine ⟨?_, fun z hz => ?_, fun q hq => ?_⟩
    · rw [efp]
      refine List.pairwise_map.mpr (p2.nd.imp_of_mem fun {a b} ha hb hne e => hne ?_)
      obtain ⟨i, _, e1, e2⟩ := hp a (plt a ha)
      obtain ⟨j, _, e3, e4⟩ := hp b (plt b hb)
      rw [e2, e4] at e
      rw [← e1, ← e3, e]
    · rw [efp] at hz
      obtain ⟨a, ha, rfl⟩ := List.mem_map.mp hz
      obtain ⟨i, hi, _, e2⟩ := hp a (plt a ha)
      rw [e2]; exact hi
    · obtain ⟨p, hp', rfl⟩ := List.mem_map.mp hq
      have h1 : p.1 < 6 := plt _ (List.mem_flatMap.mpr ⟨p, hp', by simp⟩)
      have h2 : p.2 < 6 := plt _ (List.mem_flatMap.mpr ⟨p, hp', by simp⟩)
      obtain ⟨i, _, e1, e2⟩ := hp p.1 h1
      obtain ⟨j, _, e3, e4⟩ := hp p.2 h2
      have := p2.inc p hp'
      unfold incL at this
      rw [hleft _ h1 _ h2, hleft _ h2 _ h1] at this
      dsimp only
      rw [e2, e4]
      unfold incR relR
      rw [e1, e3]; exact this)
  rw [List.length_map] at up
  omega
/-! the lines -/
noncomputable def lineL (q : Nat → Nat) (k : Nat) : Str := lineOf ((q k : Nat) : Int) k
theorem six_at (q : Nat → Nat) {k : Nat} (hk : k < 6) : (sixL q).getD k Str.empty = lineL q k := by
  unfold sixL
  rw [List.getD_eq_getElem?_getD, List.getElem?_map, List.getElem?_range hk]; rfl
noncomputable def ordL (q : Nat → Nat) (i j : Nat) : Bool := leftM (colsM (lineL q i)) (colsM (lineL q j))
theorem left_irr (a : List Nat) : leftM a a = false := by
  unfold leftM
  rw [← Bool.not_eq_true, List.all_eq_true]
  intro h
  have := h 0 (by decide)
  simp at this
theorem left_tr {a b e : List Nat} (h1 : leftM a b = true) (h2 : leftM b e = true) : leftM a e = true := by
  unfold leftM at *
  rw [List.all_eq_true] at *
  intro k hk
  have x := of_decide_eq_true (h1 k hk)
  have y := of_decide_eq_true (h2 k hk)
  exact decide_eq_true (by omega)
theorem ord_ok (q : Nat → Nat) : OrdL (ordL q) := ⟨fun i _ => left_irr _, fun i _ j _ k _ a b => left_tr a b⟩
theorem left_get (lines : List Str) {i j : Nat} (hi : i < lines.length) (hj : j < lines.length) : atM (leftMat lines) i j = leftM (colsM (lines.getD i Str.empty)) (colsM (lines.getD j Str.empty)) := by
  have e1 : lines[i]? = some (lines.getD i Str.empty) := by rw [List.getD_eq_getElem?_getD, List.getElem?_eq_getElem hi]; rfl
  have e2 : lines[j]? = some (lines.getD j Str.empty) := by rw [List.getD_eq_getElem?_getD, List.getElem?_eq_getElem hj]; rfl
  generalize lines.getD i Str.empty = a at e1 ⊢
  generalize lines.getD j Str.empty = b at e2 ⊢
  unfold atM leftMat
  have h1 : ((lines.map colsM).map fun one => (lines.map colsM).map fun other => leftM one other).getD i [] = (lines.map colsM).map fun other => leftM (colsM a) other := by
    rw [List.getD_eq_getElem?_getD, List.getElem?_map, List.getElem?_map, e1]; rfl
  rw [h1, List.getD_eq_getElem?_getD, List.getElem?_map, List.getElem?_map, e2]; rfl
theorem six_len (q : Nat → Nat) : (sixL q).length = 6 := by unfold sixL; rw [List.length_map, List.length_range]
theorem left_at (q : Nat → Nat) : ∀ i, i < 6 → ∀ j, j < 6 → atM (leftMat (sixL q)) i j = ordL q i j := fun i hi j hj => by
  rw [left_get (sixL q) (by rw [six_len]; exact hi) (by rw [six_len]; exact hj), six_at q hi, six_at q hj]; rfl
theorem kinds_ws : ∀ p : Nat, p < 27 → ∀ k, k < 6 → (wsOf (lineOf (p : Int) k)).count = (wsOf (lineOf (p : Int) 0)).count ∧ (wsOf (lineOf (p : Int) k)).b = (wsOf (lineOf (p : Int) 0)).b ∧ (wsOf (lineOf (p : Int) k)).n = (wsOf (lineOf (p : Int) 0)).n ∧ (wsOf (lineOf (p : Int) k)).nt = (wsOf (lineOf (p : Int) 0)).nt := by decide +kernel
theorem kinds_co : ∀ p : Nat, p < 27 → ∀ k, k < 6 → colsM (lineOf (p : Int) k) = colsM (lineOf (p : Int) 0) := by decide +kernel
theorem kinds_less : ∀ p : Nat, p < 27 → ∀ p' : Nat, p' < 27 → lessW (wsOf (lineOf (p : Int) 0)) (wsOf (lineOf (p' : Int) 0)) = leftM (colsM (lineOf (p : Int) 0)) (colsM (lineOf (p' : Int) 0)) := by decide +kernel
end Mine
end

section
open PySem PySem.W PyProof.Rows
set_option maxRecDepth 100000
set_option maxHeartbeats 8000000
namespace Mine
theorem post_true (args : List WData) : PySem.Challenge.rw_pg0319_01.row.claim.post args (.bool true) args = true := by
  show (WShape.has PySem.Challenge.rw_pg0319_01.row.records (.bool true) .bool && WTm.holds PySem.Challenge.rw_pg0319_01.row.records (.eq .res (.lit (.bool true))) { args := args, res := some (.bool true), after := args }) = true
  have h1 : ∀ R : WRecords, WShape.has R (.bool true) .bool = true := fun R => by simp [WShape.has, WShape.arms]
  have h2 : ∀ (R : WRecords) (e : WCtx), e.res = some (.bool true) → WTm.holds R (.eq .res (.lit (.bool true))) e = true := fun R e he => by
    unfold WTm.holds
    have : WTm.value R (.eq .res (.lit (.bool true))) e = some (.bool true) := by simp [WTm.value, he, same]
    rw [this]
  rw [h1, h2 _ _ rfl]; rfl
theorem said1 : PySem.Challenge.rw_pg0319_01.wellSaid = true := by kernel_rfl

theorem all_holds (PA : PlainAll) : PySem.Challenge.rw_pg0319_01.Holds := by
  w_on
  refine holds_law said1 fun said => ?_
  refine holds_open (q := q1) (loose := loose1) (Xt := fun s => xlAt q1 [] s && recOk [] s) (XP := XL q1 []) (Yf := Hook.obs hook1) (Ya := Hook.val hook1) (YP := Hook.says hook1) (N := 3986) left1 (Hook.of hook1) (Hook.keeps hook1) (fun s e => xl_of s (Bool.and_eq_true_iff.mp e).1) XL.keeps (by rfl) (by rfl) (by rfl) (fun s e => recFacts_of (Bool.and_eq_true_iff.mp e).2) (by rfl) said (by decide +kernel) ⟨rfl, rfl, rfl, rfl, rfl, by decide +kernel⟩ ?hw ?hc
  case hw => w_witness2
  case hc =>
    generalize hq : q1 = q
    generalize hlo1 : loose1 = loose
    w_strict (k_go0
              subst hq
              exact law_end PA (by assumption) (topRead_of (by assumption)) (by assumption) (by assumption) (by assumption) rfl (by assumption) (by omega) (fun _ => rfl) (fun _ => rfl) (post_true _))
end Mine
end

section
open PySem PySem.Calls PyProof.Rows PySem.W
set_option maxRecDepth 100000
set_option linter.unusedVariables false
namespace Mine
theorem less_left (q : Nat → Nat) (hq : ∀ k, q k < 27) {i j : Nat} (hi : i < 6) (hj : j < 6) : lessW (wsOf (lineL q i)) (wsOf (lineL q j)) = ordL q i j := by
  have key : ∀ k, k < 6 → wsOf (lineL q k) = wsOf (lineOf ((q k : Nat) : Int) 0) := fun k hk => by
    obtain ⟨a, b, c, d⟩ := kinds_ws (q k) (hq k) k hk
    unfold lineL
    generalize wsOf (lineOf ((q k : Nat) : Int) k) = x at a b c d ⊢
    generalize wsOf (lineOf ((q k : Nat) : Int) 0) = y at a b c d ⊢
    cases x; cases y
    simp at a b c d
    rw [a, b, c, d]
  have k2 : ∀ k, k < 6 → colsM (lineL q k) = colsM (lineOf ((q k : Nat) : Int) 0) := fun k hk => kinds_co (q k) (hq k) k hk
  unfold ordL
  rw [key i hi, key j hj, k2 i hi, k2 j hj]
  exact kinds_less (q i) (hq i) (q j) (hq j)
theorem six_eq (q : Nat → Nat) : sixL q = (List.range 6).map (lineL q) := rfl
theorem told_get (q : Nat → Nat) (hq : ∀ k, q k < 27) {k : Nat} (hk : k < 6) : (toldM (sixL q)).getD k [] = (List.range 6).filter fun o => ordL q k o := by
  unfold toldM
  rw [six_eq, List.getD_eq_getElem?_getD, List.getElem?_map, List.getElem?_map, List.getElem?_range hk]
  show toldRow ((List.range 6).map (lineL q)) (lineL q k) = _
  unfold toldRow
  refine List.filter_congr fun o ho => ?_
  have ho6 := List.mem_range.mp ho
  have e := six_at q ho6
  rw [six_eq] at e
  rw [e]; exact less_left q hq hk ho6
theorem next_near (q : Nat → Nat) (hq : ∀ k, q k < 27) {k : Nat} (hk : k < 6) : ((toldM (sixL q)).getD k []).filter (nextB (toldM (sixL q)) k) = (List.range 6).filter (nearB (ordL q) k) := by
  rw [told_get q hq hk, List.filter_filter]
  refine List.filter_congr fun o ho => ?_
  have ho6 := List.mem_range.mp ho
  rw [Bool.eq_iff_iff, near_iff, Bool.and_eq_true, and_comm]
  refine and_congr Iff.rfl ?_
  unfold nextB
  rw [told_get q hq hk, List.isEmpty_iff, List.filter_eq_nil_iff]
  constructor
  · intro h j hj e
    have := h j (List.mem_filter.mpr ⟨List.mem_range.mpr hj, e⟩)
    rw [told_get q hq hj, List.contains_iff_mem, List.mem_filter] at this
    cases e2 : ordL q j o with
    | false => rfl
    | true => exact absurd ⟨ho, e2⟩ this
  · intro h mid hm
    obtain ⟨h1, h2⟩ := List.mem_filter.mp hm
    have m6 := List.mem_range.mp h1
    rw [told_get q hq m6, List.contains_iff_mem, List.mem_filter]
    rintro ⟨_, e⟩
    rw [h mid m6 h2] at e; cases e
theorem getAll_flat (f : Nat → Rows) (u : Str) : ∀ l : List Nat, getAllM (l.flatMap f) u = l.flatMap fun k => getAllM (f k) u
  | [] => rfl
  | a :: r => by rw [List.flatMap_cons, getAllM_append, getAll_flat f u r, List.flatMap_cons]
theorem getAll_row (lines : List Str) {k u : Nat} (hk : k < 6) (hu : u < 6) : ∀ l : List Nat, getAllM (l.map (rowOf lines k)) (capL u) = if k = u then l.map fun o => lines.getD o Str.empty else []
  | [] => by split <;> rfl
  | o :: r => by
    have ih := getAll_row lines hk hu r
    unfold getAllM at ih ⊢
    rw [List.map_cons, List.filter_cons]
    have e : (Txt.lower (rowOf lines k o).1 == Txt.lower (capL u)) = decide (k = u) := by
      show (Txt.lower (letter k) == Txt.lower (capL u)) = _
      rw [letter_lower k hk, cap_lower u hu]
      by_cases h : k = u
      · subst h; simp
      · rw [decide_eq_false h]; exact beq_eq_false_iff_ne.mpr fun w => h (letter_inj w)
    rw [e]
    by_cases h : k = u
    · rw [decide_eq_true h, if_pos rfl, if_pos h, List.map_cons, ih, if_pos h]; rfl
    · rw [decide_eq_false h, if_neg (by decide), if_neg h, ih, if_neg h]
theorem flat_one {α : Type} (X : List α) {u : Nat} (hu : u < 6) : ((List.range 6).flatMap fun k => if k = u then X else []) = X := by
  show ([0, 1, 2, 3, 4, 5] : List Nat).flatMap _ = X
  rcases lt6 hu with rfl | rfl | rfl | rfl | rfl | rfl <;> simp
theorem last_line : ∀ p : Nat, p < 27 → ∀ k, k < 6 → lastOf (lineOf (p : Int) k) = letter k := by decide +kernel
theorem caps_eq : caps = (List.range 6).map capL := by decide
theorem row_one {lines : List Str} {B : Nat → Nat → Bool} (hn : ∀ k, k < 6 → ((toldM lines).getD k []).filter (nextB (toldM lines) k) = (List.range 6).filter (B k)) (hl : ∀ o, o < 6 → lastOf (lines.getD o Str.empty) = letter o) {u : Nat} (hu6 : u < 6) : (getAllM (tableM lines) (capL u)).map lastOf = ((List.range 6).filter (B u)).map letter := by
  unfold tableM
  rw [getAll_flat]
  have e1 : ((List.range 6).flatMap fun k => getAllM (rowsFor lines (toldM lines) k) (capL u)) = (List.range 6).flatMap fun k => if k = u then ((List.range 6).filter (B u)).map (fun o => lines.getD o Str.empty) else [] := by
    have : ∀ l : List Nat, (∀ k ∈ l, k < 6) → (l.flatMap fun k => getAllM (rowsFor lines (toldM lines) k) (capL u)) = l.flatMap fun k => if k = u then ((List.range 6).filter (B u)).map (fun o => lines.getD o Str.empty) else [] := by
      intro l
      induction l with
      | nil => intro _; rfl
      | cons k r ih =>
        intro h
        have hk := h k (.head _)
        rw [List.flatMap_cons, List.flatMap_cons, ih fun x hx => h x (.tail _ hx)]
        congr 1
        unfold rowsFor
        rw [hn k hk, getAll_row lines hk hu6]
        by_cases e : k = u
        · rw [if_pos e, if_pos e, e]
        · rw [if_neg e, if_neg e]
    exact this _ fun k hk => List.mem_range.mp hk
  rw [e1, flat_one _ hu6, List.map_map]
  exact List.map_congr_left fun o ho => hl o (List.mem_range.mp (List.mem_filter.mp ho).1)
theorem rows_all {lines : List Str} {B : Nat → Nat → Bool} (h : ∀ u, u < 6 → (getAllM (tableM lines) (capL u)).map lastOf = ((List.range 6).filter (B u)).map letter) : rowsOutM (tableM lines) = ((List.range 6).map fun k => (List.range 6).filter (B k)).map fun r => r.map letter := by
  unfold rowsOutM
  rw [caps_eq, List.map_map, List.map_map]
  exact List.map_congr_left fun u hu => h u (List.mem_range.mp hu)
theorem rows_eq (q : Nat → Nat) (hq : ∀ k, q k < 27) : rowsOutM (tableM (sixL q)) = (rowsN (ordL q)).map fun r => r.map letter := by
  have hl : ∀ o, o < 6 → lastOf ((sixL q).getD o Str.empty) = letter o := fun o ho => by
    rw [six_at q ho]; exact last_line (q o) (hq o) o ho
  exact rows_all (B := nearB (ordL q)) fun u hu => row_one (fun k hk => next_near q hq hk) hl hu
theorem line_inj (q : Nat → Nat) (hq : ∀ k, q k < 27) : ∀ i, i < 6 → ∀ j, j < 6 → (sixL q).getD i Str.empty = (sixL q).getD j Str.empty → i = j := fun i hi j hj h => by
  rw [six_at q hi, six_at q hj] at h
  have := congrArg lastOf h
  unfold lineL at this
  rw [last_line (q i) (hq i) i hi, last_line (q j) (hq j) j hj] at this
  exact letter_inj this
theorem plain_all : PlainAll := fun q hq => by
  obtain ⟨s, h1, N⟩ := numbers (ord_ok q)
  obtain ⟨sc, F, h2⟩ := hands (ord_ok q) N
  exact ⟨rowsN (ordL q), s, _, _, six_len q, line_inj q hq, rows_eq q hq, rowsN_ok _, h1, fun z hz => posOf_isSome.mpr (full_mem N.nd N.lt N.len hz), h2, kept_ok (ord_ok q) N (left_at q) F⟩
theorem done1 : PySem.Challenge.rw_pg0319_01.Holds := all_holds plain_all
end Mine
end
theorem PySem.Challenge.cw_pg0319_01_holds : PySem.Challenge.rw_pg0319_01.Holds :=
  Mine.done1
