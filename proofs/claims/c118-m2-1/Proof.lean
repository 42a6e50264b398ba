import JvmDerived
import JvmDerived.Pilot.@@N@@Statement
import JvmDerived.Pilot.@@N@@Code
set_option linter.unusedVariables false
set_option linter.unusedSimpArgs false
@@BLOCK:NumsL.lean.txt@@
namespace Jvm.Pilot.@@N@@
open Jvm Jvm.ClassFile Sem Op Lib Jvm.Free Jvm.Stand Jvm.LawKit Jvm.RoadKit Bundle Jvm.Pilot.@@N@@.Jvm.D
/-- the run from here comes to an end of which P speaks -/
def own_Run (tb : Tables) (e : Env) (below : List Frame) (T : State) (g : JFrame) (P : Outcome → State → Prop) : Prop :=
  ∃ s₂ o, Steps tb e below (T.setTop g) s₂ ∧ s₂.status = .running ∧ Ended s₂ below o ∧ P o s₂
theorem own_start {tb : Tables} {e : Env} {below : List Frame} {T : State} {g : JFrame} {Pd : Outcome → State → Prop} (h : ∀ P : Outcome → State → Prop, (∀ o U, Pd o U → P o U) → own_Run tb e below T g P) : ∃ s₂ o, Steps tb e below (T.setTop g) s₂ ∧ s₂.status = .running ∧ Ended s₂ below o ∧ Pd o s₂ := h Pd fun _ _ q => q
theorem own_step {tb : Tables} {e : Env} {below : List Frame} {T T' : State} {g g' : JFrame} {P : Outcome → State → Prop} (h : ∀ t, Steps tb e below (T'.setTop g') t → Steps tb e below (T.setTop g) t) (k : own_Run tb e below T' g' P) : own_Run tb e below T g P := by
  obtain ⟨a, b, h1, h2⟩ := k
  exact ⟨a, b, h _ h1, h2⟩
theorem own_to {tb : Tables} {e : Env} {below : List Frame} {T T' : State} {g g' : JFrame} {P : Outcome → State → Prop} (h : Steps tb e below (T.setTop g) (T'.setTop g')) (k : own_Run tb e below T' g' P) : own_Run tb e below T g P := by
  obtain ⟨a, b, h1, h2⟩ := k
  exact ⟨a, b, h.trans h1, h2⟩
section Ret
variable {p : Program} {l : Launch} {e : Env} {R : Room} {s : State} {m : MethodId} {args : Array Value} {below : List Frame} {meth : Method} {c : Code} {T : State} {locs : List Loc} {cells slots : Nat}
theorem own_retI (X : Stand p l e R s m args below meth c T locs cells slots) (hx : p.tables.exec = Jvm.exec) {pc : Nat} {Ls : Array Slot} {z : Int32} {rest : List Value} (hret : meth.sig.returnType = some .int) (hd : decode c.code pc = .ok (.ireturn, 1)) {fs : List Frame}
    (hl : ∀ (f : JFrame) (acts : List Action), f.method = m → f.locked = none → f.entered = [] → (doReturn e (T.setTop f) acts (some (.int z))).1 = T.setFrames fs) : Steps p.tables e below (T.setTop (mkF m pc Ls (.int z :: rest))) (T.setFrames fs) :=
  retOut X hx hret rfl (Or.inl ⟨rfl, Or.inl rfl, _, rfl⟩) hd hl
theorem own_retJ (X : Stand p l e R s m args below meth c T locs cells slots) (hx : p.tables.exec = Jvm.exec) {pc : Nat} {Ls : Array Slot} {z : Int64} {rest : List Value} (hret : meth.sig.returnType = some .long) (hd : decode c.code pc = .ok (.lreturn, 1)) {fs : List Frame}
    (hl : ∀ (f : JFrame) (acts : List Action), f.method = m → f.locked = none → f.entered = [] → (doReturn e (T.setTop f) acts (some (.long z))).1 = T.setFrames fs) : Steps p.tables e below (T.setTop (mkF m pc Ls (.long z :: rest))) (T.setFrames fs) :=
  retOut X hx hret rfl (Or.inr (Or.inl ⟨rfl, rfl, _, rfl⟩)) hd hl
theorem own_retR (X : Stand p l e R s m args below meth c T locs cells slots) (hx : p.tables.exec = Jvm.exec) {pc : Nat} {Ls : Array Slot} {w : Value} {t : FieldType} {rest : List Value} (hret : meth.sig.returnType = some t) (ht : t.isReference = true) (hw : w.isRef = true) (hn : narrow t w = w) (hd : decode c.code pc = .ok (.areturn, 1)) {fs : List Frame}
    (hl : ∀ (f : JFrame) (acts : List Action), f.method = m → f.locked = none → f.entered = [] → (doReturn e (T.setTop f) acts (some w)).1 = T.setFrames fs) : Steps p.tables e below (T.setTop (mkF m pc Ls (w :: rest))) (T.setFrames fs) :=
  retOut X hx hret hn (Or.inr (Or.inr (Or.inr (Or.inr ⟨rfl, ht, hw⟩)))) hd hl
theorem own_retZ (X : Stand p l e R s m args below meth c T locs cells slots) (hx : p.tables.exec = Jvm.exec) {pc : Nat} {Ls : Array Slot} {z z' : Int32} {t : FieldType} {rest : List Value} (hret : meth.sig.returnType = some t) (ht : t = .boolean ∨ t = .byte ∨ t = .char ∨ t = .short) (hz : nar t z = z') (hd : decode c.code pc = .ok (.ireturn, 1)) {fs : List Frame}
    (hl : ∀ (f : JFrame) (acts : List Action), f.method = m → f.locked = none → f.entered = [] → (doReturn e (T.setTop f) acts (some (.int z'))).1 = T.setFrames fs) : Steps p.tables e below (T.setTop (mkF m pc Ls (.int z :: rest))) (T.setFrames fs) :=
  retN X hx hret ht hd (by rw [hz]; exact hl)
end Ret
/-! 1. open addressing, in plain Lean: H the place where the search begins, t the table, N its length -/
def own_upd (t : Nat → Int32) (k : Nat) (x : Int32) : Nat → Int32 := fun i => if i = k then x else t i
def own_found (H : Int32 → Nat) (t : Nat → Int32) (N : Nat) (x : Int32) (k : Nat) : Prop := k < N ∧ (t k = -1 ∨ t k = x) ∧ ∃ j, k = (H x + j) % N ∧ ∀ i, i < j → t ((H x + i) % N) ≠ -1 ∧ t ((H x + i) % N) ≠ x
def own_inv (H : Int32 → Nat) (t : Nat → Int32) (N : Nat) : Prop := ∀ i, i < N → t i ≠ -1 → ∃ j, i = (H (t i) + j) % N ∧ ∀ q, q < j → t ((H (t i) + q) % N) ≠ -1
theorem own_least (p : Nat → Prop) : ∀ n, p n → ∃ k, p k ∧ ∀ j, j < k → ¬ p j := by
  intro n
  induction n using Nat.strongRecOn with
  | ind n ih =>
    intro hn
    by_cases h : ∃ j, j < n ∧ p j
    · obtain ⟨j, hj, hp⟩ := h
      exact ih j hj hp
    · exact ⟨n, hn, fun j hj hp => h ⟨j, hj, hp⟩⟩
theorem own_find {H : Int32 → Nat} {t : Nat → Int32} {N : Nat} {x : Int32} (hf : ∃ i, i < N ∧ t i = -1) : ∃ k, own_found H t N x k := by
  obtain ⟨i, hi, hti⟩ := hf
  have hN : 0 < N := Nat.lt_of_le_of_lt (Nat.zero_le _) hi
  have e : (H x + (i + (N - H x % N))) % N = i := by
    have h1 := Nat.div_add_mod (H x) N
    have h2 := Nat.mod_lt (H x) hN
    have e : H x + (i + (N - H x % N)) = N * (H x / N + 1) + i := by
      rw [Nat.mul_add]
      omega
    rw [e, Nat.mul_add_mod, Nat.mod_eq_of_lt hi]
  obtain ⟨j, hp, hl⟩ := own_least (fun j => t ((H x + j) % N) = -1 ∨ t ((H x + j) % N) = x) (i + (N - H x % N)) (Or.inl (by rw [e]; exact hti))
  exact ⟨(H x + j) % N, Nat.mod_lt _ hN, hp, j, rfl, fun q hq => ⟨fun z => hl q hq (Or.inl z), fun z => hl q hq (Or.inr z)⟩⟩
theorem own_mem {H : Int32 → Nat} {t : Nat → Int32} {N : Nat} {x : Int32} {k : Nat} (hi : own_inv H t N) (hf : own_found H t N x k) (hx : x ≠ -1) : t k = x ↔ ∃ i, i < N ∧ t i = x := by
  obtain ⟨hk, hv, J, hJ, hl⟩ := hf
  constructor
  · intro h
    exact ⟨k, hk, h⟩
  · rintro ⟨i, hiN, hti⟩
    rcases hv with hv | hv
    · exfalso
      obtain ⟨j, hj, hp⟩ := hi i hiN (by rw [hti]; exact hx)
      rw [hti] at hj hp
      rcases Nat.lt_trichotomy j J with h | h | h
      · exact (hl j h).2 (by rw [← hj]; exact hti)
      · rw [h, ← hJ] at hj
        rw [hj, hv] at hti
        exact hx hti.symm
      · exact hp J h (by rw [← hJ]; exact hv)
    · exact hv
theorem own_inv_upd {H : Int32 → Nat} {t : Nat → Int32} {N : Nat} {x : Int32} {k : Nat} (hi : own_inv H t N) (hf : own_found H t N x k) (hx : x ≠ -1) : own_inv H (own_upd t k x) N := by
  obtain ⟨hk, hv, J, hJ, hl⟩ := hf
  have up : ∀ i, t i ≠ -1 → own_upd t k x i ≠ -1 := fun i h => by
    unfold own_upd
    split
    · exact hx
    · exact h
  intro i hiN hne
  by_cases h : i = k
  · have e : own_upd t k x i = x := by simp [own_upd, h]
    rw [e]
    exact ⟨J, h.trans hJ, fun q hq => up _ (hl q hq).1⟩
  · have e : own_upd t k x i = t i := by simp [own_upd, h]
    rw [e] at hne ⊢
    obtain ⟨j, hj, hp⟩ := hi i hiN hne
    exact ⟨j, hj, fun q hq => up _ (hp q hq)⟩
theorem own_upd_mem {H : Int32 → Nat} {t : Nat → Int32} {N : Nat} {x : Int32} {k : Nat} {y : Int32} (hf : own_found H t N x k) (hy : y ≠ -1) : (∃ i, i < N ∧ own_upd t k x i = y) ↔ (y = x ∨ ∃ i, i < N ∧ t i = y) := by
  obtain ⟨hk, hv, -⟩ := hf
  constructor
  · rintro ⟨i, hi, h⟩
    by_cases e : i = k
    · simp [own_upd, e] at h
      exact Or.inl h.symm
    · simp [own_upd, e] at h
      exact Or.inr ⟨i, hi, h⟩
  · rintro (h | ⟨i, hi, h⟩)
    · exact ⟨k, hk, by simp [own_upd, h]⟩
    · by_cases e : i = k
      · subst e
        rcases hv with hv | hv
        · exact absurd (h.symm.trans hv) hy
        · exact ⟨i, hi, by simp [own_upd]; exact hv.symm.trans h⟩
      · exact ⟨i, hi, by simp [own_upd, e, h]⟩
def own_occ (t : Nat → Int32) : Nat → Nat
  | 0 => 0
  | n + 1 => own_occ t n + (if t n = -1 then 0 else 1)
theorem own_occ_upd (t : Nat → Int32) (k : Nat) (x : Int32) : ∀ n, own_occ (own_upd t k x) n ≤ own_occ t n + (if k < n then 1 else 0)
  | 0 => by simp [own_occ]
  | n + 1 => by
    have ih := own_occ_upd t k x n
    by_cases h : n = k
    · subst h
      have h1 : ¬ n < n := Nat.lt_irrefl n
      simp only [h1, if_false] at ih
      have h2 : n < n + 1 := Nat.lt_succ_self n
      simp only [own_occ, h2, if_true]
      split <;> split <;> omega
    · have e : own_upd t k x n = t n := by simp [own_upd, h]
      simp only [own_occ, e]
      by_cases hk : k < n
      · have h2 : k < n + 1 := by omega
        simp only [hk, h2, if_true] at ih ⊢
        omega
      · have h2 : ¬ k < n + 1 := by omega
        simp only [hk, h2, if_false] at ih ⊢
        omega
theorem own_occ_up (t : Nat → Int32) (k : Nat) (x : Int32) (n : Nat) : own_occ (own_upd t k x) n ≤ own_occ t n + 1 := by
  have := own_occ_upd t k x n
  split at this <;> omega
theorem own_free {t : Nat → Int32} : ∀ n, own_occ t n < n → ∃ i, i < n ∧ t i = -1
  | 0, h => absurd h (Nat.not_lt_zero _)
  | n + 1, h => by
    by_cases e : t n = -1
    · exact ⟨n, Nat.lt_succ_self n, e⟩
    · simp only [own_occ, e, if_false] at h
      obtain ⟨i, hi, ht⟩ := own_free (t := t) n (by omega)
      exact ⟨i, by omega, ht⟩
def own_mix (x : Int32) : Int32 := (x * (-1640531527 : Int32)) ^^^ (Jvm.Free.XT.ushr (x * (-1640531527 : Int32)) (16 : Int32))
def own_H8 (x : Int32) : Nat := (own_mix x &&& (7 : Int32)).toNatClampNeg
def own_H16 (x : Int32) : Nat := (own_mix x &&& (15 : Int32)).toNatClampNeg
theorem own_s8 (x : Int32) : (((x * (-1640531527 : Int32)) ^^^ (Jvm.Free.XT.ushr (x * (-1640531527 : Int32)) (16 : Int32))) &&& (7 : Int32)) = ((own_H8 x + 0) % 8).toInt32 := by
  show own_mix x &&& 7 = _
  have h1 : (own_mix x &&& 7).toInt = (own_mix x).toInt % 2 ^ 3 := Jvm.Kit.i32_mask (own_mix x) 7 (k := 3) (by decide) (by decide)
  have h2 : ¬ (own_mix x &&& 7) < 0 := by
    rw [Int32.lt_iff_toInt_lt, h1]
    show ¬ ((own_mix x).toInt % 2 ^ 3 < 0)
    omega
  have h3 := nat_of h2
  have h4 : own_H8 x < 8 := by
    show (own_mix x &&& 7).toNatClampNeg < 8
    omega
  rw [Nat.add_zero, Nat.mod_eq_of_lt h4]
  exact (back32 h2).1.symm
theorem own_s16 (x : Int32) : (((x * (-1640531527 : Int32)) ^^^ (Jvm.Free.XT.ushr (x * (-1640531527 : Int32)) (16 : Int32))) &&& (15 : Int32)) = ((own_H16 x + 0) % 16).toInt32 := by
  show own_mix x &&& 15 = _
  have h1 : (own_mix x &&& 15).toInt = (own_mix x).toInt % 2 ^ 4 := Jvm.Kit.i32_mask (own_mix x) 15 (k := 4) (by decide) (by decide)
  have h2 : ¬ (own_mix x &&& 15) < 0 := by
    rw [Int32.lt_iff_toInt_lt, h1]
    show ¬ ((own_mix x).toInt % 2 ^ 4 < 0)
    omega
  have h3 := nat_of h2
  have h4 : own_H16 x < 16 := by
    show (own_mix x &&& 15).toNatClampNeg < 16
    omega
  rw [Nat.add_zero, Nat.mod_eq_of_lt h4]
  exact (back32 h2).1.symm
theorem own_n8 (h i : Nat) : ((((h + i) % 8).toInt32 + (1 : Int32)) &&& (7 : Int32)) = ((h + (i + 1)) % 8).toInt32 := by
  have e : (h + (i + 1)) % 8 = ((h + i) % 8 + 1) % 8 := by omega
  rw [e]
  exact (by decide : ∀ q, q < 8 → ((q.toInt32 + (1 : Int32)) &&& (7 : Int32)) = ((q + 1) % 8).toInt32) _ (Nat.mod_lt _ (by decide))
theorem own_n16 (h i : Nat) : ((((h + i) % 16).toInt32 + (1 : Int32)) &&& (15 : Int32)) = ((h + (i + 1)) % 16).toInt32 := by
  have e : (h + (i + 1)) % 16 = ((h + i) % 16 + 1) % 16 := by omega
  rw [e]
  exact (by decide : ∀ q, q < 16 → ((q.toInt32 + (1 : Int32)) &&& (15 : Int32)) = ((q + 1) % 16).toInt32) _ (Nat.mod_lt _ (by decide))
theorem own_c4 : ∀ c : Nat, c < 5 → ¬ ((8 : Int32) < (2 : Int32) * (c.toInt32 + (1 : Int32))) → c + 1 ≤ 4 := by decide
theorem own_c5 : ∀ c : Nat, c < 5 → ((8 : Int32) < (2 : Int32) * (c.toInt32 + (1 : Int32))) → c = 4 := by decide
theorem own_ilt : ∀ i : Nat, i < 8 → i.toInt32 < (8 : Int32) := by decide
theorem own_isu : ∀ i : Nat, i < 8 → i.toInt32 + (1 : Int32) = (i + 1).toInt32 := by decide
/-! 2. a table on the heap -/
theorem own_tn {q : Nat} (h : q < 2 ^ 31) : q.toInt32.toNatClampNeg = q := by
  have := len_toInt h
  rw [Int32.toNatClampNeg, this]
  rfl
def own_T (Z : State) (h : Heap) (b : Addr) (N : Nat) (t : Nat → Int32) : Prop := ∃ cell : Cell, Arr Z h b cell .int ∧ cell.slots.size = N ∧ ∀ i, i < N → cell.slots[i]? = some (.int (t i))
theorem own_T.ext {Z : State} {h h' : Heap} {b : Addr} {N : Nat} {t : Nat → Int32} (F : own_T Z h b N t) (E : Ext h h') : own_T Z h' b N t := by
  obtain ⟨c, A, r⟩ := F
  exact ⟨c, A.ext E, r⟩
theorem own_T.other {Z : State} {h h' : Heap} {a b : Addr} {N : Nat} {t : Nat → Int32} {sl : Nat} {v : Value} (F : own_T Z h b N t) (W : Wr h h' a sl v) (q : b ≠ a) : own_T Z h' b N t := by
  obtain ⟨c, A, r⟩ := F
  exact ⟨c, A.other W q, r⟩
theorem own_T.keep {Z : State} {h h' : Heap} {b : Addr} {N : Nat} {t : Nat → Int32} {ws : List Addr} (F : own_T Z h b N t) (K : Keep h h' ws) (q : b ∉ ws) : own_T Z h' b N t := by
  obtain ⟨c, A, r⟩ := F
  exact ⟨c, ⟨K.2.1 b c A.1 q, A.2⟩, r⟩
theorem own_T.lt {Z : State} {h : Heap} {b : Addr} {N : Nat} {t : Nat → Int32} (F : own_T Z h b N t) : b < h.size := by
  obtain ⟨c, A, r⟩ := F
  exact A.lt
theorem own_in {cell : Cell} {N q : Nat} (hs : cell.slots.size = N) (hq : q < N) (hN : N < 2 ^ 31) : ¬ (q.toInt32 < 0 ∨ cell.slots.size ≤ q.toInt32.toNatClampNeg) := by
  rw [hs]
  exact idx_in hq hN
theorem own_hat {cell : Cell} {N q : Nat} {t : Nat → Int32} (tb : ∀ i, i < N → cell.slots[i]? = some (.int (t i))) (hq : q < N) (hN : N < 2 ^ 31) : cell.slots[q.toInt32.toNatClampNeg]? = some (.int (t q)) := by
  rw [own_tn (Nat.lt_trans hq hN)]
  exact tb q hq
theorem own_T_set {Z : State} {h h' : Heap} {b : Addr} {cell : Cell} {N q : Nat} {t : Nat → Int32} {x : Int32} (A : Arr Z h b cell .int) (hs : cell.slots.size = N) (tb : ∀ i, i < N → cell.slots[i]? = some (.int (t i))) (hq : q < N) (hN : N < 2 ^ 31) (W : Wr h h' b q.toInt32.toNatClampNeg (.int x)) : own_T Z h' b N (own_upd t q x) := by
  refine ⟨_, A.same W, (sz_set _ _ _).trans hs, fun i hi => ?_⟩
  rw [own_tn (Nat.lt_trans hq hN)]
  show (cell.slots.setIfInBounds q (.int x))[i]? = _
  rw [Array.getElem?_setIfInBounds]
  by_cases e : q = i
  · subst e
    simp [own_upd, hs, hq]
  · have e' : ¬ i = q := fun z => e z.symm
    simp only [e, own_upd, e', if_false]
    exact tb i hi
theorem own_T_arv {Z : State} {h : Heap} {b : Addr} {k : ClassId} {z : Int32} {vs : List Value} {d : Value} {N : Nat} (V : Arv Z h b k .int z vs d) (hz : z.toNatClampNeg = N) (hv : ∀ i, i < N → vs.getD i d = .int (-1)) : own_T Z h b N (fun _ => -1) := by
  obtain ⟨c, A, -, S, -, H, -⟩ := V
  refine ⟨c, A, S.trans hz, fun i hi => ?_⟩
  rw [H i (by rw [S, hz]; exact hi), hv i hi]
/-- the set on the heap while its table has eight places: S its members (and perhaps -1), i the number of adds so far -/
def own_S (Z : State) (h : Heap) (n0 : Nat) (a : Addr) (S : List Int32) (i : Nat) : Prop := ∃ (b : Addr) (t : Nat → Int32) (c : Nat), n0 ≤ a ∧ n0 ≤ b ∧ a ≠ b ∧ Exa Z h a "com/example/rigger/rigger/container/EqualityClasses$Numbers" ∧ Fld Z h a "com/example/rigger/rigger/container/EqualityClasses$Numbers" "slots" "[I" (.ref b) ∧ Fld Z h a "com/example/rigger/rigger/container/EqualityClasses$Numbers" "count" "I" (.int c.toInt32) ∧ own_T Z h b 8 t ∧ own_inv own_H8 t 8 ∧ (∀ y, y ≠ -1 → ((∃ q, q < 8 ∧ t q = y) ↔ y ∈ S)) ∧ own_occ t 8 ≤ c ∧ c ≤ i ∧ c < 5
/-- the set to be looked up in: N places, the search beginning at H -/
def own_F (H : Int32 → Nat) (N : Nat) (Z : State) (h : Heap) (a : Addr) (S : List Int32) : Prop := ∃ (b : Addr) (t : Nat → Int32), Exa Z h a "com/example/rigger/rigger/container/EqualityClasses$Numbers" ∧ Fld Z h a "com/example/rigger/rigger/container/EqualityClasses$Numbers" "slots" "[I" (.ref b) ∧ own_T Z h b N t ∧ own_inv H t N ∧ (∀ y, y ≠ -1 → ((∃ q, q < N ∧ t q = y) ↔ y ∈ S)) ∧ ∃ q, q < N ∧ t q = -1
theorem own_F_of {Z : State} {h : Heap} {n0 : Nat} {a : Addr} {S : List Int32} {i : Nat} (q : own_S Z h n0 a S i) : own_F own_H8 8 Z h a S := by
  obtain ⟨b, t, c, -, -, -, h1, h2, -, h3, h4, h5, h6, -, h7⟩ := q
  exact ⟨b, t, h1, h2, h3, h4, h5, own_free 8 (by omega)⟩
def own_c (S : List Int32) (x : Int32) : Int32 := if x = -1 then 0 else if x ∈ S then 1 else 0
theorem own_c1 {S : List Int32} {x : Int32} (h : ¬ x = -1) (m : x ∈ S) : own_c S x = 1 := by simp [own_c, h, m]
def QS (k : Nat) (h0 : Heap) (n0 : Nat) (v : Option Value) (h : Heap) (L : List Loc) : Prop := v = some (.int k.toInt32) ∧ Fr n0 L ∧ h = h0
theorem d7_0 : decode prog_81_method_5_code 0 = .ok (.aload_n 0, 1) := by decide +kernel
theorem d7_1 : decode prog_81_method_5_code 1 = .ok (.arraylength, 1) := by decide +kernel
theorem d7_2 : decode prog_81_method_5_code 2 = .ok (.iconst 1, 1) := by decide +kernel
theorem d7_3 : decode prog_81_method_5_code 3 = .ok (.isub, 1) := by decide +kernel
theorem d7_4 : decode prog_81_method_5_code 4 = .ok (.istore_n 2, 1) := by decide +kernel
theorem d7_5 : decode prog_81_method_5_code 5 = .ok (.iload_n 1, 1) := by decide +kernel
theorem d7_6 : decode prog_81_method_5_code 6 = .ok (.ldc 33, 2) := by decide +kernel
theorem d7_8 : decode prog_81_method_5_code 8 = .ok (.imul, 1) := by decide +kernel
theorem d7_9 : decode prog_81_method_5_code 9 = .ok (.istore_n 3, 1) := by decide +kernel
theorem d7_10 : decode prog_81_method_5_code 10 = .ok (.iload_n 3, 1) := by decide +kernel
theorem d7_11 : decode prog_81_method_5_code 11 = .ok (.iload_n 3, 1) := by decide +kernel
theorem d7_12 : decode prog_81_method_5_code 12 = .ok (.bipush 16, 2) := by decide +kernel
theorem d7_14 : decode prog_81_method_5_code 14 = .ok (.iushr, 1) := by decide +kernel
theorem d7_15 : decode prog_81_method_5_code 15 = .ok (.ixor, 1) := by decide +kernel
theorem d7_16 : decode prog_81_method_5_code 16 = .ok (.iload_n 2, 1) := by decide +kernel
theorem d7_17 : decode prog_81_method_5_code 17 = .ok (.iand, 1) := by decide +kernel
theorem d7_18 : decode prog_81_method_5_code 18 = .ok (.istore 4, 2) := by decide +kernel
theorem d7_20 : decode prog_81_method_5_code 20 = .ok (.aload_n 0, 1) := by decide +kernel
theorem d7_21 : decode prog_81_method_5_code 21 = .ok (.iload 4, 2) := by decide +kernel
theorem d7_23 : decode prog_81_method_5_code 23 = .ok (.iaload, 1) := by decide +kernel
theorem d7_24 : decode prog_81_method_5_code 24 = .ok (.iconst (-1), 1) := by decide +kernel
theorem d7_25 : decode prog_81_method_5_code 25 = .ok (.if_icmp .eq 22, 3) := by decide +kernel
theorem d7_28 : decode prog_81_method_5_code 28 = .ok (.aload_n 0, 1) := by decide +kernel
theorem d7_29 : decode prog_81_method_5_code 29 = .ok (.iload 4, 2) := by decide +kernel
theorem d7_31 : decode prog_81_method_5_code 31 = .ok (.iaload, 1) := by decide +kernel
theorem d7_32 : decode prog_81_method_5_code 32 = .ok (.iload_n 1, 1) := by decide +kernel
theorem d7_33 : decode prog_81_method_5_code 33 = .ok (.if_icmp .eq 14, 3) := by decide +kernel
theorem d7_36 : decode prog_81_method_5_code 36 = .ok (.iload 4, 2) := by decide +kernel
theorem d7_38 : decode prog_81_method_5_code 38 = .ok (.iconst 1, 1) := by decide +kernel
theorem d7_39 : decode prog_81_method_5_code 39 = .ok (.iadd, 1) := by decide +kernel
theorem d7_40 : decode prog_81_method_5_code 40 = .ok (.iload_n 2, 1) := by decide +kernel
theorem d7_41 : decode prog_81_method_5_code 41 = .ok (.iand, 1) := by decide +kernel
theorem d7_42 : decode prog_81_method_5_code 42 = .ok (.istore 4, 2) := by decide +kernel
theorem d7_44 : decode prog_81_method_5_code 44 = .ok (.goto (-24), 3) := by decide +kernel
theorem d7_47 : decode prog_81_method_5_code 47 = .ok (.iload 4, 2) := by decide +kernel
theorem d7_49 : decode prog_81_method_5_code 49 = .ok (.ireturn, 1) := by decide +kernel
set_option maxRecDepth 65536 in
set_option maxHeartbeats 40000000 in
theorem rm_slot8 (l : Launch) (Z : State) (a0 : Array Value) (hw : ∀ d ∈ tables_1, d.before a0 Z = true) (ws : List Jvm.Cond) (a1 : Addr) (t : Nat → Int32) (x : Int32) (k J : Nat) (h0 : Heap) (n0 : Nat) (Z0 : n0 ≤ h0.size) (Tb : own_T Z h0 a1 8 t) (hk : k = (own_H8 x + J) % 8) (hv : t k = -1 ∨ t k = x) (hl : ∀ i, i < J → t ((own_H8 x + i) % 8) ≠ -1 ∧ t ((own_H8 x + i) % 8) ≠ x) :
    MetFree l (⟨"com/example/rigger/rigger/container/EqualityClasses$Numbers", "slotOf", "([II)I"⟩ : MethodName) (head1 (Jvm.Cond.code (⟨"com/example/rigger/rigger/container/EqualityClasses$Numbers", "slotOf", "([II)I"⟩ : MethodName) prog_81_method_5_code 5 (some .int) :: ws) ({ frames := 0, cells := 0, slots := 0, locals := 0 } : Room)) (fun a U => a = #[(.ref a1), (.int x)] ∧ Z.Warmed39 U.vm ∧ U.heap = h0) (fun _ _ _ _ _ => True) (fun _ U o U' => ∃ v L, o = .returned v ∧ QS k h0 n0 v U'.heap L ∧ FrameEnd U o U' L 0 0) := by
  refine MetFree.of_bodySF (plainFor_of_name (by first | (simp [plainName, overriddenIn]; done) | decide +kernel)) hisR ?_
  intro p e s m args below meth c s₁ Bd hml0 hP hK
  obtain ⟨rfl, hZ, hh⟩ := hP
  have hx := Bd.exec
  have hby := Bd.bytes
  have hml : c.maxLocals = 5 := hml0
  have hown : s.vm.findClass "com/example/rigger/rigger/container/EqualityClasses$Numbers" = some m.cls := findClass_of_methodNamed Bd.named
  have hnm := (name_of_methodNamed Bd.named Bd.method).1
  have X0 : Stand p l e ({ frames := 0, cells := 0, slots := 0, locals := 0 } : Room) s m #[(.ref a1), (.int x)] below meth c s₁ [] 0 0 := Stand.of_body Bd
  have e0 : s₁.heap = h0 := by rw [← hh, Bd.state]; rfl
  have N0 := Fr.nil n0
  have ef : entryFrame m #[(.ref a1), (.int x)] 5 = (mkF m 0 #[.val (.ref a1), .val (.int x), .unset, .unset, .unset] []) := by first | (simp [entryFrame, mkF, argsToLocals, Value.category]; done) | rfl
  refine own_start (fun P hPP => ?_)
  refine own_step (T' := s₁) (g' := (mkF m 0 #[.val (.ref a1), .val (.int x), .unset, .unset, .unset] [])) (fun t_ k_ => castTop ef k_) ?_
  refine own_step (T' := s₁) (g' := (mkF m 1 #[.val (.ref a1), .val (.int x), .unset, .unset, .unset] [(.ref a1)])) (fun t_ k_ => XS.aloadN X0.here hx rfl (hb hby d7_0) rfl rfl k_) ?_
  have op101 := Tb
  obtain ⟨cl101, Ar101, Sz101, tb101⟩ := op101
  refine own_step (T' := s₁) (g' := (mkF m 2 #[.val (.ref a1), .val (.int x), .unset, .unset, .unset] [(.int (8 : Int32))])) (fun t_ k_ => X0.arraylength hx (by rw [e0]; exact Ar101.1) (State.isArrayOf_alike hZ.alike Ar101.2.1) (g := (mkF m 1 #[.val (.ref a1), .val (.int x), .unset, .unset, .unset] [(.ref a1)])) rfl rfl (hb hby d7_1) _ (by rw [len_of (show cl101.slots.size = (8 : Int32).toNatClampNeg from Sz101) (by decide : ¬ (8 : Int32) < 0)]; exact k_)) ?_
  refine own_step (T' := s₁) (g' := (mkF m 3 #[.val (.ref a1), .val (.int x), .unset, .unset, .unset] [(.int (1 : Int32)), (.int (8 : Int32))])) (fun t_ k_ => XS.iconst X0.here hx rfl (hb hby d7_2) k_) ?_
  refine own_step (T' := s₁) (g' := (mkF m 4 #[.val (.ref a1), .val (.int x), .unset, .unset, .unset] [(.int (7 : Int32))])) (fun t_ k_ => XS.isub X0.here hx rfl (hb hby d7_3) rfl k_) ?_
  refine own_step (T' := s₁) (g' := (mkF m 5 #[.val (.ref a1), .val (.int x), .val (.int (7 : Int32)), .unset, .unset] [])) (fun t_ k_ => XS.istoreN X0.here hx rfl (hb hby d7_4) rfl (l' := #[.val (.ref a1), .val (.int x), .val (.int (7 : Int32)), .unset, .unset]) rfl k_) ?_
  refine own_step (T' := s₁) (g' := (mkF m 6 #[.val (.ref a1), .val (.int x), .val (.int (7 : Int32)), .unset, .unset] [(.int x)])) (fun t_ k_ => XS.iloadN X0.here hx rfl (hb hby d7_5) rfl k_) ?_
  refine own_step (T' := s₁) (g' := (mkF m 8 #[.val (.ref a1), .val (.int x), .val (.int (7 : Int32)), .unset, .unset] [(.int (-1640531527 : Int32)), (.int x)])) (fun t_ k_ => X0.ldcInt hx hown (mvT hZ (hw _ (List.mem_of_getElem? (i := 31) rfl))) (g := (mkF m 6 #[.val (.ref a1), .val (.int x), .val (.int (7 : Int32)), .unset, .unset] [(.int x)])) rfl (hb hby d7_6) _ k_) ?_
  refine own_step (T' := s₁) (g' := (mkF m 9 #[.val (.ref a1), .val (.int x), .val (.int (7 : Int32)), .unset, .unset] [(.int (x * (-1640531527 : Int32)))])) (fun t_ k_ => XS.imul X0.here hx rfl (hb hby d7_8) rfl k_) ?_
  refine own_step (T' := s₁) (g' := (mkF m 10 #[.val (.ref a1), .val (.int x), .val (.int (7 : Int32)), .val (.int (x * (-1640531527 : Int32))), .unset] [])) (fun t_ k_ => XS.istoreN X0.here hx rfl (hb hby d7_9) rfl (l' := #[.val (.ref a1), .val (.int x), .val (.int (7 : Int32)), .val (.int (x * (-1640531527 : Int32))), .unset]) rfl k_) ?_
  refine own_step (T' := s₁) (g' := (mkF m 11 #[.val (.ref a1), .val (.int x), .val (.int (7 : Int32)), .val (.int (x * (-1640531527 : Int32))), .unset] [(.int (x * (-1640531527 : Int32)))])) (fun t_ k_ => XS.iloadN X0.here hx rfl (hb hby d7_10) rfl k_) ?_
  refine own_step (T' := s₁) (g' := (mkF m 12 #[.val (.ref a1), .val (.int x), .val (.int (7 : Int32)), .val (.int (x * (-1640531527 : Int32))), .unset] [(.int (x * (-1640531527 : Int32))), (.int (x * (-1640531527 : Int32)))])) (fun t_ k_ => XS.iloadN X0.here hx rfl (hb hby d7_11) rfl k_) ?_
  refine own_step (T' := s₁) (g' := (mkF m 14 #[.val (.ref a1), .val (.int x), .val (.int (7 : Int32)), .val (.int (x * (-1640531527 : Int32))), .unset] [(.int (16 : Int32)), (.int (x * (-1640531527 : Int32))), (.int (x * (-1640531527 : Int32)))])) (fun t_ k_ => XS.bipush X0.here hx rfl (hb hby d7_12) k_) ?_
  refine own_step (T' := s₁) (g' := (mkF m 15 #[.val (.ref a1), .val (.int x), .val (.int (7 : Int32)), .val (.int (x * (-1640531527 : Int32))), .unset] [(.int (Jvm.Free.XT.ushr (x * (-1640531527 : Int32)) (16 : Int32))), (.int (x * (-1640531527 : Int32)))])) (fun t_ k_ => XT.iushr X0.here hx rfl (hb hby d7_14) rfl k_) ?_
  refine own_step (T' := s₁) (g' := (mkF m 16 #[.val (.ref a1), .val (.int x), .val (.int (7 : Int32)), .val (.int (x * (-1640531527 : Int32))), .unset] [(.int ((x * (-1640531527 : Int32)) ^^^ (Jvm.Free.XT.ushr (x * (-1640531527 : Int32)) (16 : Int32))))])) (fun t_ k_ => XS.ixor X0.here hx rfl (hb hby d7_15) rfl k_) ?_
  refine own_step (T' := s₁) (g' := (mkF m 17 #[.val (.ref a1), .val (.int x), .val (.int (7 : Int32)), .val (.int (x * (-1640531527 : Int32))), .unset] [(.int (7 : Int32)), (.int ((x * (-1640531527 : Int32)) ^^^ (Jvm.Free.XT.ushr (x * (-1640531527 : Int32)) (16 : Int32))))])) (fun t_ k_ => XS.iloadN X0.here hx rfl (hb hby d7_16) rfl k_) ?_
  refine own_step (T' := s₁) (g' := (mkF m 18 #[.val (.ref a1), .val (.int x), .val (.int (7 : Int32)), .val (.int (x * (-1640531527 : Int32))), .unset] [(.int (((x * (-1640531527 : Int32)) ^^^ (Jvm.Free.XT.ushr (x * (-1640531527 : Int32)) (16 : Int32))) &&& (7 : Int32)))])) (fun t_ k_ => XS.iand X0.here hx rfl (hb hby d7_17) rfl k_) ?_
  refine own_step (T' := s₁) (g' := (mkF m 20 #[.val (.ref a1), .val (.int x), .val (.int (7 : Int32)), .val (.int (x * (-1640531527 : Int32))), .val (.int (((x * (-1640531527 : Int32)) ^^^ (Jvm.Free.XT.ushr (x * (-1640531527 : Int32)) (16 : Int32))) &&& (7 : Int32)))] [])) (fun t_ k_ => XS.istore X0.here hx rfl (hb hby d7_18) rfl (l' := #[.val (.ref a1), .val (.int x), .val (.int (7 : Int32)), .val (.int (x * (-1640531527 : Int32))), .val (.int (((x * (-1640531527 : Int32)) ^^^ (Jvm.Free.XT.ushr (x * (-1640531527 : Int32)) (16 : Int32))) &&& (7 : Int32)))]) rfl k_) ?_
  rw [own_s8]
  have loop : ∀ (n i : Nat), i + n = J → ∀ T : State, Stand p l e ({ frames := 0, cells := 0, slots := 0, locals := 0 } : Room) s m #[(.ref a1), (.int x)] below meth c T [] 0 0 → T.heap = h0 → own_Run p.tables e below T (mkF m 20 #[.val (.ref a1), .val (.int x), .val (.int (7 : Int32)), .val (.int (x * (-1640531527 : Int32))), .val (.int ((own_H8 x + i) % 8).toInt32)] []) P := by
    intro n
    induction n with
    | zero =>
      intro i hi T9 X9 e9
      have hiJ : i = J := by omega
      rw [hk, ← hiJ] at hv
      refine own_step (T' := T9) (g' := (mkF m 21 #[.val (.ref a1), .val (.int x), .val (.int (7 : Int32)), .val (.int (x * (-1640531527 : Int32))), .val (.int ((own_H8 x + i) % 8).toInt32)] [(.ref a1)])) (fun t_ k_ => XS.aloadN X9.here hx rfl (hb hby d7_20) rfl rfl k_) ?_
      refine own_step (T' := T9) (g' := (mkF m 23 #[.val (.ref a1), .val (.int x), .val (.int (7 : Int32)), .val (.int (x * (-1640531527 : Int32))), .val (.int ((own_H8 x + i) % 8).toInt32)] [(.int ((own_H8 x + i) % 8).toInt32), (.ref a1)])) (fun t_ k_ => XS.iload X9.here hx rfl (hb hby d7_21) rfl k_) ?_
      have op102 := Tb
      obtain ⟨cl102, Ar102, Sz102, tb102⟩ := op102
      refine own_step (T' := T9) (g' := (mkF m 24 #[.val (.ref a1), .val (.int x), .val (.int (7 : Int32)), .val (.int (x * (-1640531527 : Int32))), .val (.int ((own_H8 x + i) % 8).toInt32)] [(.int (t ((own_H8 x + i) % 8)))])) (fun t_ k_ => X9.iaload hx (j := ((own_H8 x + i) % 8).toInt32) (v := (.int (t ((own_H8 x + i) % 8)))) (by rw [e9]; exact Ar102.1) (State.isArrayOf_alike hZ.alike Ar102.2.1) Ar102.2.2 (own_in Sz102 (Nat.mod_lt _ (by decide)) (by decide)) (own_hat tb102 (Nat.mod_lt _ (by decide)) (by decide)) (g := (mkF m 23 #[.val (.ref a1), .val (.int x), .val (.int (7 : Int32)), .val (.int (x * (-1640531527 : Int32))), .val (.int ((own_H8 x + i) % 8).toInt32)] [(.int ((own_H8 x + i) % 8).toInt32), (.ref a1)])) rfl rfl (hb hby d7_23) _ k_) ?_
      refine own_step (T' := T9) (g' := (mkF m 25 #[.val (.ref a1), .val (.int x), .val (.int (7 : Int32)), .val (.int (x * (-1640531527 : Int32))), .val (.int ((own_H8 x + i) % 8).toInt32)] [(.int (-1 : Int32)), (.int (t ((own_H8 x + i) % 8)))])) (fun t_ k_ => XS.iconst X9.here hx rfl (hb hby d7_24) k_) ?_
      by_cases hc25_103 : (t ((own_H8 x + i) % 8)) = (-1 : Int32)
      · refine own_step (T' := T9) (g' := (mkF m 47 #[.val (.ref a1), .val (.int x), .val (.int (7 : Int32)), .val (.int (x * (-1640531527 : Int32))), .val (.int ((own_H8 x + i) % 8).toInt32)] [])) (fun t_ k_ => XS.icmpYes X9.here hx rfl (pc0 := 25) (pc' := 47) rfl (hb hby d7_25) rfl (teq hc25_103).1 (by decide) (by decide) k_) ?_
        refine own_step (T' := T9) (g' := (mkF m 49 #[.val (.ref a1), .val (.int x), .val (.int (7 : Int32)), .val (.int (x * (-1640531527 : Int32))), .val (.int ((own_H8 x + i) % 8).toInt32)] [(.int ((own_H8 x + i) % 8).toInt32)])) (fun t_ k_ => XS.iload X9.here hx rfl (hb hby d7_47) rfl k_) ?_
        obtain ⟨fs, hrR, hrun, hended, hWW, hsame⟩ := X9.leave (v := some (.int ((own_H8 x + i) % 8).toInt32)) (fun h => by rw [Bd.returns] at h; cases h)
        refine ⟨_, _, own_retI X9 hx Bd.returns (hb hby d7_49) hrR, hrun, hended, hPP _ _ ⟨_, _, rfl, ?_, ⟨_, rfl⟩, hWW, hsame.mono (by decide) (by decide)⟩⟩
        show QS k h0 n0 _ T9.heap _
        rw [e9]
        exact ⟨by rw [hk, hiJ], N0, rfl⟩
      · refine own_step (T' := T9) (g' := (mkF m 28 #[.val (.ref a1), .val (.int x), .val (.int (7 : Int32)), .val (.int (x * (-1640531527 : Int32))), .val (.int ((own_H8 x + i) % 8).toInt32)] [])) (fun t_ k_ => XS.icmpNo X9.here hx rfl (hb hby d7_25) rfl (feq hc25_103).1 k_) ?_
        refine own_step (T' := T9) (g' := (mkF m 29 #[.val (.ref a1), .val (.int x), .val (.int (7 : Int32)), .val (.int (x * (-1640531527 : Int32))), .val (.int ((own_H8 x + i) % 8).toInt32)] [(.ref a1)])) (fun t_ k_ => XS.aloadN X9.here hx rfl (hb hby d7_28) rfl rfl k_) ?_
        refine own_step (T' := T9) (g' := (mkF m 31 #[.val (.ref a1), .val (.int x), .val (.int (7 : Int32)), .val (.int (x * (-1640531527 : Int32))), .val (.int ((own_H8 x + i) % 8).toInt32)] [(.int ((own_H8 x + i) % 8).toInt32), (.ref a1)])) (fun t_ k_ => XS.iload X9.here hx rfl (hb hby d7_29) rfl k_) ?_
        have op104 := Tb
        obtain ⟨cl104, Ar104, Sz104, tb104⟩ := op104
        refine own_step (T' := T9) (g' := (mkF m 32 #[.val (.ref a1), .val (.int x), .val (.int (7 : Int32)), .val (.int (x * (-1640531527 : Int32))), .val (.int ((own_H8 x + i) % 8).toInt32)] [(.int (t ((own_H8 x + i) % 8)))])) (fun t_ k_ => X9.iaload hx (j := ((own_H8 x + i) % 8).toInt32) (v := (.int (t ((own_H8 x + i) % 8)))) (by rw [e9]; exact Ar104.1) (State.isArrayOf_alike hZ.alike Ar104.2.1) Ar104.2.2 (own_in Sz104 (Nat.mod_lt _ (by decide)) (by decide)) (own_hat tb104 (Nat.mod_lt _ (by decide)) (by decide)) (g := (mkF m 31 #[.val (.ref a1), .val (.int x), .val (.int (7 : Int32)), .val (.int (x * (-1640531527 : Int32))), .val (.int ((own_H8 x + i) % 8).toInt32)] [(.int ((own_H8 x + i) % 8).toInt32), (.ref a1)])) rfl rfl (hb hby d7_31) _ k_) ?_
        refine own_step (T' := T9) (g' := (mkF m 33 #[.val (.ref a1), .val (.int x), .val (.int (7 : Int32)), .val (.int (x * (-1640531527 : Int32))), .val (.int ((own_H8 x + i) % 8).toInt32)] [(.int x), (.int (t ((own_H8 x + i) % 8)))])) (fun t_ k_ => XS.iloadN X9.here hx rfl (hb hby d7_32) rfl k_) ?_
        refine own_step (T' := T9) (g' := (mkF m 47 #[.val (.ref a1), .val (.int x), .val (.int (7 : Int32)), .val (.int (x * (-1640531527 : Int32))), .val (.int ((own_H8 x + i) % 8).toInt32)] [])) (fun t_ k_ => XS.icmpYes X9.here hx rfl (pc0 := 33) (pc' := 47) rfl (hb hby d7_33) rfl (teq (hv.resolve_left hc25_103)).1 (by decide) (by decide) k_) ?_
        refine own_step (T' := T9) (g' := (mkF m 49 #[.val (.ref a1), .val (.int x), .val (.int (7 : Int32)), .val (.int (x * (-1640531527 : Int32))), .val (.int ((own_H8 x + i) % 8).toInt32)] [(.int ((own_H8 x + i) % 8).toInt32)])) (fun t_ k_ => XS.iload X9.here hx rfl (hb hby d7_47) rfl k_) ?_
        obtain ⟨fs, hrR, hrun, hended, hWW, hsame⟩ := X9.leave (v := some (.int ((own_H8 x + i) % 8).toInt32)) (fun h => by rw [Bd.returns] at h; cases h)
        refine ⟨_, _, own_retI X9 hx Bd.returns (hb hby d7_49) hrR, hrun, hended, hPP _ _ ⟨_, _, rfl, ?_, ⟨_, rfl⟩, hWW, hsame.mono (by decide) (by decide)⟩⟩
        show QS k h0 n0 _ T9.heap _
        rw [e9]
        exact ⟨by rw [hk, hiJ], N0, rfl⟩
    | succ n ih =>
      intro i hi T9 X9 e9
      have hni := hl i (by omega)
      refine own_step (T' := T9) (g' := (mkF m 21 #[.val (.ref a1), .val (.int x), .val (.int (7 : Int32)), .val (.int (x * (-1640531527 : Int32))), .val (.int ((own_H8 x + i) % 8).toInt32)] [(.ref a1)])) (fun t_ k_ => XS.aloadN X9.here hx rfl (hb hby d7_20) rfl rfl k_) ?_
      refine own_step (T' := T9) (g' := (mkF m 23 #[.val (.ref a1), .val (.int x), .val (.int (7 : Int32)), .val (.int (x * (-1640531527 : Int32))), .val (.int ((own_H8 x + i) % 8).toInt32)] [(.int ((own_H8 x + i) % 8).toInt32), (.ref a1)])) (fun t_ k_ => XS.iload X9.here hx rfl (hb hby d7_21) rfl k_) ?_
      have op105 := Tb
      obtain ⟨cl105, Ar105, Sz105, tb105⟩ := op105
      refine own_step (T' := T9) (g' := (mkF m 24 #[.val (.ref a1), .val (.int x), .val (.int (7 : Int32)), .val (.int (x * (-1640531527 : Int32))), .val (.int ((own_H8 x + i) % 8).toInt32)] [(.int (t ((own_H8 x + i) % 8)))])) (fun t_ k_ => X9.iaload hx (j := ((own_H8 x + i) % 8).toInt32) (v := (.int (t ((own_H8 x + i) % 8)))) (by rw [e9]; exact Ar105.1) (State.isArrayOf_alike hZ.alike Ar105.2.1) Ar105.2.2 (own_in Sz105 (Nat.mod_lt _ (by decide)) (by decide)) (own_hat tb105 (Nat.mod_lt _ (by decide)) (by decide)) (g := (mkF m 23 #[.val (.ref a1), .val (.int x), .val (.int (7 : Int32)), .val (.int (x * (-1640531527 : Int32))), .val (.int ((own_H8 x + i) % 8).toInt32)] [(.int ((own_H8 x + i) % 8).toInt32), (.ref a1)])) rfl rfl (hb hby d7_23) _ k_) ?_
      refine own_step (T' := T9) (g' := (mkF m 25 #[.val (.ref a1), .val (.int x), .val (.int (7 : Int32)), .val (.int (x * (-1640531527 : Int32))), .val (.int ((own_H8 x + i) % 8).toInt32)] [(.int (-1 : Int32)), (.int (t ((own_H8 x + i) % 8)))])) (fun t_ k_ => XS.iconst X9.here hx rfl (hb hby d7_24) k_) ?_
      refine own_step (T' := T9) (g' := (mkF m 28 #[.val (.ref a1), .val (.int x), .val (.int (7 : Int32)), .val (.int (x * (-1640531527 : Int32))), .val (.int ((own_H8 x + i) % 8).toInt32)] [])) (fun t_ k_ => XS.icmpNo X9.here hx rfl (hb hby d7_25) rfl (feq hni.1).1 k_) ?_
      refine own_step (T' := T9) (g' := (mkF m 29 #[.val (.ref a1), .val (.int x), .val (.int (7 : Int32)), .val (.int (x * (-1640531527 : Int32))), .val (.int ((own_H8 x + i) % 8).toInt32)] [(.ref a1)])) (fun t_ k_ => XS.aloadN X9.here hx rfl (hb hby d7_28) rfl rfl k_) ?_
      refine own_step (T' := T9) (g' := (mkF m 31 #[.val (.ref a1), .val (.int x), .val (.int (7 : Int32)), .val (.int (x * (-1640531527 : Int32))), .val (.int ((own_H8 x + i) % 8).toInt32)] [(.int ((own_H8 x + i) % 8).toInt32), (.ref a1)])) (fun t_ k_ => XS.iload X9.here hx rfl (hb hby d7_29) rfl k_) ?_
      have op106 := Tb
      obtain ⟨cl106, Ar106, Sz106, tb106⟩ := op106
      refine own_step (T' := T9) (g' := (mkF m 32 #[.val (.ref a1), .val (.int x), .val (.int (7 : Int32)), .val (.int (x * (-1640531527 : Int32))), .val (.int ((own_H8 x + i) % 8).toInt32)] [(.int (t ((own_H8 x + i) % 8)))])) (fun t_ k_ => X9.iaload hx (j := ((own_H8 x + i) % 8).toInt32) (v := (.int (t ((own_H8 x + i) % 8)))) (by rw [e9]; exact Ar106.1) (State.isArrayOf_alike hZ.alike Ar106.2.1) Ar106.2.2 (own_in Sz106 (Nat.mod_lt _ (by decide)) (by decide)) (own_hat tb106 (Nat.mod_lt _ (by decide)) (by decide)) (g := (mkF m 31 #[.val (.ref a1), .val (.int x), .val (.int (7 : Int32)), .val (.int (x * (-1640531527 : Int32))), .val (.int ((own_H8 x + i) % 8).toInt32)] [(.int ((own_H8 x + i) % 8).toInt32), (.ref a1)])) rfl rfl (hb hby d7_31) _ k_) ?_
      refine own_step (T' := T9) (g' := (mkF m 33 #[.val (.ref a1), .val (.int x), .val (.int (7 : Int32)), .val (.int (x * (-1640531527 : Int32))), .val (.int ((own_H8 x + i) % 8).toInt32)] [(.int x), (.int (t ((own_H8 x + i) % 8)))])) (fun t_ k_ => XS.iloadN X9.here hx rfl (hb hby d7_32) rfl k_) ?_
      refine own_step (T' := T9) (g' := (mkF m 36 #[.val (.ref a1), .val (.int x), .val (.int (7 : Int32)), .val (.int (x * (-1640531527 : Int32))), .val (.int ((own_H8 x + i) % 8).toInt32)] [])) (fun t_ k_ => XS.icmpNo X9.here hx rfl (hb hby d7_33) rfl (feq hni.2).1 k_) ?_
      refine own_step (T' := T9) (g' := (mkF m 38 #[.val (.ref a1), .val (.int x), .val (.int (7 : Int32)), .val (.int (x * (-1640531527 : Int32))), .val (.int ((own_H8 x + i) % 8).toInt32)] [(.int ((own_H8 x + i) % 8).toInt32)])) (fun t_ k_ => XS.iload X9.here hx rfl (hb hby d7_36) rfl k_) ?_
      refine own_step (T' := T9) (g' := (mkF m 39 #[.val (.ref a1), .val (.int x), .val (.int (7 : Int32)), .val (.int (x * (-1640531527 : Int32))), .val (.int ((own_H8 x + i) % 8).toInt32)] [(.int (1 : Int32)), (.int ((own_H8 x + i) % 8).toInt32)])) (fun t_ k_ => XS.iconst X9.here hx rfl (hb hby d7_38) k_) ?_
      refine own_step (T' := T9) (g' := (mkF m 40 #[.val (.ref a1), .val (.int x), .val (.int (7 : Int32)), .val (.int (x * (-1640531527 : Int32))), .val (.int ((own_H8 x + i) % 8).toInt32)] [(.int (((own_H8 x + i) % 8).toInt32 + (1 : Int32)))])) (fun t_ k_ => XS.iadd X9.here hx rfl (hb hby d7_39) rfl k_) ?_
      refine own_step (T' := T9) (g' := (mkF m 41 #[.val (.ref a1), .val (.int x), .val (.int (7 : Int32)), .val (.int (x * (-1640531527 : Int32))), .val (.int ((own_H8 x + i) % 8).toInt32)] [(.int (7 : Int32)), (.int (((own_H8 x + i) % 8).toInt32 + (1 : Int32)))])) (fun t_ k_ => XS.iloadN X9.here hx rfl (hb hby d7_40) rfl k_) ?_
      refine own_step (T' := T9) (g' := (mkF m 42 #[.val (.ref a1), .val (.int x), .val (.int (7 : Int32)), .val (.int (x * (-1640531527 : Int32))), .val (.int ((own_H8 x + i) % 8).toInt32)] [(.int ((((own_H8 x + i) % 8).toInt32 + (1 : Int32)) &&& (7 : Int32)))])) (fun t_ k_ => XS.iand X9.here hx rfl (hb hby d7_41) rfl k_) ?_
      refine own_step (T' := T9) (g' := (mkF m 44 #[.val (.ref a1), .val (.int x), .val (.int (7 : Int32)), .val (.int (x * (-1640531527 : Int32))), .val (.int ((((own_H8 x + i) % 8).toInt32 + (1 : Int32)) &&& (7 : Int32)))] [])) (fun t_ k_ => XS.istore X9.here hx rfl (hb hby d7_42) rfl (l' := #[.val (.ref a1), .val (.int x), .val (.int (7 : Int32)), .val (.int (x * (-1640531527 : Int32))), .val (.int ((((own_H8 x + i) % 8).toInt32 + (1 : Int32)) &&& (7 : Int32)))]) rfl k_) ?_
      refine own_step (T' := T9) (g' := (mkF m 20 #[.val (.ref a1), .val (.int x), .val (.int (7 : Int32)), .val (.int (x * (-1640531527 : Int32))), .val (.int ((((own_H8 x + i) % 8).toInt32 + (1 : Int32)) &&& (7 : Int32)))] [])) (fun t_ k_ => XS.goto X9.here hx rfl (pc0 := 44) (pc' := 20) rfl (hb hby d7_44) (by decide) (by decide) k_) ?_
      rw [own_n8]
      exact ih (i + 1) (by omega) _ X9 e9
  exact loop J 0 (by omega) _ X0 e0
set_option maxRecDepth 65536 in
set_option maxHeartbeats 40000000 in
theorem rm_slot16 (l : Launch) (Z : State) (a0 : Array Value) (hw : ∀ d ∈ tables_1, d.before a0 Z = true) (ws : List Jvm.Cond) (a1 : Addr) (t : Nat → Int32) (x : Int32) (k J : Nat) (h0 : Heap) (n0 : Nat) (Z0 : n0 ≤ h0.size) (Tb : own_T Z h0 a1 16 t) (hk : k = (own_H16 x + J) % 16) (hv : t k = -1 ∨ t k = x) (hl : ∀ i, i < J → t ((own_H16 x + i) % 16) ≠ -1 ∧ t ((own_H16 x + i) % 16) ≠ x) :
    MetFree l (⟨"com/example/rigger/rigger/container/EqualityClasses$Numbers", "slotOf", "([II)I"⟩ : MethodName) (head1 (Jvm.Cond.code (⟨"com/example/rigger/rigger/container/EqualityClasses$Numbers", "slotOf", "([II)I"⟩ : MethodName) prog_81_method_5_code 5 (some .int) :: ws) ({ frames := 0, cells := 0, slots := 0, locals := 0 } : Room)) (fun a U => a = #[(.ref a1), (.int x)] ∧ Z.Warmed39 U.vm ∧ U.heap = h0) (fun _ _ _ _ _ => True) (fun _ U o U' => ∃ v L, o = .returned v ∧ QS k h0 n0 v U'.heap L ∧ FrameEnd U o U' L 0 0) := by
  refine MetFree.of_bodySF (plainFor_of_name (by first | (simp [plainName, overriddenIn]; done) | decide +kernel)) hisR ?_
  intro p e s m args below meth c s₁ Bd hml0 hP hK
  obtain ⟨rfl, hZ, hh⟩ := hP
  have hx := Bd.exec
  have hby := Bd.bytes
  have hml : c.maxLocals = 5 := hml0
  have hown : s.vm.findClass "com/example/rigger/rigger/container/EqualityClasses$Numbers" = some m.cls := findClass_of_methodNamed Bd.named
  have hnm := (name_of_methodNamed Bd.named Bd.method).1
  have X0 : Stand p l e ({ frames := 0, cells := 0, slots := 0, locals := 0 } : Room) s m #[(.ref a1), (.int x)] below meth c s₁ [] 0 0 := Stand.of_body Bd
  have e0 : s₁.heap = h0 := by rw [← hh, Bd.state]; rfl
  have N0 := Fr.nil n0
  have ef : entryFrame m #[(.ref a1), (.int x)] 5 = (mkF m 0 #[.val (.ref a1), .val (.int x), .unset, .unset, .unset] []) := by first | (simp [entryFrame, mkF, argsToLocals, Value.category]; done) | rfl
  refine own_start (fun P hPP => ?_)
  refine own_step (T' := s₁) (g' := (mkF m 0 #[.val (.ref a1), .val (.int x), .unset, .unset, .unset] [])) (fun t_ k_ => castTop ef k_) ?_
  refine own_step (T' := s₁) (g' := (mkF m 1 #[.val (.ref a1), .val (.int x), .unset, .unset, .unset] [(.ref a1)])) (fun t_ k_ => XS.aloadN X0.here hx rfl (hb hby d7_0) rfl rfl k_) ?_
  have op101 := Tb
  obtain ⟨cl101, Ar101, Sz101, tb101⟩ := op101
  refine own_step (T' := s₁) (g' := (mkF m 2 #[.val (.ref a1), .val (.int x), .unset, .unset, .unset] [(.int (16 : Int32))])) (fun t_ k_ => X0.arraylength hx (by rw [e0]; exact Ar101.1) (State.isArrayOf_alike hZ.alike Ar101.2.1) (g := (mkF m 1 #[.val (.ref a1), .val (.int x), .unset, .unset, .unset] [(.ref a1)])) rfl rfl (hb hby d7_1) _ (by rw [len_of (show cl101.slots.size = (16 : Int32).toNatClampNeg from Sz101) (by decide : ¬ (16 : Int32) < 0)]; exact k_)) ?_
  refine own_step (T' := s₁) (g' := (mkF m 3 #[.val (.ref a1), .val (.int x), .unset, .unset, .unset] [(.int (1 : Int32)), (.int (16 : Int32))])) (fun t_ k_ => XS.iconst X0.here hx rfl (hb hby d7_2) k_) ?_
  refine own_step (T' := s₁) (g' := (mkF m 4 #[.val (.ref a1), .val (.int x), .unset, .unset, .unset] [(.int (15 : Int32))])) (fun t_ k_ => XS.isub X0.here hx rfl (hb hby d7_3) rfl k_) ?_
  refine own_step (T' := s₁) (g' := (mkF m 5 #[.val (.ref a1), .val (.int x), .val (.int (15 : Int32)), .unset, .unset] [])) (fun t_ k_ => XS.istoreN X0.here hx rfl (hb hby d7_4) rfl (l' := #[.val (.ref a1), .val (.int x), .val (.int (15 : Int32)), .unset, .unset]) rfl k_) ?_
  refine own_step (T' := s₁) (g' := (mkF m 6 #[.val (.ref a1), .val (.int x), .val (.int (15 : Int32)), .unset, .unset] [(.int x)])) (fun t_ k_ => XS.iloadN X0.here hx rfl (hb hby d7_5) rfl k_) ?_
  refine own_step (T' := s₁) (g' := (mkF m 8 #[.val (.ref a1), .val (.int x), .val (.int (15 : Int32)), .unset, .unset] [(.int (-1640531527 : Int32)), (.int x)])) (fun t_ k_ => X0.ldcInt hx hown (mvT hZ (hw _ (List.mem_of_getElem? (i := 31) rfl))) (g := (mkF m 6 #[.val (.ref a1), .val (.int x), .val (.int (15 : Int32)), .unset, .unset] [(.int x)])) rfl (hb hby d7_6) _ k_) ?_
  refine own_step (T' := s₁) (g' := (mkF m 9 #[.val (.ref a1), .val (.int x), .val (.int (15 : Int32)), .unset, .unset] [(.int (x * (-1640531527 : Int32)))])) (fun t_ k_ => XS.imul X0.here hx rfl (hb hby d7_8) rfl k_) ?_
  refine own_step (T' := s₁) (g' := (mkF m 10 #[.val (.ref a1), .val (.int x), .val (.int (15 : Int32)), .val (.int (x * (-1640531527 : Int32))), .unset] [])) (fun t_ k_ => XS.istoreN X0.here hx rfl (hb hby d7_9) rfl (l' := #[.val (.ref a1), .val (.int x), .val (.int (15 : Int32)), .val (.int (x * (-1640531527 : Int32))), .unset]) rfl k_) ?_
  refine own_step (T' := s₁) (g' := (mkF m 11 #[.val (.ref a1), .val (.int x), .val (.int (15 : Int32)), .val (.int (x * (-1640531527 : Int32))), .unset] [(.int (x * (-1640531527 : Int32)))])) (fun t_ k_ => XS.iloadN X0.here hx rfl (hb hby d7_10) rfl k_) ?_
  refine own_step (T' := s₁) (g' := (mkF m 12 #[.val (.ref a1), .val (.int x), .val (.int (15 : Int32)), .val (.int (x * (-1640531527 : Int32))), .unset] [(.int (x * (-1640531527 : Int32))), (.int (x * (-1640531527 : Int32)))])) (fun t_ k_ => XS.iloadN X0.here hx rfl (hb hby d7_11) rfl k_) ?_
  refine own_step (T' := s₁) (g' := (mkF m 14 #[.val (.ref a1), .val (.int x), .val (.int (15 : Int32)), .val (.int (x * (-1640531527 : Int32))), .unset] [(.int (16 : Int32)), (.int (x * (-1640531527 : Int32))), (.int (x * (-1640531527 : Int32)))])) (fun t_ k_ => XS.bipush X0.here hx rfl (hb hby d7_12) k_) ?_
  refine own_step (T' := s₁) (g' := (mkF m 15 #[.val (.ref a1), .val (.int x), .val (.int (15 : Int32)), .val (.int (x * (-1640531527 : Int32))), .unset] [(.int (Jvm.Free.XT.ushr (x * (-1640531527 : Int32)) (16 : Int32))), (.int (x * (-1640531527 : Int32)))])) (fun t_ k_ => XT.iushr X0.here hx rfl (hb hby d7_14) rfl k_) ?_
  refine own_step (T' := s₁) (g' := (mkF m 16 #[.val (.ref a1), .val (.int x), .val (.int (15 : Int32)), .val (.int (x * (-1640531527 : Int32))), .unset] [(.int ((x * (-1640531527 : Int32)) ^^^ (Jvm.Free.XT.ushr (x * (-1640531527 : Int32)) (16 : Int32))))])) (fun t_ k_ => XS.ixor X0.here hx rfl (hb hby d7_15) rfl k_) ?_
  refine own_step (T' := s₁) (g' := (mkF m 17 #[.val (.ref a1), .val (.int x), .val (.int (15 : Int32)), .val (.int (x * (-1640531527 : Int32))), .unset] [(.int (15 : Int32)), (.int ((x * (-1640531527 : Int32)) ^^^ (Jvm.Free.XT.ushr (x * (-1640531527 : Int32)) (16 : Int32))))])) (fun t_ k_ => XS.iloadN X0.here hx rfl (hb hby d7_16) rfl k_) ?_
  refine own_step (T' := s₁) (g' := (mkF m 18 #[.val (.ref a1), .val (.int x), .val (.int (15 : Int32)), .val (.int (x * (-1640531527 : Int32))), .unset] [(.int (((x * (-1640531527 : Int32)) ^^^ (Jvm.Free.XT.ushr (x * (-1640531527 : Int32)) (16 : Int32))) &&& (15 : Int32)))])) (fun t_ k_ => XS.iand X0.here hx rfl (hb hby d7_17) rfl k_) ?_
  refine own_step (T' := s₁) (g' := (mkF m 20 #[.val (.ref a1), .val (.int x), .val (.int (15 : Int32)), .val (.int (x * (-1640531527 : Int32))), .val (.int (((x * (-1640531527 : Int32)) ^^^ (Jvm.Free.XT.ushr (x * (-1640531527 : Int32)) (16 : Int32))) &&& (15 : Int32)))] [])) (fun t_ k_ => XS.istore X0.here hx rfl (hb hby d7_18) rfl (l' := #[.val (.ref a1), .val (.int x), .val (.int (15 : Int32)), .val (.int (x * (-1640531527 : Int32))), .val (.int (((x * (-1640531527 : Int32)) ^^^ (Jvm.Free.XT.ushr (x * (-1640531527 : Int32)) (16 : Int32))) &&& (15 : Int32)))]) rfl k_) ?_
  rw [own_s16]
  have loop : ∀ (n i : Nat), i + n = J → ∀ T : State, Stand p l e ({ frames := 0, cells := 0, slots := 0, locals := 0 } : Room) s m #[(.ref a1), (.int x)] below meth c T [] 0 0 → T.heap = h0 → own_Run p.tables e below T (mkF m 20 #[.val (.ref a1), .val (.int x), .val (.int (15 : Int32)), .val (.int (x * (-1640531527 : Int32))), .val (.int ((own_H16 x + i) % 16).toInt32)] []) P := by
    intro n
    induction n with
    | zero =>
      intro i hi T9 X9 e9
      have hiJ : i = J := by omega
      rw [hk, ← hiJ] at hv
      refine own_step (T' := T9) (g' := (mkF m 21 #[.val (.ref a1), .val (.int x), .val (.int (15 : Int32)), .val (.int (x * (-1640531527 : Int32))), .val (.int ((own_H16 x + i) % 16).toInt32)] [(.ref a1)])) (fun t_ k_ => XS.aloadN X9.here hx rfl (hb hby d7_20) rfl rfl k_) ?_
      refine own_step (T' := T9) (g' := (mkF m 23 #[.val (.ref a1), .val (.int x), .val (.int (15 : Int32)), .val (.int (x * (-1640531527 : Int32))), .val (.int ((own_H16 x + i) % 16).toInt32)] [(.int ((own_H16 x + i) % 16).toInt32), (.ref a1)])) (fun t_ k_ => XS.iload X9.here hx rfl (hb hby d7_21) rfl k_) ?_
      have op102 := Tb
      obtain ⟨cl102, Ar102, Sz102, tb102⟩ := op102
      refine own_step (T' := T9) (g' := (mkF m 24 #[.val (.ref a1), .val (.int x), .val (.int (15 : Int32)), .val (.int (x * (-1640531527 : Int32))), .val (.int ((own_H16 x + i) % 16).toInt32)] [(.int (t ((own_H16 x + i) % 16)))])) (fun t_ k_ => X9.iaload hx (j := ((own_H16 x + i) % 16).toInt32) (v := (.int (t ((own_H16 x + i) % 16)))) (by rw [e9]; exact Ar102.1) (State.isArrayOf_alike hZ.alike Ar102.2.1) Ar102.2.2 (own_in Sz102 (Nat.mod_lt _ (by decide)) (by decide)) (own_hat tb102 (Nat.mod_lt _ (by decide)) (by decide)) (g := (mkF m 23 #[.val (.ref a1), .val (.int x), .val (.int (15 : Int32)), .val (.int (x * (-1640531527 : Int32))), .val (.int ((own_H16 x + i) % 16).toInt32)] [(.int ((own_H16 x + i) % 16).toInt32), (.ref a1)])) rfl rfl (hb hby d7_23) _ k_) ?_
      refine own_step (T' := T9) (g' := (mkF m 25 #[.val (.ref a1), .val (.int x), .val (.int (15 : Int32)), .val (.int (x * (-1640531527 : Int32))), .val (.int ((own_H16 x + i) % 16).toInt32)] [(.int (-1 : Int32)), (.int (t ((own_H16 x + i) % 16)))])) (fun t_ k_ => XS.iconst X9.here hx rfl (hb hby d7_24) k_) ?_
      by_cases hc25_103 : (t ((own_H16 x + i) % 16)) = (-1 : Int32)
      · refine own_step (T' := T9) (g' := (mkF m 47 #[.val (.ref a1), .val (.int x), .val (.int (15 : Int32)), .val (.int (x * (-1640531527 : Int32))), .val (.int ((own_H16 x + i) % 16).toInt32)] [])) (fun t_ k_ => XS.icmpYes X9.here hx rfl (pc0 := 25) (pc' := 47) rfl (hb hby d7_25) rfl (teq hc25_103).1 (by decide) (by decide) k_) ?_
        refine own_step (T' := T9) (g' := (mkF m 49 #[.val (.ref a1), .val (.int x), .val (.int (15 : Int32)), .val (.int (x * (-1640531527 : Int32))), .val (.int ((own_H16 x + i) % 16).toInt32)] [(.int ((own_H16 x + i) % 16).toInt32)])) (fun t_ k_ => XS.iload X9.here hx rfl (hb hby d7_47) rfl k_) ?_
        obtain ⟨fs, hrR, hrun, hended, hWW, hsame⟩ := X9.leave (v := some (.int ((own_H16 x + i) % 16).toInt32)) (fun h => by rw [Bd.returns] at h; cases h)
        refine ⟨_, _, own_retI X9 hx Bd.returns (hb hby d7_49) hrR, hrun, hended, hPP _ _ ⟨_, _, rfl, ?_, ⟨_, rfl⟩, hWW, hsame.mono (by decide) (by decide)⟩⟩
        show QS k h0 n0 _ T9.heap _
        rw [e9]
        exact ⟨by rw [hk, hiJ], N0, rfl⟩
      · refine own_step (T' := T9) (g' := (mkF m 28 #[.val (.ref a1), .val (.int x), .val (.int (15 : Int32)), .val (.int (x * (-1640531527 : Int32))), .val (.int ((own_H16 x + i) % 16).toInt32)] [])) (fun t_ k_ => XS.icmpNo X9.here hx rfl (hb hby d7_25) rfl (feq hc25_103).1 k_) ?_
        refine own_step (T' := T9) (g' := (mkF m 29 #[.val (.ref a1), .val (.int x), .val (.int (15 : Int32)), .val (.int (x * (-1640531527 : Int32))), .val (.int ((own_H16 x + i) % 16).toInt32)] [(.ref a1)])) (fun t_ k_ => XS.aloadN X9.here hx rfl (hb hby d7_28) rfl rfl k_) ?_
        refine own_step (T' := T9) (g' := (mkF m 31 #[.val (.ref a1), .val (.int x), .val (.int (15 : Int32)), .val (.int (x * (-1640531527 : Int32))), .val (.int ((own_H16 x + i) % 16).toInt32)] [(.int ((own_H16 x + i) % 16).toInt32), (.ref a1)])) (fun t_ k_ => XS.iload X9.here hx rfl (hb hby d7_29) rfl k_) ?_
        have op104 := Tb
        obtain ⟨cl104, Ar104, Sz104, tb104⟩ := op104
        refine own_step (T' := T9) (g' := (mkF m 32 #[.val (.ref a1), .val (.int x), .val (.int (15 : Int32)), .val (.int (x * (-1640531527 : Int32))), .val (.int ((own_H16 x + i) % 16).toInt32)] [(.int (t ((own_H16 x + i) % 16)))])) (fun t_ k_ => X9.iaload hx (j := ((own_H16 x + i) % 16).toInt32) (v := (.int (t ((own_H16 x + i) % 16)))) (by rw [e9]; exact Ar104.1) (State.isArrayOf_alike hZ.alike Ar104.2.1) Ar104.2.2 (own_in Sz104 (Nat.mod_lt _ (by decide)) (by decide)) (own_hat tb104 (Nat.mod_lt _ (by decide)) (by decide)) (g := (mkF m 31 #[.val (.ref a1), .val (.int x), .val (.int (15 : Int32)), .val (.int (x * (-1640531527 : Int32))), .val (.int ((own_H16 x + i) % 16).toInt32)] [(.int ((own_H16 x + i) % 16).toInt32), (.ref a1)])) rfl rfl (hb hby d7_31) _ k_) ?_
        refine own_step (T' := T9) (g' := (mkF m 33 #[.val (.ref a1), .val (.int x), .val (.int (15 : Int32)), .val (.int (x * (-1640531527 : Int32))), .val (.int ((own_H16 x + i) % 16).toInt32)] [(.int x), (.int (t ((own_H16 x + i) % 16)))])) (fun t_ k_ => XS.iloadN X9.here hx rfl (hb hby d7_32) rfl k_) ?_
        refine own_step (T' := T9) (g' := (mkF m 47 #[.val (.ref a1), .val (.int x), .val (.int (15 : Int32)), .val (.int (x * (-1640531527 : Int32))), .val (.int ((own_H16 x + i) % 16).toInt32)] [])) (fun t_ k_ => XS.icmpYes X9.here hx rfl (pc0 := 33) (pc' := 47) rfl (hb hby d7_33) rfl (teq (hv.resolve_left hc25_103)).1 (by decide) (by decide) k_) ?_
        refine own_step (T' := T9) (g' := (mkF m 49 #[.val (.ref a1), .val (.int x), .val (.int (15 : Int32)), .val (.int (x * (-1640531527 : Int32))), .val (.int ((own_H16 x + i) % 16).toInt32)] [(.int ((own_H16 x + i) % 16).toInt32)])) (fun t_ k_ => XS.iload X9.here hx rfl (hb hby d7_47) rfl k_) ?_
        obtain ⟨fs, hrR, hrun, hended, hWW, hsame⟩ := X9.leave (v := some (.int ((own_H16 x + i) % 16).toInt32)) (fun h => by rw [Bd.returns] at h; cases h)
        refine ⟨_, _, own_retI X9 hx Bd.returns (hb hby d7_49) hrR, hrun, hended, hPP _ _ ⟨_, _, rfl, ?_, ⟨_, rfl⟩, hWW, hsame.mono (by decide) (by decide)⟩⟩
        show QS k h0 n0 _ T9.heap _
        rw [e9]
        exact ⟨by rw [hk, hiJ], N0, rfl⟩
    | succ n ih =>
      intro i hi T9 X9 e9
      have hni := hl i (by omega)
      refine own_step (T' := T9) (g' := (mkF m 21 #[.val (.ref a1), .val (.int x), .val (.int (15 : Int32)), .val (.int (x * (-1640531527 : Int32))), .val (.int ((own_H16 x + i) % 16).toInt32)] [(.ref a1)])) (fun t_ k_ => XS.aloadN X9.here hx rfl (hb hby d7_20) rfl rfl k_) ?_
      refine own_step (T' := T9) (g' := (mkF m 23 #[.val (.ref a1), .val (.int x), .val (.int (15 : Int32)), .val (.int (x * (-1640531527 : Int32))), .val (.int ((own_H16 x + i) % 16).toInt32)] [(.int ((own_H16 x + i) % 16).toInt32), (.ref a1)])) (fun t_ k_ => XS.iload X9.here hx rfl (hb hby d7_21) rfl k_) ?_
      have op105 := Tb
      obtain ⟨cl105, Ar105, Sz105, tb105⟩ := op105
      refine own_step (T' := T9) (g' := (mkF m 24 #[.val (.ref a1), .val (.int x), .val (.int (15 : Int32)), .val (.int (x * (-1640531527 : Int32))), .val (.int ((own_H16 x + i) % 16).toInt32)] [(.int (t ((own_H16 x + i) % 16)))])) (fun t_ k_ => X9.iaload hx (j := ((own_H16 x + i) % 16).toInt32) (v := (.int (t ((own_H16 x + i) % 16)))) (by rw [e9]; exact Ar105.1) (State.isArrayOf_alike hZ.alike Ar105.2.1) Ar105.2.2 (own_in Sz105 (Nat.mod_lt _ (by decide)) (by decide)) (own_hat tb105 (Nat.mod_lt _ (by decide)) (by decide)) (g := (mkF m 23 #[.val (.ref a1), .val (.int x), .val (.int (15 : Int32)), .val (.int (x * (-1640531527 : Int32))), .val (.int ((own_H16 x + i) % 16).toInt32)] [(.int ((own_H16 x + i) % 16).toInt32), (.ref a1)])) rfl rfl (hb hby d7_23) _ k_) ?_
      refine own_step (T' := T9) (g' := (mkF m 25 #[.val (.ref a1), .val (.int x), .val (.int (15 : Int32)), .val (.int (x * (-1640531527 : Int32))), .val (.int ((own_H16 x + i) % 16).toInt32)] [(.int (-1 : Int32)), (.int (t ((own_H16 x + i) % 16)))])) (fun t_ k_ => XS.iconst X9.here hx rfl (hb hby d7_24) k_) ?_
      refine own_step (T' := T9) (g' := (mkF m 28 #[.val (.ref a1), .val (.int x), .val (.int (15 : Int32)), .val (.int (x * (-1640531527 : Int32))), .val (.int ((own_H16 x + i) % 16).toInt32)] [])) (fun t_ k_ => XS.icmpNo X9.here hx rfl (hb hby d7_25) rfl (feq hni.1).1 k_) ?_
      refine own_step (T' := T9) (g' := (mkF m 29 #[.val (.ref a1), .val (.int x), .val (.int (15 : Int32)), .val (.int (x * (-1640531527 : Int32))), .val (.int ((own_H16 x + i) % 16).toInt32)] [(.ref a1)])) (fun t_ k_ => XS.aloadN X9.here hx rfl (hb hby d7_28) rfl rfl k_) ?_
      refine own_step (T' := T9) (g' := (mkF m 31 #[.val (.ref a1), .val (.int x), .val (.int (15 : Int32)), .val (.int (x * (-1640531527 : Int32))), .val (.int ((own_H16 x + i) % 16).toInt32)] [(.int ((own_H16 x + i) % 16).toInt32), (.ref a1)])) (fun t_ k_ => XS.iload X9.here hx rfl (hb hby d7_29) rfl k_) ?_
      have op106 := Tb
      obtain ⟨cl106, Ar106, Sz106, tb106⟩ := op106
      refine own_step (T' := T9) (g' := (mkF m 32 #[.val (.ref a1), .val (.int x), .val (.int (15 : Int32)), .val (.int (x * (-1640531527 : Int32))), .val (.int ((own_H16 x + i) % 16).toInt32)] [(.int (t ((own_H16 x + i) % 16)))])) (fun t_ k_ => X9.iaload hx (j := ((own_H16 x + i) % 16).toInt32) (v := (.int (t ((own_H16 x + i) % 16)))) (by rw [e9]; exact Ar106.1) (State.isArrayOf_alike hZ.alike Ar106.2.1) Ar106.2.2 (own_in Sz106 (Nat.mod_lt _ (by decide)) (by decide)) (own_hat tb106 (Nat.mod_lt _ (by decide)) (by decide)) (g := (mkF m 31 #[.val (.ref a1), .val (.int x), .val (.int (15 : Int32)), .val (.int (x * (-1640531527 : Int32))), .val (.int ((own_H16 x + i) % 16).toInt32)] [(.int ((own_H16 x + i) % 16).toInt32), (.ref a1)])) rfl rfl (hb hby d7_31) _ k_) ?_
      refine own_step (T' := T9) (g' := (mkF m 33 #[.val (.ref a1), .val (.int x), .val (.int (15 : Int32)), .val (.int (x * (-1640531527 : Int32))), .val (.int ((own_H16 x + i) % 16).toInt32)] [(.int x), (.int (t ((own_H16 x + i) % 16)))])) (fun t_ k_ => XS.iloadN X9.here hx rfl (hb hby d7_32) rfl k_) ?_
      refine own_step (T' := T9) (g' := (mkF m 36 #[.val (.ref a1), .val (.int x), .val (.int (15 : Int32)), .val (.int (x * (-1640531527 : Int32))), .val (.int ((own_H16 x + i) % 16).toInt32)] [])) (fun t_ k_ => XS.icmpNo X9.here hx rfl (hb hby d7_33) rfl (feq hni.2).1 k_) ?_
      refine own_step (T' := T9) (g' := (mkF m 38 #[.val (.ref a1), .val (.int x), .val (.int (15 : Int32)), .val (.int (x * (-1640531527 : Int32))), .val (.int ((own_H16 x + i) % 16).toInt32)] [(.int ((own_H16 x + i) % 16).toInt32)])) (fun t_ k_ => XS.iload X9.here hx rfl (hb hby d7_36) rfl k_) ?_
      refine own_step (T' := T9) (g' := (mkF m 39 #[.val (.ref a1), .val (.int x), .val (.int (15 : Int32)), .val (.int (x * (-1640531527 : Int32))), .val (.int ((own_H16 x + i) % 16).toInt32)] [(.int (1 : Int32)), (.int ((own_H16 x + i) % 16).toInt32)])) (fun t_ k_ => XS.iconst X9.here hx rfl (hb hby d7_38) k_) ?_
      refine own_step (T' := T9) (g' := (mkF m 40 #[.val (.ref a1), .val (.int x), .val (.int (15 : Int32)), .val (.int (x * (-1640531527 : Int32))), .val (.int ((own_H16 x + i) % 16).toInt32)] [(.int (((own_H16 x + i) % 16).toInt32 + (1 : Int32)))])) (fun t_ k_ => XS.iadd X9.here hx rfl (hb hby d7_39) rfl k_) ?_
      refine own_step (T' := T9) (g' := (mkF m 41 #[.val (.ref a1), .val (.int x), .val (.int (15 : Int32)), .val (.int (x * (-1640531527 : Int32))), .val (.int ((own_H16 x + i) % 16).toInt32)] [(.int (15 : Int32)), (.int (((own_H16 x + i) % 16).toInt32 + (1 : Int32)))])) (fun t_ k_ => XS.iloadN X9.here hx rfl (hb hby d7_40) rfl k_) ?_
      refine own_step (T' := T9) (g' := (mkF m 42 #[.val (.ref a1), .val (.int x), .val (.int (15 : Int32)), .val (.int (x * (-1640531527 : Int32))), .val (.int ((own_H16 x + i) % 16).toInt32)] [(.int ((((own_H16 x + i) % 16).toInt32 + (1 : Int32)) &&& (15 : Int32)))])) (fun t_ k_ => XS.iand X9.here hx rfl (hb hby d7_41) rfl k_) ?_
      refine own_step (T' := T9) (g' := (mkF m 44 #[.val (.ref a1), .val (.int x), .val (.int (15 : Int32)), .val (.int (x * (-1640531527 : Int32))), .val (.int ((((own_H16 x + i) % 16).toInt32 + (1 : Int32)) &&& (15 : Int32)))] [])) (fun t_ k_ => XS.istore X9.here hx rfl (hb hby d7_42) rfl (l' := #[.val (.ref a1), .val (.int x), .val (.int (15 : Int32)), .val (.int (x * (-1640531527 : Int32))), .val (.int ((((own_H16 x + i) % 16).toInt32 + (1 : Int32)) &&& (15 : Int32)))]) rfl k_) ?_
      refine own_step (T' := T9) (g' := (mkF m 20 #[.val (.ref a1), .val (.int x), .val (.int (15 : Int32)), .val (.int (x * (-1640531527 : Int32))), .val (.int ((((own_H16 x + i) % 16).toInt32 + (1 : Int32)) &&& (15 : Int32)))] [])) (fun t_ k_ => XS.goto X9.here hx rfl (pc0 := 44) (pc' := 20) rfl (hb hby d7_44) (by decide) (by decide) k_) ?_
      rw [own_n16]
      exact ih (i + 1) (by omega) _ X9 e9
  exact loop J 0 (by omega) _ X0 e0
def QF (Z : State) (a1 : Addr) (N : Nat) (h0 : Heap) (n0 : Nat) (v : Option Value) (h : Heap) (L : List Loc) : Prop := v = none ∧ Fr n0 L ∧ Keep h0 h [a1] ∧ own_T Z h a1 N (fun _ => -1)
theorem d4_0 : decode jdk_65_method_103_code 0 = .ok (.iconst 0, 1) := by decide +kernel
theorem d4_1 : decode jdk_65_method_103_code 1 = .ok (.istore_n 2, 1) := by decide +kernel
theorem d4_2 : decode jdk_65_method_103_code 2 = .ok (.aload_n 0, 1) := by decide +kernel
theorem d4_3 : decode jdk_65_method_103_code 3 = .ok (.arraylength, 1) := by decide +kernel
theorem d4_4 : decode jdk_65_method_103_code 4 = .ok (.istore_n 3, 1) := by decide +kernel
theorem d4_5 : decode jdk_65_method_103_code 5 = .ok (.iload_n 2, 1) := by decide +kernel
theorem d4_6 : decode jdk_65_method_103_code 6 = .ok (.iload_n 3, 1) := by decide +kernel
theorem d4_7 : decode jdk_65_method_103_code 7 = .ok (.if_icmp .ge 13, 3) := by decide +kernel
theorem d4_10 : decode jdk_65_method_103_code 10 = .ok (.aload_n 0, 1) := by decide +kernel
theorem d4_11 : decode jdk_65_method_103_code 11 = .ok (.iload_n 2, 1) := by decide +kernel
theorem d4_12 : decode jdk_65_method_103_code 12 = .ok (.iload_n 1, 1) := by decide +kernel
theorem d4_13 : decode jdk_65_method_103_code 13 = .ok (.iastore, 1) := by decide +kernel
theorem d4_14 : decode jdk_65_method_103_code 14 = .ok (.iinc 2 1, 3) := by decide +kernel
theorem d4_17 : decode jdk_65_method_103_code 17 = .ok (.goto (-12), 3) := by decide +kernel
theorem d4_20 : decode jdk_65_method_103_code 20 = .ok (.return_, 1) := by decide +kernel
set_option maxRecDepth 65536 in
set_option maxHeartbeats 40000000 in
theorem rm_fill8 (l : Launch) (Z : State) (a0 : Array Value) (hw : ∀ d ∈ tables_1, d.before a0 Z = true) (ws : List Jvm.Cond) (a1 : Addr) (k1 : ClassId) (h0 : Heap) (n0 : Nat) (Z0 : n0 ≤ h0.size) (V1 : Arv Z h0 a1 k1 .int (8 : Int32) [(.int (0 : Int32)), (.int (0 : Int32)), (.int (0 : Int32)), (.int (0 : Int32)), (.int (0 : Int32)), (.int (0 : Int32)), (.int (0 : Int32)), (.int (0 : Int32))] (.int (0 : Int32))) (ge1 : n0 ≤ a1) :
    MetFree l (⟨"java/util/Arrays", "fill", "([II)V"⟩ : MethodName) (head1 (Jvm.Cond.code (⟨"java/util/Arrays", "fill", "([II)V"⟩ : MethodName) jdk_65_method_103_code 4 none :: ws) ({ frames := 0, cells := 0, slots := 0, locals := 0 } : Room)) (fun a U => a = #[(.ref a1), (.int (-1 : Int32))] ∧ Z.Warmed39 U.vm ∧ U.heap = h0) (fun _ _ _ _ _ => True) (fun _ U o U' => ∃ v L, o = .returned v ∧ QF Z a1 8 h0 n0 v U'.heap L ∧ FrameEnd U o U' L 0 0) := by
  refine MetFree.of_bodySF (plainFor_of_name (by first | (simp [plainName, overriddenIn]; done) | decide +kernel)) hisR ?_
  intro p e s m args below meth c s₁ Bd hml0 hP hK
  obtain ⟨rfl, hZ, hh⟩ := hP
  have hx := Bd.exec
  have hby := Bd.bytes
  have hml : c.maxLocals = 4 := hml0
  have hown : s.vm.findClass "java/util/Arrays" = some m.cls := findClass_of_methodNamed Bd.named
  have hnm := (name_of_methodNamed Bd.named Bd.method).1
  have X0 : Stand p l e ({ frames := 0, cells := 0, slots := 0, locals := 0 } : Room) s m #[(.ref a1), (.int (-1 : Int32))] below meth c s₁ [] 0 0 := Stand.of_body Bd
  have e0 : s₁.heap = h0 := by rw [← hh, Bd.state]; rfl
  have N0 := Fr.nil n0
  have ef : entryFrame m #[(.ref a1), (.int (-1 : Int32))] 4 = (mkF m 0 #[.val (.ref a1), .val (.int (-1 : Int32)), .unset, .unset] []) := by first | (simp [entryFrame, mkF, argsToLocals, Value.category]; done) | rfl
  refine own_start (fun P hPP => ?_)
  refine own_step (T' := s₁) (g' := (mkF m 0 #[.val (.ref a1), .val (.int (-1 : Int32)), .unset, .unset] [])) (fun t_ k_ => castTop ef k_) ?_
  have K0 := Keep.refl h0 [a1]
  refine own_step (T' := s₁) (g' := (mkF m 1 #[.val (.ref a1), .val (.int (-1 : Int32)), .unset, .unset] [(.int (0 : Int32))])) (fun t_ k_ => XS.iconst X0.here hx rfl (hb hby d4_0) k_) ?_
  refine own_step (T' := s₁) (g' := (mkF m 2 #[.val (.ref a1), .val (.int (-1 : Int32)), .val (.int (0 : Int32)), .unset] [])) (fun t_ k_ => XS.istoreN X0.here hx rfl (hb hby d4_1) rfl (l' := #[.val (.ref a1), .val (.int (-1 : Int32)), .val (.int (0 : Int32)), .unset]) rfl k_) ?_
  refine own_step (T' := s₁) (g' := (mkF m 3 #[.val (.ref a1), .val (.int (-1 : Int32)), .val (.int (0 : Int32)), .unset] [(.ref a1)])) (fun t_ k_ => XS.aloadN X0.here hx rfl (hb hby d4_2) rfl rfl k_) ?_
  have op101 := V1
  obtain ⟨cl101, Ar101, qk101, Sz101, Nz101, Hs101, Gs101⟩ := op101
  refine own_step (T' := s₁) (g' := (mkF m 4 #[.val (.ref a1), .val (.int (-1 : Int32)), .val (.int (0 : Int32)), .unset] [(.int (8 : Int32))])) (fun t_ k_ => X0.arraylength hx (by rw [e0]; exact Ar101.1) (State.isArrayOf_alike hZ.alike Ar101.2.1) (g := (mkF m 3 #[.val (.ref a1), .val (.int (-1 : Int32)), .val (.int (0 : Int32)), .unset] [(.ref a1)])) rfl rfl (hb hby d4_3) _ (by rw [len_of Sz101 Nz101]; exact k_)) ?_
  refine own_step (T' := s₁) (g' := (mkF m 5 #[.val (.ref a1), .val (.int (-1 : Int32)), .val (.int (0 : Int32)), .val (.int (8 : Int32))] [])) (fun t_ k_ => XS.istoreN X0.here hx rfl (hb hby d4_4) rfl (l' := #[.val (.ref a1), .val (.int (-1 : Int32)), .val (.int (0 : Int32)), .val (.int (8 : Int32))]) rfl k_) ?_
  refine own_step (T' := s₁) (g' := (mkF m 6 #[.val (.ref a1), .val (.int (-1 : Int32)), .val (.int (0 : Int32)), .val (.int (8 : Int32))] [(.int (0 : Int32))])) (fun t_ k_ => XS.iloadN X0.here hx rfl (hb hby d4_5) rfl k_) ?_
  refine own_step (T' := s₁) (g' := (mkF m 7 #[.val (.ref a1), .val (.int (-1 : Int32)), .val (.int (0 : Int32)), .val (.int (8 : Int32))] [(.int (8 : Int32)), (.int (0 : Int32))])) (fun t_ k_ => XS.iloadN X0.here hx rfl (hb hby d4_6) rfl k_) ?_
  refine own_step (T' := s₁) (g' := (mkF m 10 #[.val (.ref a1), .val (.int (-1 : Int32)), .val (.int (0 : Int32)), .val (.int (8 : Int32))] [])) (fun t_ k_ => XS.icmpNo X0.here hx rfl (hb hby d4_7) rfl (tlt (by decide)).2.1 k_) ?_
  refine own_step (T' := s₁) (g' := (mkF m 11 #[.val (.ref a1), .val (.int (-1 : Int32)), .val (.int (0 : Int32)), .val (.int (8 : Int32))] [(.ref a1)])) (fun t_ k_ => XS.aloadN X0.here hx rfl (hb hby d4_10) rfl rfl k_) ?_
  refine own_step (T' := s₁) (g' := (mkF m 12 #[.val (.ref a1), .val (.int (-1 : Int32)), .val (.int (0 : Int32)), .val (.int (8 : Int32))] [(.int (0 : Int32)), (.ref a1)])) (fun t_ k_ => XS.iloadN X0.here hx rfl (hb hby d4_11) rfl k_) ?_
  refine own_step (T' := s₁) (g' := (mkF m 13 #[.val (.ref a1), .val (.int (-1 : Int32)), .val (.int (0 : Int32)), .val (.int (8 : Int32))] [(.int (-1 : Int32)), (.int (0 : Int32)), (.ref a1)])) (fun t_ k_ => XS.iloadN X0.here hx rfl (hb hby d4_12) rfl k_) ?_
  have op102 := V1
  obtain ⟨cl102, Ar102, qk102, Sz102, Nz102, Hs102, Gs102⟩ := op102
  have hin102 := inb_of (j := (0 : Int32)) Sz102 ⟨by decide, by decide⟩
  obtain ⟨T102, h102, X102, e102, W102, st102⟩ := stI X0 hx hZ e0 Ar102 (j := (0 : Int32)) hin102 (g := (mkF m 13 #[.val (.ref a1), .val (.int (-1 : Int32)), .val (.int (0 : Int32)), .val (.int (8 : Int32))] [(.int (-1 : Int32)), (.int (0 : Int32)), (.ref a1)])) rfl rfl (hb hby d4_13)
  have V102 : Arv Z h102 a1 k1 .int (8 : Int32) [(.int (-1 : Int32)), (.int (0 : Int32)), (.int (0 : Int32)), (.int (0 : Int32)), (.int (0 : Int32)), (.int (0 : Int32)), (.int (0 : Int32)), (.int (0 : Int32))] (.int (0 : Int32)) := Arv.set Ar102 qk102 Sz102 Nz102 Hs102 Gs102 rfl W102 0 rfl (Nat.le_of_ble_eq_true rfl)
  have N102 := Fr.snoc X102 N0 ge1
  have k104 := K0.wr W102 (Or.inl (List.mem_of_getElem? (i := 0) rfl))
  have z105 : n0 ≤ h102.size := Nat.le_trans Z0 (Keep.of_wr W102).1
  refine own_step (T' := T102) (g' := (mkF m 14 #[.val (.ref a1), .val (.int (-1 : Int32)), .val (.int (0 : Int32)), .val (.int (8 : Int32))] [])) st102 ?_
  refine own_step (T' := T102) (g' := (mkF m 17 #[.val (.ref a1), .val (.int (-1 : Int32)), .val (.int (1 : Int32)), .val (.int (8 : Int32))] [])) (fun t_ k_ => XS.iinc X102.here hx rfl (hb hby d4_14) rfl (l' := #[.val (.ref a1), .val (.int (-1 : Int32)), .val (.int (1 : Int32)), .val (.int (8 : Int32))]) rfl k_) ?_
  refine own_step (T' := T102) (g' := (mkF m 5 #[.val (.ref a1), .val (.int (-1 : Int32)), .val (.int (1 : Int32)), .val (.int (8 : Int32))] [])) (fun t_ k_ => XS.goto X102.here hx rfl (pc0 := 17) (pc' := 5) rfl (hb hby d4_17) (by decide) (by decide) k_) ?_
  refine own_step (T' := T102) (g' := (mkF m 6 #[.val (.ref a1), .val (.int (-1 : Int32)), .val (.int (1 : Int32)), .val (.int (8 : Int32))] [(.int (1 : Int32))])) (fun t_ k_ => XS.iloadN X102.here hx rfl (hb hby d4_5) rfl k_) ?_
  refine own_step (T' := T102) (g' := (mkF m 7 #[.val (.ref a1), .val (.int (-1 : Int32)), .val (.int (1 : Int32)), .val (.int (8 : Int32))] [(.int (8 : Int32)), (.int (1 : Int32))])) (fun t_ k_ => XS.iloadN X102.here hx rfl (hb hby d4_6) rfl k_) ?_
  refine own_step (T' := T102) (g' := (mkF m 10 #[.val (.ref a1), .val (.int (-1 : Int32)), .val (.int (1 : Int32)), .val (.int (8 : Int32))] [])) (fun t_ k_ => XS.icmpNo X102.here hx rfl (hb hby d4_7) rfl (tlt (by decide)).2.1 k_) ?_
  refine own_step (T' := T102) (g' := (mkF m 11 #[.val (.ref a1), .val (.int (-1 : Int32)), .val (.int (1 : Int32)), .val (.int (8 : Int32))] [(.ref a1)])) (fun t_ k_ => XS.aloadN X102.here hx rfl (hb hby d4_10) rfl rfl k_) ?_
  refine own_step (T' := T102) (g' := (mkF m 12 #[.val (.ref a1), .val (.int (-1 : Int32)), .val (.int (1 : Int32)), .val (.int (8 : Int32))] [(.int (1 : Int32)), (.ref a1)])) (fun t_ k_ => XS.iloadN X102.here hx rfl (hb hby d4_11) rfl k_) ?_
  refine own_step (T' := T102) (g' := (mkF m 13 #[.val (.ref a1), .val (.int (-1 : Int32)), .val (.int (1 : Int32)), .val (.int (8 : Int32))] [(.int (-1 : Int32)), (.int (1 : Int32)), (.ref a1)])) (fun t_ k_ => XS.iloadN X102.here hx rfl (hb hby d4_12) rfl k_) ?_
  have op106 := V102
  obtain ⟨cl106, Ar106, qk106, Sz106, Nz106, Hs106, Gs106⟩ := op106
  have hin106 := inb_of (j := (1 : Int32)) Sz106 ⟨by decide, by decide⟩
  obtain ⟨T106, h106, X106, e106, W106, st106⟩ := stI X102 hx hZ e102 Ar106 (j := (1 : Int32)) hin106 (g := (mkF m 13 #[.val (.ref a1), .val (.int (-1 : Int32)), .val (.int (1 : Int32)), .val (.int (8 : Int32))] [(.int (-1 : Int32)), (.int (1 : Int32)), (.ref a1)])) rfl rfl (hb hby d4_13)
  have V106 : Arv Z h106 a1 k1 .int (8 : Int32) [(.int (-1 : Int32)), (.int (-1 : Int32)), (.int (0 : Int32)), (.int (0 : Int32)), (.int (0 : Int32)), (.int (0 : Int32)), (.int (0 : Int32)), (.int (0 : Int32))] (.int (0 : Int32)) := Arv.set Ar106 qk106 Sz106 Nz106 Hs106 Gs106 rfl W106 1 rfl (Nat.le_of_ble_eq_true rfl)
  have N106 := Fr.snoc X106 N102 ge1
  have k108 := k104.wr W106 (Or.inl (List.mem_of_getElem? (i := 0) rfl))
  have z109 : n0 ≤ h106.size := Nat.le_trans z105 (Keep.of_wr W106).1
  refine own_step (T' := T106) (g' := (mkF m 14 #[.val (.ref a1), .val (.int (-1 : Int32)), .val (.int (1 : Int32)), .val (.int (8 : Int32))] [])) st106 ?_
  refine own_step (T' := T106) (g' := (mkF m 17 #[.val (.ref a1), .val (.int (-1 : Int32)), .val (.int (2 : Int32)), .val (.int (8 : Int32))] [])) (fun t_ k_ => XS.iinc X106.here hx rfl (hb hby d4_14) rfl (l' := #[.val (.ref a1), .val (.int (-1 : Int32)), .val (.int (2 : Int32)), .val (.int (8 : Int32))]) rfl k_) ?_
  refine own_step (T' := T106) (g' := (mkF m 5 #[.val (.ref a1), .val (.int (-1 : Int32)), .val (.int (2 : Int32)), .val (.int (8 : Int32))] [])) (fun t_ k_ => XS.goto X106.here hx rfl (pc0 := 17) (pc' := 5) rfl (hb hby d4_17) (by decide) (by decide) k_) ?_
  refine own_step (T' := T106) (g' := (mkF m 6 #[.val (.ref a1), .val (.int (-1 : Int32)), .val (.int (2 : Int32)), .val (.int (8 : Int32))] [(.int (2 : Int32))])) (fun t_ k_ => XS.iloadN X106.here hx rfl (hb hby d4_5) rfl k_) ?_
  refine own_step (T' := T106) (g' := (mkF m 7 #[.val (.ref a1), .val (.int (-1 : Int32)), .val (.int (2 : Int32)), .val (.int (8 : Int32))] [(.int (8 : Int32)), (.int (2 : Int32))])) (fun t_ k_ => XS.iloadN X106.here hx rfl (hb hby d4_6) rfl k_) ?_
  refine own_step (T' := T106) (g' := (mkF m 10 #[.val (.ref a1), .val (.int (-1 : Int32)), .val (.int (2 : Int32)), .val (.int (8 : Int32))] [])) (fun t_ k_ => XS.icmpNo X106.here hx rfl (hb hby d4_7) rfl (tlt (by decide)).2.1 k_) ?_
  refine own_step (T' := T106) (g' := (mkF m 11 #[.val (.ref a1), .val (.int (-1 : Int32)), .val (.int (2 : Int32)), .val (.int (8 : Int32))] [(.ref a1)])) (fun t_ k_ => XS.aloadN X106.here hx rfl (hb hby d4_10) rfl rfl k_) ?_
  refine own_step (T' := T106) (g' := (mkF m 12 #[.val (.ref a1), .val (.int (-1 : Int32)), .val (.int (2 : Int32)), .val (.int (8 : Int32))] [(.int (2 : Int32)), (.ref a1)])) (fun t_ k_ => XS.iloadN X106.here hx rfl (hb hby d4_11) rfl k_) ?_
  refine own_step (T' := T106) (g' := (mkF m 13 #[.val (.ref a1), .val (.int (-1 : Int32)), .val (.int (2 : Int32)), .val (.int (8 : Int32))] [(.int (-1 : Int32)), (.int (2 : Int32)), (.ref a1)])) (fun t_ k_ => XS.iloadN X106.here hx rfl (hb hby d4_12) rfl k_) ?_
  have op110 := V106
  obtain ⟨cl110, Ar110, qk110, Sz110, Nz110, Hs110, Gs110⟩ := op110
  have hin110 := inb_of (j := (2 : Int32)) Sz110 ⟨by decide, by decide⟩
  obtain ⟨T110, h110, X110, e110, W110, st110⟩ := stI X106 hx hZ e106 Ar110 (j := (2 : Int32)) hin110 (g := (mkF m 13 #[.val (.ref a1), .val (.int (-1 : Int32)), .val (.int (2 : Int32)), .val (.int (8 : Int32))] [(.int (-1 : Int32)), (.int (2 : Int32)), (.ref a1)])) rfl rfl (hb hby d4_13)
  have V110 : Arv Z h110 a1 k1 .int (8 : Int32) [(.int (-1 : Int32)), (.int (-1 : Int32)), (.int (-1 : Int32)), (.int (0 : Int32)), (.int (0 : Int32)), (.int (0 : Int32)), (.int (0 : Int32)), (.int (0 : Int32))] (.int (0 : Int32)) := Arv.set Ar110 qk110 Sz110 Nz110 Hs110 Gs110 rfl W110 2 rfl (Nat.le_of_ble_eq_true rfl)
  have N110 := Fr.snoc X110 N106 ge1
  have k112 := k108.wr W110 (Or.inl (List.mem_of_getElem? (i := 0) rfl))
  have z113 : n0 ≤ h110.size := Nat.le_trans z109 (Keep.of_wr W110).1
  refine own_step (T' := T110) (g' := (mkF m 14 #[.val (.ref a1), .val (.int (-1 : Int32)), .val (.int (2 : Int32)), .val (.int (8 : Int32))] [])) st110 ?_
  refine own_step (T' := T110) (g' := (mkF m 17 #[.val (.ref a1), .val (.int (-1 : Int32)), .val (.int (3 : Int32)), .val (.int (8 : Int32))] [])) (fun t_ k_ => XS.iinc X110.here hx rfl (hb hby d4_14) rfl (l' := #[.val (.ref a1), .val (.int (-1 : Int32)), .val (.int (3 : Int32)), .val (.int (8 : Int32))]) rfl k_) ?_
  refine own_step (T' := T110) (g' := (mkF m 5 #[.val (.ref a1), .val (.int (-1 : Int32)), .val (.int (3 : Int32)), .val (.int (8 : Int32))] [])) (fun t_ k_ => XS.goto X110.here hx rfl (pc0 := 17) (pc' := 5) rfl (hb hby d4_17) (by decide) (by decide) k_) ?_
  refine own_step (T' := T110) (g' := (mkF m 6 #[.val (.ref a1), .val (.int (-1 : Int32)), .val (.int (3 : Int32)), .val (.int (8 : Int32))] [(.int (3 : Int32))])) (fun t_ k_ => XS.iloadN X110.here hx rfl (hb hby d4_5) rfl k_) ?_
  refine own_step (T' := T110) (g' := (mkF m 7 #[.val (.ref a1), .val (.int (-1 : Int32)), .val (.int (3 : Int32)), .val (.int (8 : Int32))] [(.int (8 : Int32)), (.int (3 : Int32))])) (fun t_ k_ => XS.iloadN X110.here hx rfl (hb hby d4_6) rfl k_) ?_
  refine own_step (T' := T110) (g' := (mkF m 10 #[.val (.ref a1), .val (.int (-1 : Int32)), .val (.int (3 : Int32)), .val (.int (8 : Int32))] [])) (fun t_ k_ => XS.icmpNo X110.here hx rfl (hb hby d4_7) rfl (tlt (by decide)).2.1 k_) ?_
  refine own_step (T' := T110) (g' := (mkF m 11 #[.val (.ref a1), .val (.int (-1 : Int32)), .val (.int (3 : Int32)), .val (.int (8 : Int32))] [(.ref a1)])) (fun t_ k_ => XS.aloadN X110.here hx rfl (hb hby d4_10) rfl rfl k_) ?_
  refine own_step (T' := T110) (g' := (mkF m 12 #[.val (.ref a1), .val (.int (-1 : Int32)), .val (.int (3 : Int32)), .val (.int (8 : Int32))] [(.int (3 : Int32)), (.ref a1)])) (fun t_ k_ => XS.iloadN X110.here hx rfl (hb hby d4_11) rfl k_) ?_
  refine own_step (T' := T110) (g' := (mkF m 13 #[.val (.ref a1), .val (.int (-1 : Int32)), .val (.int (3 : Int32)), .val (.int (8 : Int32))] [(.int (-1 : Int32)), (.int (3 : Int32)), (.ref a1)])) (fun t_ k_ => XS.iloadN X110.here hx rfl (hb hby d4_12) rfl k_) ?_
  have op114 := V110
  obtain ⟨cl114, Ar114, qk114, Sz114, Nz114, Hs114, Gs114⟩ := op114
  have hin114 := inb_of (j := (3 : Int32)) Sz114 ⟨by decide, by decide⟩
  obtain ⟨T114, h114, X114, e114, W114, st114⟩ := stI X110 hx hZ e110 Ar114 (j := (3 : Int32)) hin114 (g := (mkF m 13 #[.val (.ref a1), .val (.int (-1 : Int32)), .val (.int (3 : Int32)), .val (.int (8 : Int32))] [(.int (-1 : Int32)), (.int (3 : Int32)), (.ref a1)])) rfl rfl (hb hby d4_13)
  have V114 : Arv Z h114 a1 k1 .int (8 : Int32) [(.int (-1 : Int32)), (.int (-1 : Int32)), (.int (-1 : Int32)), (.int (-1 : Int32)), (.int (0 : Int32)), (.int (0 : Int32)), (.int (0 : Int32)), (.int (0 : Int32))] (.int (0 : Int32)) := Arv.set Ar114 qk114 Sz114 Nz114 Hs114 Gs114 rfl W114 3 rfl (Nat.le_of_ble_eq_true rfl)
  have N114 := Fr.snoc X114 N110 ge1
  have k116 := k112.wr W114 (Or.inl (List.mem_of_getElem? (i := 0) rfl))
  have z117 : n0 ≤ h114.size := Nat.le_trans z113 (Keep.of_wr W114).1
  refine own_step (T' := T114) (g' := (mkF m 14 #[.val (.ref a1), .val (.int (-1 : Int32)), .val (.int (3 : Int32)), .val (.int (8 : Int32))] [])) st114 ?_
  refine own_step (T' := T114) (g' := (mkF m 17 #[.val (.ref a1), .val (.int (-1 : Int32)), .val (.int (4 : Int32)), .val (.int (8 : Int32))] [])) (fun t_ k_ => XS.iinc X114.here hx rfl (hb hby d4_14) rfl (l' := #[.val (.ref a1), .val (.int (-1 : Int32)), .val (.int (4 : Int32)), .val (.int (8 : Int32))]) rfl k_) ?_
  refine own_step (T' := T114) (g' := (mkF m 5 #[.val (.ref a1), .val (.int (-1 : Int32)), .val (.int (4 : Int32)), .val (.int (8 : Int32))] [])) (fun t_ k_ => XS.goto X114.here hx rfl (pc0 := 17) (pc' := 5) rfl (hb hby d4_17) (by decide) (by decide) k_) ?_
  refine own_step (T' := T114) (g' := (mkF m 6 #[.val (.ref a1), .val (.int (-1 : Int32)), .val (.int (4 : Int32)), .val (.int (8 : Int32))] [(.int (4 : Int32))])) (fun t_ k_ => XS.iloadN X114.here hx rfl (hb hby d4_5) rfl k_) ?_
  refine own_step (T' := T114) (g' := (mkF m 7 #[.val (.ref a1), .val (.int (-1 : Int32)), .val (.int (4 : Int32)), .val (.int (8 : Int32))] [(.int (8 : Int32)), (.int (4 : Int32))])) (fun t_ k_ => XS.iloadN X114.here hx rfl (hb hby d4_6) rfl k_) ?_
  refine own_step (T' := T114) (g' := (mkF m 10 #[.val (.ref a1), .val (.int (-1 : Int32)), .val (.int (4 : Int32)), .val (.int (8 : Int32))] [])) (fun t_ k_ => XS.icmpNo X114.here hx rfl (hb hby d4_7) rfl (tlt (by decide)).2.1 k_) ?_
  refine own_step (T' := T114) (g' := (mkF m 11 #[.val (.ref a1), .val (.int (-1 : Int32)), .val (.int (4 : Int32)), .val (.int (8 : Int32))] [(.ref a1)])) (fun t_ k_ => XS.aloadN X114.here hx rfl (hb hby d4_10) rfl rfl k_) ?_
  refine own_step (T' := T114) (g' := (mkF m 12 #[.val (.ref a1), .val (.int (-1 : Int32)), .val (.int (4 : Int32)), .val (.int (8 : Int32))] [(.int (4 : Int32)), (.ref a1)])) (fun t_ k_ => XS.iloadN X114.here hx rfl (hb hby d4_11) rfl k_) ?_
  refine own_step (T' := T114) (g' := (mkF m 13 #[.val (.ref a1), .val (.int (-1 : Int32)), .val (.int (4 : Int32)), .val (.int (8 : Int32))] [(.int (-1 : Int32)), (.int (4 : Int32)), (.ref a1)])) (fun t_ k_ => XS.iloadN X114.here hx rfl (hb hby d4_12) rfl k_) ?_
  have op118 := V114
  obtain ⟨cl118, Ar118, qk118, Sz118, Nz118, Hs118, Gs118⟩ := op118
  have hin118 := inb_of (j := (4 : Int32)) Sz118 ⟨by decide, by decide⟩
  obtain ⟨T118, h118, X118, e118, W118, st118⟩ := stI X114 hx hZ e114 Ar118 (j := (4 : Int32)) hin118 (g := (mkF m 13 #[.val (.ref a1), .val (.int (-1 : Int32)), .val (.int (4 : Int32)), .val (.int (8 : Int32))] [(.int (-1 : Int32)), (.int (4 : Int32)), (.ref a1)])) rfl rfl (hb hby d4_13)
  have V118 : Arv Z h118 a1 k1 .int (8 : Int32) [(.int (-1 : Int32)), (.int (-1 : Int32)), (.int (-1 : Int32)), (.int (-1 : Int32)), (.int (-1 : Int32)), (.int (0 : Int32)), (.int (0 : Int32)), (.int (0 : Int32))] (.int (0 : Int32)) := Arv.set Ar118 qk118 Sz118 Nz118 Hs118 Gs118 rfl W118 4 rfl (Nat.le_of_ble_eq_true rfl)
  have N118 := Fr.snoc X118 N114 ge1
  have k120 := k116.wr W118 (Or.inl (List.mem_of_getElem? (i := 0) rfl))
  have z121 : n0 ≤ h118.size := Nat.le_trans z117 (Keep.of_wr W118).1
  refine own_step (T' := T118) (g' := (mkF m 14 #[.val (.ref a1), .val (.int (-1 : Int32)), .val (.int (4 : Int32)), .val (.int (8 : Int32))] [])) st118 ?_
  refine own_step (T' := T118) (g' := (mkF m 17 #[.val (.ref a1), .val (.int (-1 : Int32)), .val (.int (5 : Int32)), .val (.int (8 : Int32))] [])) (fun t_ k_ => XS.iinc X118.here hx rfl (hb hby d4_14) rfl (l' := #[.val (.ref a1), .val (.int (-1 : Int32)), .val (.int (5 : Int32)), .val (.int (8 : Int32))]) rfl k_) ?_
  refine own_step (T' := T118) (g' := (mkF m 5 #[.val (.ref a1), .val (.int (-1 : Int32)), .val (.int (5 : Int32)), .val (.int (8 : Int32))] [])) (fun t_ k_ => XS.goto X118.here hx rfl (pc0 := 17) (pc' := 5) rfl (hb hby d4_17) (by decide) (by decide) k_) ?_
  refine own_step (T' := T118) (g' := (mkF m 6 #[.val (.ref a1), .val (.int (-1 : Int32)), .val (.int (5 : Int32)), .val (.int (8 : Int32))] [(.int (5 : Int32))])) (fun t_ k_ => XS.iloadN X118.here hx rfl (hb hby d4_5) rfl k_) ?_
  refine own_step (T' := T118) (g' := (mkF m 7 #[.val (.ref a1), .val (.int (-1 : Int32)), .val (.int (5 : Int32)), .val (.int (8 : Int32))] [(.int (8 : Int32)), (.int (5 : Int32))])) (fun t_ k_ => XS.iloadN X118.here hx rfl (hb hby d4_6) rfl k_) ?_
  refine own_step (T' := T118) (g' := (mkF m 10 #[.val (.ref a1), .val (.int (-1 : Int32)), .val (.int (5 : Int32)), .val (.int (8 : Int32))] [])) (fun t_ k_ => XS.icmpNo X118.here hx rfl (hb hby d4_7) rfl (tlt (by decide)).2.1 k_) ?_
  refine own_step (T' := T118) (g' := (mkF m 11 #[.val (.ref a1), .val (.int (-1 : Int32)), .val (.int (5 : Int32)), .val (.int (8 : Int32))] [(.ref a1)])) (fun t_ k_ => XS.aloadN X118.here hx rfl (hb hby d4_10) rfl rfl k_) ?_
  refine own_step (T' := T118) (g' := (mkF m 12 #[.val (.ref a1), .val (.int (-1 : Int32)), .val (.int (5 : Int32)), .val (.int (8 : Int32))] [(.int (5 : Int32)), (.ref a1)])) (fun t_ k_ => XS.iloadN X118.here hx rfl (hb hby d4_11) rfl k_) ?_
  refine own_step (T' := T118) (g' := (mkF m 13 #[.val (.ref a1), .val (.int (-1 : Int32)), .val (.int (5 : Int32)), .val (.int (8 : Int32))] [(.int (-1 : Int32)), (.int (5 : Int32)), (.ref a1)])) (fun t_ k_ => XS.iloadN X118.here hx rfl (hb hby d4_12) rfl k_) ?_
  have op122 := V118
  obtain ⟨cl122, Ar122, qk122, Sz122, Nz122, Hs122, Gs122⟩ := op122
  have hin122 := inb_of (j := (5 : Int32)) Sz122 ⟨by decide, by decide⟩
  obtain ⟨T122, h122, X122, e122, W122, st122⟩ := stI X118 hx hZ e118 Ar122 (j := (5 : Int32)) hin122 (g := (mkF m 13 #[.val (.ref a1), .val (.int (-1 : Int32)), .val (.int (5 : Int32)), .val (.int (8 : Int32))] [(.int (-1 : Int32)), (.int (5 : Int32)), (.ref a1)])) rfl rfl (hb hby d4_13)
  have V122 : Arv Z h122 a1 k1 .int (8 : Int32) [(.int (-1 : Int32)), (.int (-1 : Int32)), (.int (-1 : Int32)), (.int (-1 : Int32)), (.int (-1 : Int32)), (.int (-1 : Int32)), (.int (0 : Int32)), (.int (0 : Int32))] (.int (0 : Int32)) := Arv.set Ar122 qk122 Sz122 Nz122 Hs122 Gs122 rfl W122 5 rfl (Nat.le_of_ble_eq_true rfl)
  have N122 := Fr.snoc X122 N118 ge1
  have k124 := k120.wr W122 (Or.inl (List.mem_of_getElem? (i := 0) rfl))
  have z125 : n0 ≤ h122.size := Nat.le_trans z121 (Keep.of_wr W122).1
  refine own_step (T' := T122) (g' := (mkF m 14 #[.val (.ref a1), .val (.int (-1 : Int32)), .val (.int (5 : Int32)), .val (.int (8 : Int32))] [])) st122 ?_
  refine own_step (T' := T122) (g' := (mkF m 17 #[.val (.ref a1), .val (.int (-1 : Int32)), .val (.int (6 : Int32)), .val (.int (8 : Int32))] [])) (fun t_ k_ => XS.iinc X122.here hx rfl (hb hby d4_14) rfl (l' := #[.val (.ref a1), .val (.int (-1 : Int32)), .val (.int (6 : Int32)), .val (.int (8 : Int32))]) rfl k_) ?_
  refine own_step (T' := T122) (g' := (mkF m 5 #[.val (.ref a1), .val (.int (-1 : Int32)), .val (.int (6 : Int32)), .val (.int (8 : Int32))] [])) (fun t_ k_ => XS.goto X122.here hx rfl (pc0 := 17) (pc' := 5) rfl (hb hby d4_17) (by decide) (by decide) k_) ?_
  refine own_step (T' := T122) (g' := (mkF m 6 #[.val (.ref a1), .val (.int (-1 : Int32)), .val (.int (6 : Int32)), .val (.int (8 : Int32))] [(.int (6 : Int32))])) (fun t_ k_ => XS.iloadN X122.here hx rfl (hb hby d4_5) rfl k_) ?_
  refine own_step (T' := T122) (g' := (mkF m 7 #[.val (.ref a1), .val (.int (-1 : Int32)), .val (.int (6 : Int32)), .val (.int (8 : Int32))] [(.int (8 : Int32)), (.int (6 : Int32))])) (fun t_ k_ => XS.iloadN X122.here hx rfl (hb hby d4_6) rfl k_) ?_
  refine own_step (T' := T122) (g' := (mkF m 10 #[.val (.ref a1), .val (.int (-1 : Int32)), .val (.int (6 : Int32)), .val (.int (8 : Int32))] [])) (fun t_ k_ => XS.icmpNo X122.here hx rfl (hb hby d4_7) rfl (tlt (by decide)).2.1 k_) ?_
  refine own_step (T' := T122) (g' := (mkF m 11 #[.val (.ref a1), .val (.int (-1 : Int32)), .val (.int (6 : Int32)), .val (.int (8 : Int32))] [(.ref a1)])) (fun t_ k_ => XS.aloadN X122.here hx rfl (hb hby d4_10) rfl rfl k_) ?_
  refine own_step (T' := T122) (g' := (mkF m 12 #[.val (.ref a1), .val (.int (-1 : Int32)), .val (.int (6 : Int32)), .val (.int (8 : Int32))] [(.int (6 : Int32)), (.ref a1)])) (fun t_ k_ => XS.iloadN X122.here hx rfl (hb hby d4_11) rfl k_) ?_
  refine own_step (T' := T122) (g' := (mkF m 13 #[.val (.ref a1), .val (.int (-1 : Int32)), .val (.int (6 : Int32)), .val (.int (8 : Int32))] [(.int (-1 : Int32)), (.int (6 : Int32)), (.ref a1)])) (fun t_ k_ => XS.iloadN X122.here hx rfl (hb hby d4_12) rfl k_) ?_
  have op126 := V122
  obtain ⟨cl126, Ar126, qk126, Sz126, Nz126, Hs126, Gs126⟩ := op126
  have hin126 := inb_of (j := (6 : Int32)) Sz126 ⟨by decide, by decide⟩
  obtain ⟨T126, h126, X126, e126, W126, st126⟩ := stI X122 hx hZ e122 Ar126 (j := (6 : Int32)) hin126 (g := (mkF m 13 #[.val (.ref a1), .val (.int (-1 : Int32)), .val (.int (6 : Int32)), .val (.int (8 : Int32))] [(.int (-1 : Int32)), (.int (6 : Int32)), (.ref a1)])) rfl rfl (hb hby d4_13)
  have V126 : Arv Z h126 a1 k1 .int (8 : Int32) [(.int (-1 : Int32)), (.int (-1 : Int32)), (.int (-1 : Int32)), (.int (-1 : Int32)), (.int (-1 : Int32)), (.int (-1 : Int32)), (.int (-1 : Int32)), (.int (0 : Int32))] (.int (0 : Int32)) := Arv.set Ar126 qk126 Sz126 Nz126 Hs126 Gs126 rfl W126 6 rfl (Nat.le_of_ble_eq_true rfl)
  have N126 := Fr.snoc X126 N122 ge1
  have k128 := k124.wr W126 (Or.inl (List.mem_of_getElem? (i := 0) rfl))
  have z129 : n0 ≤ h126.size := Nat.le_trans z125 (Keep.of_wr W126).1
  refine own_step (T' := T126) (g' := (mkF m 14 #[.val (.ref a1), .val (.int (-1 : Int32)), .val (.int (6 : Int32)), .val (.int (8 : Int32))] [])) st126 ?_
  refine own_step (T' := T126) (g' := (mkF m 17 #[.val (.ref a1), .val (.int (-1 : Int32)), .val (.int (7 : Int32)), .val (.int (8 : Int32))] [])) (fun t_ k_ => XS.iinc X126.here hx rfl (hb hby d4_14) rfl (l' := #[.val (.ref a1), .val (.int (-1 : Int32)), .val (.int (7 : Int32)), .val (.int (8 : Int32))]) rfl k_) ?_
  refine own_step (T' := T126) (g' := (mkF m 5 #[.val (.ref a1), .val (.int (-1 : Int32)), .val (.int (7 : Int32)), .val (.int (8 : Int32))] [])) (fun t_ k_ => XS.goto X126.here hx rfl (pc0 := 17) (pc' := 5) rfl (hb hby d4_17) (by decide) (by decide) k_) ?_
  refine own_step (T' := T126) (g' := (mkF m 6 #[.val (.ref a1), .val (.int (-1 : Int32)), .val (.int (7 : Int32)), .val (.int (8 : Int32))] [(.int (7 : Int32))])) (fun t_ k_ => XS.iloadN X126.here hx rfl (hb hby d4_5) rfl k_) ?_
  refine own_step (T' := T126) (g' := (mkF m 7 #[.val (.ref a1), .val (.int (-1 : Int32)), .val (.int (7 : Int32)), .val (.int (8 : Int32))] [(.int (8 : Int32)), (.int (7 : Int32))])) (fun t_ k_ => XS.iloadN X126.here hx rfl (hb hby d4_6) rfl k_) ?_
  refine own_step (T' := T126) (g' := (mkF m 10 #[.val (.ref a1), .val (.int (-1 : Int32)), .val (.int (7 : Int32)), .val (.int (8 : Int32))] [])) (fun t_ k_ => XS.icmpNo X126.here hx rfl (hb hby d4_7) rfl (tlt (by decide)).2.1 k_) ?_
  refine own_step (T' := T126) (g' := (mkF m 11 #[.val (.ref a1), .val (.int (-1 : Int32)), .val (.int (7 : Int32)), .val (.int (8 : Int32))] [(.ref a1)])) (fun t_ k_ => XS.aloadN X126.here hx rfl (hb hby d4_10) rfl rfl k_) ?_
  refine own_step (T' := T126) (g' := (mkF m 12 #[.val (.ref a1), .val (.int (-1 : Int32)), .val (.int (7 : Int32)), .val (.int (8 : Int32))] [(.int (7 : Int32)), (.ref a1)])) (fun t_ k_ => XS.iloadN X126.here hx rfl (hb hby d4_11) rfl k_) ?_
  refine own_step (T' := T126) (g' := (mkF m 13 #[.val (.ref a1), .val (.int (-1 : Int32)), .val (.int (7 : Int32)), .val (.int (8 : Int32))] [(.int (-1 : Int32)), (.int (7 : Int32)), (.ref a1)])) (fun t_ k_ => XS.iloadN X126.here hx rfl (hb hby d4_12) rfl k_) ?_
  have op130 := V126
  obtain ⟨cl130, Ar130, qk130, Sz130, Nz130, Hs130, Gs130⟩ := op130
  have hin130 := inb_of (j := (7 : Int32)) Sz130 ⟨by decide, by decide⟩
  obtain ⟨T130, h130, X130, e130, W130, st130⟩ := stI X126 hx hZ e126 Ar130 (j := (7 : Int32)) hin130 (g := (mkF m 13 #[.val (.ref a1), .val (.int (-1 : Int32)), .val (.int (7 : Int32)), .val (.int (8 : Int32))] [(.int (-1 : Int32)), (.int (7 : Int32)), (.ref a1)])) rfl rfl (hb hby d4_13)
  have V130 : Arv Z h130 a1 k1 .int (8 : Int32) [(.int (-1 : Int32)), (.int (-1 : Int32)), (.int (-1 : Int32)), (.int (-1 : Int32)), (.int (-1 : Int32)), (.int (-1 : Int32)), (.int (-1 : Int32)), (.int (-1 : Int32))] (.int (0 : Int32)) := Arv.set Ar130 qk130 Sz130 Nz130 Hs130 Gs130 rfl W130 7 rfl (Nat.le_of_ble_eq_true rfl)
  have N130 := Fr.snoc X130 N126 ge1
  have k132 := k128.wr W130 (Or.inl (List.mem_of_getElem? (i := 0) rfl))
  have z133 : n0 ≤ h130.size := Nat.le_trans z129 (Keep.of_wr W130).1
  refine own_step (T' := T130) (g' := (mkF m 14 #[.val (.ref a1), .val (.int (-1 : Int32)), .val (.int (7 : Int32)), .val (.int (8 : Int32))] [])) st130 ?_
  refine own_step (T' := T130) (g' := (mkF m 17 #[.val (.ref a1), .val (.int (-1 : Int32)), .val (.int (8 : Int32)), .val (.int (8 : Int32))] [])) (fun t_ k_ => XS.iinc X130.here hx rfl (hb hby d4_14) rfl (l' := #[.val (.ref a1), .val (.int (-1 : Int32)), .val (.int (8 : Int32)), .val (.int (8 : Int32))]) rfl k_) ?_
  refine own_step (T' := T130) (g' := (mkF m 5 #[.val (.ref a1), .val (.int (-1 : Int32)), .val (.int (8 : Int32)), .val (.int (8 : Int32))] [])) (fun t_ k_ => XS.goto X130.here hx rfl (pc0 := 17) (pc' := 5) rfl (hb hby d4_17) (by decide) (by decide) k_) ?_
  refine own_step (T' := T130) (g' := (mkF m 6 #[.val (.ref a1), .val (.int (-1 : Int32)), .val (.int (8 : Int32)), .val (.int (8 : Int32))] [(.int (8 : Int32))])) (fun t_ k_ => XS.iloadN X130.here hx rfl (hb hby d4_5) rfl k_) ?_
  refine own_step (T' := T130) (g' := (mkF m 7 #[.val (.ref a1), .val (.int (-1 : Int32)), .val (.int (8 : Int32)), .val (.int (8 : Int32))] [(.int (8 : Int32)), (.int (8 : Int32))])) (fun t_ k_ => XS.iloadN X130.here hx rfl (hb hby d4_6) rfl k_) ?_
  refine own_step (T' := T130) (g' := (mkF m 20 #[.val (.ref a1), .val (.int (-1 : Int32)), .val (.int (8 : Int32)), .val (.int (8 : Int32))] [])) (fun t_ k_ => XS.icmpYes X130.here hx rfl (pc0 := 7) (pc' := 20) rfl (hb hby d4_7) rfl (flt (by decide)).2.1 (by decide) (by decide) k_) ?_
  obtain ⟨fs, hrR, hrun, hended, hWW, hsame⟩ := X130.leave (v := none) (fun _ => rfl)
  refine ⟨_, _, X130.returnOut hx Bd.returns (hb hby d4_20) hrR, hrun, hended, hPP _ _ ⟨_, _, rfl, ?_, ⟨_, rfl⟩, hWW, hsame.mono (by decide) (by decide)⟩⟩
  show QF Z a1 8 h0 n0 _ T130.heap _
  rw [e130]
  refine ⟨rfl, N130, k132, own_T_arv V130 rfl (fun i hi => ?_)⟩
  have hd : i = 0 ∨ i = 1 ∨ i = 2 ∨ i = 3 ∨ i = 4 ∨ i = 5 ∨ i = 6 ∨ i = 7 := by omega
  rcases hd with h | h | h | h | h | h | h | h <;> subst h <;> rfl
set_option maxRecDepth 65536 in
set_option maxHeartbeats 40000000 in
theorem rm_fill16 (l : Launch) (Z : State) (a0 : Array Value) (hw : ∀ d ∈ tables_1, d.before a0 Z = true) (ws : List Jvm.Cond) (a1 : Addr) (k1 : ClassId) (h0 : Heap) (n0 : Nat) (Z0 : n0 ≤ h0.size) (V1 : Arv Z h0 a1 k1 .int (16 : Int32) [(.int (0 : Int32)), (.int (0 : Int32)), (.int (0 : Int32)), (.int (0 : Int32)), (.int (0 : Int32)), (.int (0 : Int32)), (.int (0 : Int32)), (.int (0 : Int32)), (.int (0 : Int32)), (.int (0 : Int32)), (.int (0 : Int32)), (.int (0 : Int32)), (.int (0 : Int32)), (.int (0 : Int32)), (.int (0 : Int32)), (.int (0 : Int32))] (.int (0 : Int32))) (ge1 : n0 ≤ a1) :
    MetFree l (⟨"java/util/Arrays", "fill", "([II)V"⟩ : MethodName) (head1 (Jvm.Cond.code (⟨"java/util/Arrays", "fill", "([II)V"⟩ : MethodName) jdk_65_method_103_code 4 none :: ws) ({ frames := 0, cells := 0, slots := 0, locals := 0 } : Room)) (fun a U => a = #[(.ref a1), (.int (-1 : Int32))] ∧ Z.Warmed39 U.vm ∧ U.heap = h0) (fun _ _ _ _ _ => True) (fun _ U o U' => ∃ v L, o = .returned v ∧ QF Z a1 16 h0 n0 v U'.heap L ∧ FrameEnd U o U' L 0 0) := by
  refine MetFree.of_bodySF (plainFor_of_name (by first | (simp [plainName, overriddenIn]; done) | decide +kernel)) hisR ?_
  intro p e s m args below meth c s₁ Bd hml0 hP hK
  obtain ⟨rfl, hZ, hh⟩ := hP
  have hx := Bd.exec
  have hby := Bd.bytes
  have hml : c.maxLocals = 4 := hml0
  have hown : s.vm.findClass "java/util/Arrays" = some m.cls := findClass_of_methodNamed Bd.named
  have hnm := (name_of_methodNamed Bd.named Bd.method).1
  have X0 : Stand p l e ({ frames := 0, cells := 0, slots := 0, locals := 0 } : Room) s m #[(.ref a1), (.int (-1 : Int32))] below meth c s₁ [] 0 0 := Stand.of_body Bd
  have e0 : s₁.heap = h0 := by rw [← hh, Bd.state]; rfl
  have N0 := Fr.nil n0
  have ef : entryFrame m #[(.ref a1), (.int (-1 : Int32))] 4 = (mkF m 0 #[.val (.ref a1), .val (.int (-1 : Int32)), .unset, .unset] []) := by first | (simp [entryFrame, mkF, argsToLocals, Value.category]; done) | rfl
  refine own_start (fun P hPP => ?_)
  refine own_step (T' := s₁) (g' := (mkF m 0 #[.val (.ref a1), .val (.int (-1 : Int32)), .unset, .unset] [])) (fun t_ k_ => castTop ef k_) ?_
  have K0 := Keep.refl h0 [a1]
  refine own_step (T' := s₁) (g' := (mkF m 1 #[.val (.ref a1), .val (.int (-1 : Int32)), .unset, .unset] [(.int (0 : Int32))])) (fun t_ k_ => XS.iconst X0.here hx rfl (hb hby d4_0) k_) ?_
  refine own_step (T' := s₁) (g' := (mkF m 2 #[.val (.ref a1), .val (.int (-1 : Int32)), .val (.int (0 : Int32)), .unset] [])) (fun t_ k_ => XS.istoreN X0.here hx rfl (hb hby d4_1) rfl (l' := #[.val (.ref a1), .val (.int (-1 : Int32)), .val (.int (0 : Int32)), .unset]) rfl k_) ?_
  refine own_step (T' := s₁) (g' := (mkF m 3 #[.val (.ref a1), .val (.int (-1 : Int32)), .val (.int (0 : Int32)), .unset] [(.ref a1)])) (fun t_ k_ => XS.aloadN X0.here hx rfl (hb hby d4_2) rfl rfl k_) ?_
  have op101 := V1
  obtain ⟨cl101, Ar101, qk101, Sz101, Nz101, Hs101, Gs101⟩ := op101
  refine own_step (T' := s₁) (g' := (mkF m 4 #[.val (.ref a1), .val (.int (-1 : Int32)), .val (.int (0 : Int32)), .unset] [(.int (16 : Int32))])) (fun t_ k_ => X0.arraylength hx (by rw [e0]; exact Ar101.1) (State.isArrayOf_alike hZ.alike Ar101.2.1) (g := (mkF m 3 #[.val (.ref a1), .val (.int (-1 : Int32)), .val (.int (0 : Int32)), .unset] [(.ref a1)])) rfl rfl (hb hby d4_3) _ (by rw [len_of Sz101 Nz101]; exact k_)) ?_
  refine own_step (T' := s₁) (g' := (mkF m 5 #[.val (.ref a1), .val (.int (-1 : Int32)), .val (.int (0 : Int32)), .val (.int (16 : Int32))] [])) (fun t_ k_ => XS.istoreN X0.here hx rfl (hb hby d4_4) rfl (l' := #[.val (.ref a1), .val (.int (-1 : Int32)), .val (.int (0 : Int32)), .val (.int (16 : Int32))]) rfl k_) ?_
  refine own_step (T' := s₁) (g' := (mkF m 6 #[.val (.ref a1), .val (.int (-1 : Int32)), .val (.int (0 : Int32)), .val (.int (16 : Int32))] [(.int (0 : Int32))])) (fun t_ k_ => XS.iloadN X0.here hx rfl (hb hby d4_5) rfl k_) ?_
  refine own_step (T' := s₁) (g' := (mkF m 7 #[.val (.ref a1), .val (.int (-1 : Int32)), .val (.int (0 : Int32)), .val (.int (16 : Int32))] [(.int (16 : Int32)), (.int (0 : Int32))])) (fun t_ k_ => XS.iloadN X0.here hx rfl (hb hby d4_6) rfl k_) ?_
  refine own_step (T' := s₁) (g' := (mkF m 10 #[.val (.ref a1), .val (.int (-1 : Int32)), .val (.int (0 : Int32)), .val (.int (16 : Int32))] [])) (fun t_ k_ => XS.icmpNo X0.here hx rfl (hb hby d4_7) rfl (tlt (by decide)).2.1 k_) ?_
  refine own_step (T' := s₁) (g' := (mkF m 11 #[.val (.ref a1), .val (.int (-1 : Int32)), .val (.int (0 : Int32)), .val (.int (16 : Int32))] [(.ref a1)])) (fun t_ k_ => XS.aloadN X0.here hx rfl (hb hby d4_10) rfl rfl k_) ?_
  refine own_step (T' := s₁) (g' := (mkF m 12 #[.val (.ref a1), .val (.int (-1 : Int32)), .val (.int (0 : Int32)), .val (.int (16 : Int32))] [(.int (0 : Int32)), (.ref a1)])) (fun t_ k_ => XS.iloadN X0.here hx rfl (hb hby d4_11) rfl k_) ?_
  refine own_step (T' := s₁) (g' := (mkF m 13 #[.val (.ref a1), .val (.int (-1 : Int32)), .val (.int (0 : Int32)), .val (.int (16 : Int32))] [(.int (-1 : Int32)), (.int (0 : Int32)), (.ref a1)])) (fun t_ k_ => XS.iloadN X0.here hx rfl (hb hby d4_12) rfl k_) ?_
  have op102 := V1
  obtain ⟨cl102, Ar102, qk102, Sz102, Nz102, Hs102, Gs102⟩ := op102
  have hin102 := inb_of (j := (0 : Int32)) Sz102 ⟨by decide, by decide⟩
  obtain ⟨T102, h102, X102, e102, W102, st102⟩ := stI X0 hx hZ e0 Ar102 (j := (0 : Int32)) hin102 (g := (mkF m 13 #[.val (.ref a1), .val (.int (-1 : Int32)), .val (.int (0 : Int32)), .val (.int (16 : Int32))] [(.int (-1 : Int32)), (.int (0 : Int32)), (.ref a1)])) rfl rfl (hb hby d4_13)
  have V102 : Arv Z h102 a1 k1 .int (16 : Int32) [(.int (-1 : Int32)), (.int (0 : Int32)), (.int (0 : Int32)), (.int (0 : Int32)), (.int (0 : Int32)), (.int (0 : Int32)), (.int (0 : Int32)), (.int (0 : Int32)), (.int (0 : Int32)), (.int (0 : Int32)), (.int (0 : Int32)), (.int (0 : Int32)), (.int (0 : Int32)), (.int (0 : Int32)), (.int (0 : Int32)), (.int (0 : Int32))] (.int (0 : Int32)) := Arv.set Ar102 qk102 Sz102 Nz102 Hs102 Gs102 rfl W102 0 rfl (Nat.le_of_ble_eq_true rfl)
  have N102 := Fr.snoc X102 N0 ge1
  have k104 := K0.wr W102 (Or.inl (List.mem_of_getElem? (i := 0) rfl))
  have z105 : n0 ≤ h102.size := Nat.le_trans Z0 (Keep.of_wr W102).1
  refine own_step (T' := T102) (g' := (mkF m 14 #[.val (.ref a1), .val (.int (-1 : Int32)), .val (.int (0 : Int32)), .val (.int (16 : Int32))] [])) st102 ?_
  refine own_step (T' := T102) (g' := (mkF m 17 #[.val (.ref a1), .val (.int (-1 : Int32)), .val (.int (1 : Int32)), .val (.int (16 : Int32))] [])) (fun t_ k_ => XS.iinc X102.here hx rfl (hb hby d4_14) rfl (l' := #[.val (.ref a1), .val (.int (-1 : Int32)), .val (.int (1 : Int32)), .val (.int (16 : Int32))]) rfl k_) ?_
  refine own_step (T' := T102) (g' := (mkF m 5 #[.val (.ref a1), .val (.int (-1 : Int32)), .val (.int (1 : Int32)), .val (.int (16 : Int32))] [])) (fun t_ k_ => XS.goto X102.here hx rfl (pc0 := 17) (pc' := 5) rfl (hb hby d4_17) (by decide) (by decide) k_) ?_
  refine own_step (T' := T102) (g' := (mkF m 6 #[.val (.ref a1), .val (.int (-1 : Int32)), .val (.int (1 : Int32)), .val (.int (16 : Int32))] [(.int (1 : Int32))])) (fun t_ k_ => XS.iloadN X102.here hx rfl (hb hby d4_5) rfl k_) ?_
  refine own_step (T' := T102) (g' := (mkF m 7 #[.val (.ref a1), .val (.int (-1 : Int32)), .val (.int (1 : Int32)), .val (.int (16 : Int32))] [(.int (16 : Int32)), (.int (1 : Int32))])) (fun t_ k_ => XS.iloadN X102.here hx rfl (hb hby d4_6) rfl k_) ?_
  refine own_step (T' := T102) (g' := (mkF m 10 #[.val (.ref a1), .val (.int (-1 : Int32)), .val (.int (1 : Int32)), .val (.int (16 : Int32))] [])) (fun t_ k_ => XS.icmpNo X102.here hx rfl (hb hby d4_7) rfl (tlt (by decide)).2.1 k_) ?_
  refine own_step (T' := T102) (g' := (mkF m 11 #[.val (.ref a1), .val (.int (-1 : Int32)), .val (.int (1 : Int32)), .val (.int (16 : Int32))] [(.ref a1)])) (fun t_ k_ => XS.aloadN X102.here hx rfl (hb hby d4_10) rfl rfl k_) ?_
  refine own_step (T' := T102) (g' := (mkF m 12 #[.val (.ref a1), .val (.int (-1 : Int32)), .val (.int (1 : Int32)), .val (.int (16 : Int32))] [(.int (1 : Int32)), (.ref a1)])) (fun t_ k_ => XS.iloadN X102.here hx rfl (hb hby d4_11) rfl k_) ?_
  refine own_step (T' := T102) (g' := (mkF m 13 #[.val (.ref a1), .val (.int (-1 : Int32)), .val (.int (1 : Int32)), .val (.int (16 : Int32))] [(.int (-1 : Int32)), (.int (1 : Int32)), (.ref a1)])) (fun t_ k_ => XS.iloadN X102.here hx rfl (hb hby d4_12) rfl k_) ?_
  have op106 := V102
  obtain ⟨cl106, Ar106, qk106, Sz106, Nz106, Hs106, Gs106⟩ := op106
  have hin106 := inb_of (j := (1 : Int32)) Sz106 ⟨by decide, by decide⟩
  obtain ⟨T106, h106, X106, e106, W106, st106⟩ := stI X102 hx hZ e102 Ar106 (j := (1 : Int32)) hin106 (g := (mkF m 13 #[.val (.ref a1), .val (.int (-1 : Int32)), .val (.int (1 : Int32)), .val (.int (16 : Int32))] [(.int (-1 : Int32)), (.int (1 : Int32)), (.ref a1)])) rfl rfl (hb hby d4_13)
  have V106 : Arv Z h106 a1 k1 .int (16 : Int32) [(.int (-1 : Int32)), (.int (-1 : Int32)), (.int (0 : Int32)), (.int (0 : Int32)), (.int (0 : Int32)), (.int (0 : Int32)), (.int (0 : Int32)), (.int (0 : Int32)), (.int (0 : Int32)), (.int (0 : Int32)), (.int (0 : Int32)), (.int (0 : Int32)), (.int (0 : Int32)), (.int (0 : Int32)), (.int (0 : Int32)), (.int (0 : Int32))] (.int (0 : Int32)) := Arv.set Ar106 qk106 Sz106 Nz106 Hs106 Gs106 rfl W106 1 rfl (Nat.le_of_ble_eq_true rfl)
  have N106 := Fr.snoc X106 N102 ge1
  have k108 := k104.wr W106 (Or.inl (List.mem_of_getElem? (i := 0) rfl))
  have z109 : n0 ≤ h106.size := Nat.le_trans z105 (Keep.of_wr W106).1
  refine own_step (T' := T106) (g' := (mkF m 14 #[.val (.ref a1), .val (.int (-1 : Int32)), .val (.int (1 : Int32)), .val (.int (16 : Int32))] [])) st106 ?_
  refine own_step (T' := T106) (g' := (mkF m 17 #[.val (.ref a1), .val (.int (-1 : Int32)), .val (.int (2 : Int32)), .val (.int (16 : Int32))] [])) (fun t_ k_ => XS.iinc X106.here hx rfl (hb hby d4_14) rfl (l' := #[.val (.ref a1), .val (.int (-1 : Int32)), .val (.int (2 : Int32)), .val (.int (16 : Int32))]) rfl k_) ?_
  refine own_step (T' := T106) (g' := (mkF m 5 #[.val (.ref a1), .val (.int (-1 : Int32)), .val (.int (2 : Int32)), .val (.int (16 : Int32))] [])) (fun t_ k_ => XS.goto X106.here hx rfl (pc0 := 17) (pc' := 5) rfl (hb hby d4_17) (by decide) (by decide) k_) ?_
  refine own_step (T' := T106) (g' := (mkF m 6 #[.val (.ref a1), .val (.int (-1 : Int32)), .val (.int (2 : Int32)), .val (.int (16 : Int32))] [(.int (2 : Int32))])) (fun t_ k_ => XS.iloadN X106.here hx rfl (hb hby d4_5) rfl k_) ?_
  refine own_step (T' := T106) (g' := (mkF m 7 #[.val (.ref a1), .val (.int (-1 : Int32)), .val (.int (2 : Int32)), .val (.int (16 : Int32))] [(.int (16 : Int32)), (.int (2 : Int32))])) (fun t_ k_ => XS.iloadN X106.here hx rfl (hb hby d4_6) rfl k_) ?_
  refine own_step (T' := T106) (g' := (mkF m 10 #[.val (.ref a1), .val (.int (-1 : Int32)), .val (.int (2 : Int32)), .val (.int (16 : Int32))] [])) (fun t_ k_ => XS.icmpNo X106.here hx rfl (hb hby d4_7) rfl (tlt (by decide)).2.1 k_) ?_
  refine own_step (T' := T106) (g' := (mkF m 11 #[.val (.ref a1), .val (.int (-1 : Int32)), .val (.int (2 : Int32)), .val (.int (16 : Int32))] [(.ref a1)])) (fun t_ k_ => XS.aloadN X106.here hx rfl (hb hby d4_10) rfl rfl k_) ?_
  refine own_step (T' := T106) (g' := (mkF m 12 #[.val (.ref a1), .val (.int (-1 : Int32)), .val (.int (2 : Int32)), .val (.int (16 : Int32))] [(.int (2 : Int32)), (.ref a1)])) (fun t_ k_ => XS.iloadN X106.here hx rfl (hb hby d4_11) rfl k_) ?_
  refine own_step (T' := T106) (g' := (mkF m 13 #[.val (.ref a1), .val (.int (-1 : Int32)), .val (.int (2 : Int32)), .val (.int (16 : Int32))] [(.int (-1 : Int32)), (.int (2 : Int32)), (.ref a1)])) (fun t_ k_ => XS.iloadN X106.here hx rfl (hb hby d4_12) rfl k_) ?_
  have op110 := V106
  obtain ⟨cl110, Ar110, qk110, Sz110, Nz110, Hs110, Gs110⟩ := op110
  have hin110 := inb_of (j := (2 : Int32)) Sz110 ⟨by decide, by decide⟩
  obtain ⟨T110, h110, X110, e110, W110, st110⟩ := stI X106 hx hZ e106 Ar110 (j := (2 : Int32)) hin110 (g := (mkF m 13 #[.val (.ref a1), .val (.int (-1 : Int32)), .val (.int (2 : Int32)), .val (.int (16 : Int32))] [(.int (-1 : Int32)), (.int (2 : Int32)), (.ref a1)])) rfl rfl (hb hby d4_13)
  have V110 : Arv Z h110 a1 k1 .int (16 : Int32) [(.int (-1 : Int32)), (.int (-1 : Int32)), (.int (-1 : Int32)), (.int (0 : Int32)), (.int (0 : Int32)), (.int (0 : Int32)), (.int (0 : Int32)), (.int (0 : Int32)), (.int (0 : Int32)), (.int (0 : Int32)), (.int (0 : Int32)), (.int (0 : Int32)), (.int (0 : Int32)), (.int (0 : Int32)), (.int (0 : Int32)), (.int (0 : Int32))] (.int (0 : Int32)) := Arv.set Ar110 qk110 Sz110 Nz110 Hs110 Gs110 rfl W110 2 rfl (Nat.le_of_ble_eq_true rfl)
  have N110 := Fr.snoc X110 N106 ge1
  have k112 := k108.wr W110 (Or.inl (List.mem_of_getElem? (i := 0) rfl))
  have z113 : n0 ≤ h110.size := Nat.le_trans z109 (Keep.of_wr W110).1
  refine own_step (T' := T110) (g' := (mkF m 14 #[.val (.ref a1), .val (.int (-1 : Int32)), .val (.int (2 : Int32)), .val (.int (16 : Int32))] [])) st110 ?_
  refine own_step (T' := T110) (g' := (mkF m 17 #[.val (.ref a1), .val (.int (-1 : Int32)), .val (.int (3 : Int32)), .val (.int (16 : Int32))] [])) (fun t_ k_ => XS.iinc X110.here hx rfl (hb hby d4_14) rfl (l' := #[.val (.ref a1), .val (.int (-1 : Int32)), .val (.int (3 : Int32)), .val (.int (16 : Int32))]) rfl k_) ?_
  refine own_step (T' := T110) (g' := (mkF m 5 #[.val (.ref a1), .val (.int (-1 : Int32)), .val (.int (3 : Int32)), .val (.int (16 : Int32))] [])) (fun t_ k_ => XS.goto X110.here hx rfl (pc0 := 17) (pc' := 5) rfl (hb hby d4_17) (by decide) (by decide) k_) ?_
  refine own_step (T' := T110) (g' := (mkF m 6 #[.val (.ref a1), .val (.int (-1 : Int32)), .val (.int (3 : Int32)), .val (.int (16 : Int32))] [(.int (3 : Int32))])) (fun t_ k_ => XS.iloadN X110.here hx rfl (hb hby d4_5) rfl k_) ?_
  refine own_step (T' := T110) (g' := (mkF m 7 #[.val (.ref a1), .val (.int (-1 : Int32)), .val (.int (3 : Int32)), .val (.int (16 : Int32))] [(.int (16 : Int32)), (.int (3 : Int32))])) (fun t_ k_ => XS.iloadN X110.here hx rfl (hb hby d4_6) rfl k_) ?_
  refine own_step (T' := T110) (g' := (mkF m 10 #[.val (.ref a1), .val (.int (-1 : Int32)), .val (.int (3 : Int32)), .val (.int (16 : Int32))] [])) (fun t_ k_ => XS.icmpNo X110.here hx rfl (hb hby d4_7) rfl (tlt (by decide)).2.1 k_) ?_
  refine own_step (T' := T110) (g' := (mkF m 11 #[.val (.ref a1), .val (.int (-1 : Int32)), .val (.int (3 : Int32)), .val (.int (16 : Int32))] [(.ref a1)])) (fun t_ k_ => XS.aloadN X110.here hx rfl (hb hby d4_10) rfl rfl k_) ?_
  refine own_step (T' := T110) (g' := (mkF m 12 #[.val (.ref a1), .val (.int (-1 : Int32)), .val (.int (3 : Int32)), .val (.int (16 : Int32))] [(.int (3 : Int32)), (.ref a1)])) (fun t_ k_ => XS.iloadN X110.here hx rfl (hb hby d4_11) rfl k_) ?_
  refine own_step (T' := T110) (g' := (mkF m 13 #[.val (.ref a1), .val (.int (-1 : Int32)), .val (.int (3 : Int32)), .val (.int (16 : Int32))] [(.int (-1 : Int32)), (.int (3 : Int32)), (.ref a1)])) (fun t_ k_ => XS.iloadN X110.here hx rfl (hb hby d4_12) rfl k_) ?_
  have op114 := V110
  obtain ⟨cl114, Ar114, qk114, Sz114, Nz114, Hs114, Gs114⟩ := op114
  have hin114 := inb_of (j := (3 : Int32)) Sz114 ⟨by decide, by decide⟩
  obtain ⟨T114, h114, X114, e114, W114, st114⟩ := stI X110 hx hZ e110 Ar114 (j := (3 : Int32)) hin114 (g := (mkF m 13 #[.val (.ref a1), .val (.int (-1 : Int32)), .val (.int (3 : Int32)), .val (.int (16 : Int32))] [(.int (-1 : Int32)), (.int (3 : Int32)), (.ref a1)])) rfl rfl (hb hby d4_13)
  have V114 : Arv Z h114 a1 k1 .int (16 : Int32) [(.int (-1 : Int32)), (.int (-1 : Int32)), (.int (-1 : Int32)), (.int (-1 : Int32)), (.int (0 : Int32)), (.int (0 : Int32)), (.int (0 : Int32)), (.int (0 : Int32)), (.int (0 : Int32)), (.int (0 : Int32)), (.int (0 : Int32)), (.int (0 : Int32)), (.int (0 : Int32)), (.int (0 : Int32)), (.int (0 : Int32)), (.int (0 : Int32))] (.int (0 : Int32)) := Arv.set Ar114 qk114 Sz114 Nz114 Hs114 Gs114 rfl W114 3 rfl (Nat.le_of_ble_eq_true rfl)
  have N114 := Fr.snoc X114 N110 ge1
  have k116 := k112.wr W114 (Or.inl (List.mem_of_getElem? (i := 0) rfl))
  have z117 : n0 ≤ h114.size := Nat.le_trans z113 (Keep.of_wr W114).1
  refine own_step (T' := T114) (g' := (mkF m 14 #[.val (.ref a1), .val (.int (-1 : Int32)), .val (.int (3 : Int32)), .val (.int (16 : Int32))] [])) st114 ?_
  refine own_step (T' := T114) (g' := (mkF m 17 #[.val (.ref a1), .val (.int (-1 : Int32)), .val (.int (4 : Int32)), .val (.int (16 : Int32))] [])) (fun t_ k_ => XS.iinc X114.here hx rfl (hb hby d4_14) rfl (l' := #[.val (.ref a1), .val (.int (-1 : Int32)), .val (.int (4 : Int32)), .val (.int (16 : Int32))]) rfl k_) ?_
  refine own_step (T' := T114) (g' := (mkF m 5 #[.val (.ref a1), .val (.int (-1 : Int32)), .val (.int (4 : Int32)), .val (.int (16 : Int32))] [])) (fun t_ k_ => XS.goto X114.here hx rfl (pc0 := 17) (pc' := 5) rfl (hb hby d4_17) (by decide) (by decide) k_) ?_
  refine own_step (T' := T114) (g' := (mkF m 6 #[.val (.ref a1), .val (.int (-1 : Int32)), .val (.int (4 : Int32)), .val (.int (16 : Int32))] [(.int (4 : Int32))])) (fun t_ k_ => XS.iloadN X114.here hx rfl (hb hby d4_5) rfl k_) ?_
  refine own_step (T' := T114) (g' := (mkF m 7 #[.val (.ref a1), .val (.int (-1 : Int32)), .val (.int (4 : Int32)), .val (.int (16 : Int32))] [(.int (16 : Int32)), (.int (4 : Int32))])) (fun t_ k_ => XS.iloadN X114.here hx rfl (hb hby d4_6) rfl k_) ?_
  refine own_step (T' := T114) (g' := (mkF m 10 #[.val (.ref a1), .val (.int (-1 : Int32)), .val (.int (4 : Int32)), .val (.int (16 : Int32))] [])) (fun t_ k_ => XS.icmpNo X114.here hx rfl (hb hby d4_7) rfl (tlt (by decide)).2.1 k_) ?_
  refine own_step (T' := T114) (g' := (mkF m 11 #[.val (.ref a1), .val (.int (-1 : Int32)), .val (.int (4 : Int32)), .val (.int (16 : Int32))] [(.ref a1)])) (fun t_ k_ => XS.aloadN X114.here hx rfl (hb hby d4_10) rfl rfl k_) ?_
  refine own_step (T' := T114) (g' := (mkF m 12 #[.val (.ref a1), .val (.int (-1 : Int32)), .val (.int (4 : Int32)), .val (.int (16 : Int32))] [(.int (4 : Int32)), (.ref a1)])) (fun t_ k_ => XS.iloadN X114.here hx rfl (hb hby d4_11) rfl k_) ?_
  refine own_step (T' := T114) (g' := (mkF m 13 #[.val (.ref a1), .val (.int (-1 : Int32)), .val (.int (4 : Int32)), .val (.int (16 : Int32))] [(.int (-1 : Int32)), (.int (4 : Int32)), (.ref a1)])) (fun t_ k_ => XS.iloadN X114.here hx rfl (hb hby d4_12) rfl k_) ?_
  have op118 := V114
  obtain ⟨cl118, Ar118, qk118, Sz118, Nz118, Hs118, Gs118⟩ := op118
  have hin118 := inb_of (j := (4 : Int32)) Sz118 ⟨by decide, by decide⟩
  obtain ⟨T118, h118, X118, e118, W118, st118⟩ := stI X114 hx hZ e114 Ar118 (j := (4 : Int32)) hin118 (g := (mkF m 13 #[.val (.ref a1), .val (.int (-1 : Int32)), .val (.int (4 : Int32)), .val (.int (16 : Int32))] [(.int (-1 : Int32)), (.int (4 : Int32)), (.ref a1)])) rfl rfl (hb hby d4_13)
  have V118 : Arv Z h118 a1 k1 .int (16 : Int32) [(.int (-1 : Int32)), (.int (-1 : Int32)), (.int (-1 : Int32)), (.int (-1 : Int32)), (.int (-1 : Int32)), (.int (0 : Int32)), (.int (0 : Int32)), (.int (0 : Int32)), (.int (0 : Int32)), (.int (0 : Int32)), (.int (0 : Int32)), (.int (0 : Int32)), (.int (0 : Int32)), (.int (0 : Int32)), (.int (0 : Int32)), (.int (0 : Int32))] (.int (0 : Int32)) := Arv.set Ar118 qk118 Sz118 Nz118 Hs118 Gs118 rfl W118 4 rfl (Nat.le_of_ble_eq_true rfl)
  have N118 := Fr.snoc X118 N114 ge1
  have k120 := k116.wr W118 (Or.inl (List.mem_of_getElem? (i := 0) rfl))
  have z121 : n0 ≤ h118.size := Nat.le_trans z117 (Keep.of_wr W118).1
  refine own_step (T' := T118) (g' := (mkF m 14 #[.val (.ref a1), .val (.int (-1 : Int32)), .val (.int (4 : Int32)), .val (.int (16 : Int32))] [])) st118 ?_
  refine own_step (T' := T118) (g' := (mkF m 17 #[.val (.ref a1), .val (.int (-1 : Int32)), .val (.int (5 : Int32)), .val (.int (16 : Int32))] [])) (fun t_ k_ => XS.iinc X118.here hx rfl (hb hby d4_14) rfl (l' := #[.val (.ref a1), .val (.int (-1 : Int32)), .val (.int (5 : Int32)), .val (.int (16 : Int32))]) rfl k_) ?_
  refine own_step (T' := T118) (g' := (mkF m 5 #[.val (.ref a1), .val (.int (-1 : Int32)), .val (.int (5 : Int32)), .val (.int (16 : Int32))] [])) (fun t_ k_ => XS.goto X118.here hx rfl (pc0 := 17) (pc' := 5) rfl (hb hby d4_17) (by decide) (by decide) k_) ?_
  refine own_step (T' := T118) (g' := (mkF m 6 #[.val (.ref a1), .val (.int (-1 : Int32)), .val (.int (5 : Int32)), .val (.int (16 : Int32))] [(.int (5 : Int32))])) (fun t_ k_ => XS.iloadN X118.here hx rfl (hb hby d4_5) rfl k_) ?_
  refine own_step (T' := T118) (g' := (mkF m 7 #[.val (.ref a1), .val (.int (-1 : Int32)), .val (.int (5 : Int32)), .val (.int (16 : Int32))] [(.int (16 : Int32)), (.int (5 : Int32))])) (fun t_ k_ => XS.iloadN X118.here hx rfl (hb hby d4_6) rfl k_) ?_
  refine own_step (T' := T118) (g' := (mkF m 10 #[.val (.ref a1), .val (.int (-1 : Int32)), .val (.int (5 : Int32)), .val (.int (16 : Int32))] [])) (fun t_ k_ => XS.icmpNo X118.here hx rfl (hb hby d4_7) rfl (tlt (by decide)).2.1 k_) ?_
  refine own_step (T' := T118) (g' := (mkF m 11 #[.val (.ref a1), .val (.int (-1 : Int32)), .val (.int (5 : Int32)), .val (.int (16 : Int32))] [(.ref a1)])) (fun t_ k_ => XS.aloadN X118.here hx rfl (hb hby d4_10) rfl rfl k_) ?_
  refine own_step (T' := T118) (g' := (mkF m 12 #[.val (.ref a1), .val (.int (-1 : Int32)), .val (.int (5 : Int32)), .val (.int (16 : Int32))] [(.int (5 : Int32)), (.ref a1)])) (fun t_ k_ => XS.iloadN X118.here hx rfl (hb hby d4_11) rfl k_) ?_
  refine own_step (T' := T118) (g' := (mkF m 13 #[.val (.ref a1), .val (.int (-1 : Int32)), .val (.int (5 : Int32)), .val (.int (16 : Int32))] [(.int (-1 : Int32)), (.int (5 : Int32)), (.ref a1)])) (fun t_ k_ => XS.iloadN X118.here hx rfl (hb hby d4_12) rfl k_) ?_
  have op122 := V118
  obtain ⟨cl122, Ar122, qk122, Sz122, Nz122, Hs122, Gs122⟩ := op122
  have hin122 := inb_of (j := (5 : Int32)) Sz122 ⟨by decide, by decide⟩
  obtain ⟨T122, h122, X122, e122, W122, st122⟩ := stI X118 hx hZ e118 Ar122 (j := (5 : Int32)) hin122 (g := (mkF m 13 #[.val (.ref a1), .val (.int (-1 : Int32)), .val (.int (5 : Int32)), .val (.int (16 : Int32))] [(.int (-1 : Int32)), (.int (5 : Int32)), (.ref a1)])) rfl rfl (hb hby d4_13)
  have V122 : Arv Z h122 a1 k1 .int (16 : Int32) [(.int (-1 : Int32)), (.int (-1 : Int32)), (.int (-1 : Int32)), (.int (-1 : Int32)), (.int (-1 : Int32)), (.int (-1 : Int32)), (.int (0 : Int32)), (.int (0 : Int32)), (.int (0 : Int32)), (.int (0 : Int32)), (.int (0 : Int32)), (.int (0 : Int32)), (.int (0 : Int32)), (.int (0 : Int32)), (.int (0 : Int32)), (.int (0 : Int32))] (.int (0 : Int32)) := Arv.set Ar122 qk122 Sz122 Nz122 Hs122 Gs122 rfl W122 5 rfl (Nat.le_of_ble_eq_true rfl)
  have N122 := Fr.snoc X122 N118 ge1
  have k124 := k120.wr W122 (Or.inl (List.mem_of_getElem? (i := 0) rfl))
  have z125 : n0 ≤ h122.size := Nat.le_trans z121 (Keep.of_wr W122).1
  refine own_step (T' := T122) (g' := (mkF m 14 #[.val (.ref a1), .val (.int (-1 : Int32)), .val (.int (5 : Int32)), .val (.int (16 : Int32))] [])) st122 ?_
  refine own_step (T' := T122) (g' := (mkF m 17 #[.val (.ref a1), .val (.int (-1 : Int32)), .val (.int (6 : Int32)), .val (.int (16 : Int32))] [])) (fun t_ k_ => XS.iinc X122.here hx rfl (hb hby d4_14) rfl (l' := #[.val (.ref a1), .val (.int (-1 : Int32)), .val (.int (6 : Int32)), .val (.int (16 : Int32))]) rfl k_) ?_
  refine own_step (T' := T122) (g' := (mkF m 5 #[.val (.ref a1), .val (.int (-1 : Int32)), .val (.int (6 : Int32)), .val (.int (16 : Int32))] [])) (fun t_ k_ => XS.goto X122.here hx rfl (pc0 := 17) (pc' := 5) rfl (hb hby d4_17) (by decide) (by decide) k_) ?_
  refine own_step (T' := T122) (g' := (mkF m 6 #[.val (.ref a1), .val (.int (-1 : Int32)), .val (.int (6 : Int32)), .val (.int (16 : Int32))] [(.int (6 : Int32))])) (fun t_ k_ => XS.iloadN X122.here hx rfl (hb hby d4_5) rfl k_) ?_
  refine own_step (T' := T122) (g' := (mkF m 7 #[.val (.ref a1), .val (.int (-1 : Int32)), .val (.int (6 : Int32)), .val (.int (16 : Int32))] [(.int (16 : Int32)), (.int (6 : Int32))])) (fun t_ k_ => XS.iloadN X122.here hx rfl (hb hby d4_6) rfl k_) ?_
  refine own_step (T' := T122) (g' := (mkF m 10 #[.val (.ref a1), .val (.int (-1 : Int32)), .val (.int (6 : Int32)), .val (.int (16 : Int32))] [])) (fun t_ k_ => XS.icmpNo X122.here hx rfl (hb hby d4_7) rfl (tlt (by decide)).2.1 k_) ?_
  refine own_step (T' := T122) (g' := (mkF m 11 #[.val (.ref a1), .val (.int (-1 : Int32)), .val (.int (6 : Int32)), .val (.int (16 : Int32))] [(.ref a1)])) (fun t_ k_ => XS.aloadN X122.here hx rfl (hb hby d4_10) rfl rfl k_) ?_
  refine own_step (T' := T122) (g' := (mkF m 12 #[.val (.ref a1), .val (.int (-1 : Int32)), .val (.int (6 : Int32)), .val (.int (16 : Int32))] [(.int (6 : Int32)), (.ref a1)])) (fun t_ k_ => XS.iloadN X122.here hx rfl (hb hby d4_11) rfl k_) ?_
  refine own_step (T' := T122) (g' := (mkF m 13 #[.val (.ref a1), .val (.int (-1 : Int32)), .val (.int (6 : Int32)), .val (.int (16 : Int32))] [(.int (-1 : Int32)), (.int (6 : Int32)), (.ref a1)])) (fun t_ k_ => XS.iloadN X122.here hx rfl (hb hby d4_12) rfl k_) ?_
  have op126 := V122
  obtain ⟨cl126, Ar126, qk126, Sz126, Nz126, Hs126, Gs126⟩ := op126
  have hin126 := inb_of (j := (6 : Int32)) Sz126 ⟨by decide, by decide⟩
  obtain ⟨T126, h126, X126, e126, W126, st126⟩ := stI X122 hx hZ e122 Ar126 (j := (6 : Int32)) hin126 (g := (mkF m 13 #[.val (.ref a1), .val (.int (-1 : Int32)), .val (.int (6 : Int32)), .val (.int (16 : Int32))] [(.int (-1 : Int32)), (.int (6 : Int32)), (.ref a1)])) rfl rfl (hb hby d4_13)
  have V126 : Arv Z h126 a1 k1 .int (16 : Int32) [(.int (-1 : Int32)), (.int (-1 : Int32)), (.int (-1 : Int32)), (.int (-1 : Int32)), (.int (-1 : Int32)), (.int (-1 : Int32)), (.int (-1 : Int32)), (.int (0 : Int32)), (.int (0 : Int32)), (.int (0 : Int32)), (.int (0 : Int32)), (.int (0 : Int32)), (.int (0 : Int32)), (.int (0 : Int32)), (.int (0 : Int32)), (.int (0 : Int32))] (.int (0 : Int32)) := Arv.set Ar126 qk126 Sz126 Nz126 Hs126 Gs126 rfl W126 6 rfl (Nat.le_of_ble_eq_true rfl)
  have N126 := Fr.snoc X126 N122 ge1
  have k128 := k124.wr W126 (Or.inl (List.mem_of_getElem? (i := 0) rfl))
  have z129 : n0 ≤ h126.size := Nat.le_trans z125 (Keep.of_wr W126).1
  refine own_step (T' := T126) (g' := (mkF m 14 #[.val (.ref a1), .val (.int (-1 : Int32)), .val (.int (6 : Int32)), .val (.int (16 : Int32))] [])) st126 ?_
  refine own_step (T' := T126) (g' := (mkF m 17 #[.val (.ref a1), .val (.int (-1 : Int32)), .val (.int (7 : Int32)), .val (.int (16 : Int32))] [])) (fun t_ k_ => XS.iinc X126.here hx rfl (hb hby d4_14) rfl (l' := #[.val (.ref a1), .val (.int (-1 : Int32)), .val (.int (7 : Int32)), .val (.int (16 : Int32))]) rfl k_) ?_
  refine own_step (T' := T126) (g' := (mkF m 5 #[.val (.ref a1), .val (.int (-1 : Int32)), .val (.int (7 : Int32)), .val (.int (16 : Int32))] [])) (fun t_ k_ => XS.goto X126.here hx rfl (pc0 := 17) (pc' := 5) rfl (hb hby d4_17) (by decide) (by decide) k_) ?_
  refine own_step (T' := T126) (g' := (mkF m 6 #[.val (.ref a1), .val (.int (-1 : Int32)), .val (.int (7 : Int32)), .val (.int (16 : Int32))] [(.int (7 : Int32))])) (fun t_ k_ => XS.iloadN X126.here hx rfl (hb hby d4_5) rfl k_) ?_
  refine own_step (T' := T126) (g' := (mkF m 7 #[.val (.ref a1), .val (.int (-1 : Int32)), .val (.int (7 : Int32)), .val (.int (16 : Int32))] [(.int (16 : Int32)), (.int (7 : Int32))])) (fun t_ k_ => XS.iloadN X126.here hx rfl (hb hby d4_6) rfl k_) ?_
  refine own_step (T' := T126) (g' := (mkF m 10 #[.val (.ref a1), .val (.int (-1 : Int32)), .val (.int (7 : Int32)), .val (.int (16 : Int32))] [])) (fun t_ k_ => XS.icmpNo X126.here hx rfl (hb hby d4_7) rfl (tlt (by decide)).2.1 k_) ?_
  refine own_step (T' := T126) (g' := (mkF m 11 #[.val (.ref a1), .val (.int (-1 : Int32)), .val (.int (7 : Int32)), .val (.int (16 : Int32))] [(.ref a1)])) (fun t_ k_ => XS.aloadN X126.here hx rfl (hb hby d4_10) rfl rfl k_) ?_
  refine own_step (T' := T126) (g' := (mkF m 12 #[.val (.ref a1), .val (.int (-1 : Int32)), .val (.int (7 : Int32)), .val (.int (16 : Int32))] [(.int (7 : Int32)), (.ref a1)])) (fun t_ k_ => XS.iloadN X126.here hx rfl (hb hby d4_11) rfl k_) ?_
  refine own_step (T' := T126) (g' := (mkF m 13 #[.val (.ref a1), .val (.int (-1 : Int32)), .val (.int (7 : Int32)), .val (.int (16 : Int32))] [(.int (-1 : Int32)), (.int (7 : Int32)), (.ref a1)])) (fun t_ k_ => XS.iloadN X126.here hx rfl (hb hby d4_12) rfl k_) ?_
  have op130 := V126
  obtain ⟨cl130, Ar130, qk130, Sz130, Nz130, Hs130, Gs130⟩ := op130
  have hin130 := inb_of (j := (7 : Int32)) Sz130 ⟨by decide, by decide⟩
  obtain ⟨T130, h130, X130, e130, W130, st130⟩ := stI X126 hx hZ e126 Ar130 (j := (7 : Int32)) hin130 (g := (mkF m 13 #[.val (.ref a1), .val (.int (-1 : Int32)), .val (.int (7 : Int32)), .val (.int (16 : Int32))] [(.int (-1 : Int32)), (.int (7 : Int32)), (.ref a1)])) rfl rfl (hb hby d4_13)
  have V130 : Arv Z h130 a1 k1 .int (16 : Int32) [(.int (-1 : Int32)), (.int (-1 : Int32)), (.int (-1 : Int32)), (.int (-1 : Int32)), (.int (-1 : Int32)), (.int (-1 : Int32)), (.int (-1 : Int32)), (.int (-1 : Int32)), (.int (0 : Int32)), (.int (0 : Int32)), (.int (0 : Int32)), (.int (0 : Int32)), (.int (0 : Int32)), (.int (0 : Int32)), (.int (0 : Int32)), (.int (0 : Int32))] (.int (0 : Int32)) := Arv.set Ar130 qk130 Sz130 Nz130 Hs130 Gs130 rfl W130 7 rfl (Nat.le_of_ble_eq_true rfl)
  have N130 := Fr.snoc X130 N126 ge1
  have k132 := k128.wr W130 (Or.inl (List.mem_of_getElem? (i := 0) rfl))
  have z133 : n0 ≤ h130.size := Nat.le_trans z129 (Keep.of_wr W130).1
  refine own_step (T' := T130) (g' := (mkF m 14 #[.val (.ref a1), .val (.int (-1 : Int32)), .val (.int (7 : Int32)), .val (.int (16 : Int32))] [])) st130 ?_
  refine own_step (T' := T130) (g' := (mkF m 17 #[.val (.ref a1), .val (.int (-1 : Int32)), .val (.int (8 : Int32)), .val (.int (16 : Int32))] [])) (fun t_ k_ => XS.iinc X130.here hx rfl (hb hby d4_14) rfl (l' := #[.val (.ref a1), .val (.int (-1 : Int32)), .val (.int (8 : Int32)), .val (.int (16 : Int32))]) rfl k_) ?_
  refine own_step (T' := T130) (g' := (mkF m 5 #[.val (.ref a1), .val (.int (-1 : Int32)), .val (.int (8 : Int32)), .val (.int (16 : Int32))] [])) (fun t_ k_ => XS.goto X130.here hx rfl (pc0 := 17) (pc' := 5) rfl (hb hby d4_17) (by decide) (by decide) k_) ?_
  refine own_step (T' := T130) (g' := (mkF m 6 #[.val (.ref a1), .val (.int (-1 : Int32)), .val (.int (8 : Int32)), .val (.int (16 : Int32))] [(.int (8 : Int32))])) (fun t_ k_ => XS.iloadN X130.here hx rfl (hb hby d4_5) rfl k_) ?_
  refine own_step (T' := T130) (g' := (mkF m 7 #[.val (.ref a1), .val (.int (-1 : Int32)), .val (.int (8 : Int32)), .val (.int (16 : Int32))] [(.int (16 : Int32)), (.int (8 : Int32))])) (fun t_ k_ => XS.iloadN X130.here hx rfl (hb hby d4_6) rfl k_) ?_
  refine own_step (T' := T130) (g' := (mkF m 10 #[.val (.ref a1), .val (.int (-1 : Int32)), .val (.int (8 : Int32)), .val (.int (16 : Int32))] [])) (fun t_ k_ => XS.icmpNo X130.here hx rfl (hb hby d4_7) rfl (tlt (by decide)).2.1 k_) ?_
  refine own_step (T' := T130) (g' := (mkF m 11 #[.val (.ref a1), .val (.int (-1 : Int32)), .val (.int (8 : Int32)), .val (.int (16 : Int32))] [(.ref a1)])) (fun t_ k_ => XS.aloadN X130.here hx rfl (hb hby d4_10) rfl rfl k_) ?_
  refine own_step (T' := T130) (g' := (mkF m 12 #[.val (.ref a1), .val (.int (-1 : Int32)), .val (.int (8 : Int32)), .val (.int (16 : Int32))] [(.int (8 : Int32)), (.ref a1)])) (fun t_ k_ => XS.iloadN X130.here hx rfl (hb hby d4_11) rfl k_) ?_
  refine own_step (T' := T130) (g' := (mkF m 13 #[.val (.ref a1), .val (.int (-1 : Int32)), .val (.int (8 : Int32)), .val (.int (16 : Int32))] [(.int (-1 : Int32)), (.int (8 : Int32)), (.ref a1)])) (fun t_ k_ => XS.iloadN X130.here hx rfl (hb hby d4_12) rfl k_) ?_
  have op134 := V130
  obtain ⟨cl134, Ar134, qk134, Sz134, Nz134, Hs134, Gs134⟩ := op134
  have hin134 := inb_of (j := (8 : Int32)) Sz134 ⟨by decide, by decide⟩
  obtain ⟨T134, h134, X134, e134, W134, st134⟩ := stI X130 hx hZ e130 Ar134 (j := (8 : Int32)) hin134 (g := (mkF m 13 #[.val (.ref a1), .val (.int (-1 : Int32)), .val (.int (8 : Int32)), .val (.int (16 : Int32))] [(.int (-1 : Int32)), (.int (8 : Int32)), (.ref a1)])) rfl rfl (hb hby d4_13)
  have V134 : Arv Z h134 a1 k1 .int (16 : Int32) [(.int (-1 : Int32)), (.int (-1 : Int32)), (.int (-1 : Int32)), (.int (-1 : Int32)), (.int (-1 : Int32)), (.int (-1 : Int32)), (.int (-1 : Int32)), (.int (-1 : Int32)), (.int (-1 : Int32)), (.int (0 : Int32)), (.int (0 : Int32)), (.int (0 : Int32)), (.int (0 : Int32)), (.int (0 : Int32)), (.int (0 : Int32)), (.int (0 : Int32))] (.int (0 : Int32)) := Arv.set Ar134 qk134 Sz134 Nz134 Hs134 Gs134 rfl W134 8 rfl (Nat.le_of_ble_eq_true rfl)
  have N134 := Fr.snoc X134 N130 ge1
  have k136 := k132.wr W134 (Or.inl (List.mem_of_getElem? (i := 0) rfl))
  have z137 : n0 ≤ h134.size := Nat.le_trans z133 (Keep.of_wr W134).1
  refine own_step (T' := T134) (g' := (mkF m 14 #[.val (.ref a1), .val (.int (-1 : Int32)), .val (.int (8 : Int32)), .val (.int (16 : Int32))] [])) st134 ?_
  refine own_step (T' := T134) (g' := (mkF m 17 #[.val (.ref a1), .val (.int (-1 : Int32)), .val (.int (9 : Int32)), .val (.int (16 : Int32))] [])) (fun t_ k_ => XS.iinc X134.here hx rfl (hb hby d4_14) rfl (l' := #[.val (.ref a1), .val (.int (-1 : Int32)), .val (.int (9 : Int32)), .val (.int (16 : Int32))]) rfl k_) ?_
  refine own_step (T' := T134) (g' := (mkF m 5 #[.val (.ref a1), .val (.int (-1 : Int32)), .val (.int (9 : Int32)), .val (.int (16 : Int32))] [])) (fun t_ k_ => XS.goto X134.here hx rfl (pc0 := 17) (pc' := 5) rfl (hb hby d4_17) (by decide) (by decide) k_) ?_
  refine own_step (T' := T134) (g' := (mkF m 6 #[.val (.ref a1), .val (.int (-1 : Int32)), .val (.int (9 : Int32)), .val (.int (16 : Int32))] [(.int (9 : Int32))])) (fun t_ k_ => XS.iloadN X134.here hx rfl (hb hby d4_5) rfl k_) ?_
  refine own_step (T' := T134) (g' := (mkF m 7 #[.val (.ref a1), .val (.int (-1 : Int32)), .val (.int (9 : Int32)), .val (.int (16 : Int32))] [(.int (16 : Int32)), (.int (9 : Int32))])) (fun t_ k_ => XS.iloadN X134.here hx rfl (hb hby d4_6) rfl k_) ?_
  refine own_step (T' := T134) (g' := (mkF m 10 #[.val (.ref a1), .val (.int (-1 : Int32)), .val (.int (9 : Int32)), .val (.int (16 : Int32))] [])) (fun t_ k_ => XS.icmpNo X134.here hx rfl (hb hby d4_7) rfl (tlt (by decide)).2.1 k_) ?_
  refine own_step (T' := T134) (g' := (mkF m 11 #[.val (.ref a1), .val (.int (-1 : Int32)), .val (.int (9 : Int32)), .val (.int (16 : Int32))] [(.ref a1)])) (fun t_ k_ => XS.aloadN X134.here hx rfl (hb hby d4_10) rfl rfl k_) ?_
  refine own_step (T' := T134) (g' := (mkF m 12 #[.val (.ref a1), .val (.int (-1 : Int32)), .val (.int (9 : Int32)), .val (.int (16 : Int32))] [(.int (9 : Int32)), (.ref a1)])) (fun t_ k_ => XS.iloadN X134.here hx rfl (hb hby d4_11) rfl k_) ?_
  refine own_step (T' := T134) (g' := (mkF m 13 #[.val (.ref a1), .val (.int (-1 : Int32)), .val (.int (9 : Int32)), .val (.int (16 : Int32))] [(.int (-1 : Int32)), (.int (9 : Int32)), (.ref a1)])) (fun t_ k_ => XS.iloadN X134.here hx rfl (hb hby d4_12) rfl k_) ?_
  have op138 := V134
  obtain ⟨cl138, Ar138, qk138, Sz138, Nz138, Hs138, Gs138⟩ := op138
  have hin138 := inb_of (j := (9 : Int32)) Sz138 ⟨by decide, by decide⟩
  obtain ⟨T138, h138, X138, e138, W138, st138⟩ := stI X134 hx hZ e134 Ar138 (j := (9 : Int32)) hin138 (g := (mkF m 13 #[.val (.ref a1), .val (.int (-1 : Int32)), .val (.int (9 : Int32)), .val (.int (16 : Int32))] [(.int (-1 : Int32)), (.int (9 : Int32)), (.ref a1)])) rfl rfl (hb hby d4_13)
  have V138 : Arv Z h138 a1 k1 .int (16 : Int32) [(.int (-1 : Int32)), (.int (-1 : Int32)), (.int (-1 : Int32)), (.int (-1 : Int32)), (.int (-1 : Int32)), (.int (-1 : Int32)), (.int (-1 : Int32)), (.int (-1 : Int32)), (.int (-1 : Int32)), (.int (-1 : Int32)), (.int (0 : Int32)), (.int (0 : Int32)), (.int (0 : Int32)), (.int (0 : Int32)), (.int (0 : Int32)), (.int (0 : Int32))] (.int (0 : Int32)) := Arv.set Ar138 qk138 Sz138 Nz138 Hs138 Gs138 rfl W138 9 rfl (Nat.le_of_ble_eq_true rfl)
  have N138 := Fr.snoc X138 N134 ge1
  have k140 := k136.wr W138 (Or.inl (List.mem_of_getElem? (i := 0) rfl))
  have z141 : n0 ≤ h138.size := Nat.le_trans z137 (Keep.of_wr W138).1
  refine own_step (T' := T138) (g' := (mkF m 14 #[.val (.ref a1), .val (.int (-1 : Int32)), .val (.int (9 : Int32)), .val (.int (16 : Int32))] [])) st138 ?_
  refine own_step (T' := T138) (g' := (mkF m 17 #[.val (.ref a1), .val (.int (-1 : Int32)), .val (.int (10 : Int32)), .val (.int (16 : Int32))] [])) (fun t_ k_ => XS.iinc X138.here hx rfl (hb hby d4_14) rfl (l' := #[.val (.ref a1), .val (.int (-1 : Int32)), .val (.int (10 : Int32)), .val (.int (16 : Int32))]) rfl k_) ?_
  refine own_step (T' := T138) (g' := (mkF m 5 #[.val (.ref a1), .val (.int (-1 : Int32)), .val (.int (10 : Int32)), .val (.int (16 : Int32))] [])) (fun t_ k_ => XS.goto X138.here hx rfl (pc0 := 17) (pc' := 5) rfl (hb hby d4_17) (by decide) (by decide) k_) ?_
  refine own_step (T' := T138) (g' := (mkF m 6 #[.val (.ref a1), .val (.int (-1 : Int32)), .val (.int (10 : Int32)), .val (.int (16 : Int32))] [(.int (10 : Int32))])) (fun t_ k_ => XS.iloadN X138.here hx rfl (hb hby d4_5) rfl k_) ?_
  refine own_step (T' := T138) (g' := (mkF m 7 #[.val (.ref a1), .val (.int (-1 : Int32)), .val (.int (10 : Int32)), .val (.int (16 : Int32))] [(.int (16 : Int32)), (.int (10 : Int32))])) (fun t_ k_ => XS.iloadN X138.here hx rfl (hb hby d4_6) rfl k_) ?_
  refine own_step (T' := T138) (g' := (mkF m 10 #[.val (.ref a1), .val (.int (-1 : Int32)), .val (.int (10 : Int32)), .val (.int (16 : Int32))] [])) (fun t_ k_ => XS.icmpNo X138.here hx rfl (hb hby d4_7) rfl (tlt (by decide)).2.1 k_) ?_
  refine own_step (T' := T138) (g' := (mkF m 11 #[.val (.ref a1), .val (.int (-1 : Int32)), .val (.int (10 : Int32)), .val (.int (16 : Int32))] [(.ref a1)])) (fun t_ k_ => XS.aloadN X138.here hx rfl (hb hby d4_10) rfl rfl k_) ?_
  refine own_step (T' := T138) (g' := (mkF m 12 #[.val (.ref a1), .val (.int (-1 : Int32)), .val (.int (10 : Int32)), .val (.int (16 : Int32))] [(.int (10 : Int32)), (.ref a1)])) (fun t_ k_ => XS.iloadN X138.here hx rfl (hb hby d4_11) rfl k_) ?_
  refine own_step (T' := T138) (g' := (mkF m 13 #[.val (.ref a1), .val (.int (-1 : Int32)), .val (.int (10 : Int32)), .val (.int (16 : Int32))] [(.int (-1 : Int32)), (.int (10 : Int32)), (.ref a1)])) (fun t_ k_ => XS.iloadN X138.here hx rfl (hb hby d4_12) rfl k_) ?_
  have op142 := V138
  obtain ⟨cl142, Ar142, qk142, Sz142, Nz142, Hs142, Gs142⟩ := op142
  have hin142 := inb_of (j := (10 : Int32)) Sz142 ⟨by decide, by decide⟩
  obtain ⟨T142, h142, X142, e142, W142, st142⟩ := stI X138 hx hZ e138 Ar142 (j := (10 : Int32)) hin142 (g := (mkF m 13 #[.val (.ref a1), .val (.int (-1 : Int32)), .val (.int (10 : Int32)), .val (.int (16 : Int32))] [(.int (-1 : Int32)), (.int (10 : Int32)), (.ref a1)])) rfl rfl (hb hby d4_13)
  have V142 : Arv Z h142 a1 k1 .int (16 : Int32) [(.int (-1 : Int32)), (.int (-1 : Int32)), (.int (-1 : Int32)), (.int (-1 : Int32)), (.int (-1 : Int32)), (.int (-1 : Int32)), (.int (-1 : Int32)), (.int (-1 : Int32)), (.int (-1 : Int32)), (.int (-1 : Int32)), (.int (-1 : Int32)), (.int (0 : Int32)), (.int (0 : Int32)), (.int (0 : Int32)), (.int (0 : Int32)), (.int (0 : Int32))] (.int (0 : Int32)) := Arv.set Ar142 qk142 Sz142 Nz142 Hs142 Gs142 rfl W142 10 rfl (Nat.le_of_ble_eq_true rfl)
  have N142 := Fr.snoc X142 N138 ge1
  have k144 := k140.wr W142 (Or.inl (List.mem_of_getElem? (i := 0) rfl))
  have z145 : n0 ≤ h142.size := Nat.le_trans z141 (Keep.of_wr W142).1
  refine own_step (T' := T142) (g' := (mkF m 14 #[.val (.ref a1), .val (.int (-1 : Int32)), .val (.int (10 : Int32)), .val (.int (16 : Int32))] [])) st142 ?_
  refine own_step (T' := T142) (g' := (mkF m 17 #[.val (.ref a1), .val (.int (-1 : Int32)), .val (.int (11 : Int32)), .val (.int (16 : Int32))] [])) (fun t_ k_ => XS.iinc X142.here hx rfl (hb hby d4_14) rfl (l' := #[.val (.ref a1), .val (.int (-1 : Int32)), .val (.int (11 : Int32)), .val (.int (16 : Int32))]) rfl k_) ?_
  refine own_step (T' := T142) (g' := (mkF m 5 #[.val (.ref a1), .val (.int (-1 : Int32)), .val (.int (11 : Int32)), .val (.int (16 : Int32))] [])) (fun t_ k_ => XS.goto X142.here hx rfl (pc0 := 17) (pc' := 5) rfl (hb hby d4_17) (by decide) (by decide) k_) ?_
  refine own_step (T' := T142) (g' := (mkF m 6 #[.val (.ref a1), .val (.int (-1 : Int32)), .val (.int (11 : Int32)), .val (.int (16 : Int32))] [(.int (11 : Int32))])) (fun t_ k_ => XS.iloadN X142.here hx rfl (hb hby d4_5) rfl k_) ?_
  refine own_step (T' := T142) (g' := (mkF m 7 #[.val (.ref a1), .val (.int (-1 : Int32)), .val (.int (11 : Int32)), .val (.int (16 : Int32))] [(.int (16 : Int32)), (.int (11 : Int32))])) (fun t_ k_ => XS.iloadN X142.here hx rfl (hb hby d4_6) rfl k_) ?_
  refine own_step (T' := T142) (g' := (mkF m 10 #[.val (.ref a1), .val (.int (-1 : Int32)), .val (.int (11 : Int32)), .val (.int (16 : Int32))] [])) (fun t_ k_ => XS.icmpNo X142.here hx rfl (hb hby d4_7) rfl (tlt (by decide)).2.1 k_) ?_
  refine own_step (T' := T142) (g' := (mkF m 11 #[.val (.ref a1), .val (.int (-1 : Int32)), .val (.int (11 : Int32)), .val (.int (16 : Int32))] [(.ref a1)])) (fun t_ k_ => XS.aloadN X142.here hx rfl (hb hby d4_10) rfl rfl k_) ?_
  refine own_step (T' := T142) (g' := (mkF m 12 #[.val (.ref a1), .val (.int (-1 : Int32)), .val (.int (11 : Int32)), .val (.int (16 : Int32))] [(.int (11 : Int32)), (.ref a1)])) (fun t_ k_ => XS.iloadN X142.here hx rfl (hb hby d4_11) rfl k_) ?_
  refine own_step (T' := T142) (g' := (mkF m 13 #[.val (.ref a1), .val (.int (-1 : Int32)), .val (.int (11 : Int32)), .val (.int (16 : Int32))] [(.int (-1 : Int32)), (.int (11 : Int32)), (.ref a1)])) (fun t_ k_ => XS.iloadN X142.here hx rfl (hb hby d4_12) rfl k_) ?_
  have op146 := V142
  obtain ⟨cl146, Ar146, qk146, Sz146, Nz146, Hs146, Gs146⟩ := op146
  have hin146 := inb_of (j := (11 : Int32)) Sz146 ⟨by decide, by decide⟩
  obtain ⟨T146, h146, X146, e146, W146, st146⟩ := stI X142 hx hZ e142 Ar146 (j := (11 : Int32)) hin146 (g := (mkF m 13 #[.val (.ref a1), .val (.int (-1 : Int32)), .val (.int (11 : Int32)), .val (.int (16 : Int32))] [(.int (-1 : Int32)), (.int (11 : Int32)), (.ref a1)])) rfl rfl (hb hby d4_13)
  have V146 : Arv Z h146 a1 k1 .int (16 : Int32) [(.int (-1 : Int32)), (.int (-1 : Int32)), (.int (-1 : Int32)), (.int (-1 : Int32)), (.int (-1 : Int32)), (.int (-1 : Int32)), (.int (-1 : Int32)), (.int (-1 : Int32)), (.int (-1 : Int32)), (.int (-1 : Int32)), (.int (-1 : Int32)), (.int (-1 : Int32)), (.int (0 : Int32)), (.int (0 : Int32)), (.int (0 : Int32)), (.int (0 : Int32))] (.int (0 : Int32)) := Arv.set Ar146 qk146 Sz146 Nz146 Hs146 Gs146 rfl W146 11 rfl (Nat.le_of_ble_eq_true rfl)
  have N146 := Fr.snoc X146 N142 ge1
  have k148 := k144.wr W146 (Or.inl (List.mem_of_getElem? (i := 0) rfl))
  have z149 : n0 ≤ h146.size := Nat.le_trans z145 (Keep.of_wr W146).1
  refine own_step (T' := T146) (g' := (mkF m 14 #[.val (.ref a1), .val (.int (-1 : Int32)), .val (.int (11 : Int32)), .val (.int (16 : Int32))] [])) st146 ?_
  refine own_step (T' := T146) (g' := (mkF m 17 #[.val (.ref a1), .val (.int (-1 : Int32)), .val (.int (12 : Int32)), .val (.int (16 : Int32))] [])) (fun t_ k_ => XS.iinc X146.here hx rfl (hb hby d4_14) rfl (l' := #[.val (.ref a1), .val (.int (-1 : Int32)), .val (.int (12 : Int32)), .val (.int (16 : Int32))]) rfl k_) ?_
  refine own_step (T' := T146) (g' := (mkF m 5 #[.val (.ref a1), .val (.int (-1 : Int32)), .val (.int (12 : Int32)), .val (.int (16 : Int32))] [])) (fun t_ k_ => XS.goto X146.here hx rfl (pc0 := 17) (pc' := 5) rfl (hb hby d4_17) (by decide) (by decide) k_) ?_
  refine own_step (T' := T146) (g' := (mkF m 6 #[.val (.ref a1), .val (.int (-1 : Int32)), .val (.int (12 : Int32)), .val (.int (16 : Int32))] [(.int (12 : Int32))])) (fun t_ k_ => XS.iloadN X146.here hx rfl (hb hby d4_5) rfl k_) ?_
  refine own_step (T' := T146) (g' := (mkF m 7 #[.val (.ref a1), .val (.int (-1 : Int32)), .val (.int (12 : Int32)), .val (.int (16 : Int32))] [(.int (16 : Int32)), (.int (12 : Int32))])) (fun t_ k_ => XS.iloadN X146.here hx rfl (hb hby d4_6) rfl k_) ?_
  refine own_step (T' := T146) (g' := (mkF m 10 #[.val (.ref a1), .val (.int (-1 : Int32)), .val (.int (12 : Int32)), .val (.int (16 : Int32))] [])) (fun t_ k_ => XS.icmpNo X146.here hx rfl (hb hby d4_7) rfl (tlt (by decide)).2.1 k_) ?_
  refine own_step (T' := T146) (g' := (mkF m 11 #[.val (.ref a1), .val (.int (-1 : Int32)), .val (.int (12 : Int32)), .val (.int (16 : Int32))] [(.ref a1)])) (fun t_ k_ => XS.aloadN X146.here hx rfl (hb hby d4_10) rfl rfl k_) ?_
  refine own_step (T' := T146) (g' := (mkF m 12 #[.val (.ref a1), .val (.int (-1 : Int32)), .val (.int (12 : Int32)), .val (.int (16 : Int32))] [(.int (12 : Int32)), (.ref a1)])) (fun t_ k_ => XS.iloadN X146.here hx rfl (hb hby d4_11) rfl k_) ?_
  refine own_step (T' := T146) (g' := (mkF m 13 #[.val (.ref a1), .val (.int (-1 : Int32)), .val (.int (12 : Int32)), .val (.int (16 : Int32))] [(.int (-1 : Int32)), (.int (12 : Int32)), (.ref a1)])) (fun t_ k_ => XS.iloadN X146.here hx rfl (hb hby d4_12) rfl k_) ?_
  have op150 := V146
  obtain ⟨cl150, Ar150, qk150, Sz150, Nz150, Hs150, Gs150⟩ := op150
  have hin150 := inb_of (j := (12 : Int32)) Sz150 ⟨by decide, by decide⟩
  obtain ⟨T150, h150, X150, e150, W150, st150⟩ := stI X146 hx hZ e146 Ar150 (j := (12 : Int32)) hin150 (g := (mkF m 13 #[.val (.ref a1), .val (.int (-1 : Int32)), .val (.int (12 : Int32)), .val (.int (16 : Int32))] [(.int (-1 : Int32)), (.int (12 : Int32)), (.ref a1)])) rfl rfl (hb hby d4_13)
  have V150 : Arv Z h150 a1 k1 .int (16 : Int32) [(.int (-1 : Int32)), (.int (-1 : Int32)), (.int (-1 : Int32)), (.int (-1 : Int32)), (.int (-1 : Int32)), (.int (-1 : Int32)), (.int (-1 : Int32)), (.int (-1 : Int32)), (.int (-1 : Int32)), (.int (-1 : Int32)), (.int (-1 : Int32)), (.int (-1 : Int32)), (.int (-1 : Int32)), (.int (0 : Int32)), (.int (0 : Int32)), (.int (0 : Int32))] (.int (0 : Int32)) := Arv.set Ar150 qk150 Sz150 Nz150 Hs150 Gs150 rfl W150 12 rfl (Nat.le_of_ble_eq_true rfl)
  have N150 := Fr.snoc X150 N146 ge1
  have k152 := k148.wr W150 (Or.inl (List.mem_of_getElem? (i := 0) rfl))
  have z153 : n0 ≤ h150.size := Nat.le_trans z149 (Keep.of_wr W150).1
  refine own_step (T' := T150) (g' := (mkF m 14 #[.val (.ref a1), .val (.int (-1 : Int32)), .val (.int (12 : Int32)), .val (.int (16 : Int32))] [])) st150 ?_
  refine own_step (T' := T150) (g' := (mkF m 17 #[.val (.ref a1), .val (.int (-1 : Int32)), .val (.int (13 : Int32)), .val (.int (16 : Int32))] [])) (fun t_ k_ => XS.iinc X150.here hx rfl (hb hby d4_14) rfl (l' := #[.val (.ref a1), .val (.int (-1 : Int32)), .val (.int (13 : Int32)), .val (.int (16 : Int32))]) rfl k_) ?_
  refine own_step (T' := T150) (g' := (mkF m 5 #[.val (.ref a1), .val (.int (-1 : Int32)), .val (.int (13 : Int32)), .val (.int (16 : Int32))] [])) (fun t_ k_ => XS.goto X150.here hx rfl (pc0 := 17) (pc' := 5) rfl (hb hby d4_17) (by decide) (by decide) k_) ?_
  refine own_step (T' := T150) (g' := (mkF m 6 #[.val (.ref a1), .val (.int (-1 : Int32)), .val (.int (13 : Int32)), .val (.int (16 : Int32))] [(.int (13 : Int32))])) (fun t_ k_ => XS.iloadN X150.here hx rfl (hb hby d4_5) rfl k_) ?_
  refine own_step (T' := T150) (g' := (mkF m 7 #[.val (.ref a1), .val (.int (-1 : Int32)), .val (.int (13 : Int32)), .val (.int (16 : Int32))] [(.int (16 : Int32)), (.int (13 : Int32))])) (fun t_ k_ => XS.iloadN X150.here hx rfl (hb hby d4_6) rfl k_) ?_
  refine own_step (T' := T150) (g' := (mkF m 10 #[.val (.ref a1), .val (.int (-1 : Int32)), .val (.int (13 : Int32)), .val (.int (16 : Int32))] [])) (fun t_ k_ => XS.icmpNo X150.here hx rfl (hb hby d4_7) rfl (tlt (by decide)).2.1 k_) ?_
  refine own_step (T' := T150) (g' := (mkF m 11 #[.val (.ref a1), .val (.int (-1 : Int32)), .val (.int (13 : Int32)), .val (.int (16 : Int32))] [(.ref a1)])) (fun t_ k_ => XS.aloadN X150.here hx rfl (hb hby d4_10) rfl rfl k_) ?_
  refine own_step (T' := T150) (g' := (mkF m 12 #[.val (.ref a1), .val (.int (-1 : Int32)), .val (.int (13 : Int32)), .val (.int (16 : Int32))] [(.int (13 : Int32)), (.ref a1)])) (fun t_ k_ => XS.iloadN X150.here hx rfl (hb hby d4_11) rfl k_) ?_
  refine own_step (T' := T150) (g' := (mkF m 13 #[.val (.ref a1), .val (.int (-1 : Int32)), .val (.int (13 : Int32)), .val (.int (16 : Int32))] [(.int (-1 : Int32)), (.int (13 : Int32)), (.ref a1)])) (fun t_ k_ => XS.iloadN X150.here hx rfl (hb hby d4_12) rfl k_) ?_
  have op154 := V150
  obtain ⟨cl154, Ar154, qk154, Sz154, Nz154, Hs154, Gs154⟩ := op154
  have hin154 := inb_of (j := (13 : Int32)) Sz154 ⟨by decide, by decide⟩
  obtain ⟨T154, h154, X154, e154, W154, st154⟩ := stI X150 hx hZ e150 Ar154 (j := (13 : Int32)) hin154 (g := (mkF m 13 #[.val (.ref a1), .val (.int (-1 : Int32)), .val (.int (13 : Int32)), .val (.int (16 : Int32))] [(.int (-1 : Int32)), (.int (13 : Int32)), (.ref a1)])) rfl rfl (hb hby d4_13)
  have V154 : Arv Z h154 a1 k1 .int (16 : Int32) [(.int (-1 : Int32)), (.int (-1 : Int32)), (.int (-1 : Int32)), (.int (-1 : Int32)), (.int (-1 : Int32)), (.int (-1 : Int32)), (.int (-1 : Int32)), (.int (-1 : Int32)), (.int (-1 : Int32)), (.int (-1 : Int32)), (.int (-1 : Int32)), (.int (-1 : Int32)), (.int (-1 : Int32)), (.int (-1 : Int32)), (.int (0 : Int32)), (.int (0 : Int32))] (.int (0 : Int32)) := Arv.set Ar154 qk154 Sz154 Nz154 Hs154 Gs154 rfl W154 13 rfl (Nat.le_of_ble_eq_true rfl)
  have N154 := Fr.snoc X154 N150 ge1
  have k156 := k152.wr W154 (Or.inl (List.mem_of_getElem? (i := 0) rfl))
  have z157 : n0 ≤ h154.size := Nat.le_trans z153 (Keep.of_wr W154).1
  refine own_step (T' := T154) (g' := (mkF m 14 #[.val (.ref a1), .val (.int (-1 : Int32)), .val (.int (13 : Int32)), .val (.int (16 : Int32))] [])) st154 ?_
  refine own_step (T' := T154) (g' := (mkF m 17 #[.val (.ref a1), .val (.int (-1 : Int32)), .val (.int (14 : Int32)), .val (.int (16 : Int32))] [])) (fun t_ k_ => XS.iinc X154.here hx rfl (hb hby d4_14) rfl (l' := #[.val (.ref a1), .val (.int (-1 : Int32)), .val (.int (14 : Int32)), .val (.int (16 : Int32))]) rfl k_) ?_
  refine own_step (T' := T154) (g' := (mkF m 5 #[.val (.ref a1), .val (.int (-1 : Int32)), .val (.int (14 : Int32)), .val (.int (16 : Int32))] [])) (fun t_ k_ => XS.goto X154.here hx rfl (pc0 := 17) (pc' := 5) rfl (hb hby d4_17) (by decide) (by decide) k_) ?_
  refine own_step (T' := T154) (g' := (mkF m 6 #[.val (.ref a1), .val (.int (-1 : Int32)), .val (.int (14 : Int32)), .val (.int (16 : Int32))] [(.int (14 : Int32))])) (fun t_ k_ => XS.iloadN X154.here hx rfl (hb hby d4_5) rfl k_) ?_
  refine own_step (T' := T154) (g' := (mkF m 7 #[.val (.ref a1), .val (.int (-1 : Int32)), .val (.int (14 : Int32)), .val (.int (16 : Int32))] [(.int (16 : Int32)), (.int (14 : Int32))])) (fun t_ k_ => XS.iloadN X154.here hx rfl (hb hby d4_6) rfl k_) ?_
  refine own_step (T' := T154) (g' := (mkF m 10 #[.val (.ref a1), .val (.int (-1 : Int32)), .val (.int (14 : Int32)), .val (.int (16 : Int32))] [])) (fun t_ k_ => XS.icmpNo X154.here hx rfl (hb hby d4_7) rfl (tlt (by decide)).2.1 k_) ?_
  refine own_step (T' := T154) (g' := (mkF m 11 #[.val (.ref a1), .val (.int (-1 : Int32)), .val (.int (14 : Int32)), .val (.int (16 : Int32))] [(.ref a1)])) (fun t_ k_ => XS.aloadN X154.here hx rfl (hb hby d4_10) rfl rfl k_) ?_
  refine own_step (T' := T154) (g' := (mkF m 12 #[.val (.ref a1), .val (.int (-1 : Int32)), .val (.int (14 : Int32)), .val (.int (16 : Int32))] [(.int (14 : Int32)), (.ref a1)])) (fun t_ k_ => XS.iloadN X154.here hx rfl (hb hby d4_11) rfl k_) ?_
  refine own_step (T' := T154) (g' := (mkF m 13 #[.val (.ref a1), .val (.int (-1 : Int32)), .val (.int (14 : Int32)), .val (.int (16 : Int32))] [(.int (-1 : Int32)), (.int (14 : Int32)), (.ref a1)])) (fun t_ k_ => XS.iloadN X154.here hx rfl (hb hby d4_12) rfl k_) ?_
  have op158 := V154
  obtain ⟨cl158, Ar158, qk158, Sz158, Nz158, Hs158, Gs158⟩ := op158
  have hin158 := inb_of (j := (14 : Int32)) Sz158 ⟨by decide, by decide⟩
  obtain ⟨T158, h158, X158, e158, W158, st158⟩ := stI X154 hx hZ e154 Ar158 (j := (14 : Int32)) hin158 (g := (mkF m 13 #[.val (.ref a1), .val (.int (-1 : Int32)), .val (.int (14 : Int32)), .val (.int (16 : Int32))] [(.int (-1 : Int32)), (.int (14 : Int32)), (.ref a1)])) rfl rfl (hb hby d4_13)
  have V158 : Arv Z h158 a1 k1 .int (16 : Int32) [(.int (-1 : Int32)), (.int (-1 : Int32)), (.int (-1 : Int32)), (.int (-1 : Int32)), (.int (-1 : Int32)), (.int (-1 : Int32)), (.int (-1 : Int32)), (.int (-1 : Int32)), (.int (-1 : Int32)), (.int (-1 : Int32)), (.int (-1 : Int32)), (.int (-1 : Int32)), (.int (-1 : Int32)), (.int (-1 : Int32)), (.int (-1 : Int32)), (.int (0 : Int32))] (.int (0 : Int32)) := Arv.set Ar158 qk158 Sz158 Nz158 Hs158 Gs158 rfl W158 14 rfl (Nat.le_of_ble_eq_true rfl)
  have N158 := Fr.snoc X158 N154 ge1
  have k160 := k156.wr W158 (Or.inl (List.mem_of_getElem? (i := 0) rfl))
  have z161 : n0 ≤ h158.size := Nat.le_trans z157 (Keep.of_wr W158).1
  refine own_step (T' := T158) (g' := (mkF m 14 #[.val (.ref a1), .val (.int (-1 : Int32)), .val (.int (14 : Int32)), .val (.int (16 : Int32))] [])) st158 ?_
  refine own_step (T' := T158) (g' := (mkF m 17 #[.val (.ref a1), .val (.int (-1 : Int32)), .val (.int (15 : Int32)), .val (.int (16 : Int32))] [])) (fun t_ k_ => XS.iinc X158.here hx rfl (hb hby d4_14) rfl (l' := #[.val (.ref a1), .val (.int (-1 : Int32)), .val (.int (15 : Int32)), .val (.int (16 : Int32))]) rfl k_) ?_
  refine own_step (T' := T158) (g' := (mkF m 5 #[.val (.ref a1), .val (.int (-1 : Int32)), .val (.int (15 : Int32)), .val (.int (16 : Int32))] [])) (fun t_ k_ => XS.goto X158.here hx rfl (pc0 := 17) (pc' := 5) rfl (hb hby d4_17) (by decide) (by decide) k_) ?_
  refine own_step (T' := T158) (g' := (mkF m 6 #[.val (.ref a1), .val (.int (-1 : Int32)), .val (.int (15 : Int32)), .val (.int (16 : Int32))] [(.int (15 : Int32))])) (fun t_ k_ => XS.iloadN X158.here hx rfl (hb hby d4_5) rfl k_) ?_
  refine own_step (T' := T158) (g' := (mkF m 7 #[.val (.ref a1), .val (.int (-1 : Int32)), .val (.int (15 : Int32)), .val (.int (16 : Int32))] [(.int (16 : Int32)), (.int (15 : Int32))])) (fun t_ k_ => XS.iloadN X158.here hx rfl (hb hby d4_6) rfl k_) ?_
  refine own_step (T' := T158) (g' := (mkF m 10 #[.val (.ref a1), .val (.int (-1 : Int32)), .val (.int (15 : Int32)), .val (.int (16 : Int32))] [])) (fun t_ k_ => XS.icmpNo X158.here hx rfl (hb hby d4_7) rfl (tlt (by decide)).2.1 k_) ?_
  refine own_step (T' := T158) (g' := (mkF m 11 #[.val (.ref a1), .val (.int (-1 : Int32)), .val (.int (15 : Int32)), .val (.int (16 : Int32))] [(.ref a1)])) (fun t_ k_ => XS.aloadN X158.here hx rfl (hb hby d4_10) rfl rfl k_) ?_
  refine own_step (T' := T158) (g' := (mkF m 12 #[.val (.ref a1), .val (.int (-1 : Int32)), .val (.int (15 : Int32)), .val (.int (16 : Int32))] [(.int (15 : Int32)), (.ref a1)])) (fun t_ k_ => XS.iloadN X158.here hx rfl (hb hby d4_11) rfl k_) ?_
  refine own_step (T' := T158) (g' := (mkF m 13 #[.val (.ref a1), .val (.int (-1 : Int32)), .val (.int (15 : Int32)), .val (.int (16 : Int32))] [(.int (-1 : Int32)), (.int (15 : Int32)), (.ref a1)])) (fun t_ k_ => XS.iloadN X158.here hx rfl (hb hby d4_12) rfl k_) ?_
  have op162 := V158
  obtain ⟨cl162, Ar162, qk162, Sz162, Nz162, Hs162, Gs162⟩ := op162
  have hin162 := inb_of (j := (15 : Int32)) Sz162 ⟨by decide, by decide⟩
  obtain ⟨T162, h162, X162, e162, W162, st162⟩ := stI X158 hx hZ e158 Ar162 (j := (15 : Int32)) hin162 (g := (mkF m 13 #[.val (.ref a1), .val (.int (-1 : Int32)), .val (.int (15 : Int32)), .val (.int (16 : Int32))] [(.int (-1 : Int32)), (.int (15 : Int32)), (.ref a1)])) rfl rfl (hb hby d4_13)
  have V162 : Arv Z h162 a1 k1 .int (16 : Int32) [(.int (-1 : Int32)), (.int (-1 : Int32)), (.int (-1 : Int32)), (.int (-1 : Int32)), (.int (-1 : Int32)), (.int (-1 : Int32)), (.int (-1 : Int32)), (.int (-1 : Int32)), (.int (-1 : Int32)), (.int (-1 : Int32)), (.int (-1 : Int32)), (.int (-1 : Int32)), (.int (-1 : Int32)), (.int (-1 : Int32)), (.int (-1 : Int32)), (.int (-1 : Int32))] (.int (0 : Int32)) := Arv.set Ar162 qk162 Sz162 Nz162 Hs162 Gs162 rfl W162 15 rfl (Nat.le_of_ble_eq_true rfl)
  have N162 := Fr.snoc X162 N158 ge1
  have k164 := k160.wr W162 (Or.inl (List.mem_of_getElem? (i := 0) rfl))
  have z165 : n0 ≤ h162.size := Nat.le_trans z161 (Keep.of_wr W162).1
  refine own_step (T' := T162) (g' := (mkF m 14 #[.val (.ref a1), .val (.int (-1 : Int32)), .val (.int (15 : Int32)), .val (.int (16 : Int32))] [])) st162 ?_
  refine own_step (T' := T162) (g' := (mkF m 17 #[.val (.ref a1), .val (.int (-1 : Int32)), .val (.int (16 : Int32)), .val (.int (16 : Int32))] [])) (fun t_ k_ => XS.iinc X162.here hx rfl (hb hby d4_14) rfl (l' := #[.val (.ref a1), .val (.int (-1 : Int32)), .val (.int (16 : Int32)), .val (.int (16 : Int32))]) rfl k_) ?_
  refine own_step (T' := T162) (g' := (mkF m 5 #[.val (.ref a1), .val (.int (-1 : Int32)), .val (.int (16 : Int32)), .val (.int (16 : Int32))] [])) (fun t_ k_ => XS.goto X162.here hx rfl (pc0 := 17) (pc' := 5) rfl (hb hby d4_17) (by decide) (by decide) k_) ?_
  refine own_step (T' := T162) (g' := (mkF m 6 #[.val (.ref a1), .val (.int (-1 : Int32)), .val (.int (16 : Int32)), .val (.int (16 : Int32))] [(.int (16 : Int32))])) (fun t_ k_ => XS.iloadN X162.here hx rfl (hb hby d4_5) rfl k_) ?_
  refine own_step (T' := T162) (g' := (mkF m 7 #[.val (.ref a1), .val (.int (-1 : Int32)), .val (.int (16 : Int32)), .val (.int (16 : Int32))] [(.int (16 : Int32)), (.int (16 : Int32))])) (fun t_ k_ => XS.iloadN X162.here hx rfl (hb hby d4_6) rfl k_) ?_
  refine own_step (T' := T162) (g' := (mkF m 20 #[.val (.ref a1), .val (.int (-1 : Int32)), .val (.int (16 : Int32)), .val (.int (16 : Int32))] [])) (fun t_ k_ => XS.icmpYes X162.here hx rfl (pc0 := 7) (pc' := 20) rfl (hb hby d4_7) rfl (flt (by decide)).2.1 (by decide) (by decide) k_) ?_
  obtain ⟨fs, hrR, hrun, hended, hWW, hsame⟩ := X162.leave (v := none) (fun _ => rfl)
  refine ⟨_, _, X162.returnOut hx Bd.returns (hb hby d4_20) hrR, hrun, hended, hPP _ _ ⟨_, _, rfl, ?_, ⟨_, rfl⟩, hWW, hsame.mono (by decide) (by decide)⟩⟩
  show QF Z a1 16 h0 n0 _ T162.heap _
  rw [e162]
  refine ⟨rfl, N162, k164, own_T_arv V162 rfl (fun i hi => ?_)⟩
  have hd : i = 0 ∨ i = 1 ∨ i = 2 ∨ i = 3 ∨ i = 4 ∨ i = 5 ∨ i = 6 ∨ i = 7 ∨ i = 8 ∨ i = 9 ∨ i = 10 ∨ i = 11 ∨ i = 12 ∨ i = 13 ∨ i = 14 ∨ i = 15 := by omega
  rcases hd with h | h | h | h | h | h | h | h | h | h | h | h | h | h | h | h <;> subst h <;> rfl
def QR (Z : State) (N : Nat) (h0 : Heap) (n0 : Nat) (v : Option Value) (h : Heap) (L : List Loc) : Prop := ∃ b : Addr, v = some (.ref b) ∧ Fr n0 L ∧ n0 ≤ b ∧ h0.size ≤ b ∧ Keep h0 h [] ∧ own_T Z h b N (fun _ => -1)
theorem d3_0 : decode prog_81_method_4_code 0 = .ok (.iload_n 0, 1) := by decide +kernel
theorem d3_1 : decode prog_81_method_4_code 1 = .ok (.newarray .int, 2) := by decide +kernel
theorem d3_3 : decode prog_81_method_4_code 3 = .ok (.astore_n 1, 1) := by decide +kernel
theorem d3_4 : decode prog_81_method_4_code 4 = .ok (.aload_n 1, 1) := by decide +kernel
theorem d3_5 : decode prog_81_method_4_code 5 = .ok (.iconst (-1), 1) := by decide +kernel
theorem d3_6 : decode prog_81_method_4_code 6 = .ok (.invokestatic 27, 3) := by decide +kernel
theorem d3_9 : decode prog_81_method_4_code 9 = .ok (.aload_n 1, 1) := by decide +kernel
theorem d3_10 : decode prog_81_method_4_code 10 = .ok (.areturn, 1) := by decide +kernel
set_option maxRecDepth 65536 in
set_option maxHeartbeats 40000000 in
theorem rm_free8 (l : Launch) (Z : State) (a0 : Array Value) (hw : ∀ d ∈ tables_1, d.before a0 Z = true) (ws : List Jvm.Cond)  (h0 : Heap) (n0 : Nat) (Z0 : n0 ≤ h0.size)  :
    MetFree l (⟨"com/example/rigger/rigger/container/EqualityClasses$Numbers", "free", "(I)[I"⟩ : MethodName) (head1 (Jvm.Cond.code (⟨"com/example/rigger/rigger/container/EqualityClasses$Numbers", "free", "(I)[I"⟩ : MethodName) prog_81_method_4_code 2 (some (.array .int)) :: ws) ({ frames := 1, cells := 1, slots := 8, locals := 15 } : Room)) (fun a U => a = #[(.int (8 : Int32))] ∧ Z.Warmed39 U.vm ∧ U.heap = h0) (fun _ _ _ _ _ => True) (fun _ U o U' => ∃ v L, o = .returned v ∧ QR Z 8 h0 n0 v U'.heap L ∧ FrameEnd U o U' L 1 8) := by
  refine MetFree.of_bodySF (plainFor_of_name (by first | (simp [plainName, overriddenIn]; done) | decide +kernel)) hisR ?_
  intro p e s m args below meth c s₁ Bd hml0 hP hK
  obtain ⟨rfl, hZ, hh⟩ := hP
  have hx := Bd.exec
  have hby := Bd.bytes
  have hml : c.maxLocals = 2 := hml0
  have hown : s.vm.findClass "com/example/rigger/rigger/container/EqualityClasses$Numbers" = some m.cls := findClass_of_methodNamed Bd.named
  have hnm := (name_of_methodNamed Bd.named Bd.method).1
  have X0 : Stand p l e ({ frames := 1, cells := 1, slots := 8, locals := 15 } : Room) s m #[(.int (8 : Int32))] below meth c s₁ [] 0 0 := Stand.of_body Bd
  have e0 : s₁.heap = h0 := by rw [← hh, Bd.state]; rfl
  have N0 := Fr.nil n0
  have ef : entryFrame m #[(.int (8 : Int32))] 2 = (mkF m 0 #[.val (.int (8 : Int32)), .unset] []) := by first | (simp [entryFrame, mkF, argsToLocals, Value.category]; done) | rfl
  refine own_start (fun P hPP => ?_)
  refine own_step (T' := s₁) (g' := (mkF m 0 #[.val (.int (8 : Int32)), .unset] [])) (fun t_ k_ => castTop ef k_) ?_
  have K0 := Keep.refl h0 []
  refine own_step (T' := s₁) (g' := (mkF m 1 #[.val (.int (8 : Int32)), .unset] [(.int (8 : Int32))])) (fun t_ k_ => XS.iloadN X0.here hx rfl (hb hby d3_0) rfl k_) ?_
  obtain ⟨T101, h101, k101, X101, e101, E101, A101, st101⟩ := newP X0 hx hZ (hw _ (List.mem_of_getElem? (i := 12) rfl)) e0 (g := (mkF m 1 #[.val (.int (8 : Int32)), .unset] [(.int (8 : Int32))])) rfl (hb hby d3_1) rfl (by decide) (cap := 8) (by decide) (by decide) (by decide) (by decide)
  obtain ⟨b101, g101⟩ : ∃ z, z = h0.size := ⟨_, rfl⟩
  rw [← g101] at A101 st101
  have ge_b101 : n0 ≤ b101 := Nat.le_trans Z0 (Nat.le_of_eq g101.symm)
  have sz_b101 : h0.size ≤ b101 := Nat.le_trans K0.1 (Nat.le_of_eq g101.symm)
  have k102 := K0.ext E101
  have z103 : n0 ≤ h101.size := Nat.le_trans Z0 E101.1
  have V101 : Arv Z h101 b101 k101 .int (8 : Int32) [(.int (0 : Int32)), (.int (0 : Int32)), (.int (0 : Int32)), (.int (0 : Int32)), (.int (0 : Int32)), (.int (0 : Int32)), (.int (0 : Int32)), (.int (0 : Int32))] (.int (0 : Int32)) := (Arv.new A101 (by decide)).pad (pad_rep [] (.int (0 : Int32)) 8)
  refine own_step (T' := T101) (g' := (mkF m 3 #[.val (.int (8 : Int32)), .unset] [(.ref b101)])) st101 ?_
  refine own_step (T' := T101) (g' := (mkF m 4 #[.val (.int (8 : Int32)), .val (.ref b101)] [])) (fun t_ k_ => XS.astoreN X101.here hx rfl (hb hby d3_3) rfl rfl (l' := #[.val (.int (8 : Int32)), .val (.ref b101)]) rfl k_) ?_
  refine own_step (T' := T101) (g' := (mkF m 5 #[.val (.int (8 : Int32)), .val (.ref b101)] [(.ref b101)])) (fun t_ k_ => XS.aloadN X101.here hx rfl (hb hby d3_4) rfl rfl k_) ?_
  refine own_step (T' := T101) (g' := (mkF m 6 #[.val (.int (8 : Int32)), .val (.ref b101)] [(.int (-1 : Int32)), (.ref b101)])) (fun t_ k_ => XS.iconst X101.here hx rfl (hb hby d3_5) k_) ?_
  obtain ⟨_, _, ⟨T104, L104, k104, n104⟩, -, X104, ⟨Lc104, hQ104, l104, y104, z104⟩, st104⟩ := Jvm.LawKit.callS X101 hx (y := (⟨"java/util/Arrays", "fill", "([II)V"⟩ : MethodName)) hown (mvT hZ (hw _ (List.mem_of_getElem? (i := 13) rfl))) (mvT hZ (hw _ (List.mem_of_getElem? (i := 14) rfl))) (mvT hZ (hw _ (List.mem_of_getElem? (i := 15) rfl))) (mvT hZ (hw _ (List.mem_of_getElem? (i := 16) rfl))) (by decide) (backOf (W := 0) (rm_fill8 l Z a0 hw [] b101 k101 h101 n0 z103 V101 ge_b101) hZ (hw _ (List.mem_of_getElem? (i := 16) rfl)) (hw _ (List.mem_of_getElem? (i := 15) rfl)) (by decide) (by decide)) (g := (mkF m 6 #[.val (.int (8 : Int32)), .val (.ref b101)] [(.int (-1 : Int32)), (.ref b101)])) rfl (by rw [hml]; rfl) (argsL := [(.ref b101), (.int (-1 : Int32))]) (rest := []) (lenOf (by decide +kernel : parseMethodDescriptor "([II)V" = some ⟨[(.array .int), .int], none⟩) rfl) rfl (by show 2 * 0 + _ ≤ _; exact Nat.le_of_eq rfl) (hb hby d3_6) (fun _ _ => ⟨rfl, e101, (by decide : 1 + 0 ≤ _), (by decide : 8 + 0 ≤ _)⟩)
  dsimp only [Pt.U, Pt.locs, Pt.cells, Pt.slots] at X104 l104 y104 z104 st104 hQ104
  subst l104 y104 z104
  obtain ⟨rfl, Nq104, K104, Tb104⟩ := hQ104
  have k105 := k102.trans K104 (allS (Or.inr sz_b101) all0)
  have z106 : n0 ≤ T104.heap.size := Nat.le_trans z103 K104.1
  have N104 := Fr.app N0 Nq104
  refine own_step (T' := T104) (g' := (mkF m 9 #[.val (.int (8 : Int32)), .val (.ref b101)] [])) st104 ?_
  refine own_step (T' := T104) (g' := (mkF m 10 #[.val (.int (8 : Int32)), .val (.ref b101)] [(.ref b101)])) (fun t_ k_ => XS.aloadN X104.here hx rfl (hb hby d3_9) rfl rfl k_) ?_
  obtain ⟨fs, hrR, hrun, hended, hWW, hsame⟩ := X104.leave (v := some (.ref b101)) (fun h => by rw [Bd.returns] at h; cases h)
  refine ⟨_, _, own_retR X104 hx Bd.returns rfl rfl rfl (hb hby d3_10) hrR, hrun, hended, hPP _ _ ⟨_, _, rfl, ?_, ⟨_, rfl⟩, hWW, hsame.mono (by decide) (by decide)⟩⟩
  show QR Z 8 h0 n0 _ T104.heap _
  exact ⟨_, rfl, N104, ge_b101, sz_b101, k105, Tb104⟩
set_option maxRecDepth 65536 in
set_option maxHeartbeats 40000000 in
theorem rm_free16 (l : Launch) (Z : State) (a0 : Array Value) (hw : ∀ d ∈ tables_1, d.before a0 Z = true) (ws : List Jvm.Cond)  (h0 : Heap) (n0 : Nat) (Z0 : n0 ≤ h0.size)  :
    MetFree l (⟨"com/example/rigger/rigger/container/EqualityClasses$Numbers", "free", "(I)[I"⟩ : MethodName) (head1 (Jvm.Cond.code (⟨"com/example/rigger/rigger/container/EqualityClasses$Numbers", "free", "(I)[I"⟩ : MethodName) prog_81_method_4_code 2 (some (.array .int)) :: ws) ({ frames := 1, cells := 1, slots := 16, locals := 15 } : Room)) (fun a U => a = #[(.int (16 : Int32))] ∧ Z.Warmed39 U.vm ∧ U.heap = h0) (fun _ _ _ _ _ => True) (fun _ U o U' => ∃ v L, o = .returned v ∧ QR Z 16 h0 n0 v U'.heap L ∧ FrameEnd U o U' L 1 16) := by
  refine MetFree.of_bodySF (plainFor_of_name (by first | (simp [plainName, overriddenIn]; done) | decide +kernel)) hisR ?_
  intro p e s m args below meth c s₁ Bd hml0 hP hK
  obtain ⟨rfl, hZ, hh⟩ := hP
  have hx := Bd.exec
  have hby := Bd.bytes
  have hml : c.maxLocals = 2 := hml0
  have hown : s.vm.findClass "com/example/rigger/rigger/container/EqualityClasses$Numbers" = some m.cls := findClass_of_methodNamed Bd.named
  have hnm := (name_of_methodNamed Bd.named Bd.method).1
  have X0 : Stand p l e ({ frames := 1, cells := 1, slots := 16, locals := 15 } : Room) s m #[(.int (16 : Int32))] below meth c s₁ [] 0 0 := Stand.of_body Bd
  have e0 : s₁.heap = h0 := by rw [← hh, Bd.state]; rfl
  have N0 := Fr.nil n0
  have ef : entryFrame m #[(.int (16 : Int32))] 2 = (mkF m 0 #[.val (.int (16 : Int32)), .unset] []) := by first | (simp [entryFrame, mkF, argsToLocals, Value.category]; done) | rfl
  refine own_start (fun P hPP => ?_)
  refine own_step (T' := s₁) (g' := (mkF m 0 #[.val (.int (16 : Int32)), .unset] [])) (fun t_ k_ => castTop ef k_) ?_
  have K0 := Keep.refl h0 []
  refine own_step (T' := s₁) (g' := (mkF m 1 #[.val (.int (16 : Int32)), .unset] [(.int (16 : Int32))])) (fun t_ k_ => XS.iloadN X0.here hx rfl (hb hby d3_0) rfl k_) ?_
  obtain ⟨T101, h101, k101, X101, e101, E101, A101, st101⟩ := newP X0 hx hZ (hw _ (List.mem_of_getElem? (i := 12) rfl)) e0 (g := (mkF m 1 #[.val (.int (16 : Int32)), .unset] [(.int (16 : Int32))])) rfl (hb hby d3_1) rfl (by decide) (cap := 16) (by decide) (by decide) (by decide) (by decide)
  obtain ⟨b101, g101⟩ : ∃ z, z = h0.size := ⟨_, rfl⟩
  rw [← g101] at A101 st101
  have ge_b101 : n0 ≤ b101 := Nat.le_trans Z0 (Nat.le_of_eq g101.symm)
  have sz_b101 : h0.size ≤ b101 := Nat.le_trans K0.1 (Nat.le_of_eq g101.symm)
  have k102 := K0.ext E101
  have z103 : n0 ≤ h101.size := Nat.le_trans Z0 E101.1
  have V101 : Arv Z h101 b101 k101 .int (16 : Int32) [(.int (0 : Int32)), (.int (0 : Int32)), (.int (0 : Int32)), (.int (0 : Int32)), (.int (0 : Int32)), (.int (0 : Int32)), (.int (0 : Int32)), (.int (0 : Int32)), (.int (0 : Int32)), (.int (0 : Int32)), (.int (0 : Int32)), (.int (0 : Int32)), (.int (0 : Int32)), (.int (0 : Int32)), (.int (0 : Int32)), (.int (0 : Int32))] (.int (0 : Int32)) := (Arv.new A101 (by decide)).pad (pad_rep [] (.int (0 : Int32)) 16)
  refine own_step (T' := T101) (g' := (mkF m 3 #[.val (.int (16 : Int32)), .unset] [(.ref b101)])) st101 ?_
  refine own_step (T' := T101) (g' := (mkF m 4 #[.val (.int (16 : Int32)), .val (.ref b101)] [])) (fun t_ k_ => XS.astoreN X101.here hx rfl (hb hby d3_3) rfl rfl (l' := #[.val (.int (16 : Int32)), .val (.ref b101)]) rfl k_) ?_
  refine own_step (T' := T101) (g' := (mkF m 5 #[.val (.int (16 : Int32)), .val (.ref b101)] [(.ref b101)])) (fun t_ k_ => XS.aloadN X101.here hx rfl (hb hby d3_4) rfl rfl k_) ?_
  refine own_step (T' := T101) (g' := (mkF m 6 #[.val (.int (16 : Int32)), .val (.ref b101)] [(.int (-1 : Int32)), (.ref b101)])) (fun t_ k_ => XS.iconst X101.here hx rfl (hb hby d3_5) k_) ?_
  obtain ⟨_, _, ⟨T104, L104, k104, n104⟩, -, X104, ⟨Lc104, hQ104, l104, y104, z104⟩, st104⟩ := Jvm.LawKit.callS X101 hx (y := (⟨"java/util/Arrays", "fill", "([II)V"⟩ : MethodName)) hown (mvT hZ (hw _ (List.mem_of_getElem? (i := 13) rfl))) (mvT hZ (hw _ (List.mem_of_getElem? (i := 14) rfl))) (mvT hZ (hw _ (List.mem_of_getElem? (i := 15) rfl))) (mvT hZ (hw _ (List.mem_of_getElem? (i := 16) rfl))) (by decide) (backOf (W := 0) (rm_fill16 l Z a0 hw [] b101 k101 h101 n0 z103 V101 ge_b101) hZ (hw _ (List.mem_of_getElem? (i := 16) rfl)) (hw _ (List.mem_of_getElem? (i := 15) rfl)) (by decide) (by decide)) (g := (mkF m 6 #[.val (.int (16 : Int32)), .val (.ref b101)] [(.int (-1 : Int32)), (.ref b101)])) rfl (by rw [hml]; rfl) (argsL := [(.ref b101), (.int (-1 : Int32))]) (rest := []) (lenOf (by decide +kernel : parseMethodDescriptor "([II)V" = some ⟨[(.array .int), .int], none⟩) rfl) rfl (by show 2 * 0 + _ ≤ _; exact Nat.le_of_eq rfl) (hb hby d3_6) (fun _ _ => ⟨rfl, e101, (by decide : 1 + 0 ≤ _), (by decide : 16 + 0 ≤ _)⟩)
  dsimp only [Pt.U, Pt.locs, Pt.cells, Pt.slots] at X104 l104 y104 z104 st104 hQ104
  subst l104 y104 z104
  obtain ⟨rfl, Nq104, K104, Tb104⟩ := hQ104
  have k105 := k102.trans K104 (allS (Or.inr sz_b101) all0)
  have z106 : n0 ≤ T104.heap.size := Nat.le_trans z103 K104.1
  have N104 := Fr.app N0 Nq104
  refine own_step (T' := T104) (g' := (mkF m 9 #[.val (.int (16 : Int32)), .val (.ref b101)] [])) st104 ?_
  refine own_step (T' := T104) (g' := (mkF m 10 #[.val (.int (16 : Int32)), .val (.ref b101)] [(.ref b101)])) (fun t_ k_ => XS.aloadN X104.here hx rfl (hb hby d3_9) rfl rfl k_) ?_
  obtain ⟨fs, hrR, hrun, hended, hWW, hsame⟩ := X104.leave (v := some (.ref b101)) (fun h => by rw [Bd.returns] at h; cases h)
  refine ⟨_, _, own_retR X104 hx Bd.returns rfl rfl rfl (hb hby d3_10) hrR, hrun, hended, hPP _ _ ⟨_, _, rfl, ?_, ⟨_, rfl⟩, hWW, hsame.mono (by decide) (by decide)⟩⟩
  show QR Z 16 h0 n0 _ T104.heap _
  exact ⟨_, rfl, N104, ge_b101, sz_b101, k105, Tb104⟩
def QI (Z : State) (a1 : Addr) (h0 : Heap) (n0 : Nat) (v : Option Value) (h : Heap) (L : List Loc) : Prop := v = none ∧ Fr n0 L ∧ h0.size ≤ h.size ∧ own_S Z h n0 a1 [] 0
theorem d1_0 : decode prog_81_method_1_code 0 = .ok (.aload_n 0, 1) := by decide +kernel
theorem d1_1 : decode prog_81_method_1_code 1 = .ok (.invokespecial 3, 3) := by decide +kernel
theorem d1_4 : decode prog_81_method_1_code 4 = .ok (.aload_n 0, 1) := by decide +kernel
theorem d1_5 : decode prog_81_method_1_code 5 = .ok (.bipush 8, 2) := by decide +kernel
theorem d1_7 : decode prog_81_method_1_code 7 = .ok (.invokestatic 9, 3) := by decide +kernel
theorem d1_10 : decode prog_81_method_1_code 10 = .ok (.putfield 15, 3) := by decide +kernel
theorem d1_13 : decode prog_81_method_1_code 13 = .ok (.return_, 1) := by decide +kernel
set_option maxRecDepth 65536 in
set_option maxHeartbeats 40000000 in
theorem rm_init (l : Launch) (Z : State) (a0 : Array Value) (hw : ∀ d ∈ tables_1, d.before a0 Z = true) (ws : List Jvm.Cond) (a1 : Addr) (h0 : Heap) (n0 : Nat) (Z0 : n0 ≤ h0.size) (Fs : Fld Z h0 a1 "com/example/rigger/rigger/container/EqualityClasses$Numbers" "slots" "[I" .null) (Fc : Fld Z h0 a1 "com/example/rigger/rigger/container/EqualityClasses$Numbers" "count" "I" (.int (0 : Int32))) (E1 : Exa Z h0 a1 "com/example/rigger/rigger/container/EqualityClasses$Numbers") (ge1 : n0 ≤ a1) :
    MetFree l (⟨"com/example/rigger/rigger/container/EqualityClasses$Numbers", "<init>", "()V"⟩ : MethodName) (head1 (Jvm.Cond.code (⟨"com/example/rigger/rigger/container/EqualityClasses$Numbers", "<init>", "()V"⟩ : MethodName) prog_81_method_1_code 1 none :: ws) ({ frames := 2, cells := 1, slots := 8, locals := 29 } : Room)) (fun a U => a = #[(.ref a1)] ∧ Z.Warmed39 U.vm ∧ U.heap = h0) (fun _ _ _ _ _ => True) (fun _ U o U' => ∃ v L, o = .returned v ∧ QI Z a1 h0 n0 v U'.heap L ∧ FrameEnd U o U' L 1 8) := by
  refine MetFree.of_bodySF (plainFor_of_name (by first | (simp [plainName, overriddenIn]; done) | decide +kernel)) hisR ?_
  intro p e s m args below meth c s₁ Bd hml0 hP hK
  obtain ⟨rfl, hZ, hh⟩ := hP
  have hx := Bd.exec
  have hby := Bd.bytes
  have hml : c.maxLocals = 1 := hml0
  have hown : s.vm.findClass "com/example/rigger/rigger/container/EqualityClasses$Numbers" = some m.cls := findClass_of_methodNamed Bd.named
  have hnm := (name_of_methodNamed Bd.named Bd.method).1
  have X0 : Stand p l e ({ frames := 2, cells := 1, slots := 8, locals := 29 } : Room) s m #[(.ref a1)] below meth c s₁ [] 0 0 := Stand.of_body Bd
  have e0 : s₁.heap = h0 := by rw [← hh, Bd.state]; rfl
  have N0 := Fr.nil n0
  have ef : entryFrame m #[(.ref a1)] 1 = (mkF m 0 #[.val (.ref a1)] []) := by first | (simp [entryFrame, mkF, argsToLocals, Value.category]; done) | rfl
  refine own_start (fun P hPP => ?_)
  refine own_step (T' := s₁) (g' := (mkF m 0 #[.val (.ref a1)] [])) (fun t_ k_ => castTop ef k_) ?_
  refine own_step (T' := s₁) (g' := (mkF m 1 #[.val (.ref a1)] [(.ref a1)])) (fun t_ k_ => XS.aloadN X0.here hx rfl (hb hby d1_0) rfl rfl k_) ?_
  obtain ⟨T101, X101, e101, st101⟩ := initO X0 hx hZ hown (hw _ (List.mem_of_getElem? (i := 6) rfl)) (hw _ (List.mem_of_getElem? (i := 7) rfl)) (hw _ (List.mem_of_getElem? (i := 8) rfl)) e0 (g := (mkF m 1 #[.val (.ref a1)] [(.ref a1)])) rfl (by rw [hml]; rfl) rfl (hb hby d1_1) (by decide) (W := 0) (by show 2 * 0 + _ ≤ _; exact Nat.le_of_eq rfl) (by decide)
  refine own_step (T' := T101) (g' := (mkF m 4 #[.val (.ref a1)] [])) st101 ?_
  refine own_step (T' := T101) (g' := (mkF m 5 #[.val (.ref a1)] [(.ref a1)])) (fun t_ k_ => XS.aloadN X101.here hx rfl (hb hby d1_4) rfl rfl k_) ?_
  refine own_step (T' := T101) (g' := (mkF m 7 #[.val (.ref a1)] [(.int (8 : Int32)), (.ref a1)])) (fun t_ k_ => XS.bipush X101.here hx rfl (hb hby d1_5) k_) ?_
  obtain ⟨_, _, ⟨T102, L102, k102, n102⟩, -, X102, ⟨Lc102, hQ102, l102, y102, z102⟩, st102⟩ := Jvm.LawKit.callS X101 hx (y := (⟨"com/example/rigger/rigger/container/EqualityClasses$Numbers", "free", "(I)[I"⟩ : MethodName)) hown (mvT hZ (hw _ (List.mem_of_getElem? (i := 9) rfl))) (mvT hZ (hw _ (List.mem_of_getElem? (i := 10) rfl))) (mvT hZ (hw _ (List.mem_of_getElem? (i := 2) rfl))) (mvT hZ (hw _ (List.mem_of_getElem? (i := 11) rfl))) (by decide) (backOf (W := 1) (rm_free8 l Z a0 hw [] h0 n0 Z0) hZ (hw _ (List.mem_of_getElem? (i := 11) rfl)) (hw _ (List.mem_of_getElem? (i := 2) rfl)) (by decide) (by decide)) (g := (mkF m 7 #[.val (.ref a1)] [(.int (8 : Int32)), (.ref a1)])) rfl (by rw [hml]; rfl) (argsL := [(.int (8 : Int32))]) (rest := [(.ref a1)]) (lenOf (by decide +kernel : parseMethodDescriptor "(I)[I" = some ⟨[.int], some (.array .int)⟩) rfl) rfl (by show 2 * 0 + _ ≤ _; exact Nat.le_of_eq rfl) (hb hby d1_7) (fun _ _ => ⟨rfl, e101, (by decide : 0 + 1 ≤ _), (by decide : 0 + 8 ≤ _)⟩)
  dsimp only [Pt.U, Pt.locs, Pt.cells, Pt.slots] at X102 l102 y102 z102 st102 hQ102
  subst l102 y102 z102
  obtain ⟨b102, rfl, Nq102, ge_b102, sb102, K102, Tb102⟩ := hQ102
  have ne_a1_b102 : a1 ≠ b102 := Nat.ne_of_lt (Nat.lt_of_lt_of_le Fs.lt sb102)
  have f103 := Fs.keep K102 nin0
  have f104 := Fc.keep K102 nin0
  have f105 := E1.keep K102
  have z106 : n0 ≤ T102.heap.size := Nat.le_trans Z0 K102.1
  have y107 : h0.size ≤ T102.heap.size := Nat.le_trans (Nat.le_refl h0.size) K102.1
  have N102 := Fr.app N0 Nq102
  refine own_step (T' := T102) (g' := (mkF m 10 #[.val (.ref a1)] [(.ref b102), (.ref a1)])) st102 ?_
  obtain ⟨T108, h108, X108, e108, W108, st108⟩ := putF X102 hx hZ hown (host := "") (Or.inl (hw _ (List.mem_of_getElem? (i := 17) rfl))) Via.refl rfl f103 f105 (Or.inl (hw _ (List.mem_of_getElem? (i := 18) rfl))) (hw _ (List.mem_of_getElem? (i := 1) rfl)) (ty := (.array .int)) (by decide) rfl rfl (g := (mkF m 10 #[.val (.ref a1)] [(.ref b102), (.ref a1)])) rfl rfl (hb hby d1_10)
  have N108 := Fr.snoc X108 N102 ge1
  have f109 := f103.same W108
  have f110 := f104.other W108 (Or.inr (slot_ne (Or.inl (hw _ (List.mem_of_getElem? (i := 33) rfl))) (Or.inl (hw _ (List.mem_of_getElem? (i := 18) rfl))) (by decide) (t := .int) (t' := (.array .int)) (by decide) (by decide)))
  have f111 := f105.wr W108
  have f112 := Tb102.other W108 (Ne.symm ne_a1_b102)
  have z113 : n0 ≤ h108.size := Nat.le_trans z106 (Keep.of_wr W108).1
  have y114 : h0.size ≤ h108.size := Nat.le_trans y107 (Keep.of_wr W108).1
  refine own_step (T' := T108) (g' := (mkF m 13 #[.val (.ref a1)] [])) st108 ?_
  obtain ⟨fs, hrR, hrun, hended, hWW, hsame⟩ := X108.leave (v := none) (fun _ => rfl)
  refine ⟨_, _, X108.returnOut hx Bd.returns (hb hby d1_13) hrR, hrun, hended, hPP _ _ ⟨_, _, rfl, ?_, ⟨_, rfl⟩, hWW, hsame.mono (by decide) (by decide)⟩⟩
  show QI Z a1 h0 n0 _ T108.heap _
  rw [e108]
  refine ⟨rfl, N108, y114, b102, fun _ => -1, 0, ge1, ge_b102, ne_a1_b102, f111, f109, f110, f112, fun i _ q => absurd rfl q, fun y hy => ⟨fun ⟨q, _, e⟩ => absurd e.symm hy, fun q => nomatch q⟩, by decide, Nat.le_refl 0, by decide⟩
def QA (Z : State) (a1 : Addr) (S : List Int32) (x : Int32) (d : Nat) (h0 : Heap) (n0 : Nat) (v : Option Value) (h : Heap) (L : List Loc) : Prop := (∃ r, v = some (.int r)) ∧ Fr n0 L ∧ h0.size ≤ h.size ∧ (own_S Z h n0 a1 (x :: S) (d + 1) ∨ (¬ d ≤ 3 ∧ own_F own_H16 16 Z h a1 (x :: S)))
theorem own_addm {H : Int32 → Nat} {t : Nat → Int32} {N : Nat} {x : Int32} {k : Nat} {S : List Int32} (hf : own_found H t N x k) (hm : ∀ y, y ≠ -1 → ((∃ q, q < N ∧ t q = y) ↔ y ∈ S)) {y : Int32} (hy : y ≠ -1) : (∃ q, q < N ∧ own_upd t k x q = y) ↔ y ∈ x :: S := by
  rw [own_upd_mem hf hy, hm y hy, List.mem_cons]
theorem own_inm {t : Nat → Int32} {N : Nat} {x : Int32} {k : Nat} {S : List Int32} (hk : k < N) (hx : t k = x) (hm : ∀ y, y ≠ -1 → ((∃ q, q < N ∧ t q = y) ↔ y ∈ S)) {y : Int32} (hy : y ≠ -1) : (∃ q, q < N ∧ t q = y) ↔ y ∈ x :: S := by
  rw [hm y hy, List.mem_cons]
  refine ⟨Or.inr, fun h => h.elim (fun e => ?_) id⟩
  exact (hm y hy).mp ⟨k, hk, hx.trans e.symm⟩
theorem own_turnN {t2 t : Nat → Int32} {i : Nat} {y : Int32} (hm : (∃ q, q < 16 ∧ t2 q = y) ↔ ∃ q, q < i ∧ t q = y) (hh : t i = -1) (hy : y ≠ -1) : (∃ q, q < 16 ∧ t2 q = y) ↔ ∃ q, q < i + 1 ∧ t q = y := by
  rw [hm]
  refine ⟨fun ⟨q, h1, h2⟩ => ⟨q, by omega, h2⟩, fun ⟨q, h1, h2⟩ => ?_⟩
  by_cases e : q = i
  · rw [e, hh] at h2
    exact absurd h2.symm hy
  · exact ⟨q, by omega, h2⟩
theorem own_turnP {H : Int32 → Nat} {t2 t : Nat → Int32} {i k : Nat} {y : Int32} (hm : (∃ q, q < 16 ∧ t2 q = y) ↔ ∃ q, q < i ∧ t q = y) (hf : own_found H t2 16 (t i) k) (hy : y ≠ -1) : (∃ q, q < 16 ∧ own_upd t2 k (t i) q = y) ↔ ∃ q, q < i + 1 ∧ t q = y := by
  rw [own_upd_mem hf hy, hm]
  constructor
  · rintro (h | ⟨q, h1, h2⟩)
    · exact ⟨i, by omega, h.symm⟩
    · exact ⟨q, by omega, h2⟩
  · rintro ⟨q, h1, h2⟩
    by_cases e : q = i
    · exact Or.inl (by rw [← e]; exact h2.symm)
    · exact Or.inr ⟨q, by omega, h2⟩
theorem d6_0 : decode prog_81_method_2_code 0 = .ok (.aload_n 0, 1) := by decide +kernel
theorem d6_1 : decode prog_81_method_2_code 1 = .ok (.getfield 15, 3) := by decide +kernel
theorem d6_4 : decode prog_81_method_2_code 4 = .ok (.iload_n 1, 1) := by decide +kernel
theorem d6_5 : decode prog_81_method_2_code 5 = .ok (.invokestatic 19, 3) := by decide +kernel
theorem d6_8 : decode prog_81_method_2_code 8 = .ok (.istore_n 2, 1) := by decide +kernel
theorem d6_9 : decode prog_81_method_2_code 9 = .ok (.aload_n 0, 1) := by decide +kernel
theorem d6_10 : decode prog_81_method_2_code 10 = .ok (.getfield 15, 3) := by decide +kernel
theorem d6_13 : decode prog_81_method_2_code 13 = .ok (.iload_n 2, 1) := by decide +kernel
theorem d6_14 : decode prog_81_method_2_code 14 = .ok (.iaload, 1) := by decide +kernel
theorem d6_15 : decode prog_81_method_2_code 15 = .ok (.iload_n 1, 1) := by decide +kernel
theorem d6_16 : decode prog_81_method_2_code 16 = .ok (.if_icmp .ne 5, 3) := by decide +kernel
theorem d6_19 : decode prog_81_method_2_code 19 = .ok (.iconst 0, 1) := by decide +kernel
theorem d6_20 : decode prog_81_method_2_code 20 = .ok (.ireturn, 1) := by decide +kernel
theorem d6_21 : decode prog_81_method_2_code 21 = .ok (.aload_n 0, 1) := by decide +kernel
theorem d6_22 : decode prog_81_method_2_code 22 = .ok (.getfield 15, 3) := by decide +kernel
theorem d6_25 : decode prog_81_method_2_code 25 = .ok (.iload_n 2, 1) := by decide +kernel
theorem d6_26 : decode prog_81_method_2_code 26 = .ok (.iload_n 1, 1) := by decide +kernel
theorem d6_27 : decode prog_81_method_2_code 27 = .ok (.iastore, 1) := by decide +kernel
theorem d6_28 : decode prog_81_method_2_code 28 = .ok (.iconst 2, 1) := by decide +kernel
theorem d6_29 : decode prog_81_method_2_code 29 = .ok (.aload_n 0, 1) := by decide +kernel
theorem d6_30 : decode prog_81_method_2_code 30 = .ok (.dup, 1) := by decide +kernel
theorem d6_31 : decode prog_81_method_2_code 31 = .ok (.getfield 23, 3) := by decide +kernel
theorem d6_34 : decode prog_81_method_2_code 34 = .ok (.iconst 1, 1) := by decide +kernel
theorem d6_35 : decode prog_81_method_2_code 35 = .ok (.iadd, 1) := by decide +kernel
theorem d6_36 : decode prog_81_method_2_code 36 = .ok (.dup_x1, 1) := by decide +kernel
theorem d6_37 : decode prog_81_method_2_code 37 = .ok (.putfield 23, 3) := by decide +kernel
theorem d6_40 : decode prog_81_method_2_code 40 = .ok (.imul, 1) := by decide +kernel
theorem d6_41 : decode prog_81_method_2_code 41 = .ok (.aload_n 0, 1) := by decide +kernel
theorem d6_42 : decode prog_81_method_2_code 42 = .ok (.getfield 15, 3) := by decide +kernel
theorem d6_45 : decode prog_81_method_2_code 45 = .ok (.arraylength, 1) := by decide +kernel
theorem d6_46 : decode prog_81_method_2_code 46 = .ok (.if_icmp .le 72, 3) := by decide +kernel
theorem d6_49 : decode prog_81_method_2_code 49 = .ok (.aload_n 0, 1) := by decide +kernel
theorem d6_50 : decode prog_81_method_2_code 50 = .ok (.getfield 15, 3) := by decide +kernel
theorem d6_53 : decode prog_81_method_2_code 53 = .ok (.astore_n 3, 1) := by decide +kernel
theorem d6_54 : decode prog_81_method_2_code 54 = .ok (.aload_n 0, 1) := by decide +kernel
theorem d6_55 : decode prog_81_method_2_code 55 = .ok (.iconst 2, 1) := by decide +kernel
theorem d6_56 : decode prog_81_method_2_code 56 = .ok (.aload_n 3, 1) := by decide +kernel
theorem d6_57 : decode prog_81_method_2_code 57 = .ok (.arraylength, 1) := by decide +kernel
theorem d6_58 : decode prog_81_method_2_code 58 = .ok (.imul, 1) := by decide +kernel
theorem d6_59 : decode prog_81_method_2_code 59 = .ok (.invokestatic 9, 3) := by decide +kernel
theorem d6_62 : decode prog_81_method_2_code 62 = .ok (.putfield 15, 3) := by decide +kernel
theorem d6_65 : decode prog_81_method_2_code 65 = .ok (.aload_n 3, 1) := by decide +kernel
theorem d6_66 : decode prog_81_method_2_code 66 = .ok (.astore 4, 2) := by decide +kernel
theorem d6_68 : decode prog_81_method_2_code 68 = .ok (.aload 4, 2) := by decide +kernel
theorem d6_70 : decode prog_81_method_2_code 70 = .ok (.arraylength, 1) := by decide +kernel
theorem d6_71 : decode prog_81_method_2_code 71 = .ok (.istore 5, 2) := by decide +kernel
theorem d6_73 : decode prog_81_method_2_code 73 = .ok (.iconst 0, 1) := by decide +kernel
theorem d6_74 : decode prog_81_method_2_code 74 = .ok (.istore 6, 2) := by decide +kernel
theorem d6_76 : decode prog_81_method_2_code 76 = .ok (.iload 6, 2) := by decide +kernel
theorem d6_78 : decode prog_81_method_2_code 78 = .ok (.iload 5, 2) := by decide +kernel
theorem d6_80 : decode prog_81_method_2_code 80 = .ok (.if_icmp .ge 38, 3) := by decide +kernel
theorem d6_83 : decode prog_81_method_2_code 83 = .ok (.aload 4, 2) := by decide +kernel
theorem d6_85 : decode prog_81_method_2_code 85 = .ok (.iload 6, 2) := by decide +kernel
theorem d6_87 : decode prog_81_method_2_code 87 = .ok (.iaload, 1) := by decide +kernel
theorem d6_88 : decode prog_81_method_2_code 88 = .ok (.istore 7, 2) := by decide +kernel
theorem d6_90 : decode prog_81_method_2_code 90 = .ok (.iload 7, 2) := by decide +kernel
theorem d6_92 : decode prog_81_method_2_code 92 = .ok (.iconst (-1), 1) := by decide +kernel
theorem d6_93 : decode prog_81_method_2_code 93 = .ok (.if_icmp .eq 19, 3) := by decide +kernel
theorem d6_96 : decode prog_81_method_2_code 96 = .ok (.aload_n 0, 1) := by decide +kernel
theorem d6_97 : decode prog_81_method_2_code 97 = .ok (.getfield 15, 3) := by decide +kernel
theorem d6_100 : decode prog_81_method_2_code 100 = .ok (.aload_n 0, 1) := by decide +kernel
theorem d6_101 : decode prog_81_method_2_code 101 = .ok (.getfield 15, 3) := by decide +kernel
theorem d6_104 : decode prog_81_method_2_code 104 = .ok (.iload 7, 2) := by decide +kernel
theorem d6_106 : decode prog_81_method_2_code 106 = .ok (.invokestatic 19, 3) := by decide +kernel
theorem d6_109 : decode prog_81_method_2_code 109 = .ok (.iload 7, 2) := by decide +kernel
theorem d6_111 : decode prog_81_method_2_code 111 = .ok (.iastore, 1) := by decide +kernel
theorem d6_112 : decode prog_81_method_2_code 112 = .ok (.iinc 6 1, 3) := by decide +kernel
theorem d6_115 : decode prog_81_method_2_code 115 = .ok (.goto (-39), 3) := by decide +kernel
theorem d6_118 : decode prog_81_method_2_code 118 = .ok (.iconst 1, 1) := by decide +kernel
theorem d6_119 : decode prog_81_method_2_code 119 = .ok (.ireturn, 1) := by decide +kernel
set_option maxRecDepth 65536 in
set_option maxHeartbeats 40000000 in
theorem rm_add (l : Launch) (Z : State) (a0 : Array Value) (hw : ∀ d ∈ tables_1, d.before a0 Z = true) (ws : List Jvm.Cond) (a1 : Addr) (x : Int32) (S : List Int32) (d : Nat) (h0 : Heap) (n0 : Nat) (Z0 : n0 ≤ h0.size) (hS : own_S Z h0 n0 a1 S d) (hx1 : x ≠ -1) :
    MetFree l (⟨"com/example/rigger/rigger/container/EqualityClasses$Numbers", "add", "(I)Z"⟩ : MethodName) (head1 (Jvm.Cond.code (⟨"com/example/rigger/rigger/container/EqualityClasses$Numbers", "add", "(I)Z"⟩ : MethodName) prog_81_method_2_code 8 (some .boolean) :: ws) ({ frames := 2, cells := 1, slots := 16, locals := 29 } : Room)) (fun a U => a = #[(.ref a1), (.int x)] ∧ Z.Warmed39 U.vm ∧ U.heap = h0) (fun _ _ _ _ _ => True) (fun _ U o U' => ∃ v L, o = .returned v ∧ QA Z a1 S x d h0 n0 v U'.heap L ∧ FrameEnd U o U' L 1 16) := by
  refine MetFree.of_bodySF (plainFor_of_name (by first | (simp [plainName, overriddenIn]; done) | decide +kernel)) hisR ?_
  intro p e s m args below meth c s₁ Bd hml0 hP hK
  obtain ⟨rfl, hZ, hh⟩ := hP
  have hx := Bd.exec
  have hby := Bd.bytes
  have hml : c.maxLocals = 8 := hml0
  have hown : s.vm.findClass "com/example/rigger/rigger/container/EqualityClasses$Numbers" = some m.cls := findClass_of_methodNamed Bd.named
  have hnm := (name_of_methodNamed Bd.named Bd.method).1
  have X0 : Stand p l e ({ frames := 2, cells := 1, slots := 16, locals := 29 } : Room) s m #[(.ref a1), (.int x)] below meth c s₁ [] 0 0 := Stand.of_body Bd
  have e0 : s₁.heap = h0 := by rw [← hh, Bd.state]; rfl
  have N0 := Fr.nil n0
  have ef : entryFrame m #[(.ref a1), (.int x)] 8 = (mkF m 0 #[.val (.ref a1), .val (.int x), .unset, .unset, .unset, .unset, .unset, .unset] []) := by first | (simp [entryFrame, mkF, argsToLocals, Value.category]; done) | rfl
  refine own_start (fun P hPP => ?_)
  refine own_step (T' := s₁) (g' := (mkF m 0 #[.val (.ref a1), .val (.int x), .unset, .unset, .unset, .unset, .unset, .unset] [])) (fun t_ k_ => castTop ef k_) ?_
  obtain ⟨b, t, cn, gea, geb, nab, E1, Fs, Fc, Tb, hinv, hmem, hocc, hci, hc5⟩ := hS
  obtain ⟨k, hkf⟩ := own_find (H := own_H8) (x := x) (own_free 8 (by omega : own_occ t 8 < 8))
  have hkf' := hkf
  obtain ⟨hk8, hv, J, hJ, hl⟩ := hkf'
  refine own_step (T' := s₁) (g' := (mkF m 1 #[.val (.ref a1), .val (.int x), .unset, .unset, .unset, .unset, .unset, .unset] [(.ref a1)])) (fun t_ k_ => XS.aloadN X0.here hx rfl (hb hby d6_0) rfl rfl k_) ?_
  obtain ⟨T101, X101, e101, st101⟩ := getF X0 hx hZ hown (host := "") (Or.inl (hw _ (List.mem_of_getElem? (i := 17) rfl))) Via.refl e0 Fs (g := (mkF m 1 #[.val (.ref a1), .val (.int x), .unset, .unset, .unset, .unset, .unset, .unset] [(.ref a1)])) rfl rfl (hb hby d6_1)
  refine own_step (T' := T101) (g' := (mkF m 4 #[.val (.ref a1), .val (.int x), .unset, .unset, .unset, .unset, .unset, .unset] [(.ref b)])) st101 ?_
  refine own_step (T' := T101) (g' := (mkF m 5 #[.val (.ref a1), .val (.int x), .unset, .unset, .unset, .unset, .unset, .unset] [(.int x), (.ref b)])) (fun t_ k_ => XS.iloadN X101.here hx rfl (hb hby d6_4) rfl k_) ?_
  obtain ⟨_, _, ⟨T102, L102, k102, n102⟩, -, X102, ⟨Lc102, hQ102, l102, y102, z102⟩, st102⟩ := Jvm.LawKit.callS X101 hx (y := (⟨"com/example/rigger/rigger/container/EqualityClasses$Numbers", "slotOf", "([II)I"⟩ : MethodName)) hown (mvT hZ (hw _ (List.mem_of_getElem? (i := 28) rfl))) (mvT hZ (hw _ (List.mem_of_getElem? (i := 29) rfl))) (mvT hZ (hw _ (List.mem_of_getElem? (i := 2) rfl))) (mvT hZ (hw _ (List.mem_of_getElem? (i := 30) rfl))) (by decide) (backOf (W := 0) (rm_slot8 l Z a0 hw [] b t x k J h0 n0 Z0 Tb hJ hv hl) hZ (hw _ (List.mem_of_getElem? (i := 30) rfl)) (hw _ (List.mem_of_getElem? (i := 2) rfl)) (by decide) (by decide)) (g := (mkF m 5 #[.val (.ref a1), .val (.int x), .unset, .unset, .unset, .unset, .unset, .unset] [(.int x), (.ref b)])) rfl (by rw [hml]; rfl) (argsL := [(.ref b), (.int x)]) (rest := []) (lenOf (by decide +kernel : parseMethodDescriptor "([II)I" = some ⟨[(.array .int), .int], some .int⟩) rfl) rfl (by show 2 * 0 + _ ≤ _; exact Nat.le_of_eq rfl) (hb hby d6_5) (fun _ _ => ⟨rfl, e101, (by decide : 0 + 0 ≤ _), (by decide : 0 + 0 ≤ _)⟩)
  dsimp only [Pt.U, Pt.locs, Pt.cells, Pt.slots] at X102 l102 y102 z102 st102 hQ102
  subst l102 y102 z102
  obtain ⟨rfl, Nq102, e102⟩ := hQ102
  have N102 := Fr.app N0 Nq102
  refine own_step (T' := T102) (g' := (mkF m 8 #[.val (.ref a1), .val (.int x), .unset, .unset, .unset, .unset, .unset, .unset] [(.int k.toInt32)])) st102 ?_
  refine own_step (T' := T102) (g' := (mkF m 9 #[.val (.ref a1), .val (.int x), .val (.int k.toInt32), .unset, .unset, .unset, .unset, .unset] [])) (fun t_ k_ => XS.istoreN X102.here hx rfl (hb hby d6_8) rfl (l' := #[.val (.ref a1), .val (.int x), .val (.int k.toInt32), .unset, .unset, .unset, .unset, .unset]) rfl k_) ?_
  refine own_step (T' := T102) (g' := (mkF m 10 #[.val (.ref a1), .val (.int x), .val (.int k.toInt32), .unset, .unset, .unset, .unset, .unset] [(.ref a1)])) (fun t_ k_ => XS.aloadN X102.here hx rfl (hb hby d6_9) rfl rfl k_) ?_
  obtain ⟨T103, X103, e103, st103⟩ := getF X102 hx hZ hown (host := "") (Or.inl (hw _ (List.mem_of_getElem? (i := 17) rfl))) Via.refl e102 Fs (g := (mkF m 10 #[.val (.ref a1), .val (.int x), .val (.int k.toInt32), .unset, .unset, .unset, .unset, .unset] [(.ref a1)])) rfl rfl (hb hby d6_10)
  refine own_step (T' := T103) (g' := (mkF m 13 #[.val (.ref a1), .val (.int x), .val (.int k.toInt32), .unset, .unset, .unset, .unset, .unset] [(.ref b)])) st103 ?_
  refine own_step (T' := T103) (g' := (mkF m 14 #[.val (.ref a1), .val (.int x), .val (.int k.toInt32), .unset, .unset, .unset, .unset, .unset] [(.int k.toInt32), (.ref b)])) (fun t_ k_ => XS.iloadN X103.here hx rfl (hb hby d6_13) rfl k_) ?_
  have op104 := Tb
  obtain ⟨cl104, Ar104, Sz104, tb104⟩ := op104
  refine own_step (T' := T103) (g' := (mkF m 15 #[.val (.ref a1), .val (.int x), .val (.int k.toInt32), .unset, .unset, .unset, .unset, .unset] [(.int (t k))])) (fun t_ k_ => X103.iaload hx (j := k.toInt32) (v := (.int (t k))) (by rw [e103]; exact Ar104.1) (State.isArrayOf_alike hZ.alike Ar104.2.1) Ar104.2.2 (own_in Sz104 hk8 (by decide)) (own_hat tb104 hk8 (by decide)) (g := (mkF m 14 #[.val (.ref a1), .val (.int x), .val (.int k.toInt32), .unset, .unset, .unset, .unset, .unset] [(.int k.toInt32), (.ref b)])) rfl rfl (hb hby d6_14) _ k_) ?_
  refine own_step (T' := T103) (g' := (mkF m 16 #[.val (.ref a1), .val (.int x), .val (.int k.toInt32), .unset, .unset, .unset, .unset, .unset] [(.int x), (.int (t k))])) (fun t_ k_ => XS.iloadN X103.here hx rfl (hb hby d6_15) rfl k_) ?_
  by_cases hc16_105 : (t k) = x
  · refine own_step (T' := T103) (g' := (mkF m 19 #[.val (.ref a1), .val (.int x), .val (.int k.toInt32), .unset, .unset, .unset, .unset, .unset] [])) (fun t_ k_ => XS.icmpNo X103.here hx rfl (hb hby d6_16) rfl (teq hc16_105).2 k_) ?_
    refine own_step (T' := T103) (g' := (mkF m 20 #[.val (.ref a1), .val (.int x), .val (.int k.toInt32), .unset, .unset, .unset, .unset, .unset] [(.int (0 : Int32))])) (fun t_ k_ => XS.iconst X103.here hx rfl (hb hby d6_19) k_) ?_
    obtain ⟨fs, hrR, hrun, hended, hWW, hsame⟩ := X103.leave (v := some (.int (0 : Int32))) (fun h => by rw [Bd.returns] at h; cases h)
    refine ⟨_, _, own_retZ X103 hx (t := .boolean) Bd.returns (by simp) (by decide) (hb hby d6_20) hrR, hrun, hended, hPP _ _ ⟨_, _, rfl, ?_, ⟨_, rfl⟩, hWW, hsame.mono (by decide) (by decide)⟩⟩
    show QA Z a1 S x d h0 n0 _ T103.heap _
    rw [e103]
    exact ⟨⟨_, rfl⟩, N102, (Nat.le_refl h0.size), Or.inl ⟨b, t, cn, gea, geb, nab, E1, Fs, Fc, Tb, hinv, fun y hy => own_inm hk8 hc16_105 hmem hy, hocc, by omega, hc5⟩⟩
  · refine own_step (T' := T103) (g' := (mkF m 21 #[.val (.ref a1), .val (.int x), .val (.int k.toInt32), .unset, .unset, .unset, .unset, .unset] [])) (fun t_ k_ => XS.icmpYes X103.here hx rfl (pc0 := 16) (pc' := 21) rfl (hb hby d6_16) rfl (feq hc16_105).2 (by decide) (by decide) k_) ?_
    refine own_step (T' := T103) (g' := (mkF m 22 #[.val (.ref a1), .val (.int x), .val (.int k.toInt32), .unset, .unset, .unset, .unset, .unset] [(.ref a1)])) (fun t_ k_ => XS.aloadN X103.here hx rfl (hb hby d6_21) rfl rfl k_) ?_
    obtain ⟨T106, X106, e106, st106⟩ := getF X103 hx hZ hown (host := "") (Or.inl (hw _ (List.mem_of_getElem? (i := 17) rfl))) Via.refl e103 Fs (g := (mkF m 22 #[.val (.ref a1), .val (.int x), .val (.int k.toInt32), .unset, .unset, .unset, .unset, .unset] [(.ref a1)])) rfl rfl (hb hby d6_22)
    refine own_step (T' := T106) (g' := (mkF m 25 #[.val (.ref a1), .val (.int x), .val (.int k.toInt32), .unset, .unset, .unset, .unset, .unset] [(.ref b)])) st106 ?_
    refine own_step (T' := T106) (g' := (mkF m 26 #[.val (.ref a1), .val (.int x), .val (.int k.toInt32), .unset, .unset, .unset, .unset, .unset] [(.int k.toInt32), (.ref b)])) (fun t_ k_ => XS.iloadN X106.here hx rfl (hb hby d6_25) rfl k_) ?_
    refine own_step (T' := T106) (g' := (mkF m 27 #[.val (.ref a1), .val (.int x), .val (.int k.toInt32), .unset, .unset, .unset, .unset, .unset] [(.int x), (.int k.toInt32), (.ref b)])) (fun t_ k_ => XS.iloadN X106.here hx rfl (hb hby d6_26) rfl k_) ?_
    have op108 := Tb
    obtain ⟨cl108, Ar108, Sz108, tb108⟩ := op108
    obtain ⟨T107, h107, X107, e107, W107, st107⟩ := stI X106 hx hZ e106 Ar108 (j := k.toInt32) (own_in Sz108 hk8 (by decide)) (g := (mkF m 27 #[.val (.ref a1), .val (.int x), .val (.int k.toInt32), .unset, .unset, .unset, .unset, .unset] [(.int x), (.int k.toInt32), (.ref b)])) rfl rfl (hb hby d6_27)
    have V107 : own_T Z h107 b 8 (own_upd t k x) := own_T_set Ar108 Sz108 tb108 hk8 (by decide) W107
    have N107 := Fr.snoc X107 N102 geb
    have f109 := E1.wr W107
    have f110 := Fs.other W107 (Or.inl nab)
    have f111 := Fc.other W107 (Or.inl nab)
    have z113 : n0 ≤ h107.size := Nat.le_trans Z0 (Keep.of_wr W107).1
    have y114 : h0.size ≤ h107.size := Nat.le_trans (Nat.le_refl h0.size) (Keep.of_wr W107).1
    refine own_step (T' := T107) (g' := (mkF m 28 #[.val (.ref a1), .val (.int x), .val (.int k.toInt32), .unset, .unset, .unset, .unset, .unset] [])) st107 ?_
    refine own_step (T' := T107) (g' := (mkF m 29 #[.val (.ref a1), .val (.int x), .val (.int k.toInt32), .unset, .unset, .unset, .unset, .unset] [(.int (2 : Int32))])) (fun t_ k_ => XS.iconst X107.here hx rfl (hb hby d6_28) k_) ?_
    refine own_step (T' := T107) (g' := (mkF m 30 #[.val (.ref a1), .val (.int x), .val (.int k.toInt32), .unset, .unset, .unset, .unset, .unset] [(.ref a1), (.int (2 : Int32))])) (fun t_ k_ => XS.aloadN X107.here hx rfl (hb hby d6_29) rfl rfl k_) ?_
    refine own_step (T' := T107) (g' := (mkF m 31 #[.val (.ref a1), .val (.int x), .val (.int k.toInt32), .unset, .unset, .unset, .unset, .unset] [(.ref a1), (.ref a1), (.int (2 : Int32))])) (fun t_ k_ => XS.dup X107.here hx rfl (hb hby d6_30) rfl rfl k_) ?_
    obtain ⟨T115, X115, e115, st115⟩ := getF X107 hx hZ hown (host := "") (Or.inl (hw _ (List.mem_of_getElem? (i := 32) rfl))) Via.refl e107 f111 (g := (mkF m 31 #[.val (.ref a1), .val (.int x), .val (.int k.toInt32), .unset, .unset, .unset, .unset, .unset] [(.ref a1), (.ref a1), (.int (2 : Int32))])) rfl rfl (hb hby d6_31)
    refine own_step (T' := T115) (g' := (mkF m 34 #[.val (.ref a1), .val (.int x), .val (.int k.toInt32), .unset, .unset, .unset, .unset, .unset] [(.int cn.toInt32), (.ref a1), (.int (2 : Int32))])) st115 ?_
    refine own_step (T' := T115) (g' := (mkF m 35 #[.val (.ref a1), .val (.int x), .val (.int k.toInt32), .unset, .unset, .unset, .unset, .unset] [(.int (1 : Int32)), (.int cn.toInt32), (.ref a1), (.int (2 : Int32))])) (fun t_ k_ => XS.iconst X115.here hx rfl (hb hby d6_34) k_) ?_
    refine own_step (T' := T115) (g' := (mkF m 36 #[.val (.ref a1), .val (.int x), .val (.int k.toInt32), .unset, .unset, .unset, .unset, .unset] [(.int (cn.toInt32 + (1 : Int32))), (.ref a1), (.int (2 : Int32))])) (fun t_ k_ => XS.iadd X115.here hx rfl (hb hby d6_35) rfl k_) ?_
    refine own_step (T' := T115) (g' := (mkF m 37 #[.val (.ref a1), .val (.int x), .val (.int k.toInt32), .unset, .unset, .unset, .unset, .unset] [(.int (cn.toInt32 + (1 : Int32))), (.ref a1), (.int (cn.toInt32 + (1 : Int32))), (.int (2 : Int32))])) (fun t_ k_ => XS.dupX1 X115.here hx rfl (hb hby d6_36) rfl rfl rfl k_) ?_
    obtain ⟨T116, h116, X116, e116, W116, st116⟩ := putF X115 hx hZ hown (host := "") (Or.inl (hw _ (List.mem_of_getElem? (i := 32) rfl))) Via.refl e115 f111 f109 (Or.inl (hw _ (List.mem_of_getElem? (i := 33) rfl))) (hw _ (List.mem_of_getElem? (i := 1) rfl)) (ty := .int) (by decide) rfl rfl (g := (mkF m 37 #[.val (.ref a1), .val (.int x), .val (.int k.toInt32), .unset, .unset, .unset, .unset, .unset] [(.int (cn.toInt32 + (1 : Int32))), (.ref a1), (.int (cn.toInt32 + (1 : Int32))), (.int (2 : Int32))])) rfl rfl (hb hby d6_37)
    have N116 := Fr.snoc X116 N107 gea
    have f117 := f109.wr W116
    have f118 := f110.other W116 (Or.inr (slot_ne (Or.inl (hw _ (List.mem_of_getElem? (i := 18) rfl))) (Or.inl (hw _ (List.mem_of_getElem? (i := 33) rfl))) (by decide) (t := (.array .int)) (t' := .int) (by decide) (by decide)))
    have f119 := f111.same W116
    have f120 := V107.other W116 (Ne.symm nab)
    have z121 : n0 ≤ h116.size := Nat.le_trans z113 (Keep.of_wr W116).1
    have y122 : h0.size ≤ h116.size := Nat.le_trans y114 (Keep.of_wr W116).1
    refine own_step (T' := T116) (g' := (mkF m 40 #[.val (.ref a1), .val (.int x), .val (.int k.toInt32), .unset, .unset, .unset, .unset, .unset] [(.int (cn.toInt32 + (1 : Int32))), (.int (2 : Int32))])) st116 ?_
    refine own_step (T' := T116) (g' := (mkF m 41 #[.val (.ref a1), .val (.int x), .val (.int k.toInt32), .unset, .unset, .unset, .unset, .unset] [(.int ((2 : Int32) * (cn.toInt32 + (1 : Int32))))])) (fun t_ k_ => XS.imul X116.here hx rfl (hb hby d6_40) rfl k_) ?_
    refine own_step (T' := T116) (g' := (mkF m 42 #[.val (.ref a1), .val (.int x), .val (.int k.toInt32), .unset, .unset, .unset, .unset, .unset] [(.ref a1), (.int ((2 : Int32) * (cn.toInt32 + (1 : Int32))))])) (fun t_ k_ => XS.aloadN X116.here hx rfl (hb hby d6_41) rfl rfl k_) ?_
    obtain ⟨T123, X123, e123, st123⟩ := getF X116 hx hZ hown (host := "") (Or.inl (hw _ (List.mem_of_getElem? (i := 17) rfl))) Via.refl e116 f118 (g := (mkF m 42 #[.val (.ref a1), .val (.int x), .val (.int k.toInt32), .unset, .unset, .unset, .unset, .unset] [(.ref a1), (.int ((2 : Int32) * (cn.toInt32 + (1 : Int32))))])) rfl rfl (hb hby d6_42)
    refine own_step (T' := T123) (g' := (mkF m 45 #[.val (.ref a1), .val (.int x), .val (.int k.toInt32), .unset, .unset, .unset, .unset, .unset] [(.ref b), (.int ((2 : Int32) * (cn.toInt32 + (1 : Int32))))])) st123 ?_
    have op124 := f120
    obtain ⟨cl124, Ar124, Sz124, tb124⟩ := op124
    refine own_step (T' := T123) (g' := (mkF m 46 #[.val (.ref a1), .val (.int x), .val (.int k.toInt32), .unset, .unset, .unset, .unset, .unset] [(.int (8 : Int32)), (.int ((2 : Int32) * (cn.toInt32 + (1 : Int32))))])) (fun t_ k_ => X123.arraylength hx (by rw [e123]; exact Ar124.1) (State.isArrayOf_alike hZ.alike Ar124.2.1) (g := (mkF m 45 #[.val (.ref a1), .val (.int x), .val (.int k.toInt32), .unset, .unset, .unset, .unset, .unset] [(.ref b), (.int ((2 : Int32) * (cn.toInt32 + (1 : Int32))))])) rfl rfl (hb hby d6_45) _ (by rw [len_of (show cl124.slots.size = (8 : Int32).toNatClampNeg from Sz124) (by decide : ¬ (8 : Int32) < 0)]; exact k_)) ?_
    by_cases hc46_125 : (8 : Int32) < ((2 : Int32) * (cn.toInt32 + (1 : Int32)))
    · refine own_step (T' := T123) (g' := (mkF m 49 #[.val (.ref a1), .val (.int x), .val (.int k.toInt32), .unset, .unset, .unset, .unset, .unset] [])) (fun t_ k_ => XS.icmpNo X123.here hx rfl (hb hby d6_46) rfl (tlt hc46_125).2.2.2 k_) ?_
      refine own_step (T' := T123) (g' := (mkF m 50 #[.val (.ref a1), .val (.int x), .val (.int k.toInt32), .unset, .unset, .unset, .unset, .unset] [(.ref a1)])) (fun t_ k_ => XS.aloadN X123.here hx rfl (hb hby d6_49) rfl rfl k_) ?_
      obtain ⟨T126, X126, e126, st126⟩ := getF X123 hx hZ hown (host := "") (Or.inl (hw _ (List.mem_of_getElem? (i := 17) rfl))) Via.refl e123 f118 (g := (mkF m 50 #[.val (.ref a1), .val (.int x), .val (.int k.toInt32), .unset, .unset, .unset, .unset, .unset] [(.ref a1)])) rfl rfl (hb hby d6_50)
      refine own_step (T' := T126) (g' := (mkF m 53 #[.val (.ref a1), .val (.int x), .val (.int k.toInt32), .unset, .unset, .unset, .unset, .unset] [(.ref b)])) st126 ?_
      refine own_step (T' := T126) (g' := (mkF m 54 #[.val (.ref a1), .val (.int x), .val (.int k.toInt32), .val (.ref b), .unset, .unset, .unset, .unset] [])) (fun t_ k_ => XS.astoreN X126.here hx rfl (hb hby d6_53) rfl rfl (l' := #[.val (.ref a1), .val (.int x), .val (.int k.toInt32), .val (.ref b), .unset, .unset, .unset, .unset]) rfl k_) ?_
      refine own_step (T' := T126) (g' := (mkF m 55 #[.val (.ref a1), .val (.int x), .val (.int k.toInt32), .val (.ref b), .unset, .unset, .unset, .unset] [(.ref a1)])) (fun t_ k_ => XS.aloadN X126.here hx rfl (hb hby d6_54) rfl rfl k_) ?_
      refine own_step (T' := T126) (g' := (mkF m 56 #[.val (.ref a1), .val (.int x), .val (.int k.toInt32), .val (.ref b), .unset, .unset, .unset, .unset] [(.int (2 : Int32)), (.ref a1)])) (fun t_ k_ => XS.iconst X126.here hx rfl (hb hby d6_55) k_) ?_
      refine own_step (T' := T126) (g' := (mkF m 57 #[.val (.ref a1), .val (.int x), .val (.int k.toInt32), .val (.ref b), .unset, .unset, .unset, .unset] [(.ref b), (.int (2 : Int32)), (.ref a1)])) (fun t_ k_ => XS.aloadN X126.here hx rfl (hb hby d6_56) rfl rfl k_) ?_
      have op127 := f120
      obtain ⟨cl127, Ar127, Sz127, tb127⟩ := op127
      refine own_step (T' := T126) (g' := (mkF m 58 #[.val (.ref a1), .val (.int x), .val (.int k.toInt32), .val (.ref b), .unset, .unset, .unset, .unset] [(.int (8 : Int32)), (.int (2 : Int32)), (.ref a1)])) (fun t_ k_ => X126.arraylength hx (by rw [e126]; exact Ar127.1) (State.isArrayOf_alike hZ.alike Ar127.2.1) (g := (mkF m 57 #[.val (.ref a1), .val (.int x), .val (.int k.toInt32), .val (.ref b), .unset, .unset, .unset, .unset] [(.ref b), (.int (2 : Int32)), (.ref a1)])) rfl rfl (hb hby d6_57) _ (by rw [len_of (show cl127.slots.size = (8 : Int32).toNatClampNeg from Sz127) (by decide : ¬ (8 : Int32) < 0)]; exact k_)) ?_
      refine own_step (T' := T126) (g' := (mkF m 59 #[.val (.ref a1), .val (.int x), .val (.int k.toInt32), .val (.ref b), .unset, .unset, .unset, .unset] [(.int (16 : Int32)), (.ref a1)])) (fun t_ k_ => XS.imul X126.here hx rfl (hb hby d6_58) rfl k_) ?_
      obtain ⟨_, _, ⟨T128, L128, k128, n128⟩, -, X128, ⟨Lc128, hQ128, l128, y128, z128⟩, st128⟩ := Jvm.LawKit.callS X126 hx (y := (⟨"com/example/rigger/rigger/container/EqualityClasses$Numbers", "free", "(I)[I"⟩ : MethodName)) hown (mvT hZ (hw _ (List.mem_of_getElem? (i := 9) rfl))) (mvT hZ (hw _ (List.mem_of_getElem? (i := 10) rfl))) (mvT hZ (hw _ (List.mem_of_getElem? (i := 2) rfl))) (mvT hZ (hw _ (List.mem_of_getElem? (i := 11) rfl))) (by decide) (backOf (W := 1) (rm_free16 l Z a0 hw [] h116 n0 z121) hZ (hw _ (List.mem_of_getElem? (i := 11) rfl)) (hw _ (List.mem_of_getElem? (i := 2) rfl)) (by decide) (by decide)) (g := (mkF m 59 #[.val (.ref a1), .val (.int x), .val (.int k.toInt32), .val (.ref b), .unset, .unset, .unset, .unset] [(.int (16 : Int32)), (.ref a1)])) rfl (by rw [hml]; rfl) (argsL := [(.int (16 : Int32))]) (rest := [(.ref a1)]) (lenOf (by decide +kernel : parseMethodDescriptor "(I)[I" = some ⟨[.int], some (.array .int)⟩) rfl) rfl (by show 2 * 0 + _ ≤ _; exact Nat.le_of_eq rfl) (hb hby d6_59) (fun _ _ => ⟨rfl, e126, (by decide : 0 + 1 ≤ _), (by decide : 0 + 16 ≤ _)⟩)
      dsimp only [Pt.U, Pt.locs, Pt.cells, Pt.slots] at X128 l128 y128 z128 st128 hQ128
      subst l128 y128 z128
      obtain ⟨b2, rfl, Nq128, ge_b2, sb128, K128, Tb128⟩ := hQ128
      have ne_a1_b2 : a1 ≠ b2 := Nat.ne_of_lt (Nat.lt_of_lt_of_le f117.lt sb128)
      have ne_b_b2 : b ≠ b2 := Nat.ne_of_lt (Nat.lt_of_lt_of_le f120.lt sb128)
      have f129 := f117.keep K128
      have f130 := f118.keep K128 nin0
      have f131 := f119.keep K128 nin0
      have f132 := f120.keep K128 nin0
      have z133 : n0 ≤ T128.heap.size := Nat.le_trans z121 K128.1
      have y134 : h0.size ≤ T128.heap.size := Nat.le_trans y122 K128.1
      have N128 := Fr.app N116 Nq128
      refine own_step (T' := T128) (g' := (mkF m 62 #[.val (.ref a1), .val (.int x), .val (.int k.toInt32), .val (.ref b), .unset, .unset, .unset, .unset] [(.ref b2), (.ref a1)])) st128 ?_
      obtain ⟨T135, h135, X135, e135, W135, st135⟩ := putF X128 hx hZ hown (host := "") (Or.inl (hw _ (List.mem_of_getElem? (i := 17) rfl))) Via.refl rfl f130 f129 (Or.inl (hw _ (List.mem_of_getElem? (i := 18) rfl))) (hw _ (List.mem_of_getElem? (i := 1) rfl)) (ty := (.array .int)) (by decide) rfl rfl (g := (mkF m 62 #[.val (.ref a1), .val (.int x), .val (.int k.toInt32), .val (.ref b), .unset, .unset, .unset, .unset] [(.ref b2), (.ref a1)])) rfl rfl (hb hby d6_62)
      have N135 := Fr.snoc X135 N128 gea
      have f136 := f129.wr W135
      have f137 := f130.same W135
      have f138 := f131.other W135 (Or.inr (slot_ne (Or.inl (hw _ (List.mem_of_getElem? (i := 33) rfl))) (Or.inl (hw _ (List.mem_of_getElem? (i := 18) rfl))) (by decide) (t := .int) (t' := (.array .int)) (by decide) (by decide)))
      have f139 := f132.other W135 (Ne.symm nab)
      have f140 := Tb128.other W135 (Ne.symm ne_a1_b2)
      have z141 : n0 ≤ h135.size := Nat.le_trans z133 (Keep.of_wr W135).1
      have y142 : h0.size ≤ h135.size := Nat.le_trans y134 (Keep.of_wr W135).1
      refine own_step (T' := T135) (g' := (mkF m 65 #[.val (.ref a1), .val (.int x), .val (.int k.toInt32), .val (.ref b), .unset, .unset, .unset, .unset] [])) st135 ?_
      refine own_step (T' := T135) (g' := (mkF m 66 #[.val (.ref a1), .val (.int x), .val (.int k.toInt32), .val (.ref b), .unset, .unset, .unset, .unset] [(.ref b)])) (fun t_ k_ => XS.aloadN X135.here hx rfl (hb hby d6_65) rfl rfl k_) ?_
      refine own_step (T' := T135) (g' := (mkF m 68 #[.val (.ref a1), .val (.int x), .val (.int k.toInt32), .val (.ref b), .val (.ref b), .unset, .unset, .unset] [])) (fun t_ k_ => XS.astore X135.here hx rfl (hb hby d6_66) rfl rfl (l' := #[.val (.ref a1), .val (.int x), .val (.int k.toInt32), .val (.ref b), .val (.ref b), .unset, .unset, .unset]) rfl k_) ?_
      refine own_step (T' := T135) (g' := (mkF m 70 #[.val (.ref a1), .val (.int x), .val (.int k.toInt32), .val (.ref b), .val (.ref b), .unset, .unset, .unset] [(.ref b)])) (fun t_ k_ => XS.aload X135.here hx rfl (hb hby d6_68) rfl rfl k_) ?_
      have op143 := f139
      obtain ⟨cl143, Ar143, Sz143, tb143⟩ := op143
      refine own_step (T' := T135) (g' := (mkF m 71 #[.val (.ref a1), .val (.int x), .val (.int k.toInt32), .val (.ref b), .val (.ref b), .unset, .unset, .unset] [(.int (8 : Int32))])) (fun t_ k_ => X135.arraylength hx (by rw [e135]; exact Ar143.1) (State.isArrayOf_alike hZ.alike Ar143.2.1) (g := (mkF m 70 #[.val (.ref a1), .val (.int x), .val (.int k.toInt32), .val (.ref b), .val (.ref b), .unset, .unset, .unset] [(.ref b)])) rfl rfl (hb hby d6_70) _ (by rw [len_of (show cl143.slots.size = (8 : Int32).toNatClampNeg from Sz143) (by decide : ¬ (8 : Int32) < 0)]; exact k_)) ?_
      refine own_step (T' := T135) (g' := (mkF m 73 #[.val (.ref a1), .val (.int x), .val (.int k.toInt32), .val (.ref b), .val (.ref b), .val (.int (8 : Int32)), .unset, .unset] [])) (fun t_ k_ => XS.istore X135.here hx rfl (hb hby d6_71) rfl (l' := #[.val (.ref a1), .val (.int x), .val (.int k.toInt32), .val (.ref b), .val (.ref b), .val (.int (8 : Int32)), .unset, .unset]) rfl k_) ?_
      refine own_step (T' := T135) (g' := (mkF m 74 #[.val (.ref a1), .val (.int x), .val (.int k.toInt32), .val (.ref b), .val (.ref b), .val (.int (8 : Int32)), .unset, .unset] [(.int (0 : Int32))])) (fun t_ k_ => XS.iconst X135.here hx rfl (hb hby d6_73) k_) ?_
      refine own_step (T' := T135) (g' := (mkF m 76 #[.val (.ref a1), .val (.int x), .val (.int k.toInt32), .val (.ref b), .val (.ref b), .val (.int (8 : Int32)), .val (.int (0 : Int32)), .unset] [])) (fun t_ k_ => XS.istore X135.here hx rfl (hb hby d6_74) rfl (l' := #[.val (.ref a1), .val (.int x), .val (.int k.toInt32), .val (.ref b), .val (.ref b), .val (.int (8 : Int32)), .val (.int (0 : Int32)), .unset]) rfl k_) ?_
      have loop : ∀ (n i : Nat), i + n = 8 → ∀ (T : State) (locs : List Loc) (hp : Heap) (t2 : Nat → Int32) (sl : Slot), One sl → Stand p l e ({ frames := 2, cells := 1, slots := 16, locals := 29 } : Room) s m #[(.ref a1), (.int x)] below meth c T locs 1 16 → T.heap = hp → Fr n0 locs → h0.size ≤ hp.size → Exa Z hp a1 "com/example/rigger/rigger/container/EqualityClasses$Numbers" → Fld Z hp a1 "com/example/rigger/rigger/container/EqualityClasses$Numbers" "slots" "[I" (.ref b2) → own_T Z hp b 8 (own_upd t k x) → own_T Z hp b2 16 t2 → own_inv own_H16 t2 16 → own_occ t2 16 ≤ i → (∀ y, y ≠ -1 → ((∃ q, q < 16 ∧ t2 q = y) ↔ ∃ q, q < i ∧ (own_upd t k x) q = y)) → own_Run p.tables e below T (mkF m 76 #[.val (.ref a1), .val (.int x), .val (.int k.toInt32), .val (.ref b), .val (.ref b), .val (.int (8 : Int32)), .val (.int i.toInt32), sl] []) P := by
        intro n
        induction n with
        | zero =>
          intro i hi T9 locs9 hp t2 sl hsl X9 e9 N9 B9 E9 Fs9 Tb9 Tc9 hinv2 hocc2 hmem2
          obtain rfl : i = 8 := by omega
          refine own_step (T' := T9) (g' := (mkF m 78 #[.val (.ref a1), .val (.int x), .val (.int k.toInt32), .val (.ref b), .val (.ref b), .val (.int (8 : Int32)), .val (.int (8 : Nat).toInt32), sl] [(.int (8 : Nat).toInt32)])) (fun t_ k_ => XS.iload X9.here hx rfl (hb hby d6_76) rfl k_) ?_
          refine own_step (T' := T9) (g' := (mkF m 80 #[.val (.ref a1), .val (.int x), .val (.int k.toInt32), .val (.ref b), .val (.ref b), .val (.int (8 : Int32)), .val (.int (8 : Nat).toInt32), sl] [(.int (8 : Int32)), (.int (8 : Nat).toInt32)])) (fun t_ k_ => XS.iload X9.here hx rfl (hb hby d6_78) rfl k_) ?_
          refine own_step (T' := T9) (g' := (mkF m 118 #[.val (.ref a1), .val (.int x), .val (.int k.toInt32), .val (.ref b), .val (.ref b), .val (.int (8 : Int32)), .val (.int (8 : Nat).toInt32), sl] [])) (fun t_ k_ => XS.icmpYes X9.here hx rfl (pc0 := 80) (pc' := 118) rfl (hb hby d6_80) rfl (flt (by decide)).2.1 (by decide) (by decide) k_) ?_
          refine own_step (T' := T9) (g' := (mkF m 119 #[.val (.ref a1), .val (.int x), .val (.int k.toInt32), .val (.ref b), .val (.ref b), .val (.int (8 : Int32)), .val (.int (8 : Nat).toInt32), sl] [(.int (1 : Int32))])) (fun t_ k_ => XS.iconst X9.here hx rfl (hb hby d6_118) k_) ?_
          obtain ⟨fs, hrR, hrun, hended, hWW, hsame⟩ := X9.leave (v := some (.int (1 : Int32))) (fun h => by rw [Bd.returns] at h; cases h)
          refine ⟨_, _, own_retZ X9 hx (t := .boolean) Bd.returns (by simp) (by decide) (hb hby d6_119) hrR, hrun, hended, hPP _ _ ⟨_, _, rfl, ?_, ⟨_, rfl⟩, hWW, hsame.mono (by decide) (by decide)⟩⟩
          show QA Z a1 S x d h0 n0 _ T9.heap _
          rw [e9]
          have h4 := own_c5 cn hc5 hc46_125
          exact ⟨⟨_, rfl⟩, N9, B9, Or.inr ⟨by omega, b2, t2, E9, Fs9, Tc9, hinv2, fun y hy => (hmem2 y hy).trans (own_addm hkf hmem hy), own_free 16 (by omega)⟩⟩
        | succ n ih =>
          intro i hi T9 locs9 hp t2 sl hsl X9 e9 N9 B9 E9 Fs9 Tb9 Tc9 hinv2 hocc2 hmem2
          have hi8 : i < 8 := by omega
          refine own_step (T' := T9) (g' := (mkF m 78 #[.val (.ref a1), .val (.int x), .val (.int k.toInt32), .val (.ref b), .val (.ref b), .val (.int (8 : Int32)), .val (.int i.toInt32), sl] [(.int i.toInt32)])) (fun t_ k_ => XS.iload X9.here hx rfl (hb hby d6_76) rfl k_) ?_
          refine own_step (T' := T9) (g' := (mkF m 80 #[.val (.ref a1), .val (.int x), .val (.int k.toInt32), .val (.ref b), .val (.ref b), .val (.int (8 : Int32)), .val (.int i.toInt32), sl] [(.int (8 : Int32)), (.int i.toInt32)])) (fun t_ k_ => XS.iload X9.here hx rfl (hb hby d6_78) rfl k_) ?_
          refine own_step (T' := T9) (g' := (mkF m 83 #[.val (.ref a1), .val (.int x), .val (.int k.toInt32), .val (.ref b), .val (.ref b), .val (.int (8 : Int32)), .val (.int i.toInt32), sl] [])) (fun t_ k_ => XS.icmpNo X9.here hx rfl (hb hby d6_80) rfl (tlt (own_ilt i hi8)).2.1 k_) ?_
          refine own_step (T' := T9) (g' := (mkF m 85 #[.val (.ref a1), .val (.int x), .val (.int k.toInt32), .val (.ref b), .val (.ref b), .val (.int (8 : Int32)), .val (.int i.toInt32), sl] [(.ref b)])) (fun t_ k_ => XS.aload X9.here hx rfl (hb hby d6_83) rfl rfl k_) ?_
          refine own_step (T' := T9) (g' := (mkF m 87 #[.val (.ref a1), .val (.int x), .val (.int k.toInt32), .val (.ref b), .val (.ref b), .val (.int (8 : Int32)), .val (.int i.toInt32), sl] [(.int i.toInt32), (.ref b)])) (fun t_ k_ => XS.iload X9.here hx rfl (hb hby d6_85) rfl k_) ?_
          have op144 := Tb9
          obtain ⟨cl144, Ar144, Sz144, tb144⟩ := op144
          refine own_step (T' := T9) (g' := (mkF m 88 #[.val (.ref a1), .val (.int x), .val (.int k.toInt32), .val (.ref b), .val (.ref b), .val (.int (8 : Int32)), .val (.int i.toInt32), sl] [(.int ((own_upd t k x) i))])) (fun t_ k_ => X9.iaload hx (j := i.toInt32) (v := (.int ((own_upd t k x) i))) (by rw [e9]; exact Ar144.1) (State.isArrayOf_alike hZ.alike Ar144.2.1) Ar144.2.2 (own_in Sz144 hi8 (by decide)) (own_hat tb144 hi8 (by decide)) (g := (mkF m 87 #[.val (.ref a1), .val (.int x), .val (.int k.toInt32), .val (.ref b), .val (.ref b), .val (.int (8 : Int32)), .val (.int i.toInt32), sl] [(.int i.toInt32), (.ref b)])) rfl rfl (hb hby d6_87) _ k_) ?_
          refine own_step (T' := T9) (g' := (mkF m 90 #[.val (.ref a1), .val (.int x), .val (.int k.toInt32), .val (.ref b), .val (.ref b), .val (.int (8 : Int32)), .val (.int i.toInt32), .val (.int ((own_upd t k x) i))] [])) (fun t_ k_ => XS.istoreS X9.here hx rfl (hb hby d6_88) rfl rfl hsl k_) ?_
          refine own_step (T' := T9) (g' := (mkF m 92 #[.val (.ref a1), .val (.int x), .val (.int k.toInt32), .val (.ref b), .val (.ref b), .val (.int (8 : Int32)), .val (.int i.toInt32), .val (.int ((own_upd t k x) i))] [(.int ((own_upd t k x) i))])) (fun t_ k_ => XS.iload X9.here hx rfl (hb hby d6_90) rfl k_) ?_
          refine own_step (T' := T9) (g' := (mkF m 93 #[.val (.ref a1), .val (.int x), .val (.int k.toInt32), .val (.ref b), .val (.ref b), .val (.int (8 : Int32)), .val (.int i.toInt32), .val (.int ((own_upd t k x) i))] [(.int (-1 : Int32)), (.int ((own_upd t k x) i))])) (fun t_ k_ => XS.iconst X9.here hx rfl (hb hby d6_92) k_) ?_
          by_cases hc93_145 : ((own_upd t k x) i) = (-1 : Int32)
          · refine own_step (T' := T9) (g' := (mkF m 112 #[.val (.ref a1), .val (.int x), .val (.int k.toInt32), .val (.ref b), .val (.ref b), .val (.int (8 : Int32)), .val (.int i.toInt32), .val (.int ((own_upd t k x) i))] [])) (fun t_ k_ => XS.icmpYes X9.here hx rfl (pc0 := 93) (pc' := 112) rfl (hb hby d6_93) rfl (teq hc93_145).1 (by decide) (by decide) k_) ?_
            refine own_step (T' := T9) (g' := (mkF m 115 #[.val (.ref a1), .val (.int x), .val (.int k.toInt32), .val (.ref b), .val (.ref b), .val (.int (8 : Int32)), .val (.int (i.toInt32 + (1 : Int32))), .val (.int ((own_upd t k x) i))] [])) (fun t_ k_ => XS.iinc X9.here hx rfl (hb hby d6_112) rfl (l' := #[.val (.ref a1), .val (.int x), .val (.int k.toInt32), .val (.ref b), .val (.ref b), .val (.int (8 : Int32)), .val (.int (i.toInt32 + (1 : Int32))), .val (.int ((own_upd t k x) i))]) rfl k_) ?_
            refine own_step (T' := T9) (g' := (mkF m 76 #[.val (.ref a1), .val (.int x), .val (.int k.toInt32), .val (.ref b), .val (.ref b), .val (.int (8 : Int32)), .val (.int (i.toInt32 + (1 : Int32))), .val (.int ((own_upd t k x) i))] [])) (fun t_ k_ => XS.goto X9.here hx rfl (pc0 := 115) (pc' := 76) rfl (hb hby d6_115) (by decide) (by decide) k_) ?_
            rw [own_isu i hi8]
            exact ih (i + 1) (by omega) _ _ _ t2 _ (One.val rfl) X9 e9 N9 B9 E9 Fs9 Tb9 Tc9 hinv2 (by omega) (fun y hy => own_turnN (hmem2 y hy) hc93_145 hy)
          · refine own_step (T' := T9) (g' := (mkF m 96 #[.val (.ref a1), .val (.int x), .val (.int k.toInt32), .val (.ref b), .val (.ref b), .val (.int (8 : Int32)), .val (.int i.toInt32), .val (.int ((own_upd t k x) i))] [])) (fun t_ k_ => XS.icmpNo X9.here hx rfl (hb hby d6_93) rfl (feq hc93_145).1 k_) ?_
            refine own_step (T' := T9) (g' := (mkF m 97 #[.val (.ref a1), .val (.int x), .val (.int k.toInt32), .val (.ref b), .val (.ref b), .val (.int (8 : Int32)), .val (.int i.toInt32), .val (.int ((own_upd t k x) i))] [(.ref a1)])) (fun t_ k_ => XS.aloadN X9.here hx rfl (hb hby d6_96) rfl rfl k_) ?_
            obtain ⟨T146, X146, e146, st146⟩ := getF X9 hx hZ hown (host := "") (Or.inl (hw _ (List.mem_of_getElem? (i := 17) rfl))) Via.refl e9 Fs9 (g := (mkF m 97 #[.val (.ref a1), .val (.int x), .val (.int k.toInt32), .val (.ref b), .val (.ref b), .val (.int (8 : Int32)), .val (.int i.toInt32), .val (.int ((own_upd t k x) i))] [(.ref a1)])) rfl rfl (hb hby d6_97)
            refine own_step (T' := T146) (g' := (mkF m 100 #[.val (.ref a1), .val (.int x), .val (.int k.toInt32), .val (.ref b), .val (.ref b), .val (.int (8 : Int32)), .val (.int i.toInt32), .val (.int ((own_upd t k x) i))] [(.ref b2)])) st146 ?_
            refine own_step (T' := T146) (g' := (mkF m 101 #[.val (.ref a1), .val (.int x), .val (.int k.toInt32), .val (.ref b), .val (.ref b), .val (.int (8 : Int32)), .val (.int i.toInt32), .val (.int ((own_upd t k x) i))] [(.ref a1), (.ref b2)])) (fun t_ k_ => XS.aloadN X146.here hx rfl (hb hby d6_100) rfl rfl k_) ?_
            obtain ⟨T147, X147, e147, st147⟩ := getF X146 hx hZ hown (host := "") (Or.inl (hw _ (List.mem_of_getElem? (i := 17) rfl))) Via.refl e146 Fs9 (g := (mkF m 101 #[.val (.ref a1), .val (.int x), .val (.int k.toInt32), .val (.ref b), .val (.ref b), .val (.int (8 : Int32)), .val (.int i.toInt32), .val (.int ((own_upd t k x) i))] [(.ref a1), (.ref b2)])) rfl rfl (hb hby d6_101)
            refine own_step (T' := T147) (g' := (mkF m 104 #[.val (.ref a1), .val (.int x), .val (.int k.toInt32), .val (.ref b), .val (.ref b), .val (.int (8 : Int32)), .val (.int i.toInt32), .val (.int ((own_upd t k x) i))] [(.ref b2), (.ref b2)])) st147 ?_
            refine own_step (T' := T147) (g' := (mkF m 106 #[.val (.ref a1), .val (.int x), .val (.int k.toInt32), .val (.ref b), .val (.ref b), .val (.int (8 : Int32)), .val (.int i.toInt32), .val (.int ((own_upd t k x) i))] [(.int ((own_upd t k x) i)), (.ref b2), (.ref b2)])) (fun t_ k_ => XS.iload X147.here hx rfl (hb hby d6_104) rfl k_) ?_
            obtain ⟨k2, hk2⟩ := own_find (H := own_H16) (x := ((own_upd t k x) i)) (own_free 16 (by omega : own_occ t2 16 < 16))
            have hk2' := hk2
            obtain ⟨hk16, hv2, J2, hJ2, hl2⟩ := hk2'
            obtain ⟨_, _, ⟨T148, L148, k148, n148⟩, -, X148, ⟨Lc148, hQ148, l148, y148, z148⟩, st148⟩ := Jvm.LawKit.callS X147 hx (y := (⟨"com/example/rigger/rigger/container/EqualityClasses$Numbers", "slotOf", "([II)I"⟩ : MethodName)) hown (mvT hZ (hw _ (List.mem_of_getElem? (i := 28) rfl))) (mvT hZ (hw _ (List.mem_of_getElem? (i := 29) rfl))) (mvT hZ (hw _ (List.mem_of_getElem? (i := 2) rfl))) (mvT hZ (hw _ (List.mem_of_getElem? (i := 30) rfl))) (by decide) (backOf (W := 1) (rm_slot16 l Z a0 hw [] b2 t2 ((own_upd t k x) i) k2 J2 hp n0 (Nat.le_trans Z0 B9) Tc9 hJ2 hv2 hl2) hZ (hw _ (List.mem_of_getElem? (i := 30) rfl)) (hw _ (List.mem_of_getElem? (i := 2) rfl)) (by decide) (by decide)) (g := (mkF m 106 #[.val (.ref a1), .val (.int x), .val (.int k.toInt32), .val (.ref b), .val (.ref b), .val (.int (8 : Int32)), .val (.int i.toInt32), .val (.int ((own_upd t k x) i))] [(.int ((own_upd t k x) i)), (.ref b2), (.ref b2)])) rfl (by rw [hml]; rfl) (argsL := [(.ref b2), (.int ((own_upd t k x) i))]) (rest := [(.ref b2)]) (lenOf (by decide +kernel : parseMethodDescriptor "([II)I" = some ⟨[(.array .int), .int], some .int⟩) rfl) rfl (by show 2 * 0 + _ ≤ _; exact Nat.le_of_eq rfl) (hb hby d6_106) (fun _ _ => ⟨rfl, e147, (by decide : 1 + 0 ≤ _), (by decide : 16 + 0 ≤ _)⟩)
            dsimp only [Pt.U, Pt.locs, Pt.cells, Pt.slots] at X148 l148 y148 z148 st148 hQ148
            subst l148 y148 z148
            obtain ⟨rfl, Nq148, e148⟩ := hQ148
            have N148 := Fr.app N9 Nq148
            refine own_step (T' := T148) (g' := (mkF m 109 #[.val (.ref a1), .val (.int x), .val (.int k.toInt32), .val (.ref b), .val (.ref b), .val (.int (8 : Int32)), .val (.int i.toInt32), .val (.int ((own_upd t k x) i))] [(.int k2.toInt32), (.ref b2)])) st148 ?_
            refine own_step (T' := T148) (g' := (mkF m 111 #[.val (.ref a1), .val (.int x), .val (.int k.toInt32), .val (.ref b), .val (.ref b), .val (.int (8 : Int32)), .val (.int i.toInt32), .val (.int ((own_upd t k x) i))] [(.int ((own_upd t k x) i)), (.int k2.toInt32), (.ref b2)])) (fun t_ k_ => XS.iload X148.here hx rfl (hb hby d6_109) rfl k_) ?_
            have op150 := Tc9
            obtain ⟨cl150, Ar150, Sz150, tb150⟩ := op150
            obtain ⟨T149, h149, X149, e149, W149, st149⟩ := stI X148 hx hZ e148 Ar150 (j := k2.toInt32) (own_in Sz150 hk16 (by decide)) (g := (mkF m 111 #[.val (.ref a1), .val (.int x), .val (.int k.toInt32), .val (.ref b), .val (.ref b), .val (.int (8 : Int32)), .val (.int i.toInt32), .val (.int ((own_upd t k x) i))] [(.int ((own_upd t k x) i)), (.int k2.toInt32), (.ref b2)])) rfl rfl (hb hby d6_111)
            have V149 : own_T Z h149 b2 16 (own_upd t2 k2 ((own_upd t k x) i)) := own_T_set Ar150 Sz150 tb150 hk16 (by decide) W149
            have N149 := Fr.snoc X149 N148 ge_b2
            have f151 := E9.wr W149
            have f152 := Fs9.other W149 (Or.inl ne_a1_b2)
            have f153 := Tb9.other W149 ne_b_b2
            have z155 : n0 ≤ h149.size := Nat.le_trans (Nat.le_trans Z0 B9) (Keep.of_wr W149).1
            have y156 : h0.size ≤ h149.size := Nat.le_trans B9 (Keep.of_wr W149).1
            refine own_step (T' := T149) (g' := (mkF m 112 #[.val (.ref a1), .val (.int x), .val (.int k.toInt32), .val (.ref b), .val (.ref b), .val (.int (8 : Int32)), .val (.int i.toInt32), .val (.int ((own_upd t k x) i))] [])) st149 ?_
            refine own_step (T' := T149) (g' := (mkF m 115 #[.val (.ref a1), .val (.int x), .val (.int k.toInt32), .val (.ref b), .val (.ref b), .val (.int (8 : Int32)), .val (.int (i.toInt32 + (1 : Int32))), .val (.int ((own_upd t k x) i))] [])) (fun t_ k_ => XS.iinc X149.here hx rfl (hb hby d6_112) rfl (l' := #[.val (.ref a1), .val (.int x), .val (.int k.toInt32), .val (.ref b), .val (.ref b), .val (.int (8 : Int32)), .val (.int (i.toInt32 + (1 : Int32))), .val (.int ((own_upd t k x) i))]) rfl k_) ?_
            refine own_step (T' := T149) (g' := (mkF m 76 #[.val (.ref a1), .val (.int x), .val (.int k.toInt32), .val (.ref b), .val (.ref b), .val (.int (8 : Int32)), .val (.int (i.toInt32 + (1 : Int32))), .val (.int ((own_upd t k x) i))] [])) (fun t_ k_ => XS.goto X149.here hx rfl (pc0 := 115) (pc' := 76) rfl (hb hby d6_115) (by decide) (by decide) k_) ?_
            rw [own_isu i hi8]
            exact ih (i + 1) (by omega) _ _ _ (own_upd t2 k2 ((own_upd t k x) i)) _ (One.val rfl) X149 e149 N149 y156 f151 f152 f153 V149 (own_inv_upd hinv2 hk2 hc93_145) (Nat.le_trans (own_occ_up t2 k2 _ 16) (by omega)) (fun y hy => own_turnP (hmem2 y hy) hk2 hy)
      exact loop 8 0 rfl _ _ _ _ _ One.u X135 e135 N135 y142 f136 f137 f139 f140 (fun i _ q => absurd rfl q) (by decide) (fun y hy => ⟨fun ⟨q, _, z⟩ => absurd z.symm hy, fun ⟨q, z, _⟩ => absurd z (Nat.not_lt_zero q)⟩)
    · refine own_step (T' := T123) (g' := (mkF m 118 #[.val (.ref a1), .val (.int x), .val (.int k.toInt32), .unset, .unset, .unset, .unset, .unset] [])) (fun t_ k_ => XS.icmpYes X123.here hx rfl (pc0 := 46) (pc' := 118) rfl (hb hby d6_46) rfl (flt hc46_125).2.2.2 (by decide) (by decide) k_) ?_
      refine own_step (T' := T123) (g' := (mkF m 119 #[.val (.ref a1), .val (.int x), .val (.int k.toInt32), .unset, .unset, .unset, .unset, .unset] [(.int (1 : Int32))])) (fun t_ k_ => XS.iconst X123.here hx rfl (hb hby d6_118) k_) ?_
      obtain ⟨fs, hrR, hrun, hended, hWW, hsame⟩ := X123.leave (v := some (.int (1 : Int32))) (fun h => by rw [Bd.returns] at h; cases h)
      refine ⟨_, _, own_retZ X123 hx (t := .boolean) Bd.returns (by simp) (by decide) (hb hby d6_119) hrR, hrun, hended, hPP _ _ ⟨_, _, rfl, ?_, ⟨_, rfl⟩, hWW, hsame.mono (by decide) (by decide)⟩⟩
      show QA Z a1 S x d h0 n0 _ T123.heap _
      rw [e123]
      have h4 := own_c4 cn hc5 hc46_125
      have e4 : cn.toInt32 + (1 : Int32) = (cn + 1).toInt32 := own_isu cn (by omega)
      have Fc4 := f119
      rw [e4] at Fc4
      exact ⟨⟨_, rfl⟩, N116, y122, Or.inl ⟨b, own_upd t k x, cn + 1, gea, geb, nab, f117, f118, Fc4, f120, own_inv_upd hinv hkf hx1, fun y hy => own_addm hkf hmem hy, Nat.le_trans (own_occ_up t k x 8) (by omega), by omega, by omega⟩⟩
def QC (S : List Int32) (x : Int32) (h0 : Heap) (n0 : Nat) (v : Option Value) (h : Heap) (L : List Loc) : Prop := v = some (.int (own_c S x)) ∧ Fr n0 L ∧ h = h0
theorem d8_0 : decode prog_81_method_3_code 0 = .ok (.iload_n 1, 1) := by decide +kernel
theorem d8_1 : decode prog_81_method_3_code 1 = .ok (.iconst (-1), 1) := by decide +kernel
theorem d8_2 : decode prog_81_method_3_code 2 = .ok (.if_icmp .eq 24, 3) := by decide +kernel
theorem d8_5 : decode prog_81_method_3_code 5 = .ok (.aload_n 0, 1) := by decide +kernel
theorem d8_6 : decode prog_81_method_3_code 6 = .ok (.getfield 15, 3) := by decide +kernel
theorem d8_9 : decode prog_81_method_3_code 9 = .ok (.aload_n 0, 1) := by decide +kernel
theorem d8_10 : decode prog_81_method_3_code 10 = .ok (.getfield 15, 3) := by decide +kernel
theorem d8_13 : decode prog_81_method_3_code 13 = .ok (.iload_n 1, 1) := by decide +kernel
theorem d8_14 : decode prog_81_method_3_code 14 = .ok (.invokestatic 19, 3) := by decide +kernel
theorem d8_17 : decode prog_81_method_3_code 17 = .ok (.iaload, 1) := by decide +kernel
theorem d8_18 : decode prog_81_method_3_code 18 = .ok (.iload_n 1, 1) := by decide +kernel
theorem d8_19 : decode prog_81_method_3_code 19 = .ok (.if_icmp .ne 7, 3) := by decide +kernel
theorem d8_22 : decode prog_81_method_3_code 22 = .ok (.iconst 1, 1) := by decide +kernel
theorem d8_23 : decode prog_81_method_3_code 23 = .ok (.goto 4, 3) := by decide +kernel
theorem d8_26 : decode prog_81_method_3_code 26 = .ok (.iconst 0, 1) := by decide +kernel
theorem d8_27 : decode prog_81_method_3_code 27 = .ok (.ireturn, 1) := by decide +kernel
set_option maxRecDepth 65536 in
set_option maxHeartbeats 40000000 in
theorem rm_cont8 (l : Launch) (Z : State) (a0 : Array Value) (hw : ∀ d ∈ tables_1, d.before a0 Z = true) (ws : List Jvm.Cond) (a1 : Addr) (x : Int32) (S : List Int32) (h0 : Heap) (n0 : Nat) (Z0 : n0 ≤ h0.size) (hF : own_F own_H8 8 Z h0 a1 S) :
    MetFree l (⟨"com/example/rigger/rigger/container/EqualityClasses$Numbers", "contains", "(I)Z"⟩ : MethodName) (head1 (Jvm.Cond.code (⟨"com/example/rigger/rigger/container/EqualityClasses$Numbers", "contains", "(I)Z"⟩ : MethodName) prog_81_method_3_code 2 (some .boolean) :: ws) ({ frames := 1, cells := 0, slots := 0, locals := 17 } : Room)) (fun a U => a = #[(.ref a1), (.int x)] ∧ Z.Warmed39 U.vm ∧ U.heap = h0) (fun _ _ _ _ _ => True) (fun _ U o U' => ∃ v L, o = .returned v ∧ QC S x h0 n0 v U'.heap L ∧ FrameEnd U o U' L 0 0) := by
  refine MetFree.of_bodySF (plainFor_of_name (by first | (simp [plainName, overriddenIn]; done) | decide +kernel)) hisR ?_
  intro p e s m args below meth c s₁ Bd hml0 hP hK
  obtain ⟨rfl, hZ, hh⟩ := hP
  have hx := Bd.exec
  have hby := Bd.bytes
  have hml : c.maxLocals = 2 := hml0
  have hown : s.vm.findClass "com/example/rigger/rigger/container/EqualityClasses$Numbers" = some m.cls := findClass_of_methodNamed Bd.named
  have hnm := (name_of_methodNamed Bd.named Bd.method).1
  have X0 : Stand p l e ({ frames := 1, cells := 0, slots := 0, locals := 17 } : Room) s m #[(.ref a1), (.int x)] below meth c s₁ [] 0 0 := Stand.of_body Bd
  have e0 : s₁.heap = h0 := by rw [← hh, Bd.state]; rfl
  have N0 := Fr.nil n0
  have ef : entryFrame m #[(.ref a1), (.int x)] 2 = (mkF m 0 #[.val (.ref a1), .val (.int x)] []) := by first | (simp [entryFrame, mkF, argsToLocals, Value.category]; done) | rfl
  refine own_start (fun P hPP => ?_)
  refine own_step (T' := s₁) (g' := (mkF m 0 #[.val (.ref a1), .val (.int x)] [])) (fun t_ k_ => castTop ef k_) ?_
  obtain ⟨b, t, E1, Fs, Tb, hinv, hmem, hfree⟩ := hF
  obtain ⟨k, hkf⟩ := own_find (H := own_H8) (x := x) hfree
  have hkf' := hkf
  obtain ⟨hk8, hv, J, hJ, hl⟩ := hkf'
  refine own_step (T' := s₁) (g' := (mkF m 1 #[.val (.ref a1), .val (.int x)] [(.int x)])) (fun t_ k_ => XS.iloadN X0.here hx rfl (hb hby d8_0) rfl k_) ?_
  refine own_step (T' := s₁) (g' := (mkF m 2 #[.val (.ref a1), .val (.int x)] [(.int (-1 : Int32)), (.int x)])) (fun t_ k_ => XS.iconst X0.here hx rfl (hb hby d8_1) k_) ?_
  by_cases hc2_101 : x = (-1 : Int32)
  · refine own_step (T' := s₁) (g' := (mkF m 26 #[.val (.ref a1), .val (.int x)] [])) (fun t_ k_ => XS.icmpYes X0.here hx rfl (pc0 := 2) (pc' := 26) rfl (hb hby d8_2) rfl (teq hc2_101).1 (by decide) (by decide) k_) ?_
    refine own_step (T' := s₁) (g' := (mkF m 27 #[.val (.ref a1), .val (.int x)] [(.int (0 : Int32))])) (fun t_ k_ => XS.iconst X0.here hx rfl (hb hby d8_26) k_) ?_
    obtain ⟨fs, hrR, hrun, hended, hWW, hsame⟩ := X0.leave (v := some (.int (0 : Int32))) (fun h => by rw [Bd.returns] at h; cases h)
    refine ⟨_, _, own_retZ X0 hx (t := .boolean) Bd.returns (by simp) (by decide) (hb hby d8_27) hrR, hrun, hended, hPP _ _ ⟨_, _, rfl, ?_, ⟨_, rfl⟩, hWW, hsame.mono (by decide) (by decide)⟩⟩
    show QC S x h0 n0 _ s₁.heap _
    rw [e0]
    exact ⟨by simp [own_c, hc2_101], N0, rfl⟩
  · refine own_step (T' := s₁) (g' := (mkF m 5 #[.val (.ref a1), .val (.int x)] [])) (fun t_ k_ => XS.icmpNo X0.here hx rfl (hb hby d8_2) rfl (feq hc2_101).1 k_) ?_
    refine own_step (T' := s₁) (g' := (mkF m 6 #[.val (.ref a1), .val (.int x)] [(.ref a1)])) (fun t_ k_ => XS.aloadN X0.here hx rfl (hb hby d8_5) rfl rfl k_) ?_
    obtain ⟨T102, X102, e102, st102⟩ := getF X0 hx hZ hown (host := "") (Or.inl (hw _ (List.mem_of_getElem? (i := 17) rfl))) Via.refl e0 Fs (g := (mkF m 6 #[.val (.ref a1), .val (.int x)] [(.ref a1)])) rfl rfl (hb hby d8_6)
    refine own_step (T' := T102) (g' := (mkF m 9 #[.val (.ref a1), .val (.int x)] [(.ref b)])) st102 ?_
    refine own_step (T' := T102) (g' := (mkF m 10 #[.val (.ref a1), .val (.int x)] [(.ref a1), (.ref b)])) (fun t_ k_ => XS.aloadN X102.here hx rfl (hb hby d8_9) rfl rfl k_) ?_
    obtain ⟨T103, X103, e103, st103⟩ := getF X102 hx hZ hown (host := "") (Or.inl (hw _ (List.mem_of_getElem? (i := 17) rfl))) Via.refl e102 Fs (g := (mkF m 10 #[.val (.ref a1), .val (.int x)] [(.ref a1), (.ref b)])) rfl rfl (hb hby d8_10)
    refine own_step (T' := T103) (g' := (mkF m 13 #[.val (.ref a1), .val (.int x)] [(.ref b), (.ref b)])) st103 ?_
    refine own_step (T' := T103) (g' := (mkF m 14 #[.val (.ref a1), .val (.int x)] [(.int x), (.ref b), (.ref b)])) (fun t_ k_ => XS.iloadN X103.here hx rfl (hb hby d8_13) rfl k_) ?_
    obtain ⟨_, _, ⟨T104, L104, k104, n104⟩, -, X104, ⟨Lc104, hQ104, l104, y104, z104⟩, st104⟩ := Jvm.LawKit.callS X103 hx (y := (⟨"com/example/rigger/rigger/container/EqualityClasses$Numbers", "slotOf", "([II)I"⟩ : MethodName)) hown (mvT hZ (hw _ (List.mem_of_getElem? (i := 28) rfl))) (mvT hZ (hw _ (List.mem_of_getElem? (i := 29) rfl))) (mvT hZ (hw _ (List.mem_of_getElem? (i := 2) rfl))) (mvT hZ (hw _ (List.mem_of_getElem? (i := 30) rfl))) (by decide) (backOf (W := 1) (rm_slot8 l Z a0 hw [] b t x k J h0 n0 Z0 Tb hJ hv hl) hZ (hw _ (List.mem_of_getElem? (i := 30) rfl)) (hw _ (List.mem_of_getElem? (i := 2) rfl)) (by decide) (by decide)) (g := (mkF m 14 #[.val (.ref a1), .val (.int x)] [(.int x), (.ref b), (.ref b)])) rfl (by rw [hml]; rfl) (argsL := [(.ref b), (.int x)]) (rest := [(.ref b)]) (lenOf (by decide +kernel : parseMethodDescriptor "([II)I" = some ⟨[(.array .int), .int], some .int⟩) rfl) rfl (by show 2 * 0 + _ ≤ _; exact Nat.le_of_eq rfl) (hb hby d8_14) (fun _ _ => ⟨rfl, e103, (by decide : 0 + 0 ≤ _), (by decide : 0 + 0 ≤ _)⟩)
    dsimp only [Pt.U, Pt.locs, Pt.cells, Pt.slots] at X104 l104 y104 z104 st104 hQ104
    subst l104 y104 z104
    obtain ⟨rfl, Nq104, e104⟩ := hQ104
    have N104 := Fr.app N0 Nq104
    refine own_step (T' := T104) (g' := (mkF m 17 #[.val (.ref a1), .val (.int x)] [(.int k.toInt32), (.ref b)])) st104 ?_
    have op105 := Tb
    obtain ⟨cl105, Ar105, Sz105, tb105⟩ := op105
    refine own_step (T' := T104) (g' := (mkF m 18 #[.val (.ref a1), .val (.int x)] [(.int (t k))])) (fun t_ k_ => X104.iaload hx (j := k.toInt32) (v := (.int (t k))) (by rw [e104]; exact Ar105.1) (State.isArrayOf_alike hZ.alike Ar105.2.1) Ar105.2.2 (own_in Sz105 hk8 (by decide)) (own_hat tb105 hk8 (by decide)) (g := (mkF m 17 #[.val (.ref a1), .val (.int x)] [(.int k.toInt32), (.ref b)])) rfl rfl (hb hby d8_17) _ k_) ?_
    refine own_step (T' := T104) (g' := (mkF m 19 #[.val (.ref a1), .val (.int x)] [(.int x), (.int (t k))])) (fun t_ k_ => XS.iloadN X104.here hx rfl (hb hby d8_18) rfl k_) ?_
    by_cases hc19_106 : (t k) = x
    · refine own_step (T' := T104) (g' := (mkF m 22 #[.val (.ref a1), .val (.int x)] [])) (fun t_ k_ => XS.icmpNo X104.here hx rfl (hb hby d8_19) rfl (teq hc19_106).2 k_) ?_
      refine own_step (T' := T104) (g' := (mkF m 23 #[.val (.ref a1), .val (.int x)] [(.int (1 : Int32))])) (fun t_ k_ => XS.iconst X104.here hx rfl (hb hby d8_22) k_) ?_
      refine own_step (T' := T104) (g' := (mkF m 27 #[.val (.ref a1), .val (.int x)] [(.int (1 : Int32))])) (fun t_ k_ => XS.goto X104.here hx rfl (pc0 := 23) (pc' := 27) rfl (hb hby d8_23) (by decide) (by decide) k_) ?_
      obtain ⟨fs, hrR, hrun, hended, hWW, hsame⟩ := X104.leave (v := some (.int (1 : Int32))) (fun h => by rw [Bd.returns] at h; cases h)
      refine ⟨_, _, own_retZ X104 hx (t := .boolean) Bd.returns (by simp) (by decide) (hb hby d8_27) hrR, hrun, hended, hPP _ _ ⟨_, _, rfl, ?_, ⟨_, rfl⟩, hWW, hsame.mono (by decide) (by decide)⟩⟩
      show QC S x h0 n0 _ T104.heap _
      rw [e104]
      have hm : x ∈ S ↔ t k = x := (hmem x hc2_101).symm.trans (own_mem hinv hkf hc2_101).symm
      exact ⟨by simp [own_c, hc2_101, hm, hc19_106], N104, rfl⟩
    · refine own_step (T' := T104) (g' := (mkF m 26 #[.val (.ref a1), .val (.int x)] [])) (fun t_ k_ => XS.icmpYes X104.here hx rfl (pc0 := 19) (pc' := 26) rfl (hb hby d8_19) rfl (feq hc19_106).2 (by decide) (by decide) k_) ?_
      refine own_step (T' := T104) (g' := (mkF m 27 #[.val (.ref a1), .val (.int x)] [(.int (0 : Int32))])) (fun t_ k_ => XS.iconst X104.here hx rfl (hb hby d8_26) k_) ?_
      obtain ⟨fs, hrR, hrun, hended, hWW, hsame⟩ := X104.leave (v := some (.int (0 : Int32))) (fun h => by rw [Bd.returns] at h; cases h)
      refine ⟨_, _, own_retZ X104 hx (t := .boolean) Bd.returns (by simp) (by decide) (hb hby d8_27) hrR, hrun, hended, hPP _ _ ⟨_, _, rfl, ?_, ⟨_, rfl⟩, hWW, hsame.mono (by decide) (by decide)⟩⟩
      show QC S x h0 n0 _ T104.heap _
      rw [e104]
      have hm : x ∈ S ↔ t k = x := (hmem x hc2_101).symm.trans (own_mem hinv hkf hc2_101).symm
      exact ⟨by simp [own_c, hc2_101, hm, hc19_106], N104, rfl⟩
set_option maxRecDepth 65536 in
set_option maxHeartbeats 40000000 in
theorem rm_cont16 (l : Launch) (Z : State) (a0 : Array Value) (hw : ∀ d ∈ tables_1, d.before a0 Z = true) (ws : List Jvm.Cond) (a1 : Addr) (x : Int32) (S : List Int32) (h0 : Heap) (n0 : Nat) (Z0 : n0 ≤ h0.size) (hF : own_F own_H16 16 Z h0 a1 S) :
    MetFree l (⟨"com/example/rigger/rigger/container/EqualityClasses$Numbers", "contains", "(I)Z"⟩ : MethodName) (head1 (Jvm.Cond.code (⟨"com/example/rigger/rigger/container/EqualityClasses$Numbers", "contains", "(I)Z"⟩ : MethodName) prog_81_method_3_code 2 (some .boolean) :: ws) ({ frames := 1, cells := 0, slots := 0, locals := 17 } : Room)) (fun a U => a = #[(.ref a1), (.int x)] ∧ Z.Warmed39 U.vm ∧ U.heap = h0) (fun _ _ _ _ _ => True) (fun _ U o U' => ∃ v L, o = .returned v ∧ QC S x h0 n0 v U'.heap L ∧ FrameEnd U o U' L 0 0) := by
  refine MetFree.of_bodySF (plainFor_of_name (by first | (simp [plainName, overriddenIn]; done) | decide +kernel)) hisR ?_
  intro p e s m args below meth c s₁ Bd hml0 hP hK
  obtain ⟨rfl, hZ, hh⟩ := hP
  have hx := Bd.exec
  have hby := Bd.bytes
  have hml : c.maxLocals = 2 := hml0
  have hown : s.vm.findClass "com/example/rigger/rigger/container/EqualityClasses$Numbers" = some m.cls := findClass_of_methodNamed Bd.named
  have hnm := (name_of_methodNamed Bd.named Bd.method).1
  have X0 : Stand p l e ({ frames := 1, cells := 0, slots := 0, locals := 17 } : Room) s m #[(.ref a1), (.int x)] below meth c s₁ [] 0 0 := Stand.of_body Bd
  have e0 : s₁.heap = h0 := by rw [← hh, Bd.state]; rfl
  have N0 := Fr.nil n0
  have ef : entryFrame m #[(.ref a1), (.int x)] 2 = (mkF m 0 #[.val (.ref a1), .val (.int x)] []) := by first | (simp [entryFrame, mkF, argsToLocals, Value.category]; done) | rfl
  refine own_start (fun P hPP => ?_)
  refine own_step (T' := s₁) (g' := (mkF m 0 #[.val (.ref a1), .val (.int x)] [])) (fun t_ k_ => castTop ef k_) ?_
  obtain ⟨b, t, E1, Fs, Tb, hinv, hmem, hfree⟩ := hF
  obtain ⟨k, hkf⟩ := own_find (H := own_H16) (x := x) hfree
  have hkf' := hkf
  obtain ⟨hk8, hv, J, hJ, hl⟩ := hkf'
  refine own_step (T' := s₁) (g' := (mkF m 1 #[.val (.ref a1), .val (.int x)] [(.int x)])) (fun t_ k_ => XS.iloadN X0.here hx rfl (hb hby d8_0) rfl k_) ?_
  refine own_step (T' := s₁) (g' := (mkF m 2 #[.val (.ref a1), .val (.int x)] [(.int (-1 : Int32)), (.int x)])) (fun t_ k_ => XS.iconst X0.here hx rfl (hb hby d8_1) k_) ?_
  by_cases hc2_101 : x = (-1 : Int32)
  · refine own_step (T' := s₁) (g' := (mkF m 26 #[.val (.ref a1), .val (.int x)] [])) (fun t_ k_ => XS.icmpYes X0.here hx rfl (pc0 := 2) (pc' := 26) rfl (hb hby d8_2) rfl (teq hc2_101).1 (by decide) (by decide) k_) ?_
    refine own_step (T' := s₁) (g' := (mkF m 27 #[.val (.ref a1), .val (.int x)] [(.int (0 : Int32))])) (fun t_ k_ => XS.iconst X0.here hx rfl (hb hby d8_26) k_) ?_
    obtain ⟨fs, hrR, hrun, hended, hWW, hsame⟩ := X0.leave (v := some (.int (0 : Int32))) (fun h => by rw [Bd.returns] at h; cases h)
    refine ⟨_, _, own_retZ X0 hx (t := .boolean) Bd.returns (by simp) (by decide) (hb hby d8_27) hrR, hrun, hended, hPP _ _ ⟨_, _, rfl, ?_, ⟨_, rfl⟩, hWW, hsame.mono (by decide) (by decide)⟩⟩
    show QC S x h0 n0 _ s₁.heap _
    rw [e0]
    exact ⟨by simp [own_c, hc2_101], N0, rfl⟩
  · refine own_step (T' := s₁) (g' := (mkF m 5 #[.val (.ref a1), .val (.int x)] [])) (fun t_ k_ => XS.icmpNo X0.here hx rfl (hb hby d8_2) rfl (feq hc2_101).1 k_) ?_
    refine own_step (T' := s₁) (g' := (mkF m 6 #[.val (.ref a1), .val (.int x)] [(.ref a1)])) (fun t_ k_ => XS.aloadN X0.here hx rfl (hb hby d8_5) rfl rfl k_) ?_
    obtain ⟨T102, X102, e102, st102⟩ := getF X0 hx hZ hown (host := "") (Or.inl (hw _ (List.mem_of_getElem? (i := 17) rfl))) Via.refl e0 Fs (g := (mkF m 6 #[.val (.ref a1), .val (.int x)] [(.ref a1)])) rfl rfl (hb hby d8_6)
    refine own_step (T' := T102) (g' := (mkF m 9 #[.val (.ref a1), .val (.int x)] [(.ref b)])) st102 ?_
    refine own_step (T' := T102) (g' := (mkF m 10 #[.val (.ref a1), .val (.int x)] [(.ref a1), (.ref b)])) (fun t_ k_ => XS.aloadN X102.here hx rfl (hb hby d8_9) rfl rfl k_) ?_
    obtain ⟨T103, X103, e103, st103⟩ := getF X102 hx hZ hown (host := "") (Or.inl (hw _ (List.mem_of_getElem? (i := 17) rfl))) Via.refl e102 Fs (g := (mkF m 10 #[.val (.ref a1), .val (.int x)] [(.ref a1), (.ref b)])) rfl rfl (hb hby d8_10)
    refine own_step (T' := T103) (g' := (mkF m 13 #[.val (.ref a1), .val (.int x)] [(.ref b), (.ref b)])) st103 ?_
    refine own_step (T' := T103) (g' := (mkF m 14 #[.val (.ref a1), .val (.int x)] [(.int x), (.ref b), (.ref b)])) (fun t_ k_ => XS.iloadN X103.here hx rfl (hb hby d8_13) rfl k_) ?_
    obtain ⟨_, _, ⟨T104, L104, k104, n104⟩, -, X104, ⟨Lc104, hQ104, l104, y104, z104⟩, st104⟩ := Jvm.LawKit.callS X103 hx (y := (⟨"com/example/rigger/rigger/container/EqualityClasses$Numbers", "slotOf", "([II)I"⟩ : MethodName)) hown (mvT hZ (hw _ (List.mem_of_getElem? (i := 28) rfl))) (mvT hZ (hw _ (List.mem_of_getElem? (i := 29) rfl))) (mvT hZ (hw _ (List.mem_of_getElem? (i := 2) rfl))) (mvT hZ (hw _ (List.mem_of_getElem? (i := 30) rfl))) (by decide) (backOf (W := 1) (rm_slot16 l Z a0 hw [] b t x k J h0 n0 Z0 Tb hJ hv hl) hZ (hw _ (List.mem_of_getElem? (i := 30) rfl)) (hw _ (List.mem_of_getElem? (i := 2) rfl)) (by decide) (by decide)) (g := (mkF m 14 #[.val (.ref a1), .val (.int x)] [(.int x), (.ref b), (.ref b)])) rfl (by rw [hml]; rfl) (argsL := [(.ref b), (.int x)]) (rest := [(.ref b)]) (lenOf (by decide +kernel : parseMethodDescriptor "([II)I" = some ⟨[(.array .int), .int], some .int⟩) rfl) rfl (by show 2 * 0 + _ ≤ _; exact Nat.le_of_eq rfl) (hb hby d8_14) (fun _ _ => ⟨rfl, e103, (by decide : 0 + 0 ≤ _), (by decide : 0 + 0 ≤ _)⟩)
    dsimp only [Pt.U, Pt.locs, Pt.cells, Pt.slots] at X104 l104 y104 z104 st104 hQ104
    subst l104 y104 z104
    obtain ⟨rfl, Nq104, e104⟩ := hQ104
    have N104 := Fr.app N0 Nq104
    refine own_step (T' := T104) (g' := (mkF m 17 #[.val (.ref a1), .val (.int x)] [(.int k.toInt32), (.ref b)])) st104 ?_
    have op105 := Tb
    obtain ⟨cl105, Ar105, Sz105, tb105⟩ := op105
    refine own_step (T' := T104) (g' := (mkF m 18 #[.val (.ref a1), .val (.int x)] [(.int (t k))])) (fun t_ k_ => X104.iaload hx (j := k.toInt32) (v := (.int (t k))) (by rw [e104]; exact Ar105.1) (State.isArrayOf_alike hZ.alike Ar105.2.1) Ar105.2.2 (own_in Sz105 hk8 (by decide)) (own_hat tb105 hk8 (by decide)) (g := (mkF m 17 #[.val (.ref a1), .val (.int x)] [(.int k.toInt32), (.ref b)])) rfl rfl (hb hby d8_17) _ k_) ?_
    refine own_step (T' := T104) (g' := (mkF m 19 #[.val (.ref a1), .val (.int x)] [(.int x), (.int (t k))])) (fun t_ k_ => XS.iloadN X104.here hx rfl (hb hby d8_18) rfl k_) ?_
    by_cases hc19_106 : (t k) = x
    · refine own_step (T' := T104) (g' := (mkF m 22 #[.val (.ref a1), .val (.int x)] [])) (fun t_ k_ => XS.icmpNo X104.here hx rfl (hb hby d8_19) rfl (teq hc19_106).2 k_) ?_
      refine own_step (T' := T104) (g' := (mkF m 23 #[.val (.ref a1), .val (.int x)] [(.int (1 : Int32))])) (fun t_ k_ => XS.iconst X104.here hx rfl (hb hby d8_22) k_) ?_
      refine own_step (T' := T104) (g' := (mkF m 27 #[.val (.ref a1), .val (.int x)] [(.int (1 : Int32))])) (fun t_ k_ => XS.goto X104.here hx rfl (pc0 := 23) (pc' := 27) rfl (hb hby d8_23) (by decide) (by decide) k_) ?_
      obtain ⟨fs, hrR, hrun, hended, hWW, hsame⟩ := X104.leave (v := some (.int (1 : Int32))) (fun h => by rw [Bd.returns] at h; cases h)
      refine ⟨_, _, own_retZ X104 hx (t := .boolean) Bd.returns (by simp) (by decide) (hb hby d8_27) hrR, hrun, hended, hPP _ _ ⟨_, _, rfl, ?_, ⟨_, rfl⟩, hWW, hsame.mono (by decide) (by decide)⟩⟩
      show QC S x h0 n0 _ T104.heap _
      rw [e104]
      have hm : x ∈ S ↔ t k = x := (hmem x hc2_101).symm.trans (own_mem hinv hkf hc2_101).symm
      exact ⟨by simp [own_c, hc2_101, hm, hc19_106], N104, rfl⟩
    · refine own_step (T' := T104) (g' := (mkF m 26 #[.val (.ref a1), .val (.int x)] [])) (fun t_ k_ => XS.icmpYes X104.here hx rfl (pc0 := 19) (pc' := 26) rfl (hb hby d8_19) rfl (feq hc19_106).2 (by decide) (by decide) k_) ?_
      refine own_step (T' := T104) (g' := (mkF m 27 #[.val (.ref a1), .val (.int x)] [(.int (0 : Int32))])) (fun t_ k_ => XS.iconst X104.here hx rfl (hb hby d8_26) k_) ?_
      obtain ⟨fs, hrR, hrun, hended, hWW, hsame⟩ := X104.leave (v := some (.int (0 : Int32))) (fun h => by rw [Bd.returns] at h; cases h)
      refine ⟨_, _, own_retZ X104 hx (t := .boolean) Bd.returns (by simp) (by decide) (hb hby d8_27) hrR, hrun, hended, hPP _ _ ⟨_, _, rfl, ?_, ⟨_, rfl⟩, hWW, hsame.mono (by decide) (by decide)⟩⟩
      show QC S x h0 n0 _ T104.heap _
      rw [e104]
      have hm : x ∈ S ↔ t k = x := (hmem x hc2_101).symm.trans (own_mem hinv hkf hc2_101).symm
      exact ⟨by simp [own_c, hc2_101, hm, hc19_106], N104, rfl⟩
theorem rm_cont (l : Launch) (Z : State) (a0 : Array Value) (hw : ∀ d ∈ tables_1, d.before a0 Z = true) (ws : List Jvm.Cond) (a1 : Addr) (x : Int32) (S : List Int32) (h0 : Heap) (n0 : Nat) (Z0 : n0 ≤ h0.size) (hF : own_F own_H8 8 Z h0 a1 S ∨ own_F own_H16 16 Z h0 a1 S) :
    MetFree l (⟨"com/example/rigger/rigger/container/EqualityClasses$Numbers", "contains", "(I)Z"⟩ : MethodName) (head1 (Jvm.Cond.code (⟨"com/example/rigger/rigger/container/EqualityClasses$Numbers", "contains", "(I)Z"⟩ : MethodName) prog_81_method_3_code 2 (some .boolean) :: ws) ({ frames := 1, cells := 0, slots := 0, locals := 17 } : Room)) (fun a U => a = #[(.ref a1), (.int x)] ∧ Z.Warmed39 U.vm ∧ U.heap = h0) (fun _ _ _ _ _ => True) (fun _ U o U' => ∃ v L, o = .returned v ∧ QC S x h0 n0 v U'.heap L ∧ FrameEnd U o U' L 0 0) :=
  hF.elim (fun q => rm_cont8 l Z a0 hw ws a1 x S h0 n0 Z0 q) (fun q => rm_cont16 l Z a0 hw ws a1 x S h0 n0 Z0 q)
def QU (Z : State) (a1 : Addr) (S : List Int32) (x : Int32) (d : Nat) (h0 : Heap) (n0 : Nat) (v : Option Value) (h : Heap) (L : List Loc) : Prop := v = none ∧ Fr n0 L ∧ h0.size ≤ h.size ∧ (own_S Z h n0 a1 (x :: S) (d + 1) ∨ (¬ d ≤ 3 ∧ own_F own_H16 16 Z h a1 (x :: S)))
theorem own_skip {Z : State} {h : Heap} {n0 : Nat} {a : Addr} {S : List Int32} {d : Nat} {x : Int32} (hx : x = -1) (q : own_S Z h n0 a S d) : own_S Z h n0 a (x :: S) (d + 1) := by
  obtain ⟨b, t, c, h1, h2, h3, h4, h5, h6, h7, h8, h9, h10, h11, h12⟩ := q
  refine ⟨b, t, c, h1, h2, h3, h4, h5, h6, h7, h8, fun y hy => ?_, h10, by omega, h12⟩
  rw [h9 y hy, List.mem_cons]
  exact ⟨Or.inr, fun z => z.elim (fun e => absurd (e.trans hx) hy) id⟩
theorem d5_0 : decode method_2_code 0 = .ok (.iload_n 1, 1) := by decide +kernel
theorem d5_1 : decode method_2_code 1 = .ok (.iconst (-1), 1) := by decide +kernel
theorem d5_2 : decode method_2_code 2 = .ok (.if_icmp .eq 9, 3) := by decide +kernel
theorem d5_5 : decode method_2_code 5 = .ok (.aload_n 0, 1) := by decide +kernel
theorem d5_6 : decode method_2_code 6 = .ok (.iload_n 1, 1) := by decide +kernel
theorem d5_7 : decode method_2_code 7 = .ok (.invokevirtual 7, 3) := by decide +kernel
theorem d5_10 : decode method_2_code 10 = .ok (.pop, 1) := by decide +kernel
theorem d5_11 : decode method_2_code 11 = .ok (.return_, 1) := by decide +kernel
set_option maxRecDepth 65536 in
set_option maxHeartbeats 40000000 in
theorem rm_aun (l : Launch) (Z : State) (a0 : Array Value) (hw : ∀ d ∈ tables_1, d.before a0 Z = true) (ws : List Jvm.Cond) (a1 : Addr) (x : Int32) (S : List Int32) (d : Nat) (h0 : Heap) (n0 : Nat) (Z0 : n0 ≤ h0.size) (hS : own_S Z h0 n0 a1 S d) :
    MetFree l (⟨"com/example/rigger/rigger/container/NumbersContainsPinLaw", "addUnlessNone", "(Lcom/example/rigger/rigger/container/EqualityClasses$Numbers;I)V"⟩ : MethodName) (head1 (Jvm.Cond.code (⟨"com/example/rigger/rigger/container/NumbersContainsPinLaw", "addUnlessNone", "(Lcom/example/rigger/rigger/container/EqualityClasses$Numbers;I)V"⟩ : MethodName) method_2_code 2 none :: ws) ({ frames := 3, cells := 1, slots := 16, locals := 48 } : Room)) (fun a U => a = #[(.ref a1), (.int x)] ∧ Z.Warmed39 U.vm ∧ U.heap = h0) (fun _ _ _ _ _ => True) (fun _ U o U' => ∃ v L, o = .returned v ∧ QU Z a1 S x d h0 n0 v U'.heap L ∧ FrameEnd U o U' L 1 16) := by
  refine MetFree.of_bodySF (plainFor_of_name (by first | (simp [plainName, overriddenIn]; done) | decide +kernel)) hisR ?_
  intro p e s m args below meth c s₁ Bd hml0 hP hK
  obtain ⟨rfl, hZ, hh⟩ := hP
  have hx := Bd.exec
  have hby := Bd.bytes
  have hml : c.maxLocals = 2 := hml0
  have hown : s.vm.findClass "com/example/rigger/rigger/container/NumbersContainsPinLaw" = some m.cls := findClass_of_methodNamed Bd.named
  have hnm := (name_of_methodNamed Bd.named Bd.method).1
  have X0 : Stand p l e ({ frames := 3, cells := 1, slots := 16, locals := 48 } : Room) s m #[(.ref a1), (.int x)] below meth c s₁ [] 0 0 := Stand.of_body Bd
  have e0 : s₁.heap = h0 := by rw [← hh, Bd.state]; rfl
  have N0 := Fr.nil n0
  have ef : entryFrame m #[(.ref a1), (.int x)] 2 = (mkF m 0 #[.val (.ref a1), .val (.int x)] []) := by first | (simp [entryFrame, mkF, argsToLocals, Value.category]; done) | rfl
  refine own_start (fun P hPP => ?_)
  refine own_step (T' := s₁) (g' := (mkF m 0 #[.val (.ref a1), .val (.int x)] [])) (fun t_ k_ => castTop ef k_) ?_
  have E1 : Exa Z h0 a1 "com/example/rigger/rigger/container/EqualityClasses$Numbers" := by
    obtain ⟨_, _, _, -, -, -, q, -⟩ := hS
    exact q
  refine own_step (T' := s₁) (g' := (mkF m 1 #[.val (.ref a1), .val (.int x)] [(.int x)])) (fun t_ k_ => XS.iloadN X0.here hx rfl (hb hby d5_0) rfl k_) ?_
  refine own_step (T' := s₁) (g' := (mkF m 2 #[.val (.ref a1), .val (.int x)] [(.int (-1 : Int32)), (.int x)])) (fun t_ k_ => XS.iconst X0.here hx rfl (hb hby d5_1) k_) ?_
  by_cases hc2_101 : x = (-1 : Int32)
  · refine own_step (T' := s₁) (g' := (mkF m 11 #[.val (.ref a1), .val (.int x)] [])) (fun t_ k_ => XS.icmpYes X0.here hx rfl (pc0 := 2) (pc' := 11) rfl (hb hby d5_2) rfl (teq hc2_101).1 (by decide) (by decide) k_) ?_
    obtain ⟨fs, hrR, hrun, hended, hWW, hsame⟩ := X0.leave (v := none) (fun _ => rfl)
    refine ⟨_, _, X0.returnOut hx Bd.returns (hb hby d5_11) hrR, hrun, hended, hPP _ _ ⟨_, _, rfl, ?_, ⟨_, rfl⟩, hWW, hsame.mono (by decide) (by decide)⟩⟩
    show QU Z a1 S x d h0 n0 _ s₁.heap _
    rw [e0]
    exact ⟨rfl, N0, Nat.le_refl _, Or.inl (own_skip hc2_101 hS)⟩
  · refine own_step (T' := s₁) (g' := (mkF m 5 #[.val (.ref a1), .val (.int x)] [])) (fun t_ k_ => XS.icmpNo X0.here hx rfl (hb hby d5_2) rfl (feq hc2_101).1 k_) ?_
    refine own_step (T' := s₁) (g' := (mkF m 6 #[.val (.ref a1), .val (.int x)] [(.ref a1)])) (fun t_ k_ => XS.aloadN X0.here hx rfl (hb hby d5_5) rfl rfl k_) ?_
    refine own_step (T' := s₁) (g' := (mkF m 7 #[.val (.ref a1), .val (.int x)] [(.int x), (.ref a1)])) (fun t_ k_ => XS.iloadN X0.here hx rfl (hb hby d5_6) rfl k_) ?_
    obtain ⟨cq102, kq102, q102a, q102b, q102c⟩ := isOf hZ e0 E1
    obtain ⟨_, _, ⟨T102, L102, k102, n102⟩, -, X102, ⟨Lc102, hQ102, l102, y102, z102⟩, st102⟩ := X0.virtualBack hx (y := (⟨"com/example/rigger/rigger/container/EqualityClasses$Numbers", "add", "(I)Z"⟩ : MethodName)) (z := (⟨"com/example/rigger/rigger/container/EqualityClasses$Numbers", "add", "(I)Z"⟩ : MethodName)) hown (mvT hZ (hw _ (List.mem_of_getElem? (i := 23) rfl))) (mvT hZ (hw _ (List.mem_of_getElem? (i := 24) rfl))) (notFace_of_selects (args := #[]) (mvT hZ (hw _ (List.mem_of_getElem? (i := 26) rfl)))) (mvT hZ (hw _ (List.mem_of_getElem? (i := 26) rfl))) (mvT hZ (hw _ (List.mem_of_getElem? (i := 25) rfl))) (by decide) (backOf (W := 0) (rm_add l Z a0 hw [] a1 x S d h0 n0 Z0 hS hc2_101) hZ (hw _ (List.mem_of_getElem? (i := 27) rfl)) (hw _ (List.mem_of_getElem? (i := 2) rfl)) (by decide) (by decide)) q102a q102c (g := (mkF m 7 #[.val (.ref a1), .val (.int x)] [(.int x), (.ref a1)])) rfl (by rw [hml]; rfl) (Steps.refl _) (argsL := [(.int x)]) (rest := []) (lenOf (by decide +kernel : parseMethodDescriptor "(I)Z" = some ⟨[.int], some .boolean⟩) rfl) rfl (by show 2 * 0 + _ ≤ _; exact Nat.le_of_eq rfl) (hb hby d5_7) (fun _ _ => ⟨rfl, e0, (by decide : 0 + 1 ≤ _), (by decide : 0 + 16 ≤ _)⟩)
    dsimp only [Pt.U, Pt.locs, Pt.cells, Pt.slots] at X102 l102 y102 z102 st102 hQ102
    subst l102 y102 z102
    obtain ⟨⟨r102, rfl⟩, Nq102, hB, hG⟩ := hQ102
    have N102 := Fr.app N0 Nq102
    refine own_to (T' := T102) (g' := (mkF m 10 #[.val (.ref a1), .val (.int x)] [(.int r102)])) st102 ?_
    refine own_step (T' := T102) (g' := (mkF m 11 #[.val (.ref a1), .val (.int x)] [])) (fun t_ k_ => XS.pop X102.here hx rfl (hb hby d5_10) rfl rfl k_) ?_
    obtain ⟨fs, hrR, hrun, hended, hWW, hsame⟩ := X102.leave (v := none) (fun _ => rfl)
    refine ⟨_, _, X102.returnOut hx Bd.returns (hb hby d5_11) hrR, hrun, hended, hPP _ _ ⟨_, _, rfl, ?_, ⟨_, rfl⟩, hWW, hsame.mono (by decide) (by decide)⟩⟩
    show QU Z a1 S x d h0 n0 _ T102.heap _
    exact ⟨rfl, N102, hB, hG⟩
def Q0 (n0 : Nat) (v : Option Value) (h : Heap) (L : List Loc) : Prop := v = some (.int 1) ∧ Fr n0 L
set_option maxRecDepth 65536 in
set_option maxHeartbeats 40000000 in
theorem rm0 (l : Launch) (Z : State) (a0 : Array Value) (hw : ∀ d ∈ tables_1, d.before a0 Z = true) (ws : List Jvm.Cond) (p1 p2 p3 p4 p5 p6 : Int32) (h0 : Heap) (n0 : Nat) (Z0 : n0 ≤ h0.size)  :
    MetFree l x (head1 (Jvm.Cond.code x code maxLocals ret :: ws) room_1) (fun a U => a = #[(.int p1), (.int p2), (.int p3), (.int p4), (.int p5), (.int p6)] ∧ Z.Warmed39 U.vm ∧ U.heap = h0) (fun _ _ _ _ _ => True) (fun _ U o U' => ∃ v L, o = .returned v ∧ Q0 n0 v U'.heap L ∧ FrameEnd U o U' L 16 128) := by
  refine MetFree.of_bodySF (plainFor_of_name (by first | (simp [plainName, overriddenIn]; done) | decide +kernel)) hisR ?_
  intro p e s m args below meth c s₁ Bd hml0 hP hK
  obtain ⟨rfl, hZ, hh⟩ := hP
  have hx := Bd.exec
  have hby := Bd.bytes
  have hml : c.maxLocals = 9 := hml0
  have hown : s.vm.findClass "com/example/rigger/rigger/container/NumbersContainsPinLaw" = some m.cls := findClass_of_methodNamed Bd.named
  have hnm := (name_of_methodNamed Bd.named Bd.method).1
  have X0 : Stand p l e room_1 s m #[(.int p1), (.int p2), (.int p3), (.int p4), (.int p5), (.int p6)] below meth c s₁ [] 0 0 := Stand.of_body Bd
  have e0 : s₁.heap = h0 := by rw [← hh, Bd.state]; rfl
  have N0 := Fr.nil n0
  have ef : entryFrame m #[(.int p1), (.int p2), (.int p3), (.int p4), (.int p5), (.int p6)] maxLocals = (mkF m 0 #[.val (.int p1), .val (.int p2), .val (.int p3), .val (.int p4), .val (.int p5), .val (.int p6), .unset, .unset, .unset] []) := by first | (simp [entryFrame, mkF, argsToLocals, Value.category, maxLocals]; done) | rfl
  refine own_start (fun P hPP => ?_)
  refine own_step (T' := s₁) (g' := (mkF m 0 #[.val (.int p1), .val (.int p2), .val (.int p3), .val (.int p4), .val (.int p5), .val (.int p6), .unset, .unset, .unset] [])) (fun t_ k_ => castTop ef k_) ?_
  obtain ⟨T101, h101, X101, e101, E101, A101, D101, -, st101⟩ := newO X0 hx hZ hown (hw _ (List.mem_of_getElem? (i := 0) rfl)) (hw _ (List.mem_of_getElem? (i := 1) rfl)) (hw _ (List.mem_of_getElem? (i := 2) rfl)) e0 (g := (mkF m 0 #[.val (.int p1), .val (.int p2), .val (.int p3), .val (.int p4), .val (.int p5), .val (.int p6), .unset, .unset, .unset] [])) rfl (hb hby at_0) (by decide) (by decide)
  obtain ⟨b101, g101⟩ : ∃ z, z = h0.size := ⟨_, rfl⟩
  rw [← g101] at A101 D101 st101
  have ge_b101 : n0 ≤ b101 := Nat.le_trans Z0 (Nat.le_of_eq g101.symm)
  have z102 : n0 ≤ h101.size := Nat.le_trans Z0 E101.1
  have F_slots_b101 : Fld Z h101 b101 "com/example/rigger/rigger/container/EqualityClasses$Numbers" "slots" "[I" .null := D101 (Or.inl (hw _ (List.mem_of_getElem? (i := 18) rfl))) (ty := (.array .int)) (by decide)
  have F_count_b101 : Fld Z h101 b101 "com/example/rigger/rigger/container/EqualityClasses$Numbers" "count" "I" (.int (0 : Int32)) := D101 (Or.inl (hw _ (List.mem_of_getElem? (i := 33) rfl))) (ty := .int) (by decide)
  refine own_step (T' := T101) (g' := (mkF m 3 #[.val (.int p1), .val (.int p2), .val (.int p3), .val (.int p4), .val (.int p5), .val (.int p6), .unset, .unset, .unset] [(.ref b101)])) st101 ?_
  refine own_step (T' := T101) (g' := (mkF m 4 #[.val (.int p1), .val (.int p2), .val (.int p3), .val (.int p4), .val (.int p5), .val (.int p6), .unset, .unset, .unset] [(.ref b101), (.ref b101)])) (fun t_ k_ => XS.dup X101.here hx rfl (hb hby at_3) rfl rfl k_) ?_
  obtain ⟨_, _, ⟨T103, L103, k103, n103⟩, -, X103, ⟨Lc103, hQ103, l103, y103, z103⟩, st103⟩ := X101.specialBack hx (y := (⟨"com/example/rigger/rigger/container/EqualityClasses$Numbers", "<init>", "()V"⟩ : MethodName)) rfl hown (mvT hZ (hw _ (List.mem_of_getElem? (i := 3) rfl))) (mvT hZ (hw _ (List.mem_of_getElem? (i := 4) rfl))) (mvT hZ (hw _ (List.mem_of_getElem? (i := 5) rfl))) (by decide) (backOf (W := 1) (rm_init l Z a0 hw [] b101 h101 n0 z102 F_slots_b101 F_count_b101 A101 ge_b101) hZ (hw _ (List.mem_of_getElem? (i := 5) rfl)) (hw _ (List.mem_of_getElem? (i := 2) rfl)) (by decide) (by decide)) (g := (mkF m 4 #[.val (.int p1), .val (.int p2), .val (.int p3), .val (.int p4), .val (.int p5), .val (.int p6), .unset, .unset, .unset] [(.ref b101), (.ref b101)])) rfl (by rw [hml]; rfl) (Steps.refl _) (a := b101) (argsL := []) (rest := [(.ref b101)]) (lenOf (by decide +kernel : parseMethodDescriptor "()V" = some ⟨[], none⟩) rfl) rfl (by show 2 * 0 + _ ≤ _; exact Nat.le_of_eq rfl) (hb hby at_4) (fun _ _ => ⟨rfl, e101, (by decide : 1 + 1 ≤ _), (by decide : 2 + 8 ≤ _)⟩)
  dsimp only [Pt.U, Pt.locs, Pt.cells, Pt.slots] at X103 l103 y103 z103 st103 hQ103
  subst l103 y103 z103
  obtain ⟨rfl, Nq103, hB103, S_0⟩ := hQ103
  have z104 : n0 ≤ T103.heap.size := Nat.le_trans z102 hB103
  have N103 := Fr.app N0 Nq103
  refine own_to (T' := T103) (g' := (mkF m 7 #[.val (.int p1), .val (.int p2), .val (.int p3), .val (.int p4), .val (.int p5), .val (.int p6), .unset, .unset, .unset] [(.ref b101)])) st103 ?_
  refine own_step (T' := T103) (g' := (mkF m 9 #[.val (.int p1), .val (.int p2), .val (.int p3), .val (.int p4), .val (.int p5), .val (.int p6), .val (.ref b101), .unset, .unset] [])) (fun t_ k_ => XS.astore X103.here hx rfl (hb hby at_7) rfl rfl (l' := #[.val (.int p1), .val (.int p2), .val (.int p3), .val (.int p4), .val (.int p5), .val (.int p6), .val (.ref b101), .unset, .unset]) rfl k_) ?_
  refine own_step (T' := T103) (g' := (mkF m 11 #[.val (.int p1), .val (.int p2), .val (.int p3), .val (.int p4), .val (.int p5), .val (.int p6), .val (.ref b101), .unset, .unset] [(.ref b101)])) (fun t_ k_ => XS.aload X103.here hx rfl (hb hby at_9) rfl rfl k_) ?_
  refine own_step (T' := T103) (g' := (mkF m 12 #[.val (.int p1), .val (.int p2), .val (.int p3), .val (.int p4), .val (.int p5), .val (.int p6), .val (.ref b101), .unset, .unset] [(.int p1), (.ref b101)])) (fun t_ k_ => XS.iloadN X103.here hx rfl (hb hby at_11) rfl k_) ?_
  obtain ⟨_, _, ⟨T105, L105, k105, n105⟩, -, X105, ⟨Lc105, hQ105, l105, y105, z105⟩, st105⟩ := Jvm.LawKit.callS X103 hx (y := (⟨"com/example/rigger/rigger/container/NumbersContainsPinLaw", "addUnlessNone", "(Lcom/example/rigger/rigger/container/EqualityClasses$Numbers;I)V"⟩ : MethodName)) hown (mvT hZ (hw _ (List.mem_of_getElem? (i := 19) rfl))) (mvT hZ (hw _ (List.mem_of_getElem? (i := 20) rfl))) (mvT hZ (hw _ (List.mem_of_getElem? (i := 21) rfl))) (mvT hZ (hw _ (List.mem_of_getElem? (i := 22) rfl))) (by decide) (backOf (W := 0) (rm_aun l Z a0 hw [] b101 p1 [] 0 T103.heap n0 z104 S_0) hZ (hw _ (List.mem_of_getElem? (i := 22) rfl)) (hw _ (List.mem_of_getElem? (i := 21) rfl)) (by decide) (by decide)) (g := (mkF m 12 #[.val (.int p1), .val (.int p2), .val (.int p3), .val (.int p4), .val (.int p5), .val (.int p6), .val (.ref b101), .unset, .unset] [(.int p1), (.ref b101)])) rfl (by rw [hml]; rfl) (argsL := [(.ref b101), (.int p1)]) (rest := []) (lenOf (by decide +kernel : parseMethodDescriptor "(Lcom/example/rigger/rigger/container/EqualityClasses$Numbers;I)V" = some ⟨[(.object "com/example/rigger/rigger/container/EqualityClasses$Numbers"), .int], none⟩) rfl) rfl (by show 2 * 0 + _ ≤ _; exact Nat.le_of_eq rfl) (hb hby at_12) (fun _ _ => ⟨rfl, rfl, (by decide : 2 + 1 ≤ _), (by decide : 10 + 16 ≤ _)⟩)
  dsimp only [Pt.U, Pt.locs, Pt.cells, Pt.slots] at X105 l105 y105 z105 st105 hQ105
  subst l105 y105 z105
  obtain ⟨rfl, Nq105, hB105, hG105⟩ := hQ105
  have z106 : n0 ≤ T105.heap.size := Nat.le_trans z104 hB105
  have S_1 := hG105.resolve_right (fun q => q.1 (by decide))
  have N105 := Fr.app N103 Nq105
  refine own_step (T' := T105) (g' := (mkF m 15 #[.val (.int p1), .val (.int p2), .val (.int p3), .val (.int p4), .val (.int p5), .val (.int p6), .val (.ref b101), .unset, .unset] [])) st105 ?_
  refine own_step (T' := T105) (g' := (mkF m 17 #[.val (.int p1), .val (.int p2), .val (.int p3), .val (.int p4), .val (.int p5), .val (.int p6), .val (.ref b101), .unset, .unset] [(.ref b101)])) (fun t_ k_ => XS.aload X105.here hx rfl (hb hby at_15) rfl rfl k_) ?_
  refine own_step (T' := T105) (g' := (mkF m 18 #[.val (.int p1), .val (.int p2), .val (.int p3), .val (.int p4), .val (.int p5), .val (.int p6), .val (.ref b101), .unset, .unset] [(.int p2), (.ref b101)])) (fun t_ k_ => XS.iloadN X105.here hx rfl (hb hby at_17) rfl k_) ?_
  obtain ⟨_, _, ⟨T107, L107, k107, n107⟩, -, X107, ⟨Lc107, hQ107, l107, y107, z107⟩, st107⟩ := Jvm.LawKit.callS X105 hx (y := (⟨"com/example/rigger/rigger/container/NumbersContainsPinLaw", "addUnlessNone", "(Lcom/example/rigger/rigger/container/EqualityClasses$Numbers;I)V"⟩ : MethodName)) hown (mvT hZ (hw _ (List.mem_of_getElem? (i := 19) rfl))) (mvT hZ (hw _ (List.mem_of_getElem? (i := 20) rfl))) (mvT hZ (hw _ (List.mem_of_getElem? (i := 21) rfl))) (mvT hZ (hw _ (List.mem_of_getElem? (i := 22) rfl))) (by decide) (backOf (W := 0) (rm_aun l Z a0 hw [] b101 p2 [p1] 1 T105.heap n0 z106 S_1) hZ (hw _ (List.mem_of_getElem? (i := 22) rfl)) (hw _ (List.mem_of_getElem? (i := 21) rfl)) (by decide) (by decide)) (g := (mkF m 18 #[.val (.int p1), .val (.int p2), .val (.int p3), .val (.int p4), .val (.int p5), .val (.int p6), .val (.ref b101), .unset, .unset] [(.int p2), (.ref b101)])) rfl (by rw [hml]; rfl) (argsL := [(.ref b101), (.int p2)]) (rest := []) (lenOf (by decide +kernel : parseMethodDescriptor "(Lcom/example/rigger/rigger/container/EqualityClasses$Numbers;I)V" = some ⟨[(.object "com/example/rigger/rigger/container/EqualityClasses$Numbers"), .int], none⟩) rfl) rfl (by show 2 * 0 + _ ≤ _; exact Nat.le_of_eq rfl) (hb hby at_18) (fun _ _ => ⟨rfl, rfl, (by decide : 3 + 1 ≤ _), (by decide : 26 + 16 ≤ _)⟩)
  dsimp only [Pt.U, Pt.locs, Pt.cells, Pt.slots] at X107 l107 y107 z107 st107 hQ107
  subst l107 y107 z107
  obtain ⟨rfl, Nq107, hB107, hG107⟩ := hQ107
  have z108 : n0 ≤ T107.heap.size := Nat.le_trans z106 hB107
  have S_2 := hG107.resolve_right (fun q => q.1 (by decide))
  have N107 := Fr.app N105 Nq107
  refine own_step (T' := T107) (g' := (mkF m 21 #[.val (.int p1), .val (.int p2), .val (.int p3), .val (.int p4), .val (.int p5), .val (.int p6), .val (.ref b101), .unset, .unset] [])) st107 ?_
  refine own_step (T' := T107) (g' := (mkF m 23 #[.val (.int p1), .val (.int p2), .val (.int p3), .val (.int p4), .val (.int p5), .val (.int p6), .val (.ref b101), .unset, .unset] [(.ref b101)])) (fun t_ k_ => XS.aload X107.here hx rfl (hb hby at_21) rfl rfl k_) ?_
  refine own_step (T' := T107) (g' := (mkF m 24 #[.val (.int p1), .val (.int p2), .val (.int p3), .val (.int p4), .val (.int p5), .val (.int p6), .val (.ref b101), .unset, .unset] [(.int p3), (.ref b101)])) (fun t_ k_ => XS.iloadN X107.here hx rfl (hb hby at_23) rfl k_) ?_
  obtain ⟨_, _, ⟨T109, L109, k109, n109⟩, -, X109, ⟨Lc109, hQ109, l109, y109, z109⟩, st109⟩ := Jvm.LawKit.callS X107 hx (y := (⟨"com/example/rigger/rigger/container/NumbersContainsPinLaw", "addUnlessNone", "(Lcom/example/rigger/rigger/container/EqualityClasses$Numbers;I)V"⟩ : MethodName)) hown (mvT hZ (hw _ (List.mem_of_getElem? (i := 19) rfl))) (mvT hZ (hw _ (List.mem_of_getElem? (i := 20) rfl))) (mvT hZ (hw _ (List.mem_of_getElem? (i := 21) rfl))) (mvT hZ (hw _ (List.mem_of_getElem? (i := 22) rfl))) (by decide) (backOf (W := 0) (rm_aun l Z a0 hw [] b101 p3 [p2, p1] 2 T107.heap n0 z108 S_2) hZ (hw _ (List.mem_of_getElem? (i := 22) rfl)) (hw _ (List.mem_of_getElem? (i := 21) rfl)) (by decide) (by decide)) (g := (mkF m 24 #[.val (.int p1), .val (.int p2), .val (.int p3), .val (.int p4), .val (.int p5), .val (.int p6), .val (.ref b101), .unset, .unset] [(.int p3), (.ref b101)])) rfl (by rw [hml]; rfl) (argsL := [(.ref b101), (.int p3)]) (rest := []) (lenOf (by decide +kernel : parseMethodDescriptor "(Lcom/example/rigger/rigger/container/EqualityClasses$Numbers;I)V" = some ⟨[(.object "com/example/rigger/rigger/container/EqualityClasses$Numbers"), .int], none⟩) rfl) rfl (by show 2 * 0 + _ ≤ _; exact Nat.le_of_eq rfl) (hb hby at_24) (fun _ _ => ⟨rfl, rfl, (by decide : 4 + 1 ≤ _), (by decide : 42 + 16 ≤ _)⟩)
  dsimp only [Pt.U, Pt.locs, Pt.cells, Pt.slots] at X109 l109 y109 z109 st109 hQ109
  subst l109 y109 z109
  obtain ⟨rfl, Nq109, hB109, hG109⟩ := hQ109
  have z110 : n0 ≤ T109.heap.size := Nat.le_trans z108 hB109
  have S_3 := hG109.resolve_right (fun q => q.1 (by decide))
  have N109 := Fr.app N107 Nq109
  refine own_step (T' := T109) (g' := (mkF m 27 #[.val (.int p1), .val (.int p2), .val (.int p3), .val (.int p4), .val (.int p5), .val (.int p6), .val (.ref b101), .unset, .unset] [])) st109 ?_
  refine own_step (T' := T109) (g' := (mkF m 29 #[.val (.int p1), .val (.int p2), .val (.int p3), .val (.int p4), .val (.int p5), .val (.int p6), .val (.ref b101), .unset, .unset] [(.ref b101)])) (fun t_ k_ => XS.aload X109.here hx rfl (hb hby at_27) rfl rfl k_) ?_
  refine own_step (T' := T109) (g' := (mkF m 30 #[.val (.int p1), .val (.int p2), .val (.int p3), .val (.int p4), .val (.int p5), .val (.int p6), .val (.ref b101), .unset, .unset] [(.int p4), (.ref b101)])) (fun t_ k_ => XS.iloadN X109.here hx rfl (hb hby at_29) rfl k_) ?_
  obtain ⟨_, _, ⟨T111, L111, k111, n111⟩, -, X111, ⟨Lc111, hQ111, l111, y111, z111⟩, st111⟩ := Jvm.LawKit.callS X109 hx (y := (⟨"com/example/rigger/rigger/container/NumbersContainsPinLaw", "addUnlessNone", "(Lcom/example/rigger/rigger/container/EqualityClasses$Numbers;I)V"⟩ : MethodName)) hown (mvT hZ (hw _ (List.mem_of_getElem? (i := 19) rfl))) (mvT hZ (hw _ (List.mem_of_getElem? (i := 20) rfl))) (mvT hZ (hw _ (List.mem_of_getElem? (i := 21) rfl))) (mvT hZ (hw _ (List.mem_of_getElem? (i := 22) rfl))) (by decide) (backOf (W := 0) (rm_aun l Z a0 hw [] b101 p4 [p3, p2, p1] 3 T109.heap n0 z110 S_3) hZ (hw _ (List.mem_of_getElem? (i := 22) rfl)) (hw _ (List.mem_of_getElem? (i := 21) rfl)) (by decide) (by decide)) (g := (mkF m 30 #[.val (.int p1), .val (.int p2), .val (.int p3), .val (.int p4), .val (.int p5), .val (.int p6), .val (.ref b101), .unset, .unset] [(.int p4), (.ref b101)])) rfl (by rw [hml]; rfl) (argsL := [(.ref b101), (.int p4)]) (rest := []) (lenOf (by decide +kernel : parseMethodDescriptor "(Lcom/example/rigger/rigger/container/EqualityClasses$Numbers;I)V" = some ⟨[(.object "com/example/rigger/rigger/container/EqualityClasses$Numbers"), .int], none⟩) rfl) rfl (by show 2 * 0 + _ ≤ _; exact Nat.le_of_eq rfl) (hb hby at_30) (fun _ _ => ⟨rfl, rfl, (by decide : 5 + 1 ≤ _), (by decide : 58 + 16 ≤ _)⟩)
  dsimp only [Pt.U, Pt.locs, Pt.cells, Pt.slots] at X111 l111 y111 z111 st111 hQ111
  subst l111 y111 z111
  obtain ⟨rfl, Nq111, hB111, hG111⟩ := hQ111
  have z112 : n0 ≤ T111.heap.size := Nat.le_trans z110 hB111
  have S_4 := hG111.resolve_right (fun q => q.1 (by decide))
  have N111 := Fr.app N109 Nq111
  refine own_step (T' := T111) (g' := (mkF m 33 #[.val (.int p1), .val (.int p2), .val (.int p3), .val (.int p4), .val (.int p5), .val (.int p6), .val (.ref b101), .unset, .unset] [])) st111 ?_
  refine own_step (T' := T111) (g' := (mkF m 35 #[.val (.int p1), .val (.int p2), .val (.int p3), .val (.int p4), .val (.int p5), .val (.int p6), .val (.ref b101), .unset, .unset] [(.ref b101)])) (fun t_ k_ => XS.aload X111.here hx rfl (hb hby at_33) rfl rfl k_) ?_
  refine own_step (T' := T111) (g' := (mkF m 37 #[.val (.int p1), .val (.int p2), .val (.int p3), .val (.int p4), .val (.int p5), .val (.int p6), .val (.ref b101), .unset, .unset] [(.int p5), (.ref b101)])) (fun t_ k_ => XS.iload X111.here hx rfl (hb hby at_35) rfl k_) ?_
  obtain ⟨_, _, ⟨T113, L113, k113, n113⟩, -, X113, ⟨Lc113, hQ113, l113, y113, z113⟩, st113⟩ := Jvm.LawKit.callS X111 hx (y := (⟨"com/example/rigger/rigger/container/NumbersContainsPinLaw", "addUnlessNone", "(Lcom/example/rigger/rigger/container/EqualityClasses$Numbers;I)V"⟩ : MethodName)) hown (mvT hZ (hw _ (List.mem_of_getElem? (i := 19) rfl))) (mvT hZ (hw _ (List.mem_of_getElem? (i := 20) rfl))) (mvT hZ (hw _ (List.mem_of_getElem? (i := 21) rfl))) (mvT hZ (hw _ (List.mem_of_getElem? (i := 22) rfl))) (by decide) (backOf (W := 0) (rm_aun l Z a0 hw [] b101 p5 [p4, p3, p2, p1] 4 T111.heap n0 z112 S_4) hZ (hw _ (List.mem_of_getElem? (i := 22) rfl)) (hw _ (List.mem_of_getElem? (i := 21) rfl)) (by decide) (by decide)) (g := (mkF m 37 #[.val (.int p1), .val (.int p2), .val (.int p3), .val (.int p4), .val (.int p5), .val (.int p6), .val (.ref b101), .unset, .unset] [(.int p5), (.ref b101)])) rfl (by rw [hml]; rfl) (argsL := [(.ref b101), (.int p5)]) (rest := []) (lenOf (by decide +kernel : parseMethodDescriptor "(Lcom/example/rigger/rigger/container/EqualityClasses$Numbers;I)V" = some ⟨[(.object "com/example/rigger/rigger/container/EqualityClasses$Numbers"), .int], none⟩) rfl) rfl (by show 2 * 0 + _ ≤ _; exact Nat.le_of_eq rfl) (hb hby at_37) (fun _ _ => ⟨rfl, rfl, (by decide : 6 + 1 ≤ _), (by decide : 74 + 16 ≤ _)⟩)
  dsimp only [Pt.U, Pt.locs, Pt.cells, Pt.slots] at X113 l113 y113 z113 st113 hQ113
  subst l113 y113 z113
  obtain ⟨rfl, Nq113, hB113, hG113⟩ := hQ113
  have z114 : n0 ≤ T113.heap.size := Nat.le_trans z112 hB113
  have hF : own_F own_H8 8 Z T113.heap b101 [p5, p4, p3, p2, p1] ∨ own_F own_H16 16 Z T113.heap b101 [p5, p4, p3, p2, p1] := hG113.imp own_F_of (fun q => q.2)
  have E9 : Exa Z T113.heap b101 "com/example/rigger/rigger/container/EqualityClasses$Numbers" := hF.elim (fun ⟨_, _, q, _⟩ => q) (fun ⟨_, _, q, _⟩ => q)
  have N113 := Fr.app N111 Nq113
  refine own_step (T' := T113) (g' := (mkF m 40 #[.val (.int p1), .val (.int p2), .val (.int p3), .val (.int p4), .val (.int p5), .val (.int p6), .val (.ref b101), .unset, .unset] [])) st113 ?_
  have k59 : ∀ (T : State) (locs : List Loc), Stand p l e room_1 s m #[(.int p1), (.int p2), (.int p3), (.int p4), (.int p5), (.int p6)] below meth c T locs 7 90 → T.heap = T113.heap → Fr n0 locs → own_Run p.tables e below T (mkF m 59 #[.val (.int p1), .val (.int p2), .val (.int p3), .val (.int p4), .val (.int p5), .val (.int p6), .val (.ref b101), .unset, .unset] []) P := by
    intro T59_ locs59 X59_ e59_ N59_
    have k78 : ∀ (T : State) (locs : List Loc), Stand p l e room_1 s m #[(.int p1), (.int p2), (.int p3), (.int p4), (.int p5), (.int p6)] below meth c T locs 7 90 → T.heap = T113.heap → Fr n0 locs → own_Run p.tables e below T (mkF m 78 #[.val (.int p1), .val (.int p2), .val (.int p3), .val (.int p4), .val (.int p5), .val (.int p6), .val (.ref b101), .unset, .unset] []) P := by
      intro T78_ locs78 X78_ e78_ N78_
      have k97 : ∀ (T : State) (locs : List Loc), Stand p l e room_1 s m #[(.int p1), (.int p2), (.int p3), (.int p4), (.int p5), (.int p6)] below meth c T locs 7 90 → T.heap = T113.heap → Fr n0 locs → own_Run p.tables e below T (mkF m 97 #[.val (.int p1), .val (.int p2), .val (.int p3), .val (.int p4), .val (.int p5), .val (.int p6), .val (.ref b101), .unset, .unset] []) P := by
        intro T97_ locs97 X97_ e97_ N97_
        have k116 : ∀ (T : State) (locs : List Loc), Stand p l e room_1 s m #[(.int p1), (.int p2), (.int p3), (.int p4), (.int p5), (.int p6)] below meth c T locs 7 90 → T.heap = T113.heap → Fr n0 locs → own_Run p.tables e below T (mkF m 116 #[.val (.int p1), .val (.int p2), .val (.int p3), .val (.int p4), .val (.int p5), .val (.int p6), .val (.ref b101), .unset, .unset] []) P := by
          intro T116_ locs116 X116_ e116_ N116_
          have k137 : ∀ (T : State) (locs : List Loc), Stand p l e room_1 s m #[(.int p1), (.int p2), (.int p3), (.int p4), (.int p5), (.int p6)] below meth c T locs 7 90 → T.heap = T113.heap → Fr n0 locs → own_Run p.tables e below T (mkF m 137 #[.val (.int p1), .val (.int p2), .val (.int p3), .val (.int p4), .val (.int p5), .val (.int p6), .val (.ref b101), .unset, .unset] []) P := by
            intro T137_ locs137 X137_ e137_ N137_
            refine own_step (T' := T137_) (g' := (mkF m 138 #[.val (.int p1), .val (.int p2), .val (.int p3), .val (.int p4), .val (.int p5), .val (.int p6), .val (.ref b101), .unset, .unset] [(.int (1 : Int32))])) (fun t_ k_ => XS.iconst X137_.here hx rfl (hb hby at_137) k_) ?_
            refine own_step (T' := T137_) (g' := (mkF m 142 #[.val (.int p1), .val (.int p2), .val (.int p3), .val (.int p4), .val (.int p5), .val (.int p6), .val (.ref b101), .unset, .unset] [(.int (1 : Int32))])) (fun t_ k_ => XS.goto X137_.here hx rfl (pc0 := 138) (pc' := 142) rfl (hb hby at_138) (by decide) (by decide) k_) ?_
            refine own_step (T' := T137_) (g' := (mkF m 144 #[.val (.int p1), .val (.int p2), .val (.int p3), .val (.int p4), .val (.int p5), .val (.int p6), .val (.ref b101), .val (.int (1 : Int32)), .unset] [])) (fun t_ k_ => XS.istore X137_.here hx rfl (hb hby at_142) rfl (l' := #[.val (.int p1), .val (.int p2), .val (.int p3), .val (.int p4), .val (.int p5), .val (.int p6), .val (.ref b101), .val (.int (1 : Int32)), .unset]) rfl k_) ?_
            refine own_step (T' := T137_) (g' := (mkF m 146 #[.val (.int p1), .val (.int p2), .val (.int p3), .val (.int p4), .val (.int p5), .val (.int p6), .val (.ref b101), .val (.int (1 : Int32)), .unset] [(.int p6)])) (fun t_ k_ => XS.iload X137_.here hx rfl (hb hby at_144) rfl k_) ?_
            refine own_step (T' := T137_) (g' := (mkF m 147 #[.val (.int p1), .val (.int p2), .val (.int p3), .val (.int p4), .val (.int p5), .val (.int p6), .val (.ref b101), .val (.int (1 : Int32)), .unset] [(.int (-1 : Int32)), (.int p6)])) (fun t_ k_ => XS.iconst X137_.here hx rfl (hb hby at_146) k_) ?_
            by_cases hc147_115 : p6 = (-1 : Int32)
            · refine own_step (T' := T137_) (g' := (mkF m 185 #[.val (.int p1), .val (.int p2), .val (.int p3), .val (.int p4), .val (.int p5), .val (.int p6), .val (.ref b101), .val (.int (1 : Int32)), .unset] [])) (fun t_ k_ => XS.icmpYes X137_.here hx rfl (pc0 := 147) (pc' := 185) rfl (hb hby at_147) rfl (teq hc147_115).1 (by decide) (by decide) k_) ?_
              refine own_step (T' := T137_) (g' := (mkF m 186 #[.val (.int p1), .val (.int p2), .val (.int p3), .val (.int p4), .val (.int p5), .val (.int p6), .val (.ref b101), .val (.int (1 : Int32)), .unset] [(.int (0 : Int32))])) (fun t_ k_ => XS.iconst X137_.here hx rfl (hb hby at_185) k_) ?_
              refine own_step (T' := T137_) (g' := (mkF m 188 #[.val (.int p1), .val (.int p2), .val (.int p3), .val (.int p4), .val (.int p5), .val (.int p6), .val (.ref b101), .val (.int (1 : Int32)), .val (.int (0 : Int32))] [])) (fun t_ k_ => XS.istore X137_.here hx rfl (hb hby at_186) rfl (l' := #[.val (.int p1), .val (.int p2), .val (.int p3), .val (.int p4), .val (.int p5), .val (.int p6), .val (.ref b101), .val (.int (1 : Int32)), .val (.int (0 : Int32))]) rfl k_) ?_
              refine own_step (T' := T137_) (g' := (mkF m 190 #[.val (.int p1), .val (.int p2), .val (.int p3), .val (.int p4), .val (.int p5), .val (.int p6), .val (.ref b101), .val (.int (1 : Int32)), .val (.int (0 : Int32))] [(.int (1 : Int32))])) (fun t_ k_ => XS.iload X137_.here hx rfl (hb hby at_188) rfl k_) ?_
              refine own_step (T' := T137_) (g' := (mkF m 193 #[.val (.int p1), .val (.int p2), .val (.int p3), .val (.int p4), .val (.int p5), .val (.int p6), .val (.ref b101), .val (.int (1 : Int32)), .val (.int (0 : Int32))] [])) (fun t_ k_ => XS.ifNo X137_.here hx rfl (hb hby at_190) rfl ((if0 _ _).trans (feq (by decide)).1) k_) ?_
              refine own_step (T' := T137_) (g' := (mkF m 195 #[.val (.int p1), .val (.int p2), .val (.int p3), .val (.int p4), .val (.int p5), .val (.int p6), .val (.ref b101), .val (.int (1 : Int32)), .val (.int (0 : Int32))] [(.ref b101)])) (fun t_ k_ => XS.aload X137_.here hx rfl (hb hby at_193) rfl rfl k_) ?_
              refine own_step (T' := T137_) (g' := (mkF m 197 #[.val (.int p1), .val (.int p2), .val (.int p3), .val (.int p4), .val (.int p5), .val (.int p6), .val (.ref b101), .val (.int (1 : Int32)), .val (.int (0 : Int32))] [(.int p6), (.ref b101)])) (fun t_ k_ => XS.iload X137_.here hx rfl (hb hby at_195) rfl k_) ?_
              obtain ⟨cq116, kq116, q116a, q116b, q116c⟩ := isOf hZ e137_ E9
              obtain ⟨_, _, ⟨T116, L116, k116, n116⟩, -, X116, ⟨Lc116, hQ116, l116, y116, z116⟩, st116⟩ := X137_.virtualBack hx (y := (⟨"com/example/rigger/rigger/container/EqualityClasses$Numbers", "contains", "(I)Z"⟩ : MethodName)) (z := (⟨"com/example/rigger/rigger/container/EqualityClasses$Numbers", "contains", "(I)Z"⟩ : MethodName)) hown (mvT hZ (hw _ (List.mem_of_getElem? (i := 34) rfl))) (mvT hZ (hw _ (List.mem_of_getElem? (i := 35) rfl))) (notFace_of_selects (args := #[]) (mvT hZ (hw _ (List.mem_of_getElem? (i := 37) rfl)))) (mvT hZ (hw _ (List.mem_of_getElem? (i := 37) rfl))) (mvT hZ (hw _ (List.mem_of_getElem? (i := 36) rfl))) (by decide) (backOf (W := 0) (rm_cont l Z a0 hw [] b101 p6 [p5, p4, p3, p2, p1] T113.heap n0 z114 hF) hZ (hw _ (List.mem_of_getElem? (i := 38) rfl)) (hw _ (List.mem_of_getElem? (i := 2) rfl)) (by decide) (by decide)) q116a q116c (g := (mkF m 197 #[.val (.int p1), .val (.int p2), .val (.int p3), .val (.int p4), .val (.int p5), .val (.int p6), .val (.ref b101), .val (.int (1 : Int32)), .val (.int (0 : Int32))] [(.int p6), (.ref b101)])) rfl (by rw [hml]; rfl) (Steps.refl _) (argsL := [(.int p6)]) (rest := []) (lenOf (by decide +kernel : parseMethodDescriptor "(I)Z" = some ⟨[.int], some .boolean⟩) rfl) rfl (by show 2 * 0 + _ ≤ _; exact Nat.le_of_eq rfl) (hb hby at_197) (fun _ _ => ⟨rfl, e137_, (by decide : 7 + 0 ≤ _), (by decide : 90 + 0 ≤ _)⟩)
              dsimp only [Pt.U, Pt.locs, Pt.cells, Pt.slots] at X116 l116 y116 z116 st116 hQ116
              subst l116 y116 z116
              obtain ⟨rfl, Nq116, e116⟩ := hQ116
              have N116 := Fr.app N137_ Nq116
              refine own_to (T' := T116) (g' := (mkF m 200 #[.val (.int p1), .val (.int p2), .val (.int p3), .val (.int p4), .val (.int p5), .val (.int p6), .val (.ref b101), .val (.int (1 : Int32)), .val (.int (0 : Int32))] [(.int (own_c [p5, p4, p3, p2, p1] p6))])) st116 ?_
              refine own_step (T' := T116) (g' := (mkF m 202 #[.val (.int p1), .val (.int p2), .val (.int p3), .val (.int p4), .val (.int p5), .val (.int p6), .val (.ref b101), .val (.int (1 : Int32)), .val (.int (0 : Int32))] [(.int (0 : Int32)), (.int (own_c [p5, p4, p3, p2, p1] p6))])) (fun t_ k_ => XS.iload X116.here hx rfl (hb hby at_200) rfl k_) ?_
              refine own_step (T' := T116) (g' := (mkF m 205 #[.val (.int p1), .val (.int p2), .val (.int p3), .val (.int p4), .val (.int p5), .val (.int p6), .val (.ref b101), .val (.int (1 : Int32)), .val (.int (0 : Int32))] [])) (fun t_ k_ => XS.icmpNo X116.here hx rfl (hb hby at_202) rfl (teq (by simp [own_c, hc147_115])).2 k_) ?_
              refine own_step (T' := T116) (g' := (mkF m 206 #[.val (.int p1), .val (.int p2), .val (.int p3), .val (.int p4), .val (.int p5), .val (.int p6), .val (.ref b101), .val (.int (1 : Int32)), .val (.int (0 : Int32))] [(.int (1 : Int32))])) (fun t_ k_ => XS.iconst X116.here hx rfl (hb hby at_205) k_) ?_
              refine own_step (T' := T116) (g' := (mkF m 210 #[.val (.int p1), .val (.int p2), .val (.int p3), .val (.int p4), .val (.int p5), .val (.int p6), .val (.ref b101), .val (.int (1 : Int32)), .val (.int (0 : Int32))] [(.int (1 : Int32))])) (fun t_ k_ => XS.goto X116.here hx rfl (pc0 := 206) (pc' := 210) rfl (hb hby at_206) (by decide) (by decide) k_) ?_
              obtain ⟨fs, hrR, hrun, hended, hWW, hsame⟩ := X116.leave (v := some (.int (1 : Int32))) (fun h => by rw [Bd.returns] at h; cases h)
              refine ⟨_, _, own_retZ X116 hx (t := .boolean) Bd.returns (by simp) (by decide) (hb hby at_210) hrR, hrun, hended, hPP _ _ ⟨_, _, rfl, ?_, ⟨_, rfl⟩, hWW, hsame.mono (by decide) (by decide)⟩⟩
              show Q0 n0 _ T116.heap _
              rw [e116]
              exact ⟨rfl, N116⟩
            · refine own_step (T' := T137_) (g' := (mkF m 150 #[.val (.int p1), .val (.int p2), .val (.int p3), .val (.int p4), .val (.int p5), .val (.int p6), .val (.ref b101), .val (.int (1 : Int32)), .unset] [])) (fun t_ k_ => XS.icmpNo X137_.here hx rfl (hb hby at_147) rfl (feq hc147_115).1 k_) ?_
              refine own_step (T' := T137_) (g' := (mkF m 152 #[.val (.int p1), .val (.int p2), .val (.int p3), .val (.int p4), .val (.int p5), .val (.int p6), .val (.ref b101), .val (.int (1 : Int32)), .unset] [(.int p6)])) (fun t_ k_ => XS.iload X137_.here hx rfl (hb hby at_150) rfl k_) ?_
              refine own_step (T' := T137_) (g' := (mkF m 153 #[.val (.int p1), .val (.int p2), .val (.int p3), .val (.int p4), .val (.int p5), .val (.int p6), .val (.ref b101), .val (.int (1 : Int32)), .unset] [(.int p1), (.int p6)])) (fun t_ k_ => XS.iloadN X137_.here hx rfl (hb hby at_152) rfl k_) ?_
              by_cases hc153_117 : p6 = p1
              · refine own_step (T' := T137_) (g' := (mkF m 181 #[.val (.int p1), .val (.int p2), .val (.int p3), .val (.int p4), .val (.int p5), .val (.int p6), .val (.ref b101), .val (.int (1 : Int32)), .unset] [])) (fun t_ k_ => XS.icmpYes X137_.here hx rfl (pc0 := 153) (pc' := 181) rfl (hb hby at_153) rfl (teq hc153_117).1 (by decide) (by decide) k_) ?_
                refine own_step (T' := T137_) (g' := (mkF m 182 #[.val (.int p1), .val (.int p2), .val (.int p3), .val (.int p4), .val (.int p5), .val (.int p6), .val (.ref b101), .val (.int (1 : Int32)), .unset] [(.int (1 : Int32))])) (fun t_ k_ => XS.iconst X137_.here hx rfl (hb hby at_181) k_) ?_
                refine own_step (T' := T137_) (g' := (mkF m 186 #[.val (.int p1), .val (.int p2), .val (.int p3), .val (.int p4), .val (.int p5), .val (.int p6), .val (.ref b101), .val (.int (1 : Int32)), .unset] [(.int (1 : Int32))])) (fun t_ k_ => XS.goto X137_.here hx rfl (pc0 := 182) (pc' := 186) rfl (hb hby at_182) (by decide) (by decide) k_) ?_
                refine own_step (T' := T137_) (g' := (mkF m 188 #[.val (.int p1), .val (.int p2), .val (.int p3), .val (.int p4), .val (.int p5), .val (.int p6), .val (.ref b101), .val (.int (1 : Int32)), .val (.int (1 : Int32))] [])) (fun t_ k_ => XS.istore X137_.here hx rfl (hb hby at_186) rfl (l' := #[.val (.int p1), .val (.int p2), .val (.int p3), .val (.int p4), .val (.int p5), .val (.int p6), .val (.ref b101), .val (.int (1 : Int32)), .val (.int (1 : Int32))]) rfl k_) ?_
                refine own_step (T' := T137_) (g' := (mkF m 190 #[.val (.int p1), .val (.int p2), .val (.int p3), .val (.int p4), .val (.int p5), .val (.int p6), .val (.ref b101), .val (.int (1 : Int32)), .val (.int (1 : Int32))] [(.int (1 : Int32))])) (fun t_ k_ => XS.iload X137_.here hx rfl (hb hby at_188) rfl k_) ?_
                refine own_step (T' := T137_) (g' := (mkF m 193 #[.val (.int p1), .val (.int p2), .val (.int p3), .val (.int p4), .val (.int p5), .val (.int p6), .val (.ref b101), .val (.int (1 : Int32)), .val (.int (1 : Int32))] [])) (fun t_ k_ => XS.ifNo X137_.here hx rfl (hb hby at_190) rfl ((if0 _ _).trans (feq (by decide)).1) k_) ?_
                refine own_step (T' := T137_) (g' := (mkF m 195 #[.val (.int p1), .val (.int p2), .val (.int p3), .val (.int p4), .val (.int p5), .val (.int p6), .val (.ref b101), .val (.int (1 : Int32)), .val (.int (1 : Int32))] [(.ref b101)])) (fun t_ k_ => XS.aload X137_.here hx rfl (hb hby at_193) rfl rfl k_) ?_
                refine own_step (T' := T137_) (g' := (mkF m 197 #[.val (.int p1), .val (.int p2), .val (.int p3), .val (.int p4), .val (.int p5), .val (.int p6), .val (.ref b101), .val (.int (1 : Int32)), .val (.int (1 : Int32))] [(.int p6), (.ref b101)])) (fun t_ k_ => XS.iload X137_.here hx rfl (hb hby at_195) rfl k_) ?_
                obtain ⟨cq118, kq118, q118a, q118b, q118c⟩ := isOf hZ e137_ E9
                obtain ⟨_, _, ⟨T118, L118, k118, n118⟩, -, X118, ⟨Lc118, hQ118, l118, y118, z118⟩, st118⟩ := X137_.virtualBack hx (y := (⟨"com/example/rigger/rigger/container/EqualityClasses$Numbers", "contains", "(I)Z"⟩ : MethodName)) (z := (⟨"com/example/rigger/rigger/container/EqualityClasses$Numbers", "contains", "(I)Z"⟩ : MethodName)) hown (mvT hZ (hw _ (List.mem_of_getElem? (i := 34) rfl))) (mvT hZ (hw _ (List.mem_of_getElem? (i := 35) rfl))) (notFace_of_selects (args := #[]) (mvT hZ (hw _ (List.mem_of_getElem? (i := 37) rfl)))) (mvT hZ (hw _ (List.mem_of_getElem? (i := 37) rfl))) (mvT hZ (hw _ (List.mem_of_getElem? (i := 36) rfl))) (by decide) (backOf (W := 0) (rm_cont l Z a0 hw [] b101 p6 [p5, p4, p3, p2, p1] T113.heap n0 z114 hF) hZ (hw _ (List.mem_of_getElem? (i := 38) rfl)) (hw _ (List.mem_of_getElem? (i := 2) rfl)) (by decide) (by decide)) q118a q118c (g := (mkF m 197 #[.val (.int p1), .val (.int p2), .val (.int p3), .val (.int p4), .val (.int p5), .val (.int p6), .val (.ref b101), .val (.int (1 : Int32)), .val (.int (1 : Int32))] [(.int p6), (.ref b101)])) rfl (by rw [hml]; rfl) (Steps.refl _) (argsL := [(.int p6)]) (rest := []) (lenOf (by decide +kernel : parseMethodDescriptor "(I)Z" = some ⟨[.int], some .boolean⟩) rfl) rfl (by show 2 * 0 + _ ≤ _; exact Nat.le_of_eq rfl) (hb hby at_197) (fun _ _ => ⟨rfl, e137_, (by decide : 7 + 0 ≤ _), (by decide : 90 + 0 ≤ _)⟩)
                dsimp only [Pt.U, Pt.locs, Pt.cells, Pt.slots] at X118 l118 y118 z118 st118 hQ118
                subst l118 y118 z118
                obtain ⟨rfl, Nq118, e118⟩ := hQ118
                have N118 := Fr.app N137_ Nq118
                refine own_to (T' := T118) (g' := (mkF m 200 #[.val (.int p1), .val (.int p2), .val (.int p3), .val (.int p4), .val (.int p5), .val (.int p6), .val (.ref b101), .val (.int (1 : Int32)), .val (.int (1 : Int32))] [(.int (own_c [p5, p4, p3, p2, p1] p6))])) st118 ?_
                refine own_step (T' := T118) (g' := (mkF m 202 #[.val (.int p1), .val (.int p2), .val (.int p3), .val (.int p4), .val (.int p5), .val (.int p6), .val (.ref b101), .val (.int (1 : Int32)), .val (.int (1 : Int32))] [(.int (1 : Int32)), (.int (own_c [p5, p4, p3, p2, p1] p6))])) (fun t_ k_ => XS.iload X118.here hx rfl (hb hby at_200) rfl k_) ?_
                refine own_step (T' := T118) (g' := (mkF m 205 #[.val (.int p1), .val (.int p2), .val (.int p3), .val (.int p4), .val (.int p5), .val (.int p6), .val (.ref b101), .val (.int (1 : Int32)), .val (.int (1 : Int32))] [])) (fun t_ k_ => XS.icmpNo X118.here hx rfl (hb hby at_202) rfl (teq (own_c1 hc147_115 (by rw [hc153_117]; simp))).2 k_) ?_
                refine own_step (T' := T118) (g' := (mkF m 206 #[.val (.int p1), .val (.int p2), .val (.int p3), .val (.int p4), .val (.int p5), .val (.int p6), .val (.ref b101), .val (.int (1 : Int32)), .val (.int (1 : Int32))] [(.int (1 : Int32))])) (fun t_ k_ => XS.iconst X118.here hx rfl (hb hby at_205) k_) ?_
                refine own_step (T' := T118) (g' := (mkF m 210 #[.val (.int p1), .val (.int p2), .val (.int p3), .val (.int p4), .val (.int p5), .val (.int p6), .val (.ref b101), .val (.int (1 : Int32)), .val (.int (1 : Int32))] [(.int (1 : Int32))])) (fun t_ k_ => XS.goto X118.here hx rfl (pc0 := 206) (pc' := 210) rfl (hb hby at_206) (by decide) (by decide) k_) ?_
                obtain ⟨fs, hrR, hrun, hended, hWW, hsame⟩ := X118.leave (v := some (.int (1 : Int32))) (fun h => by rw [Bd.returns] at h; cases h)
                refine ⟨_, _, own_retZ X118 hx (t := .boolean) Bd.returns (by simp) (by decide) (hb hby at_210) hrR, hrun, hended, hPP _ _ ⟨_, _, rfl, ?_, ⟨_, rfl⟩, hWW, hsame.mono (by decide) (by decide)⟩⟩
                show Q0 n0 _ T118.heap _
                rw [e118]
                exact ⟨rfl, N118⟩
              · refine own_step (T' := T137_) (g' := (mkF m 156 #[.val (.int p1), .val (.int p2), .val (.int p3), .val (.int p4), .val (.int p5), .val (.int p6), .val (.ref b101), .val (.int (1 : Int32)), .unset] [])) (fun t_ k_ => XS.icmpNo X137_.here hx rfl (hb hby at_153) rfl (feq hc153_117).1 k_) ?_
                refine own_step (T' := T137_) (g' := (mkF m 158 #[.val (.int p1), .val (.int p2), .val (.int p3), .val (.int p4), .val (.int p5), .val (.int p6), .val (.ref b101), .val (.int (1 : Int32)), .unset] [(.int p6)])) (fun t_ k_ => XS.iload X137_.here hx rfl (hb hby at_156) rfl k_) ?_
                refine own_step (T' := T137_) (g' := (mkF m 159 #[.val (.int p1), .val (.int p2), .val (.int p3), .val (.int p4), .val (.int p5), .val (.int p6), .val (.ref b101), .val (.int (1 : Int32)), .unset] [(.int p2), (.int p6)])) (fun t_ k_ => XS.iloadN X137_.here hx rfl (hb hby at_158) rfl k_) ?_
                by_cases hc159_119 : p6 = p2
                · refine own_step (T' := T137_) (g' := (mkF m 181 #[.val (.int p1), .val (.int p2), .val (.int p3), .val (.int p4), .val (.int p5), .val (.int p6), .val (.ref b101), .val (.int (1 : Int32)), .unset] [])) (fun t_ k_ => XS.icmpYes X137_.here hx rfl (pc0 := 159) (pc' := 181) rfl (hb hby at_159) rfl (teq hc159_119).1 (by decide) (by decide) k_) ?_
                  refine own_step (T' := T137_) (g' := (mkF m 182 #[.val (.int p1), .val (.int p2), .val (.int p3), .val (.int p4), .val (.int p5), .val (.int p6), .val (.ref b101), .val (.int (1 : Int32)), .unset] [(.int (1 : Int32))])) (fun t_ k_ => XS.iconst X137_.here hx rfl (hb hby at_181) k_) ?_
                  refine own_step (T' := T137_) (g' := (mkF m 186 #[.val (.int p1), .val (.int p2), .val (.int p3), .val (.int p4), .val (.int p5), .val (.int p6), .val (.ref b101), .val (.int (1 : Int32)), .unset] [(.int (1 : Int32))])) (fun t_ k_ => XS.goto X137_.here hx rfl (pc0 := 182) (pc' := 186) rfl (hb hby at_182) (by decide) (by decide) k_) ?_
                  refine own_step (T' := T137_) (g' := (mkF m 188 #[.val (.int p1), .val (.int p2), .val (.int p3), .val (.int p4), .val (.int p5), .val (.int p6), .val (.ref b101), .val (.int (1 : Int32)), .val (.int (1 : Int32))] [])) (fun t_ k_ => XS.istore X137_.here hx rfl (hb hby at_186) rfl (l' := #[.val (.int p1), .val (.int p2), .val (.int p3), .val (.int p4), .val (.int p5), .val (.int p6), .val (.ref b101), .val (.int (1 : Int32)), .val (.int (1 : Int32))]) rfl k_) ?_
                  refine own_step (T' := T137_) (g' := (mkF m 190 #[.val (.int p1), .val (.int p2), .val (.int p3), .val (.int p4), .val (.int p5), .val (.int p6), .val (.ref b101), .val (.int (1 : Int32)), .val (.int (1 : Int32))] [(.int (1 : Int32))])) (fun t_ k_ => XS.iload X137_.here hx rfl (hb hby at_188) rfl k_) ?_
                  refine own_step (T' := T137_) (g' := (mkF m 193 #[.val (.int p1), .val (.int p2), .val (.int p3), .val (.int p4), .val (.int p5), .val (.int p6), .val (.ref b101), .val (.int (1 : Int32)), .val (.int (1 : Int32))] [])) (fun t_ k_ => XS.ifNo X137_.here hx rfl (hb hby at_190) rfl ((if0 _ _).trans (feq (by decide)).1) k_) ?_
                  refine own_step (T' := T137_) (g' := (mkF m 195 #[.val (.int p1), .val (.int p2), .val (.int p3), .val (.int p4), .val (.int p5), .val (.int p6), .val (.ref b101), .val (.int (1 : Int32)), .val (.int (1 : Int32))] [(.ref b101)])) (fun t_ k_ => XS.aload X137_.here hx rfl (hb hby at_193) rfl rfl k_) ?_
                  refine own_step (T' := T137_) (g' := (mkF m 197 #[.val (.int p1), .val (.int p2), .val (.int p3), .val (.int p4), .val (.int p5), .val (.int p6), .val (.ref b101), .val (.int (1 : Int32)), .val (.int (1 : Int32))] [(.int p6), (.ref b101)])) (fun t_ k_ => XS.iload X137_.here hx rfl (hb hby at_195) rfl k_) ?_
                  obtain ⟨cq120, kq120, q120a, q120b, q120c⟩ := isOf hZ e137_ E9
                  obtain ⟨_, _, ⟨T120, L120, k120, n120⟩, -, X120, ⟨Lc120, hQ120, l120, y120, z120⟩, st120⟩ := X137_.virtualBack hx (y := (⟨"com/example/rigger/rigger/container/EqualityClasses$Numbers", "contains", "(I)Z"⟩ : MethodName)) (z := (⟨"com/example/rigger/rigger/container/EqualityClasses$Numbers", "contains", "(I)Z"⟩ : MethodName)) hown (mvT hZ (hw _ (List.mem_of_getElem? (i := 34) rfl))) (mvT hZ (hw _ (List.mem_of_getElem? (i := 35) rfl))) (notFace_of_selects (args := #[]) (mvT hZ (hw _ (List.mem_of_getElem? (i := 37) rfl)))) (mvT hZ (hw _ (List.mem_of_getElem? (i := 37) rfl))) (mvT hZ (hw _ (List.mem_of_getElem? (i := 36) rfl))) (by decide) (backOf (W := 0) (rm_cont l Z a0 hw [] b101 p6 [p5, p4, p3, p2, p1] T113.heap n0 z114 hF) hZ (hw _ (List.mem_of_getElem? (i := 38) rfl)) (hw _ (List.mem_of_getElem? (i := 2) rfl)) (by decide) (by decide)) q120a q120c (g := (mkF m 197 #[.val (.int p1), .val (.int p2), .val (.int p3), .val (.int p4), .val (.int p5), .val (.int p6), .val (.ref b101), .val (.int (1 : Int32)), .val (.int (1 : Int32))] [(.int p6), (.ref b101)])) rfl (by rw [hml]; rfl) (Steps.refl _) (argsL := [(.int p6)]) (rest := []) (lenOf (by decide +kernel : parseMethodDescriptor "(I)Z" = some ⟨[.int], some .boolean⟩) rfl) rfl (by show 2 * 0 + _ ≤ _; exact Nat.le_of_eq rfl) (hb hby at_197) (fun _ _ => ⟨rfl, e137_, (by decide : 7 + 0 ≤ _), (by decide : 90 + 0 ≤ _)⟩)
                  dsimp only [Pt.U, Pt.locs, Pt.cells, Pt.slots] at X120 l120 y120 z120 st120 hQ120
                  subst l120 y120 z120
                  obtain ⟨rfl, Nq120, e120⟩ := hQ120
                  have N120 := Fr.app N137_ Nq120
                  refine own_to (T' := T120) (g' := (mkF m 200 #[.val (.int p1), .val (.int p2), .val (.int p3), .val (.int p4), .val (.int p5), .val (.int p6), .val (.ref b101), .val (.int (1 : Int32)), .val (.int (1 : Int32))] [(.int (own_c [p5, p4, p3, p2, p1] p6))])) st120 ?_
                  refine own_step (T' := T120) (g' := (mkF m 202 #[.val (.int p1), .val (.int p2), .val (.int p3), .val (.int p4), .val (.int p5), .val (.int p6), .val (.ref b101), .val (.int (1 : Int32)), .val (.int (1 : Int32))] [(.int (1 : Int32)), (.int (own_c [p5, p4, p3, p2, p1] p6))])) (fun t_ k_ => XS.iload X120.here hx rfl (hb hby at_200) rfl k_) ?_
                  refine own_step (T' := T120) (g' := (mkF m 205 #[.val (.int p1), .val (.int p2), .val (.int p3), .val (.int p4), .val (.int p5), .val (.int p6), .val (.ref b101), .val (.int (1 : Int32)), .val (.int (1 : Int32))] [])) (fun t_ k_ => XS.icmpNo X120.here hx rfl (hb hby at_202) rfl (teq (own_c1 hc147_115 (by rw [hc159_119]; simp))).2 k_) ?_
                  refine own_step (T' := T120) (g' := (mkF m 206 #[.val (.int p1), .val (.int p2), .val (.int p3), .val (.int p4), .val (.int p5), .val (.int p6), .val (.ref b101), .val (.int (1 : Int32)), .val (.int (1 : Int32))] [(.int (1 : Int32))])) (fun t_ k_ => XS.iconst X120.here hx rfl (hb hby at_205) k_) ?_
                  refine own_step (T' := T120) (g' := (mkF m 210 #[.val (.int p1), .val (.int p2), .val (.int p3), .val (.int p4), .val (.int p5), .val (.int p6), .val (.ref b101), .val (.int (1 : Int32)), .val (.int (1 : Int32))] [(.int (1 : Int32))])) (fun t_ k_ => XS.goto X120.here hx rfl (pc0 := 206) (pc' := 210) rfl (hb hby at_206) (by decide) (by decide) k_) ?_
                  obtain ⟨fs, hrR, hrun, hended, hWW, hsame⟩ := X120.leave (v := some (.int (1 : Int32))) (fun h => by rw [Bd.returns] at h; cases h)
                  refine ⟨_, _, own_retZ X120 hx (t := .boolean) Bd.returns (by simp) (by decide) (hb hby at_210) hrR, hrun, hended, hPP _ _ ⟨_, _, rfl, ?_, ⟨_, rfl⟩, hWW, hsame.mono (by decide) (by decide)⟩⟩
                  show Q0 n0 _ T120.heap _
                  rw [e120]
                  exact ⟨rfl, N120⟩
                · refine own_step (T' := T137_) (g' := (mkF m 162 #[.val (.int p1), .val (.int p2), .val (.int p3), .val (.int p4), .val (.int p5), .val (.int p6), .val (.ref b101), .val (.int (1 : Int32)), .unset] [])) (fun t_ k_ => XS.icmpNo X137_.here hx rfl (hb hby at_159) rfl (feq hc159_119).1 k_) ?_
                  refine own_step (T' := T137_) (g' := (mkF m 164 #[.val (.int p1), .val (.int p2), .val (.int p3), .val (.int p4), .val (.int p5), .val (.int p6), .val (.ref b101), .val (.int (1 : Int32)), .unset] [(.int p6)])) (fun t_ k_ => XS.iload X137_.here hx rfl (hb hby at_162) rfl k_) ?_
                  refine own_step (T' := T137_) (g' := (mkF m 165 #[.val (.int p1), .val (.int p2), .val (.int p3), .val (.int p4), .val (.int p5), .val (.int p6), .val (.ref b101), .val (.int (1 : Int32)), .unset] [(.int p3), (.int p6)])) (fun t_ k_ => XS.iloadN X137_.here hx rfl (hb hby at_164) rfl k_) ?_
                  by_cases hc165_121 : p6 = p3
                  · refine own_step (T' := T137_) (g' := (mkF m 181 #[.val (.int p1), .val (.int p2), .val (.int p3), .val (.int p4), .val (.int p5), .val (.int p6), .val (.ref b101), .val (.int (1 : Int32)), .unset] [])) (fun t_ k_ => XS.icmpYes X137_.here hx rfl (pc0 := 165) (pc' := 181) rfl (hb hby at_165) rfl (teq hc165_121).1 (by decide) (by decide) k_) ?_
                    refine own_step (T' := T137_) (g' := (mkF m 182 #[.val (.int p1), .val (.int p2), .val (.int p3), .val (.int p4), .val (.int p5), .val (.int p6), .val (.ref b101), .val (.int (1 : Int32)), .unset] [(.int (1 : Int32))])) (fun t_ k_ => XS.iconst X137_.here hx rfl (hb hby at_181) k_) ?_
                    refine own_step (T' := T137_) (g' := (mkF m 186 #[.val (.int p1), .val (.int p2), .val (.int p3), .val (.int p4), .val (.int p5), .val (.int p6), .val (.ref b101), .val (.int (1 : Int32)), .unset] [(.int (1 : Int32))])) (fun t_ k_ => XS.goto X137_.here hx rfl (pc0 := 182) (pc' := 186) rfl (hb hby at_182) (by decide) (by decide) k_) ?_
                    refine own_step (T' := T137_) (g' := (mkF m 188 #[.val (.int p1), .val (.int p2), .val (.int p3), .val (.int p4), .val (.int p5), .val (.int p6), .val (.ref b101), .val (.int (1 : Int32)), .val (.int (1 : Int32))] [])) (fun t_ k_ => XS.istore X137_.here hx rfl (hb hby at_186) rfl (l' := #[.val (.int p1), .val (.int p2), .val (.int p3), .val (.int p4), .val (.int p5), .val (.int p6), .val (.ref b101), .val (.int (1 : Int32)), .val (.int (1 : Int32))]) rfl k_) ?_
                    refine own_step (T' := T137_) (g' := (mkF m 190 #[.val (.int p1), .val (.int p2), .val (.int p3), .val (.int p4), .val (.int p5), .val (.int p6), .val (.ref b101), .val (.int (1 : Int32)), .val (.int (1 : Int32))] [(.int (1 : Int32))])) (fun t_ k_ => XS.iload X137_.here hx rfl (hb hby at_188) rfl k_) ?_
                    refine own_step (T' := T137_) (g' := (mkF m 193 #[.val (.int p1), .val (.int p2), .val (.int p3), .val (.int p4), .val (.int p5), .val (.int p6), .val (.ref b101), .val (.int (1 : Int32)), .val (.int (1 : Int32))] [])) (fun t_ k_ => XS.ifNo X137_.here hx rfl (hb hby at_190) rfl ((if0 _ _).trans (feq (by decide)).1) k_) ?_
                    refine own_step (T' := T137_) (g' := (mkF m 195 #[.val (.int p1), .val (.int p2), .val (.int p3), .val (.int p4), .val (.int p5), .val (.int p6), .val (.ref b101), .val (.int (1 : Int32)), .val (.int (1 : Int32))] [(.ref b101)])) (fun t_ k_ => XS.aload X137_.here hx rfl (hb hby at_193) rfl rfl k_) ?_
                    refine own_step (T' := T137_) (g' := (mkF m 197 #[.val (.int p1), .val (.int p2), .val (.int p3), .val (.int p4), .val (.int p5), .val (.int p6), .val (.ref b101), .val (.int (1 : Int32)), .val (.int (1 : Int32))] [(.int p6), (.ref b101)])) (fun t_ k_ => XS.iload X137_.here hx rfl (hb hby at_195) rfl k_) ?_
                    obtain ⟨cq122, kq122, q122a, q122b, q122c⟩ := isOf hZ e137_ E9
                    obtain ⟨_, _, ⟨T122, L122, k122, n122⟩, -, X122, ⟨Lc122, hQ122, l122, y122, z122⟩, st122⟩ := X137_.virtualBack hx (y := (⟨"com/example/rigger/rigger/container/EqualityClasses$Numbers", "contains", "(I)Z"⟩ : MethodName)) (z := (⟨"com/example/rigger/rigger/container/EqualityClasses$Numbers", "contains", "(I)Z"⟩ : MethodName)) hown (mvT hZ (hw _ (List.mem_of_getElem? (i := 34) rfl))) (mvT hZ (hw _ (List.mem_of_getElem? (i := 35) rfl))) (notFace_of_selects (args := #[]) (mvT hZ (hw _ (List.mem_of_getElem? (i := 37) rfl)))) (mvT hZ (hw _ (List.mem_of_getElem? (i := 37) rfl))) (mvT hZ (hw _ (List.mem_of_getElem? (i := 36) rfl))) (by decide) (backOf (W := 0) (rm_cont l Z a0 hw [] b101 p6 [p5, p4, p3, p2, p1] T113.heap n0 z114 hF) hZ (hw _ (List.mem_of_getElem? (i := 38) rfl)) (hw _ (List.mem_of_getElem? (i := 2) rfl)) (by decide) (by decide)) q122a q122c (g := (mkF m 197 #[.val (.int p1), .val (.int p2), .val (.int p3), .val (.int p4), .val (.int p5), .val (.int p6), .val (.ref b101), .val (.int (1 : Int32)), .val (.int (1 : Int32))] [(.int p6), (.ref b101)])) rfl (by rw [hml]; rfl) (Steps.refl _) (argsL := [(.int p6)]) (rest := []) (lenOf (by decide +kernel : parseMethodDescriptor "(I)Z" = some ⟨[.int], some .boolean⟩) rfl) rfl (by show 2 * 0 + _ ≤ _; exact Nat.le_of_eq rfl) (hb hby at_197) (fun _ _ => ⟨rfl, e137_, (by decide : 7 + 0 ≤ _), (by decide : 90 + 0 ≤ _)⟩)
                    dsimp only [Pt.U, Pt.locs, Pt.cells, Pt.slots] at X122 l122 y122 z122 st122 hQ122
                    subst l122 y122 z122
                    obtain ⟨rfl, Nq122, e122⟩ := hQ122
                    have N122 := Fr.app N137_ Nq122
                    refine own_to (T' := T122) (g' := (mkF m 200 #[.val (.int p1), .val (.int p2), .val (.int p3), .val (.int p4), .val (.int p5), .val (.int p6), .val (.ref b101), .val (.int (1 : Int32)), .val (.int (1 : Int32))] [(.int (own_c [p5, p4, p3, p2, p1] p6))])) st122 ?_
                    refine own_step (T' := T122) (g' := (mkF m 202 #[.val (.int p1), .val (.int p2), .val (.int p3), .val (.int p4), .val (.int p5), .val (.int p6), .val (.ref b101), .val (.int (1 : Int32)), .val (.int (1 : Int32))] [(.int (1 : Int32)), (.int (own_c [p5, p4, p3, p2, p1] p6))])) (fun t_ k_ => XS.iload X122.here hx rfl (hb hby at_200) rfl k_) ?_
                    refine own_step (T' := T122) (g' := (mkF m 205 #[.val (.int p1), .val (.int p2), .val (.int p3), .val (.int p4), .val (.int p5), .val (.int p6), .val (.ref b101), .val (.int (1 : Int32)), .val (.int (1 : Int32))] [])) (fun t_ k_ => XS.icmpNo X122.here hx rfl (hb hby at_202) rfl (teq (own_c1 hc147_115 (by rw [hc165_121]; simp))).2 k_) ?_
                    refine own_step (T' := T122) (g' := (mkF m 206 #[.val (.int p1), .val (.int p2), .val (.int p3), .val (.int p4), .val (.int p5), .val (.int p6), .val (.ref b101), .val (.int (1 : Int32)), .val (.int (1 : Int32))] [(.int (1 : Int32))])) (fun t_ k_ => XS.iconst X122.here hx rfl (hb hby at_205) k_) ?_
                    refine own_step (T' := T122) (g' := (mkF m 210 #[.val (.int p1), .val (.int p2), .val (.int p3), .val (.int p4), .val (.int p5), .val (.int p6), .val (.ref b101), .val (.int (1 : Int32)), .val (.int (1 : Int32))] [(.int (1 : Int32))])) (fun t_ k_ => XS.goto X122.here hx rfl (pc0 := 206) (pc' := 210) rfl (hb hby at_206) (by decide) (by decide) k_) ?_
                    obtain ⟨fs, hrR, hrun, hended, hWW, hsame⟩ := X122.leave (v := some (.int (1 : Int32))) (fun h => by rw [Bd.returns] at h; cases h)
                    refine ⟨_, _, own_retZ X122 hx (t := .boolean) Bd.returns (by simp) (by decide) (hb hby at_210) hrR, hrun, hended, hPP _ _ ⟨_, _, rfl, ?_, ⟨_, rfl⟩, hWW, hsame.mono (by decide) (by decide)⟩⟩
                    show Q0 n0 _ T122.heap _
                    rw [e122]
                    exact ⟨rfl, N122⟩
                  · refine own_step (T' := T137_) (g' := (mkF m 168 #[.val (.int p1), .val (.int p2), .val (.int p3), .val (.int p4), .val (.int p5), .val (.int p6), .val (.ref b101), .val (.int (1 : Int32)), .unset] [])) (fun t_ k_ => XS.icmpNo X137_.here hx rfl (hb hby at_165) rfl (feq hc165_121).1 k_) ?_
                    refine own_step (T' := T137_) (g' := (mkF m 170 #[.val (.int p1), .val (.int p2), .val (.int p3), .val (.int p4), .val (.int p5), .val (.int p6), .val (.ref b101), .val (.int (1 : Int32)), .unset] [(.int p6)])) (fun t_ k_ => XS.iload X137_.here hx rfl (hb hby at_168) rfl k_) ?_
                    refine own_step (T' := T137_) (g' := (mkF m 171 #[.val (.int p1), .val (.int p2), .val (.int p3), .val (.int p4), .val (.int p5), .val (.int p6), .val (.ref b101), .val (.int (1 : Int32)), .unset] [(.int p4), (.int p6)])) (fun t_ k_ => XS.iloadN X137_.here hx rfl (hb hby at_170) rfl k_) ?_
                    by_cases hc171_123 : p6 = p4
                    · refine own_step (T' := T137_) (g' := (mkF m 181 #[.val (.int p1), .val (.int p2), .val (.int p3), .val (.int p4), .val (.int p5), .val (.int p6), .val (.ref b101), .val (.int (1 : Int32)), .unset] [])) (fun t_ k_ => XS.icmpYes X137_.here hx rfl (pc0 := 171) (pc' := 181) rfl (hb hby at_171) rfl (teq hc171_123).1 (by decide) (by decide) k_) ?_
                      refine own_step (T' := T137_) (g' := (mkF m 182 #[.val (.int p1), .val (.int p2), .val (.int p3), .val (.int p4), .val (.int p5), .val (.int p6), .val (.ref b101), .val (.int (1 : Int32)), .unset] [(.int (1 : Int32))])) (fun t_ k_ => XS.iconst X137_.here hx rfl (hb hby at_181) k_) ?_
                      refine own_step (T' := T137_) (g' := (mkF m 186 #[.val (.int p1), .val (.int p2), .val (.int p3), .val (.int p4), .val (.int p5), .val (.int p6), .val (.ref b101), .val (.int (1 : Int32)), .unset] [(.int (1 : Int32))])) (fun t_ k_ => XS.goto X137_.here hx rfl (pc0 := 182) (pc' := 186) rfl (hb hby at_182) (by decide) (by decide) k_) ?_
                      refine own_step (T' := T137_) (g' := (mkF m 188 #[.val (.int p1), .val (.int p2), .val (.int p3), .val (.int p4), .val (.int p5), .val (.int p6), .val (.ref b101), .val (.int (1 : Int32)), .val (.int (1 : Int32))] [])) (fun t_ k_ => XS.istore X137_.here hx rfl (hb hby at_186) rfl (l' := #[.val (.int p1), .val (.int p2), .val (.int p3), .val (.int p4), .val (.int p5), .val (.int p6), .val (.ref b101), .val (.int (1 : Int32)), .val (.int (1 : Int32))]) rfl k_) ?_
                      refine own_step (T' := T137_) (g' := (mkF m 190 #[.val (.int p1), .val (.int p2), .val (.int p3), .val (.int p4), .val (.int p5), .val (.int p6), .val (.ref b101), .val (.int (1 : Int32)), .val (.int (1 : Int32))] [(.int (1 : Int32))])) (fun t_ k_ => XS.iload X137_.here hx rfl (hb hby at_188) rfl k_) ?_
                      refine own_step (T' := T137_) (g' := (mkF m 193 #[.val (.int p1), .val (.int p2), .val (.int p3), .val (.int p4), .val (.int p5), .val (.int p6), .val (.ref b101), .val (.int (1 : Int32)), .val (.int (1 : Int32))] [])) (fun t_ k_ => XS.ifNo X137_.here hx rfl (hb hby at_190) rfl ((if0 _ _).trans (feq (by decide)).1) k_) ?_
                      refine own_step (T' := T137_) (g' := (mkF m 195 #[.val (.int p1), .val (.int p2), .val (.int p3), .val (.int p4), .val (.int p5), .val (.int p6), .val (.ref b101), .val (.int (1 : Int32)), .val (.int (1 : Int32))] [(.ref b101)])) (fun t_ k_ => XS.aload X137_.here hx rfl (hb hby at_193) rfl rfl k_) ?_
                      refine own_step (T' := T137_) (g' := (mkF m 197 #[.val (.int p1), .val (.int p2), .val (.int p3), .val (.int p4), .val (.int p5), .val (.int p6), .val (.ref b101), .val (.int (1 : Int32)), .val (.int (1 : Int32))] [(.int p6), (.ref b101)])) (fun t_ k_ => XS.iload X137_.here hx rfl (hb hby at_195) rfl k_) ?_
                      obtain ⟨cq124, kq124, q124a, q124b, q124c⟩ := isOf hZ e137_ E9
                      obtain ⟨_, _, ⟨T124, L124, k124, n124⟩, -, X124, ⟨Lc124, hQ124, l124, y124, z124⟩, st124⟩ := X137_.virtualBack hx (y := (⟨"com/example/rigger/rigger/container/EqualityClasses$Numbers", "contains", "(I)Z"⟩ : MethodName)) (z := (⟨"com/example/rigger/rigger/container/EqualityClasses$Numbers", "contains", "(I)Z"⟩ : MethodName)) hown (mvT hZ (hw _ (List.mem_of_getElem? (i := 34) rfl))) (mvT hZ (hw _ (List.mem_of_getElem? (i := 35) rfl))) (notFace_of_selects (args := #[]) (mvT hZ (hw _ (List.mem_of_getElem? (i := 37) rfl)))) (mvT hZ (hw _ (List.mem_of_getElem? (i := 37) rfl))) (mvT hZ (hw _ (List.mem_of_getElem? (i := 36) rfl))) (by decide) (backOf (W := 0) (rm_cont l Z a0 hw [] b101 p6 [p5, p4, p3, p2, p1] T113.heap n0 z114 hF) hZ (hw _ (List.mem_of_getElem? (i := 38) rfl)) (hw _ (List.mem_of_getElem? (i := 2) rfl)) (by decide) (by decide)) q124a q124c (g := (mkF m 197 #[.val (.int p1), .val (.int p2), .val (.int p3), .val (.int p4), .val (.int p5), .val (.int p6), .val (.ref b101), .val (.int (1 : Int32)), .val (.int (1 : Int32))] [(.int p6), (.ref b101)])) rfl (by rw [hml]; rfl) (Steps.refl _) (argsL := [(.int p6)]) (rest := []) (lenOf (by decide +kernel : parseMethodDescriptor "(I)Z" = some ⟨[.int], some .boolean⟩) rfl) rfl (by show 2 * 0 + _ ≤ _; exact Nat.le_of_eq rfl) (hb hby at_197) (fun _ _ => ⟨rfl, e137_, (by decide : 7 + 0 ≤ _), (by decide : 90 + 0 ≤ _)⟩)
                      dsimp only [Pt.U, Pt.locs, Pt.cells, Pt.slots] at X124 l124 y124 z124 st124 hQ124
                      subst l124 y124 z124
                      obtain ⟨rfl, Nq124, e124⟩ := hQ124
                      have N124 := Fr.app N137_ Nq124
                      refine own_to (T' := T124) (g' := (mkF m 200 #[.val (.int p1), .val (.int p2), .val (.int p3), .val (.int p4), .val (.int p5), .val (.int p6), .val (.ref b101), .val (.int (1 : Int32)), .val (.int (1 : Int32))] [(.int (own_c [p5, p4, p3, p2, p1] p6))])) st124 ?_
                      refine own_step (T' := T124) (g' := (mkF m 202 #[.val (.int p1), .val (.int p2), .val (.int p3), .val (.int p4), .val (.int p5), .val (.int p6), .val (.ref b101), .val (.int (1 : Int32)), .val (.int (1 : Int32))] [(.int (1 : Int32)), (.int (own_c [p5, p4, p3, p2, p1] p6))])) (fun t_ k_ => XS.iload X124.here hx rfl (hb hby at_200) rfl k_) ?_
                      refine own_step (T' := T124) (g' := (mkF m 205 #[.val (.int p1), .val (.int p2), .val (.int p3), .val (.int p4), .val (.int p5), .val (.int p6), .val (.ref b101), .val (.int (1 : Int32)), .val (.int (1 : Int32))] [])) (fun t_ k_ => XS.icmpNo X124.here hx rfl (hb hby at_202) rfl (teq (own_c1 hc147_115 (by rw [hc171_123]; simp))).2 k_) ?_
                      refine own_step (T' := T124) (g' := (mkF m 206 #[.val (.int p1), .val (.int p2), .val (.int p3), .val (.int p4), .val (.int p5), .val (.int p6), .val (.ref b101), .val (.int (1 : Int32)), .val (.int (1 : Int32))] [(.int (1 : Int32))])) (fun t_ k_ => XS.iconst X124.here hx rfl (hb hby at_205) k_) ?_
                      refine own_step (T' := T124) (g' := (mkF m 210 #[.val (.int p1), .val (.int p2), .val (.int p3), .val (.int p4), .val (.int p5), .val (.int p6), .val (.ref b101), .val (.int (1 : Int32)), .val (.int (1 : Int32))] [(.int (1 : Int32))])) (fun t_ k_ => XS.goto X124.here hx rfl (pc0 := 206) (pc' := 210) rfl (hb hby at_206) (by decide) (by decide) k_) ?_
                      obtain ⟨fs, hrR, hrun, hended, hWW, hsame⟩ := X124.leave (v := some (.int (1 : Int32))) (fun h => by rw [Bd.returns] at h; cases h)
                      refine ⟨_, _, own_retZ X124 hx (t := .boolean) Bd.returns (by simp) (by decide) (hb hby at_210) hrR, hrun, hended, hPP _ _ ⟨_, _, rfl, ?_, ⟨_, rfl⟩, hWW, hsame.mono (by decide) (by decide)⟩⟩
                      show Q0 n0 _ T124.heap _
                      rw [e124]
                      exact ⟨rfl, N124⟩
                    · refine own_step (T' := T137_) (g' := (mkF m 174 #[.val (.int p1), .val (.int p2), .val (.int p3), .val (.int p4), .val (.int p5), .val (.int p6), .val (.ref b101), .val (.int (1 : Int32)), .unset] [])) (fun t_ k_ => XS.icmpNo X137_.here hx rfl (hb hby at_171) rfl (feq hc171_123).1 k_) ?_
                      refine own_step (T' := T137_) (g' := (mkF m 176 #[.val (.int p1), .val (.int p2), .val (.int p3), .val (.int p4), .val (.int p5), .val (.int p6), .val (.ref b101), .val (.int (1 : Int32)), .unset] [(.int p6)])) (fun t_ k_ => XS.iload X137_.here hx rfl (hb hby at_174) rfl k_) ?_
                      refine own_step (T' := T137_) (g' := (mkF m 178 #[.val (.int p1), .val (.int p2), .val (.int p3), .val (.int p4), .val (.int p5), .val (.int p6), .val (.ref b101), .val (.int (1 : Int32)), .unset] [(.int p5), (.int p6)])) (fun t_ k_ => XS.iload X137_.here hx rfl (hb hby at_176) rfl k_) ?_
                      by_cases hc178_125 : p6 = p5
                      · refine own_step (T' := T137_) (g' := (mkF m 181 #[.val (.int p1), .val (.int p2), .val (.int p3), .val (.int p4), .val (.int p5), .val (.int p6), .val (.ref b101), .val (.int (1 : Int32)), .unset] [])) (fun t_ k_ => XS.icmpNo X137_.here hx rfl (hb hby at_178) rfl (teq hc178_125).2 k_) ?_
                        refine own_step (T' := T137_) (g' := (mkF m 182 #[.val (.int p1), .val (.int p2), .val (.int p3), .val (.int p4), .val (.int p5), .val (.int p6), .val (.ref b101), .val (.int (1 : Int32)), .unset] [(.int (1 : Int32))])) (fun t_ k_ => XS.iconst X137_.here hx rfl (hb hby at_181) k_) ?_
                        refine own_step (T' := T137_) (g' := (mkF m 186 #[.val (.int p1), .val (.int p2), .val (.int p3), .val (.int p4), .val (.int p5), .val (.int p6), .val (.ref b101), .val (.int (1 : Int32)), .unset] [(.int (1 : Int32))])) (fun t_ k_ => XS.goto X137_.here hx rfl (pc0 := 182) (pc' := 186) rfl (hb hby at_182) (by decide) (by decide) k_) ?_
                        refine own_step (T' := T137_) (g' := (mkF m 188 #[.val (.int p1), .val (.int p2), .val (.int p3), .val (.int p4), .val (.int p5), .val (.int p6), .val (.ref b101), .val (.int (1 : Int32)), .val (.int (1 : Int32))] [])) (fun t_ k_ => XS.istore X137_.here hx rfl (hb hby at_186) rfl (l' := #[.val (.int p1), .val (.int p2), .val (.int p3), .val (.int p4), .val (.int p5), .val (.int p6), .val (.ref b101), .val (.int (1 : Int32)), .val (.int (1 : Int32))]) rfl k_) ?_
                        refine own_step (T' := T137_) (g' := (mkF m 190 #[.val (.int p1), .val (.int p2), .val (.int p3), .val (.int p4), .val (.int p5), .val (.int p6), .val (.ref b101), .val (.int (1 : Int32)), .val (.int (1 : Int32))] [(.int (1 : Int32))])) (fun t_ k_ => XS.iload X137_.here hx rfl (hb hby at_188) rfl k_) ?_
                        refine own_step (T' := T137_) (g' := (mkF m 193 #[.val (.int p1), .val (.int p2), .val (.int p3), .val (.int p4), .val (.int p5), .val (.int p6), .val (.ref b101), .val (.int (1 : Int32)), .val (.int (1 : Int32))] [])) (fun t_ k_ => XS.ifNo X137_.here hx rfl (hb hby at_190) rfl ((if0 _ _).trans (feq (by decide)).1) k_) ?_
                        refine own_step (T' := T137_) (g' := (mkF m 195 #[.val (.int p1), .val (.int p2), .val (.int p3), .val (.int p4), .val (.int p5), .val (.int p6), .val (.ref b101), .val (.int (1 : Int32)), .val (.int (1 : Int32))] [(.ref b101)])) (fun t_ k_ => XS.aload X137_.here hx rfl (hb hby at_193) rfl rfl k_) ?_
                        refine own_step (T' := T137_) (g' := (mkF m 197 #[.val (.int p1), .val (.int p2), .val (.int p3), .val (.int p4), .val (.int p5), .val (.int p6), .val (.ref b101), .val (.int (1 : Int32)), .val (.int (1 : Int32))] [(.int p6), (.ref b101)])) (fun t_ k_ => XS.iload X137_.here hx rfl (hb hby at_195) rfl k_) ?_
                        obtain ⟨cq126, kq126, q126a, q126b, q126c⟩ := isOf hZ e137_ E9
                        obtain ⟨_, _, ⟨T126, L126, k126, n126⟩, -, X126, ⟨Lc126, hQ126, l126, y126, z126⟩, st126⟩ := X137_.virtualBack hx (y := (⟨"com/example/rigger/rigger/container/EqualityClasses$Numbers", "contains", "(I)Z"⟩ : MethodName)) (z := (⟨"com/example/rigger/rigger/container/EqualityClasses$Numbers", "contains", "(I)Z"⟩ : MethodName)) hown (mvT hZ (hw _ (List.mem_of_getElem? (i := 34) rfl))) (mvT hZ (hw _ (List.mem_of_getElem? (i := 35) rfl))) (notFace_of_selects (args := #[]) (mvT hZ (hw _ (List.mem_of_getElem? (i := 37) rfl)))) (mvT hZ (hw _ (List.mem_of_getElem? (i := 37) rfl))) (mvT hZ (hw _ (List.mem_of_getElem? (i := 36) rfl))) (by decide) (backOf (W := 0) (rm_cont l Z a0 hw [] b101 p6 [p5, p4, p3, p2, p1] T113.heap n0 z114 hF) hZ (hw _ (List.mem_of_getElem? (i := 38) rfl)) (hw _ (List.mem_of_getElem? (i := 2) rfl)) (by decide) (by decide)) q126a q126c (g := (mkF m 197 #[.val (.int p1), .val (.int p2), .val (.int p3), .val (.int p4), .val (.int p5), .val (.int p6), .val (.ref b101), .val (.int (1 : Int32)), .val (.int (1 : Int32))] [(.int p6), (.ref b101)])) rfl (by rw [hml]; rfl) (Steps.refl _) (argsL := [(.int p6)]) (rest := []) (lenOf (by decide +kernel : parseMethodDescriptor "(I)Z" = some ⟨[.int], some .boolean⟩) rfl) rfl (by show 2 * 0 + _ ≤ _; exact Nat.le_of_eq rfl) (hb hby at_197) (fun _ _ => ⟨rfl, e137_, (by decide : 7 + 0 ≤ _), (by decide : 90 + 0 ≤ _)⟩)
                        dsimp only [Pt.U, Pt.locs, Pt.cells, Pt.slots] at X126 l126 y126 z126 st126 hQ126
                        subst l126 y126 z126
                        obtain ⟨rfl, Nq126, e126⟩ := hQ126
                        have N126 := Fr.app N137_ Nq126
                        refine own_to (T' := T126) (g' := (mkF m 200 #[.val (.int p1), .val (.int p2), .val (.int p3), .val (.int p4), .val (.int p5), .val (.int p6), .val (.ref b101), .val (.int (1 : Int32)), .val (.int (1 : Int32))] [(.int (own_c [p5, p4, p3, p2, p1] p6))])) st126 ?_
                        refine own_step (T' := T126) (g' := (mkF m 202 #[.val (.int p1), .val (.int p2), .val (.int p3), .val (.int p4), .val (.int p5), .val (.int p6), .val (.ref b101), .val (.int (1 : Int32)), .val (.int (1 : Int32))] [(.int (1 : Int32)), (.int (own_c [p5, p4, p3, p2, p1] p6))])) (fun t_ k_ => XS.iload X126.here hx rfl (hb hby at_200) rfl k_) ?_
                        refine own_step (T' := T126) (g' := (mkF m 205 #[.val (.int p1), .val (.int p2), .val (.int p3), .val (.int p4), .val (.int p5), .val (.int p6), .val (.ref b101), .val (.int (1 : Int32)), .val (.int (1 : Int32))] [])) (fun t_ k_ => XS.icmpNo X126.here hx rfl (hb hby at_202) rfl (teq (own_c1 hc147_115 (by rw [hc178_125]; simp))).2 k_) ?_
                        refine own_step (T' := T126) (g' := (mkF m 206 #[.val (.int p1), .val (.int p2), .val (.int p3), .val (.int p4), .val (.int p5), .val (.int p6), .val (.ref b101), .val (.int (1 : Int32)), .val (.int (1 : Int32))] [(.int (1 : Int32))])) (fun t_ k_ => XS.iconst X126.here hx rfl (hb hby at_205) k_) ?_
                        refine own_step (T' := T126) (g' := (mkF m 210 #[.val (.int p1), .val (.int p2), .val (.int p3), .val (.int p4), .val (.int p5), .val (.int p6), .val (.ref b101), .val (.int (1 : Int32)), .val (.int (1 : Int32))] [(.int (1 : Int32))])) (fun t_ k_ => XS.goto X126.here hx rfl (pc0 := 206) (pc' := 210) rfl (hb hby at_206) (by decide) (by decide) k_) ?_
                        obtain ⟨fs, hrR, hrun, hended, hWW, hsame⟩ := X126.leave (v := some (.int (1 : Int32))) (fun h => by rw [Bd.returns] at h; cases h)
                        refine ⟨_, _, own_retZ X126 hx (t := .boolean) Bd.returns (by simp) (by decide) (hb hby at_210) hrR, hrun, hended, hPP _ _ ⟨_, _, rfl, ?_, ⟨_, rfl⟩, hWW, hsame.mono (by decide) (by decide)⟩⟩
                        show Q0 n0 _ T126.heap _
                        rw [e126]
                        exact ⟨rfl, N126⟩
                      · refine own_step (T' := T137_) (g' := (mkF m 185 #[.val (.int p1), .val (.int p2), .val (.int p3), .val (.int p4), .val (.int p5), .val (.int p6), .val (.ref b101), .val (.int (1 : Int32)), .unset] [])) (fun t_ k_ => XS.icmpYes X137_.here hx rfl (pc0 := 178) (pc' := 185) rfl (hb hby at_178) rfl (feq hc178_125).2 (by decide) (by decide) k_) ?_
                        refine own_step (T' := T137_) (g' := (mkF m 186 #[.val (.int p1), .val (.int p2), .val (.int p3), .val (.int p4), .val (.int p5), .val (.int p6), .val (.ref b101), .val (.int (1 : Int32)), .unset] [(.int (0 : Int32))])) (fun t_ k_ => XS.iconst X137_.here hx rfl (hb hby at_185) k_) ?_
                        refine own_step (T' := T137_) (g' := (mkF m 188 #[.val (.int p1), .val (.int p2), .val (.int p3), .val (.int p4), .val (.int p5), .val (.int p6), .val (.ref b101), .val (.int (1 : Int32)), .val (.int (0 : Int32))] [])) (fun t_ k_ => XS.istore X137_.here hx rfl (hb hby at_186) rfl (l' := #[.val (.int p1), .val (.int p2), .val (.int p3), .val (.int p4), .val (.int p5), .val (.int p6), .val (.ref b101), .val (.int (1 : Int32)), .val (.int (0 : Int32))]) rfl k_) ?_
                        refine own_step (T' := T137_) (g' := (mkF m 190 #[.val (.int p1), .val (.int p2), .val (.int p3), .val (.int p4), .val (.int p5), .val (.int p6), .val (.ref b101), .val (.int (1 : Int32)), .val (.int (0 : Int32))] [(.int (1 : Int32))])) (fun t_ k_ => XS.iload X137_.here hx rfl (hb hby at_188) rfl k_) ?_
                        refine own_step (T' := T137_) (g' := (mkF m 193 #[.val (.int p1), .val (.int p2), .val (.int p3), .val (.int p4), .val (.int p5), .val (.int p6), .val (.ref b101), .val (.int (1 : Int32)), .val (.int (0 : Int32))] [])) (fun t_ k_ => XS.ifNo X137_.here hx rfl (hb hby at_190) rfl ((if0 _ _).trans (feq (by decide)).1) k_) ?_
                        refine own_step (T' := T137_) (g' := (mkF m 195 #[.val (.int p1), .val (.int p2), .val (.int p3), .val (.int p4), .val (.int p5), .val (.int p6), .val (.ref b101), .val (.int (1 : Int32)), .val (.int (0 : Int32))] [(.ref b101)])) (fun t_ k_ => XS.aload X137_.here hx rfl (hb hby at_193) rfl rfl k_) ?_
                        refine own_step (T' := T137_) (g' := (mkF m 197 #[.val (.int p1), .val (.int p2), .val (.int p3), .val (.int p4), .val (.int p5), .val (.int p6), .val (.ref b101), .val (.int (1 : Int32)), .val (.int (0 : Int32))] [(.int p6), (.ref b101)])) (fun t_ k_ => XS.iload X137_.here hx rfl (hb hby at_195) rfl k_) ?_
                        obtain ⟨cq127, kq127, q127a, q127b, q127c⟩ := isOf hZ e137_ E9
                        obtain ⟨_, _, ⟨T127, L127, k127, n127⟩, -, X127, ⟨Lc127, hQ127, l127, y127, z127⟩, st127⟩ := X137_.virtualBack hx (y := (⟨"com/example/rigger/rigger/container/EqualityClasses$Numbers", "contains", "(I)Z"⟩ : MethodName)) (z := (⟨"com/example/rigger/rigger/container/EqualityClasses$Numbers", "contains", "(I)Z"⟩ : MethodName)) hown (mvT hZ (hw _ (List.mem_of_getElem? (i := 34) rfl))) (mvT hZ (hw _ (List.mem_of_getElem? (i := 35) rfl))) (notFace_of_selects (args := #[]) (mvT hZ (hw _ (List.mem_of_getElem? (i := 37) rfl)))) (mvT hZ (hw _ (List.mem_of_getElem? (i := 37) rfl))) (mvT hZ (hw _ (List.mem_of_getElem? (i := 36) rfl))) (by decide) (backOf (W := 0) (rm_cont l Z a0 hw [] b101 p6 [p5, p4, p3, p2, p1] T113.heap n0 z114 hF) hZ (hw _ (List.mem_of_getElem? (i := 38) rfl)) (hw _ (List.mem_of_getElem? (i := 2) rfl)) (by decide) (by decide)) q127a q127c (g := (mkF m 197 #[.val (.int p1), .val (.int p2), .val (.int p3), .val (.int p4), .val (.int p5), .val (.int p6), .val (.ref b101), .val (.int (1 : Int32)), .val (.int (0 : Int32))] [(.int p6), (.ref b101)])) rfl (by rw [hml]; rfl) (Steps.refl _) (argsL := [(.int p6)]) (rest := []) (lenOf (by decide +kernel : parseMethodDescriptor "(I)Z" = some ⟨[.int], some .boolean⟩) rfl) rfl (by show 2 * 0 + _ ≤ _; exact Nat.le_of_eq rfl) (hb hby at_197) (fun _ _ => ⟨rfl, e137_, (by decide : 7 + 0 ≤ _), (by decide : 90 + 0 ≤ _)⟩)
                        dsimp only [Pt.U, Pt.locs, Pt.cells, Pt.slots] at X127 l127 y127 z127 st127 hQ127
                        subst l127 y127 z127
                        obtain ⟨rfl, Nq127, e127⟩ := hQ127
                        have N127 := Fr.app N137_ Nq127
                        refine own_to (T' := T127) (g' := (mkF m 200 #[.val (.int p1), .val (.int p2), .val (.int p3), .val (.int p4), .val (.int p5), .val (.int p6), .val (.ref b101), .val (.int (1 : Int32)), .val (.int (0 : Int32))] [(.int (own_c [p5, p4, p3, p2, p1] p6))])) st127 ?_
                        refine own_step (T' := T127) (g' := (mkF m 202 #[.val (.int p1), .val (.int p2), .val (.int p3), .val (.int p4), .val (.int p5), .val (.int p6), .val (.ref b101), .val (.int (1 : Int32)), .val (.int (0 : Int32))] [(.int (0 : Int32)), (.int (own_c [p5, p4, p3, p2, p1] p6))])) (fun t_ k_ => XS.iload X127.here hx rfl (hb hby at_200) rfl k_) ?_
                        refine own_step (T' := T127) (g' := (mkF m 205 #[.val (.int p1), .val (.int p2), .val (.int p3), .val (.int p4), .val (.int p5), .val (.int p6), .val (.ref b101), .val (.int (1 : Int32)), .val (.int (0 : Int32))] [])) (fun t_ k_ => XS.icmpNo X127.here hx rfl (hb hby at_202) rfl (teq (by simp [own_c, hc147_115, hc153_117, hc159_119, hc165_121, hc171_123, hc178_125])).2 k_) ?_
                        refine own_step (T' := T127) (g' := (mkF m 206 #[.val (.int p1), .val (.int p2), .val (.int p3), .val (.int p4), .val (.int p5), .val (.int p6), .val (.ref b101), .val (.int (1 : Int32)), .val (.int (0 : Int32))] [(.int (1 : Int32))])) (fun t_ k_ => XS.iconst X127.here hx rfl (hb hby at_205) k_) ?_
                        refine own_step (T' := T127) (g' := (mkF m 210 #[.val (.int p1), .val (.int p2), .val (.int p3), .val (.int p4), .val (.int p5), .val (.int p6), .val (.ref b101), .val (.int (1 : Int32)), .val (.int (0 : Int32))] [(.int (1 : Int32))])) (fun t_ k_ => XS.goto X127.here hx rfl (pc0 := 206) (pc' := 210) rfl (hb hby at_206) (by decide) (by decide) k_) ?_
                        obtain ⟨fs, hrR, hrun, hended, hWW, hsame⟩ := X127.leave (v := some (.int (1 : Int32))) (fun h => by rw [Bd.returns] at h; cases h)
                        refine ⟨_, _, own_retZ X127 hx (t := .boolean) Bd.returns (by simp) (by decide) (hb hby at_210) hrR, hrun, hended, hPP _ _ ⟨_, _, rfl, ?_, ⟨_, rfl⟩, hWW, hsame.mono (by decide) (by decide)⟩⟩
                        show Q0 n0 _ T127.heap _
                        rw [e127]
                        exact ⟨rfl, N127⟩
          refine own_step (T' := T116_) (g' := (mkF m 118 #[.val (.int p1), .val (.int p2), .val (.int p3), .val (.int p4), .val (.int p5), .val (.int p6), .val (.ref b101), .unset, .unset] [(.ref b101)])) (fun t_ k_ => XS.aload X116_.here hx rfl (hb hby at_116) rfl rfl k_) ?_
          refine own_step (T' := T116_) (g' := (mkF m 120 #[.val (.int p1), .val (.int p2), .val (.int p3), .val (.int p4), .val (.int p5), .val (.int p6), .val (.ref b101), .unset, .unset] [(.int p5), (.ref b101)])) (fun t_ k_ => XS.iload X116_.here hx rfl (hb hby at_118) rfl k_) ?_
          obtain ⟨cq128, kq128, q128a, q128b, q128c⟩ := isOf hZ e116_ E9
          obtain ⟨_, _, ⟨T128, L128, k128, n128⟩, -, X128, ⟨Lc128, hQ128, l128, y128, z128⟩, st128⟩ := X116_.virtualBack hx (y := (⟨"com/example/rigger/rigger/container/EqualityClasses$Numbers", "contains", "(I)Z"⟩ : MethodName)) (z := (⟨"com/example/rigger/rigger/container/EqualityClasses$Numbers", "contains", "(I)Z"⟩ : MethodName)) hown (mvT hZ (hw _ (List.mem_of_getElem? (i := 34) rfl))) (mvT hZ (hw _ (List.mem_of_getElem? (i := 35) rfl))) (notFace_of_selects (args := #[]) (mvT hZ (hw _ (List.mem_of_getElem? (i := 37) rfl)))) (mvT hZ (hw _ (List.mem_of_getElem? (i := 37) rfl))) (mvT hZ (hw _ (List.mem_of_getElem? (i := 36) rfl))) (by decide) (backOf (W := 0) (rm_cont l Z a0 hw [] b101 p5 [p5, p4, p3, p2, p1] T113.heap n0 z114 hF) hZ (hw _ (List.mem_of_getElem? (i := 38) rfl)) (hw _ (List.mem_of_getElem? (i := 2) rfl)) (by decide) (by decide)) q128a q128c (g := (mkF m 120 #[.val (.int p1), .val (.int p2), .val (.int p3), .val (.int p4), .val (.int p5), .val (.int p6), .val (.ref b101), .unset, .unset] [(.int p5), (.ref b101)])) rfl (by rw [hml]; rfl) (Steps.refl _) (argsL := [(.int p5)]) (rest := []) (lenOf (by decide +kernel : parseMethodDescriptor "(I)Z" = some ⟨[.int], some .boolean⟩) rfl) rfl (by show 2 * 0 + _ ≤ _; exact Nat.le_of_eq rfl) (hb hby at_120) (fun _ _ => ⟨rfl, e116_, (by decide : 7 + 0 ≤ _), (by decide : 90 + 0 ≤ _)⟩)
          dsimp only [Pt.U, Pt.locs, Pt.cells, Pt.slots] at X128 l128 y128 z128 st128 hQ128
          subst l128 y128 z128
          obtain ⟨rfl, Nq128, e128⟩ := hQ128
          have N128 := Fr.app N116_ Nq128
          refine own_to (T' := T128) (g' := (mkF m 123 #[.val (.int p1), .val (.int p2), .val (.int p3), .val (.int p4), .val (.int p5), .val (.int p6), .val (.ref b101), .unset, .unset] [(.int (own_c [p5, p4, p3, p2, p1] p5))])) st128 ?_
          refine own_step (T' := T128) (g' := (mkF m 125 #[.val (.int p1), .val (.int p2), .val (.int p3), .val (.int p4), .val (.int p5), .val (.int p6), .val (.ref b101), .unset, .unset] [(.int p5), (.int (own_c [p5, p4, p3, p2, p1] p5))])) (fun t_ k_ => XS.iload X128.here hx rfl (hb hby at_123) rfl k_) ?_
          refine own_step (T' := T128) (g' := (mkF m 126 #[.val (.int p1), .val (.int p2), .val (.int p3), .val (.int p4), .val (.int p5), .val (.int p6), .val (.ref b101), .unset, .unset] [(.int (-1 : Int32)), (.int p5), (.int (own_c [p5, p4, p3, p2, p1] p5))])) (fun t_ k_ => XS.iconst X128.here hx rfl (hb hby at_125) k_) ?_
          by_cases hc126_129 : p5 = (-1 : Int32)
          · refine own_step (T' := T128) (g' := (mkF m 133 #[.val (.int p1), .val (.int p2), .val (.int p3), .val (.int p4), .val (.int p5), .val (.int p6), .val (.ref b101), .unset, .unset] [(.int (own_c [p5, p4, p3, p2, p1] p5))])) (fun t_ k_ => XS.icmpYes X128.here hx rfl (pc0 := 126) (pc' := 133) rfl (hb hby at_126) rfl (teq hc126_129).1 (by decide) (by decide) k_) ?_
            refine own_step (T' := T128) (g' := (mkF m 134 #[.val (.int p1), .val (.int p2), .val (.int p3), .val (.int p4), .val (.int p5), .val (.int p6), .val (.ref b101), .unset, .unset] [(.int (0 : Int32)), (.int (own_c [p5, p4, p3, p2, p1] p5))])) (fun t_ k_ => XS.iconst X128.here hx rfl (hb hby at_133) k_) ?_
            refine own_step (T' := T128) (g' := (mkF m 137 #[.val (.int p1), .val (.int p2), .val (.int p3), .val (.int p4), .val (.int p5), .val (.int p6), .val (.ref b101), .unset, .unset] [])) (fun t_ k_ => XS.icmpNo X128.here hx rfl (hb hby at_134) rfl (teq (by simp [own_c, hc126_129])).2 k_) ?_
            exact k137 _ _ X128 e128 N128
          · refine own_step (T' := T128) (g' := (mkF m 129 #[.val (.int p1), .val (.int p2), .val (.int p3), .val (.int p4), .val (.int p5), .val (.int p6), .val (.ref b101), .unset, .unset] [(.int (own_c [p5, p4, p3, p2, p1] p5))])) (fun t_ k_ => XS.icmpNo X128.here hx rfl (hb hby at_126) rfl (feq hc126_129).1 k_) ?_
            refine own_step (T' := T128) (g' := (mkF m 130 #[.val (.int p1), .val (.int p2), .val (.int p3), .val (.int p4), .val (.int p5), .val (.int p6), .val (.ref b101), .unset, .unset] [(.int (1 : Int32)), (.int (own_c [p5, p4, p3, p2, p1] p5))])) (fun t_ k_ => XS.iconst X128.here hx rfl (hb hby at_129) k_) ?_
            refine own_step (T' := T128) (g' := (mkF m 134 #[.val (.int p1), .val (.int p2), .val (.int p3), .val (.int p4), .val (.int p5), .val (.int p6), .val (.ref b101), .unset, .unset] [(.int (1 : Int32)), (.int (own_c [p5, p4, p3, p2, p1] p5))])) (fun t_ k_ => XS.goto X128.here hx rfl (pc0 := 130) (pc' := 134) rfl (hb hby at_130) (by decide) (by decide) k_) ?_
            refine own_step (T' := T128) (g' := (mkF m 137 #[.val (.int p1), .val (.int p2), .val (.int p3), .val (.int p4), .val (.int p5), .val (.int p6), .val (.ref b101), .unset, .unset] [])) (fun t_ k_ => XS.icmpNo X128.here hx rfl (hb hby at_134) rfl (teq (by simp [own_c, hc126_129])).2 k_) ?_
            exact k137 _ _ X128 e128 N128
        refine own_step (T' := T97_) (g' := (mkF m 99 #[.val (.int p1), .val (.int p2), .val (.int p3), .val (.int p4), .val (.int p5), .val (.int p6), .val (.ref b101), .unset, .unset] [(.ref b101)])) (fun t_ k_ => XS.aload X97_.here hx rfl (hb hby at_97) rfl rfl k_) ?_
        refine own_step (T' := T97_) (g' := (mkF m 100 #[.val (.int p1), .val (.int p2), .val (.int p3), .val (.int p4), .val (.int p5), .val (.int p6), .val (.ref b101), .unset, .unset] [(.int p4), (.ref b101)])) (fun t_ k_ => XS.iloadN X97_.here hx rfl (hb hby at_99) rfl k_) ?_
        obtain ⟨cq130, kq130, q130a, q130b, q130c⟩ := isOf hZ e97_ E9
        obtain ⟨_, _, ⟨T130, L130, k130, n130⟩, -, X130, ⟨Lc130, hQ130, l130, y130, z130⟩, st130⟩ := X97_.virtualBack hx (y := (⟨"com/example/rigger/rigger/container/EqualityClasses$Numbers", "contains", "(I)Z"⟩ : MethodName)) (z := (⟨"com/example/rigger/rigger/container/EqualityClasses$Numbers", "contains", "(I)Z"⟩ : MethodName)) hown (mvT hZ (hw _ (List.mem_of_getElem? (i := 34) rfl))) (mvT hZ (hw _ (List.mem_of_getElem? (i := 35) rfl))) (notFace_of_selects (args := #[]) (mvT hZ (hw _ (List.mem_of_getElem? (i := 37) rfl)))) (mvT hZ (hw _ (List.mem_of_getElem? (i := 37) rfl))) (mvT hZ (hw _ (List.mem_of_getElem? (i := 36) rfl))) (by decide) (backOf (W := 0) (rm_cont l Z a0 hw [] b101 p4 [p5, p4, p3, p2, p1] T113.heap n0 z114 hF) hZ (hw _ (List.mem_of_getElem? (i := 38) rfl)) (hw _ (List.mem_of_getElem? (i := 2) rfl)) (by decide) (by decide)) q130a q130c (g := (mkF m 100 #[.val (.int p1), .val (.int p2), .val (.int p3), .val (.int p4), .val (.int p5), .val (.int p6), .val (.ref b101), .unset, .unset] [(.int p4), (.ref b101)])) rfl (by rw [hml]; rfl) (Steps.refl _) (argsL := [(.int p4)]) (rest := []) (lenOf (by decide +kernel : parseMethodDescriptor "(I)Z" = some ⟨[.int], some .boolean⟩) rfl) rfl (by show 2 * 0 + _ ≤ _; exact Nat.le_of_eq rfl) (hb hby at_100) (fun _ _ => ⟨rfl, e97_, (by decide : 7 + 0 ≤ _), (by decide : 90 + 0 ≤ _)⟩)
        dsimp only [Pt.U, Pt.locs, Pt.cells, Pt.slots] at X130 l130 y130 z130 st130 hQ130
        subst l130 y130 z130
        obtain ⟨rfl, Nq130, e130⟩ := hQ130
        have N130 := Fr.app N97_ Nq130
        refine own_to (T' := T130) (g' := (mkF m 103 #[.val (.int p1), .val (.int p2), .val (.int p3), .val (.int p4), .val (.int p5), .val (.int p6), .val (.ref b101), .unset, .unset] [(.int (own_c [p5, p4, p3, p2, p1] p4))])) st130 ?_
        refine own_step (T' := T130) (g' := (mkF m 104 #[.val (.int p1), .val (.int p2), .val (.int p3), .val (.int p4), .val (.int p5), .val (.int p6), .val (.ref b101), .unset, .unset] [(.int p4), (.int (own_c [p5, p4, p3, p2, p1] p4))])) (fun t_ k_ => XS.iloadN X130.here hx rfl (hb hby at_103) rfl k_) ?_
        refine own_step (T' := T130) (g' := (mkF m 105 #[.val (.int p1), .val (.int p2), .val (.int p3), .val (.int p4), .val (.int p5), .val (.int p6), .val (.ref b101), .unset, .unset] [(.int (-1 : Int32)), (.int p4), (.int (own_c [p5, p4, p3, p2, p1] p4))])) (fun t_ k_ => XS.iconst X130.here hx rfl (hb hby at_104) k_) ?_
        by_cases hc105_131 : p4 = (-1 : Int32)
        · refine own_step (T' := T130) (g' := (mkF m 112 #[.val (.int p1), .val (.int p2), .val (.int p3), .val (.int p4), .val (.int p5), .val (.int p6), .val (.ref b101), .unset, .unset] [(.int (own_c [p5, p4, p3, p2, p1] p4))])) (fun t_ k_ => XS.icmpYes X130.here hx rfl (pc0 := 105) (pc' := 112) rfl (hb hby at_105) rfl (teq hc105_131).1 (by decide) (by decide) k_) ?_
          refine own_step (T' := T130) (g' := (mkF m 113 #[.val (.int p1), .val (.int p2), .val (.int p3), .val (.int p4), .val (.int p5), .val (.int p6), .val (.ref b101), .unset, .unset] [(.int (0 : Int32)), (.int (own_c [p5, p4, p3, p2, p1] p4))])) (fun t_ k_ => XS.iconst X130.here hx rfl (hb hby at_112) k_) ?_
          refine own_step (T' := T130) (g' := (mkF m 116 #[.val (.int p1), .val (.int p2), .val (.int p3), .val (.int p4), .val (.int p5), .val (.int p6), .val (.ref b101), .unset, .unset] [])) (fun t_ k_ => XS.icmpNo X130.here hx rfl (hb hby at_113) rfl (teq (by simp [own_c, hc105_131])).2 k_) ?_
          exact k116 _ _ X130 e130 N130
        · refine own_step (T' := T130) (g' := (mkF m 108 #[.val (.int p1), .val (.int p2), .val (.int p3), .val (.int p4), .val (.int p5), .val (.int p6), .val (.ref b101), .unset, .unset] [(.int (own_c [p5, p4, p3, p2, p1] p4))])) (fun t_ k_ => XS.icmpNo X130.here hx rfl (hb hby at_105) rfl (feq hc105_131).1 k_) ?_
          refine own_step (T' := T130) (g' := (mkF m 109 #[.val (.int p1), .val (.int p2), .val (.int p3), .val (.int p4), .val (.int p5), .val (.int p6), .val (.ref b101), .unset, .unset] [(.int (1 : Int32)), (.int (own_c [p5, p4, p3, p2, p1] p4))])) (fun t_ k_ => XS.iconst X130.here hx rfl (hb hby at_108) k_) ?_
          refine own_step (T' := T130) (g' := (mkF m 113 #[.val (.int p1), .val (.int p2), .val (.int p3), .val (.int p4), .val (.int p5), .val (.int p6), .val (.ref b101), .unset, .unset] [(.int (1 : Int32)), (.int (own_c [p5, p4, p3, p2, p1] p4))])) (fun t_ k_ => XS.goto X130.here hx rfl (pc0 := 109) (pc' := 113) rfl (hb hby at_109) (by decide) (by decide) k_) ?_
          refine own_step (T' := T130) (g' := (mkF m 116 #[.val (.int p1), .val (.int p2), .val (.int p3), .val (.int p4), .val (.int p5), .val (.int p6), .val (.ref b101), .unset, .unset] [])) (fun t_ k_ => XS.icmpNo X130.here hx rfl (hb hby at_113) rfl (teq (by simp [own_c, hc105_131])).2 k_) ?_
          exact k116 _ _ X130 e130 N130
      refine own_step (T' := T78_) (g' := (mkF m 80 #[.val (.int p1), .val (.int p2), .val (.int p3), .val (.int p4), .val (.int p5), .val (.int p6), .val (.ref b101), .unset, .unset] [(.ref b101)])) (fun t_ k_ => XS.aload X78_.here hx rfl (hb hby at_78) rfl rfl k_) ?_
      refine own_step (T' := T78_) (g' := (mkF m 81 #[.val (.int p1), .val (.int p2), .val (.int p3), .val (.int p4), .val (.int p5), .val (.int p6), .val (.ref b101), .unset, .unset] [(.int p3), (.ref b101)])) (fun t_ k_ => XS.iloadN X78_.here hx rfl (hb hby at_80) rfl k_) ?_
      obtain ⟨cq132, kq132, q132a, q132b, q132c⟩ := isOf hZ e78_ E9
      obtain ⟨_, _, ⟨T132, L132, k132, n132⟩, -, X132, ⟨Lc132, hQ132, l132, y132, z132⟩, st132⟩ := X78_.virtualBack hx (y := (⟨"com/example/rigger/rigger/container/EqualityClasses$Numbers", "contains", "(I)Z"⟩ : MethodName)) (z := (⟨"com/example/rigger/rigger/container/EqualityClasses$Numbers", "contains", "(I)Z"⟩ : MethodName)) hown (mvT hZ (hw _ (List.mem_of_getElem? (i := 34) rfl))) (mvT hZ (hw _ (List.mem_of_getElem? (i := 35) rfl))) (notFace_of_selects (args := #[]) (mvT hZ (hw _ (List.mem_of_getElem? (i := 37) rfl)))) (mvT hZ (hw _ (List.mem_of_getElem? (i := 37) rfl))) (mvT hZ (hw _ (List.mem_of_getElem? (i := 36) rfl))) (by decide) (backOf (W := 0) (rm_cont l Z a0 hw [] b101 p3 [p5, p4, p3, p2, p1] T113.heap n0 z114 hF) hZ (hw _ (List.mem_of_getElem? (i := 38) rfl)) (hw _ (List.mem_of_getElem? (i := 2) rfl)) (by decide) (by decide)) q132a q132c (g := (mkF m 81 #[.val (.int p1), .val (.int p2), .val (.int p3), .val (.int p4), .val (.int p5), .val (.int p6), .val (.ref b101), .unset, .unset] [(.int p3), (.ref b101)])) rfl (by rw [hml]; rfl) (Steps.refl _) (argsL := [(.int p3)]) (rest := []) (lenOf (by decide +kernel : parseMethodDescriptor "(I)Z" = some ⟨[.int], some .boolean⟩) rfl) rfl (by show 2 * 0 + _ ≤ _; exact Nat.le_of_eq rfl) (hb hby at_81) (fun _ _ => ⟨rfl, e78_, (by decide : 7 + 0 ≤ _), (by decide : 90 + 0 ≤ _)⟩)
      dsimp only [Pt.U, Pt.locs, Pt.cells, Pt.slots] at X132 l132 y132 z132 st132 hQ132
      subst l132 y132 z132
      obtain ⟨rfl, Nq132, e132⟩ := hQ132
      have N132 := Fr.app N78_ Nq132
      refine own_to (T' := T132) (g' := (mkF m 84 #[.val (.int p1), .val (.int p2), .val (.int p3), .val (.int p4), .val (.int p5), .val (.int p6), .val (.ref b101), .unset, .unset] [(.int (own_c [p5, p4, p3, p2, p1] p3))])) st132 ?_
      refine own_step (T' := T132) (g' := (mkF m 85 #[.val (.int p1), .val (.int p2), .val (.int p3), .val (.int p4), .val (.int p5), .val (.int p6), .val (.ref b101), .unset, .unset] [(.int p3), (.int (own_c [p5, p4, p3, p2, p1] p3))])) (fun t_ k_ => XS.iloadN X132.here hx rfl (hb hby at_84) rfl k_) ?_
      refine own_step (T' := T132) (g' := (mkF m 86 #[.val (.int p1), .val (.int p2), .val (.int p3), .val (.int p4), .val (.int p5), .val (.int p6), .val (.ref b101), .unset, .unset] [(.int (-1 : Int32)), (.int p3), (.int (own_c [p5, p4, p3, p2, p1] p3))])) (fun t_ k_ => XS.iconst X132.here hx rfl (hb hby at_85) k_) ?_
      by_cases hc86_133 : p3 = (-1 : Int32)
      · refine own_step (T' := T132) (g' := (mkF m 93 #[.val (.int p1), .val (.int p2), .val (.int p3), .val (.int p4), .val (.int p5), .val (.int p6), .val (.ref b101), .unset, .unset] [(.int (own_c [p5, p4, p3, p2, p1] p3))])) (fun t_ k_ => XS.icmpYes X132.here hx rfl (pc0 := 86) (pc' := 93) rfl (hb hby at_86) rfl (teq hc86_133).1 (by decide) (by decide) k_) ?_
        refine own_step (T' := T132) (g' := (mkF m 94 #[.val (.int p1), .val (.int p2), .val (.int p3), .val (.int p4), .val (.int p5), .val (.int p6), .val (.ref b101), .unset, .unset] [(.int (0 : Int32)), (.int (own_c [p5, p4, p3, p2, p1] p3))])) (fun t_ k_ => XS.iconst X132.here hx rfl (hb hby at_93) k_) ?_
        refine own_step (T' := T132) (g' := (mkF m 97 #[.val (.int p1), .val (.int p2), .val (.int p3), .val (.int p4), .val (.int p5), .val (.int p6), .val (.ref b101), .unset, .unset] [])) (fun t_ k_ => XS.icmpNo X132.here hx rfl (hb hby at_94) rfl (teq (by simp [own_c, hc86_133])).2 k_) ?_
        exact k97 _ _ X132 e132 N132
      · refine own_step (T' := T132) (g' := (mkF m 89 #[.val (.int p1), .val (.int p2), .val (.int p3), .val (.int p4), .val (.int p5), .val (.int p6), .val (.ref b101), .unset, .unset] [(.int (own_c [p5, p4, p3, p2, p1] p3))])) (fun t_ k_ => XS.icmpNo X132.here hx rfl (hb hby at_86) rfl (feq hc86_133).1 k_) ?_
        refine own_step (T' := T132) (g' := (mkF m 90 #[.val (.int p1), .val (.int p2), .val (.int p3), .val (.int p4), .val (.int p5), .val (.int p6), .val (.ref b101), .unset, .unset] [(.int (1 : Int32)), (.int (own_c [p5, p4, p3, p2, p1] p3))])) (fun t_ k_ => XS.iconst X132.here hx rfl (hb hby at_89) k_) ?_
        refine own_step (T' := T132) (g' := (mkF m 94 #[.val (.int p1), .val (.int p2), .val (.int p3), .val (.int p4), .val (.int p5), .val (.int p6), .val (.ref b101), .unset, .unset] [(.int (1 : Int32)), (.int (own_c [p5, p4, p3, p2, p1] p3))])) (fun t_ k_ => XS.goto X132.here hx rfl (pc0 := 90) (pc' := 94) rfl (hb hby at_90) (by decide) (by decide) k_) ?_
        refine own_step (T' := T132) (g' := (mkF m 97 #[.val (.int p1), .val (.int p2), .val (.int p3), .val (.int p4), .val (.int p5), .val (.int p6), .val (.ref b101), .unset, .unset] [])) (fun t_ k_ => XS.icmpNo X132.here hx rfl (hb hby at_94) rfl (teq (by simp [own_c, hc86_133])).2 k_) ?_
        exact k97 _ _ X132 e132 N132
    refine own_step (T' := T59_) (g' := (mkF m 61 #[.val (.int p1), .val (.int p2), .val (.int p3), .val (.int p4), .val (.int p5), .val (.int p6), .val (.ref b101), .unset, .unset] [(.ref b101)])) (fun t_ k_ => XS.aload X59_.here hx rfl (hb hby at_59) rfl rfl k_) ?_
    refine own_step (T' := T59_) (g' := (mkF m 62 #[.val (.int p1), .val (.int p2), .val (.int p3), .val (.int p4), .val (.int p5), .val (.int p6), .val (.ref b101), .unset, .unset] [(.int p2), (.ref b101)])) (fun t_ k_ => XS.iloadN X59_.here hx rfl (hb hby at_61) rfl k_) ?_
    obtain ⟨cq134, kq134, q134a, q134b, q134c⟩ := isOf hZ e59_ E9
    obtain ⟨_, _, ⟨T134, L134, k134, n134⟩, -, X134, ⟨Lc134, hQ134, l134, y134, z134⟩, st134⟩ := X59_.virtualBack hx (y := (⟨"com/example/rigger/rigger/container/EqualityClasses$Numbers", "contains", "(I)Z"⟩ : MethodName)) (z := (⟨"com/example/rigger/rigger/container/EqualityClasses$Numbers", "contains", "(I)Z"⟩ : MethodName)) hown (mvT hZ (hw _ (List.mem_of_getElem? (i := 34) rfl))) (mvT hZ (hw _ (List.mem_of_getElem? (i := 35) rfl))) (notFace_of_selects (args := #[]) (mvT hZ (hw _ (List.mem_of_getElem? (i := 37) rfl)))) (mvT hZ (hw _ (List.mem_of_getElem? (i := 37) rfl))) (mvT hZ (hw _ (List.mem_of_getElem? (i := 36) rfl))) (by decide) (backOf (W := 0) (rm_cont l Z a0 hw [] b101 p2 [p5, p4, p3, p2, p1] T113.heap n0 z114 hF) hZ (hw _ (List.mem_of_getElem? (i := 38) rfl)) (hw _ (List.mem_of_getElem? (i := 2) rfl)) (by decide) (by decide)) q134a q134c (g := (mkF m 62 #[.val (.int p1), .val (.int p2), .val (.int p3), .val (.int p4), .val (.int p5), .val (.int p6), .val (.ref b101), .unset, .unset] [(.int p2), (.ref b101)])) rfl (by rw [hml]; rfl) (Steps.refl _) (argsL := [(.int p2)]) (rest := []) (lenOf (by decide +kernel : parseMethodDescriptor "(I)Z" = some ⟨[.int], some .boolean⟩) rfl) rfl (by show 2 * 0 + _ ≤ _; exact Nat.le_of_eq rfl) (hb hby at_62) (fun _ _ => ⟨rfl, e59_, (by decide : 7 + 0 ≤ _), (by decide : 90 + 0 ≤ _)⟩)
    dsimp only [Pt.U, Pt.locs, Pt.cells, Pt.slots] at X134 l134 y134 z134 st134 hQ134
    subst l134 y134 z134
    obtain ⟨rfl, Nq134, e134⟩ := hQ134
    have N134 := Fr.app N59_ Nq134
    refine own_to (T' := T134) (g' := (mkF m 65 #[.val (.int p1), .val (.int p2), .val (.int p3), .val (.int p4), .val (.int p5), .val (.int p6), .val (.ref b101), .unset, .unset] [(.int (own_c [p5, p4, p3, p2, p1] p2))])) st134 ?_
    refine own_step (T' := T134) (g' := (mkF m 66 #[.val (.int p1), .val (.int p2), .val (.int p3), .val (.int p4), .val (.int p5), .val (.int p6), .val (.ref b101), .unset, .unset] [(.int p2), (.int (own_c [p5, p4, p3, p2, p1] p2))])) (fun t_ k_ => XS.iloadN X134.here hx rfl (hb hby at_65) rfl k_) ?_
    refine own_step (T' := T134) (g' := (mkF m 67 #[.val (.int p1), .val (.int p2), .val (.int p3), .val (.int p4), .val (.int p5), .val (.int p6), .val (.ref b101), .unset, .unset] [(.int (-1 : Int32)), (.int p2), (.int (own_c [p5, p4, p3, p2, p1] p2))])) (fun t_ k_ => XS.iconst X134.here hx rfl (hb hby at_66) k_) ?_
    by_cases hc67_135 : p2 = (-1 : Int32)
    · refine own_step (T' := T134) (g' := (mkF m 74 #[.val (.int p1), .val (.int p2), .val (.int p3), .val (.int p4), .val (.int p5), .val (.int p6), .val (.ref b101), .unset, .unset] [(.int (own_c [p5, p4, p3, p2, p1] p2))])) (fun t_ k_ => XS.icmpYes X134.here hx rfl (pc0 := 67) (pc' := 74) rfl (hb hby at_67) rfl (teq hc67_135).1 (by decide) (by decide) k_) ?_
      refine own_step (T' := T134) (g' := (mkF m 75 #[.val (.int p1), .val (.int p2), .val (.int p3), .val (.int p4), .val (.int p5), .val (.int p6), .val (.ref b101), .unset, .unset] [(.int (0 : Int32)), (.int (own_c [p5, p4, p3, p2, p1] p2))])) (fun t_ k_ => XS.iconst X134.here hx rfl (hb hby at_74) k_) ?_
      refine own_step (T' := T134) (g' := (mkF m 78 #[.val (.int p1), .val (.int p2), .val (.int p3), .val (.int p4), .val (.int p5), .val (.int p6), .val (.ref b101), .unset, .unset] [])) (fun t_ k_ => XS.icmpNo X134.here hx rfl (hb hby at_75) rfl (teq (by simp [own_c, hc67_135])).2 k_) ?_
      exact k78 _ _ X134 e134 N134
    · refine own_step (T' := T134) (g' := (mkF m 70 #[.val (.int p1), .val (.int p2), .val (.int p3), .val (.int p4), .val (.int p5), .val (.int p6), .val (.ref b101), .unset, .unset] [(.int (own_c [p5, p4, p3, p2, p1] p2))])) (fun t_ k_ => XS.icmpNo X134.here hx rfl (hb hby at_67) rfl (feq hc67_135).1 k_) ?_
      refine own_step (T' := T134) (g' := (mkF m 71 #[.val (.int p1), .val (.int p2), .val (.int p3), .val (.int p4), .val (.int p5), .val (.int p6), .val (.ref b101), .unset, .unset] [(.int (1 : Int32)), (.int (own_c [p5, p4, p3, p2, p1] p2))])) (fun t_ k_ => XS.iconst X134.here hx rfl (hb hby at_70) k_) ?_
      refine own_step (T' := T134) (g' := (mkF m 75 #[.val (.int p1), .val (.int p2), .val (.int p3), .val (.int p4), .val (.int p5), .val (.int p6), .val (.ref b101), .unset, .unset] [(.int (1 : Int32)), (.int (own_c [p5, p4, p3, p2, p1] p2))])) (fun t_ k_ => XS.goto X134.here hx rfl (pc0 := 71) (pc' := 75) rfl (hb hby at_71) (by decide) (by decide) k_) ?_
      refine own_step (T' := T134) (g' := (mkF m 78 #[.val (.int p1), .val (.int p2), .val (.int p3), .val (.int p4), .val (.int p5), .val (.int p6), .val (.ref b101), .unset, .unset] [])) (fun t_ k_ => XS.icmpNo X134.here hx rfl (hb hby at_75) rfl (teq (by simp [own_c, hc67_135])).2 k_) ?_
      exact k78 _ _ X134 e134 N134
  refine own_step (T' := T113) (g' := (mkF m 42 #[.val (.int p1), .val (.int p2), .val (.int p3), .val (.int p4), .val (.int p5), .val (.int p6), .val (.ref b101), .unset, .unset] [(.ref b101)])) (fun t_ k_ => XS.aload X113.here hx rfl (hb hby at_40) rfl rfl k_) ?_
  refine own_step (T' := T113) (g' := (mkF m 43 #[.val (.int p1), .val (.int p2), .val (.int p3), .val (.int p4), .val (.int p5), .val (.int p6), .val (.ref b101), .unset, .unset] [(.int p1), (.ref b101)])) (fun t_ k_ => XS.iloadN X113.here hx rfl (hb hby at_42) rfl k_) ?_
  obtain ⟨cq136, kq136, q136a, q136b, q136c⟩ := isOf hZ rfl E9
  obtain ⟨_, _, ⟨T136, L136, k136, n136⟩, -, X136, ⟨Lc136, hQ136, l136, y136, z136⟩, st136⟩ := X113.virtualBack hx (y := (⟨"com/example/rigger/rigger/container/EqualityClasses$Numbers", "contains", "(I)Z"⟩ : MethodName)) (z := (⟨"com/example/rigger/rigger/container/EqualityClasses$Numbers", "contains", "(I)Z"⟩ : MethodName)) hown (mvT hZ (hw _ (List.mem_of_getElem? (i := 34) rfl))) (mvT hZ (hw _ (List.mem_of_getElem? (i := 35) rfl))) (notFace_of_selects (args := #[]) (mvT hZ (hw _ (List.mem_of_getElem? (i := 37) rfl)))) (mvT hZ (hw _ (List.mem_of_getElem? (i := 37) rfl))) (mvT hZ (hw _ (List.mem_of_getElem? (i := 36) rfl))) (by decide) (backOf (W := 0) (rm_cont l Z a0 hw [] b101 p1 [p5, p4, p3, p2, p1] T113.heap n0 z114 hF) hZ (hw _ (List.mem_of_getElem? (i := 38) rfl)) (hw _ (List.mem_of_getElem? (i := 2) rfl)) (by decide) (by decide)) q136a q136c (g := (mkF m 43 #[.val (.int p1), .val (.int p2), .val (.int p3), .val (.int p4), .val (.int p5), .val (.int p6), .val (.ref b101), .unset, .unset] [(.int p1), (.ref b101)])) rfl (by rw [hml]; rfl) (Steps.refl _) (argsL := [(.int p1)]) (rest := []) (lenOf (by decide +kernel : parseMethodDescriptor "(I)Z" = some ⟨[.int], some .boolean⟩) rfl) rfl (by show 2 * 0 + _ ≤ _; exact Nat.le_of_eq rfl) (hb hby at_43) (fun _ _ => ⟨rfl, rfl, (by decide : 7 + 0 ≤ _), (by decide : 90 + 0 ≤ _)⟩)
  dsimp only [Pt.U, Pt.locs, Pt.cells, Pt.slots] at X136 l136 y136 z136 st136 hQ136
  subst l136 y136 z136
  obtain ⟨rfl, Nq136, e136⟩ := hQ136
  have N136 := Fr.app N113 Nq136
  refine own_to (T' := T136) (g' := (mkF m 46 #[.val (.int p1), .val (.int p2), .val (.int p3), .val (.int p4), .val (.int p5), .val (.int p6), .val (.ref b101), .unset, .unset] [(.int (own_c [p5, p4, p3, p2, p1] p1))])) st136 ?_
  refine own_step (T' := T136) (g' := (mkF m 47 #[.val (.int p1), .val (.int p2), .val (.int p3), .val (.int p4), .val (.int p5), .val (.int p6), .val (.ref b101), .unset, .unset] [(.int p1), (.int (own_c [p5, p4, p3, p2, p1] p1))])) (fun t_ k_ => XS.iloadN X136.here hx rfl (hb hby at_46) rfl k_) ?_
  refine own_step (T' := T136) (g' := (mkF m 48 #[.val (.int p1), .val (.int p2), .val (.int p3), .val (.int p4), .val (.int p5), .val (.int p6), .val (.ref b101), .unset, .unset] [(.int (-1 : Int32)), (.int p1), (.int (own_c [p5, p4, p3, p2, p1] p1))])) (fun t_ k_ => XS.iconst X136.here hx rfl (hb hby at_47) k_) ?_
  by_cases hc48_137 : p1 = (-1 : Int32)
  · refine own_step (T' := T136) (g' := (mkF m 55 #[.val (.int p1), .val (.int p2), .val (.int p3), .val (.int p4), .val (.int p5), .val (.int p6), .val (.ref b101), .unset, .unset] [(.int (own_c [p5, p4, p3, p2, p1] p1))])) (fun t_ k_ => XS.icmpYes X136.here hx rfl (pc0 := 48) (pc' := 55) rfl (hb hby at_48) rfl (teq hc48_137).1 (by decide) (by decide) k_) ?_
    refine own_step (T' := T136) (g' := (mkF m 56 #[.val (.int p1), .val (.int p2), .val (.int p3), .val (.int p4), .val (.int p5), .val (.int p6), .val (.ref b101), .unset, .unset] [(.int (0 : Int32)), (.int (own_c [p5, p4, p3, p2, p1] p1))])) (fun t_ k_ => XS.iconst X136.here hx rfl (hb hby at_55) k_) ?_
    refine own_step (T' := T136) (g' := (mkF m 59 #[.val (.int p1), .val (.int p2), .val (.int p3), .val (.int p4), .val (.int p5), .val (.int p6), .val (.ref b101), .unset, .unset] [])) (fun t_ k_ => XS.icmpNo X136.here hx rfl (hb hby at_56) rfl (teq (by simp [own_c, hc48_137])).2 k_) ?_
    exact k59 _ _ X136 e136 N136
  · refine own_step (T' := T136) (g' := (mkF m 51 #[.val (.int p1), .val (.int p2), .val (.int p3), .val (.int p4), .val (.int p5), .val (.int p6), .val (.ref b101), .unset, .unset] [(.int (own_c [p5, p4, p3, p2, p1] p1))])) (fun t_ k_ => XS.icmpNo X136.here hx rfl (hb hby at_48) rfl (feq hc48_137).1 k_) ?_
    refine own_step (T' := T136) (g' := (mkF m 52 #[.val (.int p1), .val (.int p2), .val (.int p3), .val (.int p4), .val (.int p5), .val (.int p6), .val (.ref b101), .unset, .unset] [(.int (1 : Int32)), (.int (own_c [p5, p4, p3, p2, p1] p1))])) (fun t_ k_ => XS.iconst X136.here hx rfl (hb hby at_51) k_) ?_
    refine own_step (T' := T136) (g' := (mkF m 56 #[.val (.int p1), .val (.int p2), .val (.int p3), .val (.int p4), .val (.int p5), .val (.int p6), .val (.ref b101), .unset, .unset] [(.int (1 : Int32)), (.int (own_c [p5, p4, p3, p2, p1] p1))])) (fun t_ k_ => XS.goto X136.here hx rfl (pc0 := 52) (pc' := 56) rfl (hb hby at_52) (by decide) (by decide) k_) ?_
    refine own_step (T' := T136) (g' := (mkF m 59 #[.val (.int p1), .val (.int p2), .val (.int p3), .val (.int p4), .val (.int p5), .val (.int p6), .val (.ref b101), .unset, .unset] [])) (fun t_ k_ => XS.icmpNo X136.here hx rfl (hb hby at_56) rfl (teq (by simp [own_c, hc48_137])).2 k_) ?_
    exact k59 _ _ X136 e136 N136
set_option maxRecDepth 65536 in
set_option maxHeartbeats 40000000 in
theorem comes_1 {Post : Tables → Env → Array Value → State → Outcome → State → Prop} (hpost : ∀ tb e args s v u, (limb_1_1.after args s (.returned v) u = true ∧ limb_1_2.after args s (.returned v) u = true ∧ True) → FrameEnd s (.returned v) u (Jvm.fieldLocs frame_1_writes args s ++ Jvm.arrayLocs frame_1_arrays args s ++ Jvm.staticLocs frame_1_statics s) 16 128 → Post tb e args s (.returned v) u) :
    ArmFor flags0 classFile x code maxLocals ret World_1 tables_1 room_1 Calls_1 rest_1 Pre_1 Post := by
  intro l hfl _ _ p e ha hc hk s m args below hf hA hF happ hP
  obtain ⟨hcalls, hrest, hpre⟩ := hP
  obtain ⟨-, -, -, hnamed, -, -, -, hat⟩ := (Spec.applies_iff hf).mp happ
  obtain ⟨hg, hn⟩ := and_e (Cond.before_iff.mp (show (Jvm.Cond.and given_1 narrow_1).before args s = true from hpre))
  obtain ⟨hcount, hq0⟩ := and_e hg
  obtain ⟨ha0, hq1⟩ := and_e hq0
  obtain ⟨ha1, hq2⟩ := and_e hq1
  obtain ⟨ha2, hq3⟩ := and_e hq2
  obtain ⟨ha3, hq4⟩ := and_e hq3
  obtain ⟨ha4, hq5⟩ := and_e hq4
  obtain ⟨w0, w1, w2, w3, w4, w5, rfl⟩ : ∃ w0 w1 w2 w3 w4 w5 : Value, args = #[w0, w1, w2, w3, w4, w5] := by
    have hs : args.size = 6 := by simpa [Cond.value, given_1] using hcount
    obtain ⟨L⟩ := args
    match L, hs with
    | [w0, w1, w2, w3, w4, w5], _ => exact ⟨w0, w1, w2, w3, w4, w5, rfl⟩
  have hw := fun d (hd : d ∈ tables_1) => atoms_spec (ws := Jvm.Cond.code x code maxLocals ret :: tables_1) hat d (List.mem_cons_of_mem _ hd)
  have hfit : Fit s := fun {y c} hc i hi => by
    obtain ⟨ha, rfl⟩ := Array.getElem?_eq_some_iff.mp hc
    have q := List.all_eq_true.mp ((Array.all_eq_true_iff_forall_mem.mp hF) _ (Array.getElem_mem ha)) i (List.mem_range.mpr hi)
    simpa [Array.getElem?_eq_getElem hi] using q
  obtain ⟨i0, ei0⟩ := is_v ha0
  obtain rfl : w0 = (.int i0) := Option.some.inj ei0
  obtain ⟨i1, ei1⟩ := is_v ha1
  obtain rfl : w1 = (.int i1) := Option.some.inj ei1
  obtain ⟨i2, ei2⟩ := is_v ha2
  obtain rfl : w2 = (.int i2) := Option.some.inj ei2
  obtain ⟨i3, ei3⟩ := is_v ha3
  obtain rfl : w3 = (.int i3) := Option.some.inj ei3
  obtain ⟨i4, ei4⟩ := is_v ha4
  obtain rfl : w4 = (.int i4) := Option.some.inj ei4
  obtain ⟨i5, ei5⟩ := is_v hq5
  obtain rfl : w5 = (.int i5) := Option.some.inj ei5
  obtain ⟨n, o, h1, h2, h3, _, L, rfl, ⟨rfl, N⟩, hq⟩ := rm0 l s _ hw tables_1 i0 i1 i2 i3 i4 i5 s.heap s.heap.size (Nat.le_refl _)  p e ha hc hk s m _ below hf ((Spec.applies_iff_loose hf).mp happ).1 ⟨rfl, State.Warmed39.refl s, rfl⟩ trivial
  exact ⟨n, _, h1, h2, h3, hpost _ _ _ _ _ _ ⟨Cond.after_iff.mpr rfl, Cond.after_iff.mpr (eq_i res_at (Term.int_eval (1)) rfl), trivial⟩ ⟨hq.1, hq.2.1, (hq.2.2.sift fun y hy => Or.inr (N y hy)).mono (by decide) (by decide)⟩⟩
theorem main_1_1 : Claimed_1_1 := comes_1 fun _ _ _ _ _ _ h hF => ⟨h.1, hF⟩
theorem main_1_2 : Claimed_1_2 := comes_1 fun _ _ _ _ _ _ h hF => ⟨h.2.1, hF⟩
end Jvm.Pilot.@@N@@
namespace Jvm.Pilot.@@N@@
open Jvm Jvm.ClassFile Sem Op Lib Jvm.Free Jvm.Stand Jvm.Pilot.@@N@@.Jvm.D
/-! MADE BY PROGRAM (witnessworld.py) out of the Statement's table words and the real class files: 10 classes; the members and pool entries that the words name. The judged class is class 1, her method 2. -/
namespace start1
open Jvm.ClassFile
def u (s : String) : CpInfo := .utf8 (stringToUtf16 s)
/-- a pool by its gaps: so many unusable entries, then the entry; so many at the end -/
def gap : Nat → List CpInfo → List CpInfo
  | 0, r => r
  | n + 1, r => .unusable :: gap n r
def poolList (es : List (Nat × CpInfo)) (last : Nat) : List CpInfo := es.foldr (fun e r => gap e.1 (e.2 :: r)) (gap last [])
def pool (es : List (Nat × CpInfo)) (last : Nat) : Array CpInfo := ⟨poolList es last⟩
def fileOf (pool : Array CpInfo) (this : Nat) (attrs : Array Attribute := #[]) (ms : Array MethodInfo := #[]) (fl : Nat := 33) (sup : Nat := 0) (ifs : Array Nat := #[]) (fds : Array FieldInfo := #[]) : ClassFile where
  minorVersion := 0
  majorVersion := 65
  constantPool := pool
  accessFlags := fl
  thisClass := this
  superClass := sup
  interfaces := ifs
  fields := fds
  methods := ms
  attributes := attrs
def plain (name : String) (sup : Option ClassId) : Class where
  name := name
  kind := .ordinary
  loader := none
  accessFlags := 33
  super := sup
  interfaces := #[]
  cf := none
  fields := #[]
  methods := #[]
  instanceTypes := #[]
  staticTypes := #[]
  resolved := #[]
  callSites := []
  init := .initialized
  statics := none
  mirror := none

def pool0 : Array CpInfo := pool [(5, u "<init>"), (0, u "()V"), (1, .class_ 10), (1, u "java/lang/Object")] 113

def k0c0 : Code := { maxStack := 0, maxLocals := 1, code := object_method_1_code, exceptionTable := #[], attributes := #[] }
def k0m0 : Method := { name := "<init>", desc := "()V", sig := { parameters := [], returnType := none }, accessFlags := 1, code := some k0c0 }
/-- java/lang/Object -/
def k0 : Class := { plain "java/lang/Object" none with
  accessFlags := 33
  interfaces := #[]
  cf := some (fileOf pool0 8 #[] #[{ accessFlags := 1, nameIndex := 5, descriptorIndex := 6, attributes := #[] }] 33 0 #[] #[])
  fields := #[]
  methods := #[k0m0]
  instanceTypes := #[]
  staticTypes := #[]
  resolved := Array.replicate 124 none
  statics := none }

def pool1 : Array CpInfo := pool [(2, .class_ 4), (0, .nameAndType 5 6), (0, u "java/lang/Object"), (0, u "<init>"), (0, u "()V"), (0, .methodref 8 9), (0, .class_ 10), (0, .nameAndType 11 12), (0, u "com/example/rigger/rigger/container/EqualityClasses$Numbers"), (0, u "add"), (0, u "(I)Z"), (0, .methodref 8 3), (0, .methodref 15 16), (0, .class_ 17), (0, .nameAndType 18 19), (0, u "com/example/rigger/rigger/container/NumbersContainsPinLaw"), (0, u "addUnlessNone"), (0, u "(Lcom/example/rigger/rigger/container/EqualityClasses$Numbers;I)V"), (0, .methodref 8 21), (0, .nameAndType 22 12), (0, u "contains"), (3, u "law"), (0, u "(IIIIII)Z")] 6

def k1m0 : Method := { name := "<init>", desc := "()V", sig := { parameters := [], returnType := none }, accessFlags := 1, code := none }
def k1c1 : Code := { maxStack := 2, maxLocals := 2, code := method_2_code, exceptionTable := #[], attributes := #[] }
def k1m1 : Method := { name := "addUnlessNone", desc := "(Lcom/example/rigger/rigger/container/EqualityClasses$Numbers;I)V", sig := { parameters := [(.object "com/example/rigger/rigger/container/EqualityClasses$Numbers"), .int], returnType := none }, accessFlags := 10, code := some k1c1 }
def k1c2 : Code := { maxStack := 3, maxLocals := 9, code := code, exceptionTable := #[], attributes := #[] }
def k1m2 : Method := { name := "law", desc := "(IIIIII)Z", sig := { parameters := [.int, .int, .int, .int, .int, .int], returnType := some .boolean }, accessFlags := 9, code := some k1c2 }
/-- com/example/rigger/rigger/container/NumbersContainsPinLaw -/
def k1 : Class := { plain "com/example/rigger/rigger/container/NumbersContainsPinLaw" (some 0) with
  accessFlags := 49
  interfaces := #[]
  cf := some (fileOf pool1 15 #[] #[{ accessFlags := 1, nameIndex := 5, descriptorIndex := 6, attributes := #[] }, { accessFlags := 10, nameIndex := 18, descriptorIndex := 19, attributes := #[] }, { accessFlags := 9, nameIndex := 26, descriptorIndex := 27, attributes := #[] }] 49 2 #[] #[])
  fields := #[]
  methods := #[k1m0, k1m1, k1m2]
  instanceTypes := #[]
  staticTypes := #[]
  resolved := Array.replicate 34 none
  statics := none }

def pool2 : Array CpInfo := pool [(1, .class_ 2), (0, u "com/example/rigger/rigger/container/EqualityClasses"), (0, .methodref 4 5), (0, .class_ 6), (0, .nameAndType 7 8), (0, u "java/lang/Object"), (0, u "<init>"), (0, u "()V"), (0, .methodref 10 11), (0, .class_ 12), (0, .nameAndType 13 14), (0, u "com/example/rigger/rigger/container/EqualityClasses$Numbers"), (0, u "free"), (0, u "(I)[I"), (0, .fieldref 10 16), (0, .nameAndType 17 18), (0, u "slots"), (0, u "[I"), (0, .methodref 10 20), (0, .nameAndType 21 22), (0, u "slotOf"), (0, u "([II)I"), (0, .fieldref 10 24), (0, .nameAndType 25 26), (0, u "count"), (0, u "I"), (0, .methodref 28 29), (0, .class_ 30), (0, .nameAndType 31 32), (0, u "java/util/Arrays"), (0, u "fill"), (0, u "([II)V"), (0, .integer 2654435769), (2, u "add"), (0, u "(I)Z"), (2, u "contains")] 5

def k2c0 : Code := { maxStack := 2, maxLocals := 1, code := prog_81_method_1_code, exceptionTable := #[], attributes := #[] }
def k2m0 : Method := { name := "<init>", desc := "()V", sig := { parameters := [], returnType := none }, accessFlags := 0, code := some k2c0 }
def k2c1 : Code := { maxStack := 4, maxLocals := 8, code := prog_81_method_2_code, exceptionTable := #[], attributes := #[] }
def k2m1 : Method := { name := "add", desc := "(I)Z", sig := { parameters := [.int], returnType := some .boolean }, accessFlags := 0, code := some k2c1 }
def k2c2 : Code := { maxStack := 3, maxLocals := 2, code := prog_81_method_3_code, exceptionTable := #[], attributes := #[] }
def k2m2 : Method := { name := "contains", desc := "(I)Z", sig := { parameters := [.int], returnType := some .boolean }, accessFlags := 0, code := some k2c2 }
def k2c3 : Code := { maxStack := 2, maxLocals := 2, code := prog_81_method_4_code, exceptionTable := #[], attributes := #[] }
def k2m3 : Method := { name := "free", desc := "(I)[I", sig := { parameters := [.int], returnType := some (.array .int) }, accessFlags := 10, code := some k2c3 }
def k2c4 : Code := { maxStack := 3, maxLocals := 5, code := prog_81_method_5_code, exceptionTable := #[], attributes := #[] }
def k2m4 : Method := { name := "slotOf", desc := "([II)I", sig := { parameters := [(.array .int), .int], returnType := some .int }, accessFlags := 10, code := some k2c4 }
/-- com/example/rigger/rigger/container/EqualityClasses$Numbers -/
def k2 : Class := { plain "com/example/rigger/rigger/container/EqualityClasses$Numbers" (some 0) with
  accessFlags := 48
  interfaces := #[]
  cf := some (fileOf pool2 10 #[.nestHost 1] #[{ accessFlags := 0, nameIndex := 7, descriptorIndex := 8, attributes := #[] }, { accessFlags := 0, nameIndex := 36, descriptorIndex := 37, attributes := #[] }, { accessFlags := 0, nameIndex := 40, descriptorIndex := 37, attributes := #[] }, { accessFlags := 10, nameIndex := 13, descriptorIndex := 14, attributes := #[] }, { accessFlags := 10, nameIndex := 21, descriptorIndex := 22, attributes := #[] }] 48 4 #[] #[{ accessFlags := 2, nameIndex := 17, descriptorIndex := 18, attributes := #[] }, { accessFlags := 2, nameIndex := 25, descriptorIndex := 26, attributes := #[] }])
  fields := #[{ name := "slots", type := (.array .int), accessFlags := 2, slot := 0, constantValue := 0 }, { name := "count", type := .int, accessFlags := 2, slot := 1, constantValue := 0 }]
  methods := #[k2m0, k2m1, k2m2, k2m3, k2m4]
  instanceTypes := #[(.array .int), .int]
  staticTypes := #[]
  resolved := Array.replicate 46 none
  statics := none }

def pool3 : Array CpInfo := pool [(2, .class_ 4), (1, u "java/lang/Object"), (0, u "<init>"), (0, u "()V"), (7, .class_ 16), (1, u "java/util/Arrays"), (57, .class_ 76), (1, u "java/util/Arrays$NaturalOrder"), (36, .class_ 115), (1, u "java/util/Arrays$LegacyMergeSort"), (1, u "Z"), (257, .class_ 376), (0, u "java/util/Arrays$ArrayList"), (68, u "$assertionsDisabled"), (269, u "MIN_ARRAY_SORT_GRAN"), (0, u "I"), (2, u "INSERTIONSORT_THRESHOLD"), (120, u "fill"), (4, u "([II)V"), (129, .class_ 976), (0, u "java/util/Arrays$ArrayItr")] 52

def k3m0 : Method := { name := "<init>", desc := "()V", sig := { parameters := [], returnType := none }, accessFlags := 2, code := none }
def k3c1 : Code := { maxStack := 3, maxLocals := 4, code := jdk_65_method_103_code, exceptionTable := #[], attributes := #[] }
def k3m1 : Method := { name := "fill", desc := "([II)V", sig := { parameters := [(.array .int), .int], returnType := none }, accessFlags := 9, code := some k3c1 }
/-- java/util/Arrays -/
def k3 : Class := { plain "java/util/Arrays" (some 0) with
  accessFlags := 49
  interfaces := #[]
  cf := some (fileOf pool3 14 #[.nestMembers #[975, 375, 113, 74]] #[{ accessFlags := 2, nameIndex := 5, descriptorIndex := 6, attributes := #[] }, { accessFlags := 9, nameIndex := 840, descriptorIndex := 845, attributes := #[] }] 49 2 #[] #[{ accessFlags := 26, nameIndex := 715, descriptorIndex := 716, attributes := #[] }, { accessFlags := 26, nameIndex := 719, descriptorIndex := 716, attributes := #[] }, { accessFlags := 4120, nameIndex := 445, descriptorIndex := 117, attributes := #[] }])
  fields := #[{ name := "MIN_ARRAY_SORT_GRAN", type := .int, accessFlags := 26, slot := 0, constantValue := 0 }, { name := "INSERTIONSORT_THRESHOLD", type := .int, accessFlags := 26, slot := 1, constantValue := 0 }, { name := "$assertionsDisabled", type := .boolean, accessFlags := 4120, slot := 2, constantValue := 0 }]
  methods := #[k3m0, k3m1]
  instanceTypes := #[]
  staticTypes := #[.int, .int, .boolean]
  resolved := Array.replicate 1029 none
  statics := none }

def pool4 : Array CpInfo := pool [(1, u "java/lang/Cloneable"), (0, .class_ 1), (0, u "java/lang/Object"), (0, .class_ 3)] 3

/-- java/lang/Cloneable -/
def k4 : Class := { plain "java/lang/Cloneable" (some 0) with
  accessFlags := 1537
  interfaces := #[]
  cf := some (fileOf pool4 2 #[] #[] 1537 4 #[] #[])
  fields := #[]
  methods := #[]
  instanceTypes := #[]
  staticTypes := #[]
  resolved := Array.replicate 8 none
  statics := none }

def pool5 : Array CpInfo := pool [(1, u "java/io/Serializable"), (0, .class_ 1), (0, u "java/lang/Object"), (0, .class_ 3)] 3

/-- java/io/Serializable -/
def k5 : Class := { plain "java/io/Serializable" (some 0) with
  accessFlags := 1537
  interfaces := #[]
  cf := some (fileOf pool5 2 #[] #[] 1537 4 #[] #[])
  fields := #[]
  methods := #[]
  instanceTypes := #[]
  staticTypes := #[]
  resolved := Array.replicate 8 none
  statics := none }

/-- the primitive byte -/
def k6 : Class := { plain "byte" none with kind := .primitive 'B', accessFlags := 0x411 }
/-- [B -/
def k7 : Class := { plain "[B" (some 0) with kind := .array 6 .byte, interfaces := #[4, 5], accessFlags := 1041 }

/-- the primitive int -/
def k8 : Class := { plain "int" none with kind := .primitive 'I', accessFlags := 0x411 }
/-- [I -/
def k9 : Class := { plain "[I" (some 0) with kind := .array 8 .int, interfaces := #[4, 5], accessFlags := 1041 }

def heap : Heap := #[]
def classes : Array Class := #[k0, k1, k2, k3, k4, k5, k6, k7, k8, k9]
def interned : List (Array UInt16 × Addr) := []
def slotsUsed : Nat := 0
def theMethod : MethodId := ⟨1, 2⟩
def args0 : Array Value := #[.int 1, .int 2, .int 3, .int 4, .int 5, .int 6]
def aboutOver (below : List Frame) : State where
  vm := { classes := classes, interned := interned.toArray }
  heap := heap
  slotsUsed := slotsUsed
  threads := #[{ frames := .invoking theMethod args0 :: below }]
def below0 : List Frame := [.native { method := ⟨0, 0⟩, args := #[] }]
def about1 : State := aboutOver below0
def p0 : Program := .bare "" "" ""
def e0 : Env := launch0.env 0 0 0
theorem w_frames : about1.frames = Frame.invoking theMethod args0 :: below0 := rfl
set_option maxRecDepth 65536 in
theorem w_args : argsFit about1.vm theMethod args0 = true := by decide +kernel
set_option maxRecDepth 65536 in
theorem w_heap : heapFits about1 = true := by decide +kernel
set_option maxRecDepth 65536 in
theorem w_runnable : about1.curStatus? = some .runnable := by decide +kernel
set_option maxRecDepth 65536 in
theorem w_alone : about1.alone = true := by decide +kernel
set_option maxRecDepth 65536 in
theorem w_named : about1.methodNamed? x = some theMethod := by decide +kernel
set_option maxRecDepth 65536 in
theorem w_hears : about1.hears theMethod below0 = true := by decide +kernel
set_option maxRecDepth 65536 in
theorem w_ripe : about1.ripe theMethod args0 below0 = true := by decide +kernel
theorem w_running : about1.status = .running := rfl
set_option maxRecDepth 65536 in
theorem w_room : about1.hasRoom e0.platform room_1 = true :=
  launch0.hasRoom_least _ room_1 (by decide +kernel) (by decide +kernel) (by decide +kernel) (by decide +kernel) (by decide +kernel) (by decide +kernel)
theorem allAtoms_all (ts : List Jvm.Cond) (a : Array Jvm.Value) (st : Jvm.State) : (allAtoms ts).before a st = ts.all (fun c => c.before a st) := by
  induction ts with
  | nil => rfl
  | cons c t ih =>
    show (Jvm.Cond.and c (allAtoms t)).before a st = _
    rw [Jvm.Cond.before_and, ih, List.all_cons]
def words1 : List Jvm.Cond := Jvm.Cond.code x code maxLocals ret :: tables_1
/-- a 'code' word, met by the world's own term for the bytes: nothing is compared byte by byte -/
theorem code_word {y : MethodName} {bytes : ByteArray} {mx : Nat} {rt : Option FieldType} {a : Array Value} {s : State} {m : MethodId} {meth : Method} {c : Code} (h1 : s.methodNamed? y = some m) (h2 : s.vm.method? m = some meth) (h3 : meth.code = some c) (h4 : c.code = bytes)
    (h5 : (c.maxLocals == mx && c.exceptionTable.isEmpty && decide (c.maxStack ≤ mostOperands) && decide (meth.sig.returnType = rt) && !meth.locks && decide (parseMethodDescriptor y.desc = some meth.sig)) = true) : (Jvm.Cond.code y bytes mx rt).before a s = true := by
  simp only [Bool.and_eq_true, beq_iff_eq, Bool.not_eq_true', decide_eq_true_eq] at h5
  obtain ⟨⟨⟨⟨⟨g1, g2⟩, g3⟩, g4⟩, g5⟩, g6⟩ := h5
  simp [Cond.before, Cond.holds, Cond.value, h1, h2, h3, h4, g1, g2, g3, g4, g5, g6]
def isCode : Jvm.Cond → Bool
  | .code _ _ _ _ => true
  | _ => false
theorem all_split {L : List Jvm.Cond} {P : Jvm.Cond → Bool} (h1 : L.all (fun c => isCode c || P c) = true) (h2 : ∀ c ∈ L.filter isCode, P c = true) : L.all P = true := by
  refine List.all_eq_true.mpr fun c hc => ?_
  have h := List.all_eq_true.mp h1 c hc
  rcases Bool.eq_false_or_eq_true (isCode c) with hi | hi
  · exact h2 c (List.mem_filter.mpr ⟨hc, hi⟩)
  · simpa [hi] using h
set_option maxRecDepth 65536 in
theorem w_c0 : (Jvm.Cond.code x code maxLocals ret).before args0 about1 = true := code_word (m := ⟨1, 2⟩) (meth := k1m2) (c := k1c2) (by decide +kernel) rfl rfl rfl (by decide +kernel)
set_option maxRecDepth 65536 in
theorem w_c1 : (Jvm.Cond.code ({ cls := "com/example/rigger/rigger/container/EqualityClasses$Numbers", name := "<init>", desc := "()V" } : Jvm.MethodName) prog_81_method_1_code (1 : Nat) (Option.none : Option Jvm.ClassFile.FieldType)).before args0 about1 = true := code_word (m := ⟨2, 0⟩) (meth := k2m0) (c := k2c0) (by decide +kernel) rfl rfl rfl (by decide +kernel)
set_option maxRecDepth 65536 in
theorem w_c2 : (Jvm.Cond.code ({ cls := "java/lang/Object", name := "<init>", desc := "()V" } : Jvm.MethodName) object_method_1_code (1 : Nat) (Option.none : Option Jvm.ClassFile.FieldType)).before args0 about1 = true := code_word (m := ⟨0, 0⟩) (meth := k0m0) (c := k0c0) (by decide +kernel) rfl rfl rfl (by decide +kernel)
set_option maxRecDepth 65536 in
theorem w_c3 : (Jvm.Cond.code ({ cls := "com/example/rigger/rigger/container/EqualityClasses$Numbers", name := "free", desc := "(I)[I" } : Jvm.MethodName) prog_81_method_4_code (2 : Nat) (Option.some (Jvm.ClassFile.FieldType.array Jvm.ClassFile.FieldType.int))).before args0 about1 = true := code_word (m := ⟨2, 3⟩) (meth := k2m3) (c := k2c3) (by decide +kernel) rfl rfl rfl (by decide +kernel)
set_option maxRecDepth 65536 in
theorem w_c4 : (Jvm.Cond.code ({ cls := "java/util/Arrays", name := "fill", desc := "([II)V" } : Jvm.MethodName) jdk_65_method_103_code (4 : Nat) (Option.none : Option Jvm.ClassFile.FieldType)).before args0 about1 = true := code_word (m := ⟨3, 1⟩) (meth := k3m1) (c := k3c1) (by decide +kernel) rfl rfl rfl (by decide +kernel)
set_option maxRecDepth 65536 in
theorem w_c5 : (Jvm.Cond.code ({ cls := "com/example/rigger/rigger/container/NumbersContainsPinLaw", name := "addUnlessNone", desc := "(Lcom/example/rigger/rigger/container/EqualityClasses$Numbers;I)V" } : Jvm.MethodName) method_2_code (2 : Nat) (Option.none : Option Jvm.ClassFile.FieldType)).before args0 about1 = true := code_word (m := ⟨1, 1⟩) (meth := k1m1) (c := k1c1) (by decide +kernel) rfl rfl rfl (by decide +kernel)
set_option maxRecDepth 65536 in
theorem w_c6 : (Jvm.Cond.code ({ cls := "com/example/rigger/rigger/container/EqualityClasses$Numbers", name := "add", desc := "(I)Z" } : Jvm.MethodName) prog_81_method_2_code (8 : Nat) (Option.some Jvm.ClassFile.FieldType.boolean)).before args0 about1 = true := code_word (m := ⟨2, 1⟩) (meth := k2m1) (c := k2c1) (by decide +kernel) rfl rfl rfl (by decide +kernel)
set_option maxRecDepth 65536 in
theorem w_c7 : (Jvm.Cond.code ({ cls := "com/example/rigger/rigger/container/EqualityClasses$Numbers", name := "slotOf", desc := "([II)I" } : Jvm.MethodName) prog_81_method_5_code (5 : Nat) (Option.some Jvm.ClassFile.FieldType.int)).before args0 about1 = true := code_word (m := ⟨2, 4⟩) (meth := k2m4) (c := k2c4) (by decide +kernel) rfl rfl rfl (by decide +kernel)
set_option maxRecDepth 65536 in
theorem w_c8 : (Jvm.Cond.code ({ cls := "com/example/rigger/rigger/container/EqualityClasses$Numbers", name := "contains", desc := "(I)Z" } : Jvm.MethodName) prog_81_method_3_code (2 : Nat) (Option.some Jvm.ClassFile.FieldType.boolean)).before args0 about1 = true := code_word (m := ⟨2, 2⟩) (meth := k2m2) (c := k2c2) (by decide +kernel) rfl rfl rfl (by decide +kernel)
def codes1 : List Jvm.Cond := [Jvm.Cond.code x code maxLocals ret, Jvm.Cond.code ({ cls := "com/example/rigger/rigger/container/EqualityClasses$Numbers", name := "<init>", desc := "()V" } : Jvm.MethodName) prog_81_method_1_code (1 : Nat) (Option.none : Option Jvm.ClassFile.FieldType), Jvm.Cond.code ({ cls := "java/lang/Object", name := "<init>", desc := "()V" } : Jvm.MethodName) object_method_1_code (1 : Nat) (Option.none : Option Jvm.ClassFile.FieldType), Jvm.Cond.code ({ cls := "com/example/rigger/rigger/container/EqualityClasses$Numbers", name := "free", desc := "(I)[I" } : Jvm.MethodName) prog_81_method_4_code (2 : Nat) (Option.some (Jvm.ClassFile.FieldType.array Jvm.ClassFile.FieldType.int)), Jvm.Cond.code ({ cls := "java/util/Arrays", name := "fill", desc := "([II)V" } : Jvm.MethodName) jdk_65_method_103_code (4 : Nat) (Option.none : Option Jvm.ClassFile.FieldType), Jvm.Cond.code ({ cls := "com/example/rigger/rigger/container/NumbersContainsPinLaw", name := "addUnlessNone", desc := "(Lcom/example/rigger/rigger/container/EqualityClasses$Numbers;I)V" } : Jvm.MethodName) method_2_code (2 : Nat) (Option.none : Option Jvm.ClassFile.FieldType), Jvm.Cond.code ({ cls := "com/example/rigger/rigger/container/EqualityClasses$Numbers", name := "add", desc := "(I)Z" } : Jvm.MethodName) prog_81_method_2_code (8 : Nat) (Option.some Jvm.ClassFile.FieldType.boolean), Jvm.Cond.code ({ cls := "com/example/rigger/rigger/container/EqualityClasses$Numbers", name := "slotOf", desc := "([II)I" } : Jvm.MethodName) prog_81_method_5_code (5 : Nat) (Option.some Jvm.ClassFile.FieldType.int), Jvm.Cond.code ({ cls := "com/example/rigger/rigger/container/EqualityClasses$Numbers", name := "contains", desc := "(I)Z" } : Jvm.MethodName) prog_81_method_3_code (2 : Nat) (Option.some Jvm.ClassFile.FieldType.boolean)]
set_option maxRecDepth 65536 in
theorem codes_eq : words1.filter isCode = codes1 := rfl
theorem w_codes : ∀ c ∈ words1.filter isCode, c.before args0 about1 = true := by
  rw [codes_eq]
  intro c hc
  simp only [codes1, List.mem_cons, List.not_mem_nil, or_false] at hc
  rcases hc with rfl | rfl | rfl | rfl | rfl | rfl | rfl | rfl | rfl
  · exact w_c0
  · exact w_c1
  · exact w_c2
  · exact w_c3
  · exact w_c4
  · exact w_c5
  · exact w_c6
  · exact w_c7
  · exact w_c8
set_option maxRecDepth 65536 in
theorem w_t1 : (words1.take 24).all (fun c => isCode c || c.before args0 about1) = true := by decide +kernel
set_option maxRecDepth 65536 in
theorem w_t2 : (words1.drop 24).all (fun c => isCode c || c.before args0 about1) = true := by decide +kernel
theorem w_tables : (allAtoms (Jvm.Cond.code x code maxLocals ret :: tables_1)).before args0 about1 = true := by
  rw [allAtoms_all]
  show words1.all (fun c => c.before args0 about1) = true
  refine all_split ?_ w_codes
  rw [← List.take_append_drop 24 words1, List.all_append, w_t1, w_t2]
  rfl
set_option maxRecDepth 65536 in
theorem w_case : (Jvm.Cond.and given_1 narrow_1).before args0 about1 = true := by decide +kernel
theorem w_applies : (headSpec (Jvm.Cond.code x code maxLocals ret :: tables_1) room_1).applies x e0.platform about1 = true :=
  (Spec.applies_iff w_frames).mpr ⟨w_running, w_runnable, w_alone, w_named, w_hears, w_ripe, w_room, w_tables⟩
theorem atStart : AtStart classFile x code maxLocals ret World_1 tables_1 room_1 Calls_1 rest_1 Pre_1 launch0 p0 e0 about1 theMethod args0 below0 :=
  ⟨lists_1, trivial, launch0.admits_env _ _ _, launch0.least_env, fairChoices_fair.cas, fairChoices_fair.clock, w_frames, w_args, w_heap, w_applies, trivial, trivial, w_case⟩
end start1
theorem witness_1 : WitnessClaimed_1 := ⟨start1.p0, start1.e0, start1.about1, start1.theMethod, start1.args0, start1.below0, start1.atStart⟩
end Jvm.Pilot.@@N@@
