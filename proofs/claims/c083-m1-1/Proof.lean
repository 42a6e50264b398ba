import JvmDerived
import JvmDerived.Pilot.@@N@@Statement
import JvmDerived.Pilot.@@N@@Code
set_option linter.unusedVariables false
set_option linter.unusedSimpArgs false
@@BLOCK:NumsL.lean.txt@@
namespace Jvm.Pilot.@@N@@
open Jvm Jvm.ClassFile Sem Op Lib Jvm.Free Jvm.Stand Jvm.LawKit Jvm.RoadKit Bundle Jvm.Pilot.@@N@@.Jvm.D
/-- the run from here comes to an end of which P speaks -/
def own_Run (tb : Tables) (e : Env) (below : List Frame) (T : State) (g : JFrame) (P : Outcome → State → Prop) : Prop :=
  ∃ s₂ o, Steps tb e below (T.setTop g) s₂ ∧ s₂.status = .running ∧ Ended s₂ below o ∧ P o s₂
theorem own_start {tb : Tables} {e : Env} {below : List Frame} {T : State} {g : JFrame} {Pd : Outcome → State → Prop} (h : ∀ P : Outcome → State → Prop, (∀ o U, Pd o U → P o U) → own_Run tb e below T g P) : ∃ s₂ o, Steps tb e below (T.setTop g) s₂ ∧ s₂.status = .running ∧ Ended s₂ below o ∧ Pd o s₂ := h Pd fun _ _ q => q
theorem own_step {tb : Tables} {e : Env} {below : List Frame} {T T' : State} {g g' : JFrame} {P : Outcome → State → Prop} (h : ∀ t, Steps tb e below (T'.setTop g') t → Steps tb e below (T.setTop g) t) (k : own_Run tb e below T' g' P) : own_Run tb e below T g P := by
  obtain ⟨a, b, h1, h2⟩ := k
  exact ⟨a, b, h _ h1, h2⟩
theorem own_to {tb : Tables} {e : Env} {below : List Frame} {T T' : State} {g g' : JFrame} {P : Outcome → State → Prop} (h : Steps tb e below (T.setTop g) (T'.setTop g')) (k : own_Run tb e below T' g' P) : own_Run tb e below T g P := by
  obtain ⟨a, b, h1, h2⟩ := k
  exact ⟨a, b, h.trans h1, h2⟩
section Ret
variable {p : Program} {l : Launch} {e : Env} {R : Room} {s : State} {m : MethodId} {args : Array Value} {below : List Frame} {meth : Method} {c : Code} {T : State} {locs : List Loc} {cells slots : Nat}
theorem own_retI (X : Stand p l e R s m args below meth c T locs cells slots) (hx : p.tables.exec = Jvm.exec) {pc : Nat} {Ls : Array Slot} {z : Int32} {rest : List Value} (hret : meth.sig.returnType = some .int) (hd : decode c.code pc = .ok (.ireturn, 1)) {fs : List Frame}
    (hl : ∀ (f : JFrame) (acts : List Action), f.method = m → f.locked = none → f.entered = [] → (doReturn e (T.setTop f) acts (some (.int z))).1 = T.setFrames fs) : Steps p.tables e below (T.setTop (mkF m pc Ls (.int z :: rest))) (T.setFrames fs) :=
  retOut X hx hret rfl (Or.inl ⟨rfl, Or.inl rfl, _, rfl⟩) hd hl
theorem own_retJ (X : Stand p l e R s m args below meth c T locs cells slots) (hx : p.tables.exec = Jvm.exec) {pc : Nat} {Ls : Array Slot} {z : Int64} {rest : List Value} (hret : meth.sig.returnType = some .long) (hd : decode c.code pc = .ok (.lreturn, 1)) {fs : List Frame}
    (hl : ∀ (f : JFrame) (acts : List Action), f.method = m → f.locked = none → f.entered = [] → (doReturn e (T.setTop f) acts (some (.long z))).1 = T.setFrames fs) : Steps p.tables e below (T.setTop (mkF m pc Ls (.long z :: rest))) (T.setFrames fs) :=
  retOut X hx hret rfl (Or.inr (Or.inl ⟨rfl, rfl, _, rfl⟩)) hd hl
theorem own_retR (X : Stand p l e R s m args below meth c T locs cells slots) (hx : p.tables.exec = Jvm.exec) {pc : Nat} {Ls : Array Slot} {w : Value} {t : FieldType} {rest : List Value} (hret : meth.sig.returnType = some t) (ht : t.isReference = true) (hw : w.isRef = true) (hn : narrow t w = w) (hd : decode c.code pc = .ok (.areturn, 1)) {fs : List Frame}
    (hl : ∀ (f : JFrame) (acts : List Action), f.method = m → f.locked = none → f.entered = [] → (doReturn e (T.setTop f) acts (some w)).1 = T.setFrames fs) : Steps p.tables e below (T.setTop (mkF m pc Ls (w :: rest))) (T.setFrames fs) :=
  retOut X hx hret hn (Or.inr (Or.inr (Or.inr (Or.inr ⟨rfl, ht, hw⟩)))) hd hl
theorem own_retZ (X : Stand p l e R s m args below meth c T locs cells slots) (hx : p.tables.exec = Jvm.exec) {pc : Nat} {Ls : Array Slot} {z z' : Int32} {t : FieldType} {rest : List Value} (hret : meth.sig.returnType = some t) (ht : t = .boolean ∨ t = .byte ∨ t = .char ∨ t = .short) (hz : nar t z = z') (hd : decode c.code pc = .ok (.ireturn, 1)) {fs : List Frame}
    (hl : ∀ (f : JFrame) (acts : List Action), f.method = m → f.locked = none → f.entered = [] → (doReturn e (T.setTop f) acts (some (.int z'))).1 = T.setFrames fs) : Steps p.tables e below (T.setTop (mkF m pc Ls (.int z :: rest))) (T.setFrames fs) :=
  retN X hx hret ht hd (by rw [hz]; exact hl)
end Ret
theorem own_eqI {t : Term} {k : Int32} {args : Array Value} {s : State} {idx : List Nat} (h : (Jvm.Cond.eq t (.int k)).value args s none s idx = some true) : t.eval args s none idx s = some (.int k) :=
  Jvm.Cond.eq_int (b := .int k) (by simp [Jvm.Cond.holds, h]) rfl
theorem own_size {args : Array Value} {s : State} {t : Term} {a : Addr} {cell : Cell} {k : Int32} {n : Nat} (ht : t.eval args s none [] s = some (.ref a)) (hc : s.arrayAt? a = some cell) (h : (Term.length t).eval args s none [] s = some (.int k)) (hk : k.toInt = n) : cell.slots.size = n := by
  by_cases q : cell.slots.size < 2 ^ 31
  · rw [len_f ht hc q] at h
    have h2 := congrArg Int32.toInt (Value.int.inj (Option.some.inj h))
    rw [len_toInt q, hk] at h2
    exact Int.ofNat.inj h2
  · simp [Term.eval, ht, hc] at h
    exact absurd h.1 q
def own_del (c : Int32) : Int32 := if c = 34 then 1 else if c = 40 then 1 else if c = 41 then 1 else if c = 44 then 1 else if c = 47 then 1 else if c = 58 then 1 else if c = 59 then 1 else if c = 60 then 1 else if c = 61 then 1 else if c = 62 then 1 else if c = 63 then 1 else if c = 64 then 1 else if c = 91 then 1 else if c = 92 then 1 else if c = 93 then 1 else if c = 123 then 1 else if c = 125 then 1 else 0
def own_exp (c : Int32) : Int32 := if c < 33 then 0 else if 126 < c then 0 else if own_del c = 0 then 1 else 0
theorem own_neg {c : Int32} (h : c < 0) : 0 = own_exp c := by
  have : c < 33 := by
    rw [Int32.lt_iff_toInt_lt] at *
    exact Int.lt_trans h (by decide)
  simp [own_exp, this]
theorem own_big {c : Int32} (h : ¬ c < 128) : 0 = own_exp c := by
  have h1 : ¬ c < 33 := fun q => h (by rw [Int32.lt_iff_toInt_lt] at *; exact Int.lt_trans q (by decide))
  have h2 : 126 < c := by
    have h3 : (128 : Int32).toInt ≤ c.toInt := by
      rw [Int32.lt_iff_toInt_lt] at h
      omega
    rw [Int32.lt_iff_toInt_lt]
    exact Int.lt_of_lt_of_le (by decide) h3
  simp [own_exp, h1, h2]
theorem own_01 {c : Int32} (h : ¬ own_exp c = 0) : 1 = own_exp c := by
  unfold own_exp at *
  by_cases h1 : c < 33
  · simp [h1] at h
  · by_cases h2 : 126 < c
    · simp [h1, h2] at h
    · by_cases h3 : own_del c = 0
      · simp [h1, h2, h3]
      · simp [h1, h2, h3] at h
theorem own_all {args : Array Value} {s : State} {t : Term} {c : Jvm.Cond} {a : Addr} {cell : Cell} (ht : t.eval args s none [] s = some (.ref a)) (hc : s.arrayAt? a = some cell) (h : (Jvm.Cond.all t c).value args s none s [] = some true) (i : Nat) (hi : i < cell.slots.size) : c.value args s none s [i] = some true := by
  simp only [Jvm.Cond.value, ht, hc] at h
  have key : ∀ (l : List Nat) (acc : Option Bool), l.foldl (fun acc i => match acc with | some true => c.value args s none s [i] | x => x) acc = some true → acc = some true ∧ ∀ i ∈ l, c.value args s none s [i] = some true := by
    intro l
    induction l with
    | nil => intro acc h; exact ⟨h, fun _ q => nomatch q⟩
    | cons x l ih =>
      intro acc h
      obtain ⟨h1, h2⟩ := ih _ h
      match acc, h1 with
      | some true, h1 => exact ⟨rfl, fun i q => (List.mem_cons.mp q).elim (fun u => u ▸ h1) (h2 i)⟩
  exact (key _ _ h).2 i (List.mem_range.mpr hi)
theorem own_or {args : Array Value} {s : State} {a b : Jvm.Cond} {idx : List Nat} (h : (Jvm.Cond.or a b).value args s none s idx = some true) (ha : a.value args s none s idx = some false) : b.value args s none s idx = some true := by
  simpa [Jvm.Cond.value, ha] using h
theorem own_elem {args : Array Value} {s : State} {t : Term} {a : Addr} {cell : Cell} {k : Nat} {v : Int32} (ht : ∀ idx, t.eval args s none idx s = some (.ref a)) (hc : s.heap[a]? = some cell) (hk : k < 2 ^ 31) (h : (Jvm.Cond.eq (.elem t (.index 0)) (.int v)).value args s none s [k] = some true) : cell.slots[k]? = some (.int v) := by
  have e := elem_in (own_eqI h) (ht [k]) (Term.index_eval k) hc
  have q : k.toInt32.toNatClampNeg = k := by
    have := len_toInt hk
    rw [Int32.toNatClampNeg, this]
    rfl
  rw [q] at e
  exact e.2
theorem own_elemL {args : Array Value} {s : State} {t : Term} {a : Addr} {cell : Cell} {j v : Int32} (ht : ∀ idx, t.eval args s none idx s = some (.ref a)) (hc : s.heap[a]? = some cell) (h : (Jvm.Cond.eq (.elem t (.int j)) (.int v)).value args s none s [] = some true) : cell.slots[j.toNatClampNeg]? = some (.int v) :=
  (elem_in (own_eqI h) (ht []) rfl hc).2
def Q3 (p1 : Int32) (h0 : Heap) (n0 : Nat) (v : Option Value) (h : Heap) (L : List Loc) : Prop := v = some (.int (own_del p1)) ∧ Fr n0 L ∧ h = h0
theorem d3_0 : decode method_4_code 0 = .ok (.iload_n 0, 1) := by decide +kernel
theorem d3_1 : decode method_4_code 1 = .ok (.bipush 34, 2) := by decide +kernel
theorem d3_3 : decode method_4_code 3 = .ok (.if_icmp .eq 99, 3) := by decide +kernel
theorem d3_6 : decode method_4_code 6 = .ok (.iload_n 0, 1) := by decide +kernel
theorem d3_7 : decode method_4_code 7 = .ok (.bipush 40, 2) := by decide +kernel
theorem d3_9 : decode method_4_code 9 = .ok (.if_icmp .eq 93, 3) := by decide +kernel
theorem d3_12 : decode method_4_code 12 = .ok (.iload_n 0, 1) := by decide +kernel
theorem d3_13 : decode method_4_code 13 = .ok (.bipush 41, 2) := by decide +kernel
theorem d3_15 : decode method_4_code 15 = .ok (.if_icmp .eq 87, 3) := by decide +kernel
theorem d3_18 : decode method_4_code 18 = .ok (.iload_n 0, 1) := by decide +kernel
theorem d3_19 : decode method_4_code 19 = .ok (.bipush 44, 2) := by decide +kernel
theorem d3_21 : decode method_4_code 21 = .ok (.if_icmp .eq 81, 3) := by decide +kernel
theorem d3_24 : decode method_4_code 24 = .ok (.iload_n 0, 1) := by decide +kernel
theorem d3_25 : decode method_4_code 25 = .ok (.bipush 47, 2) := by decide +kernel
theorem d3_27 : decode method_4_code 27 = .ok (.if_icmp .eq 75, 3) := by decide +kernel
theorem d3_30 : decode method_4_code 30 = .ok (.iload_n 0, 1) := by decide +kernel
theorem d3_31 : decode method_4_code 31 = .ok (.bipush 58, 2) := by decide +kernel
theorem d3_33 : decode method_4_code 33 = .ok (.if_icmp .eq 69, 3) := by decide +kernel
theorem d3_36 : decode method_4_code 36 = .ok (.iload_n 0, 1) := by decide +kernel
theorem d3_37 : decode method_4_code 37 = .ok (.bipush 59, 2) := by decide +kernel
theorem d3_39 : decode method_4_code 39 = .ok (.if_icmp .eq 63, 3) := by decide +kernel
theorem d3_42 : decode method_4_code 42 = .ok (.iload_n 0, 1) := by decide +kernel
theorem d3_43 : decode method_4_code 43 = .ok (.bipush 60, 2) := by decide +kernel
theorem d3_45 : decode method_4_code 45 = .ok (.if_icmp .eq 57, 3) := by decide +kernel
theorem d3_48 : decode method_4_code 48 = .ok (.iload_n 0, 1) := by decide +kernel
theorem d3_49 : decode method_4_code 49 = .ok (.bipush 61, 2) := by decide +kernel
theorem d3_51 : decode method_4_code 51 = .ok (.if_icmp .eq 51, 3) := by decide +kernel
theorem d3_54 : decode method_4_code 54 = .ok (.iload_n 0, 1) := by decide +kernel
theorem d3_55 : decode method_4_code 55 = .ok (.bipush 62, 2) := by decide +kernel
theorem d3_57 : decode method_4_code 57 = .ok (.if_icmp .eq 45, 3) := by decide +kernel
theorem d3_60 : decode method_4_code 60 = .ok (.iload_n 0, 1) := by decide +kernel
theorem d3_61 : decode method_4_code 61 = .ok (.bipush 63, 2) := by decide +kernel
theorem d3_63 : decode method_4_code 63 = .ok (.if_icmp .eq 39, 3) := by decide +kernel
theorem d3_66 : decode method_4_code 66 = .ok (.iload_n 0, 1) := by decide +kernel
theorem d3_67 : decode method_4_code 67 = .ok (.bipush 64, 2) := by decide +kernel
theorem d3_69 : decode method_4_code 69 = .ok (.if_icmp .eq 33, 3) := by decide +kernel
theorem d3_72 : decode method_4_code 72 = .ok (.iload_n 0, 1) := by decide +kernel
theorem d3_73 : decode method_4_code 73 = .ok (.bipush 91, 2) := by decide +kernel
theorem d3_75 : decode method_4_code 75 = .ok (.if_icmp .eq 27, 3) := by decide +kernel
theorem d3_78 : decode method_4_code 78 = .ok (.iload_n 0, 1) := by decide +kernel
theorem d3_79 : decode method_4_code 79 = .ok (.bipush 92, 2) := by decide +kernel
theorem d3_81 : decode method_4_code 81 = .ok (.if_icmp .eq 21, 3) := by decide +kernel
theorem d3_84 : decode method_4_code 84 = .ok (.iload_n 0, 1) := by decide +kernel
theorem d3_85 : decode method_4_code 85 = .ok (.bipush 93, 2) := by decide +kernel
theorem d3_87 : decode method_4_code 87 = .ok (.if_icmp .eq 15, 3) := by decide +kernel
theorem d3_90 : decode method_4_code 90 = .ok (.iload_n 0, 1) := by decide +kernel
theorem d3_91 : decode method_4_code 91 = .ok (.bipush 123, 2) := by decide +kernel
theorem d3_93 : decode method_4_code 93 = .ok (.if_icmp .eq 9, 3) := by decide +kernel
theorem d3_96 : decode method_4_code 96 = .ok (.iload_n 0, 1) := by decide +kernel
theorem d3_97 : decode method_4_code 97 = .ok (.bipush 125, 2) := by decide +kernel
theorem d3_99 : decode method_4_code 99 = .ok (.if_icmp .ne 7, 3) := by decide +kernel
theorem d3_102 : decode method_4_code 102 = .ok (.iconst 1, 1) := by decide +kernel
theorem d3_103 : decode method_4_code 103 = .ok (.goto 4, 3) := by decide +kernel
theorem d3_106 : decode method_4_code 106 = .ok (.iconst 0, 1) := by decide +kernel
theorem d3_107 : decode method_4_code 107 = .ok (.ireturn, 1) := by decide +kernel
set_option maxRecDepth 65536 in
set_option maxHeartbeats 40000000 in
theorem rm3 (l : Launch) (Z : State) (a0 : Array Value) (hw : ∀ d ∈ tables_1, d.before a0 Z = true) (ws : List Jvm.Cond) (p1 : Int32) (h0 : Heap) (n0 : Nat) (Z0 : n0 ≤ h0.size)  :
    MetFree l (⟨"com/example/vestibule/vestibule/http/TokensIsTokenCharPinLaw", "isDelimiter", "(I)Z"⟩ : MethodName) (head1 (Jvm.Cond.code (⟨"com/example/vestibule/vestibule/http/TokensIsTokenCharPinLaw", "isDelimiter", "(I)Z"⟩ : MethodName) method_4_code 1 (some .boolean) :: ws) ({ frames := 0, cells := 0, slots := 0, locals := 0 } : Room)) (fun a U => a = #[(.int p1)] ∧ Z.Warmed39 U.vm ∧ U.heap = h0) (fun _ _ _ _ _ => True) (fun _ U o U' => ∃ v L, o = .returned v ∧ Q3 p1 h0 n0 v U'.heap L ∧ FrameEnd U o U' L 0 0) := by
  refine MetFree.of_bodySF (plainFor_of_name (by first | (simp [plainName, overriddenIn]; done) | decide +kernel)) hisR ?_
  intro p e s m args below meth c s₁ Bd hml0 hP hK
  obtain ⟨rfl, hZ, hh⟩ := hP
  have hx := Bd.exec
  have hby := Bd.bytes
  have hml : c.maxLocals = 1 := hml0
  have hown : s.vm.findClass "com/example/vestibule/vestibule/http/TokensIsTokenCharPinLaw" = some m.cls := findClass_of_methodNamed Bd.named
  have hnm := (name_of_methodNamed Bd.named Bd.method).1
  have X0 : Stand p l e ({ frames := 0, cells := 0, slots := 0, locals := 0 } : Room) s m #[(.int p1)] below meth c s₁ [] 0 0 := Stand.of_body Bd
  have e0 : s₁.heap = h0 := by rw [← hh, Bd.state]; rfl
  have N0 := Fr.nil n0
  have ef : entryFrame m #[(.int p1)] 1 = (mkF m 0 #[.val (.int p1)] []) := by first | (simp [entryFrame, mkF, argsToLocals, Value.category]; done) | rfl
  refine own_start (fun P hPP => ?_)
  refine own_step (T' := s₁) (g' := (mkF m 0 #[.val (.int p1)] [])) (fun t_ k_ => castTop ef k_) ?_
  refine own_step (T' := s₁) (g' := (mkF m 1 #[.val (.int p1)] [(.int p1)])) (fun t_ k_ => XS.iloadN X0.here hx rfl (hb hby d3_0) rfl k_) ?_
  refine own_step (T' := s₁) (g' := (mkF m 3 #[.val (.int p1)] [(.int (34 : Int32)), (.int p1)])) (fun t_ k_ => XS.bipush X0.here hx rfl (hb hby d3_1) k_) ?_
  by_cases hc3_1 : p1 = (34 : Int32)
  · refine own_step (T' := s₁) (g' := (mkF m 102 #[.val (.int p1)] [])) (fun t_ k_ => XS.icmpYes X0.here hx rfl (pc0 := 3) (pc' := 102) rfl (hb hby d3_3) rfl (teq hc3_1).1 (by decide) (by decide) k_) ?_
    refine own_step (T' := s₁) (g' := (mkF m 103 #[.val (.int p1)] [(.int (1 : Int32))])) (fun t_ k_ => XS.iconst X0.here hx rfl (hb hby d3_102) k_) ?_
    refine own_step (T' := s₁) (g' := (mkF m 107 #[.val (.int p1)] [(.int (1 : Int32))])) (fun t_ k_ => XS.goto X0.here hx rfl (pc0 := 103) (pc' := 107) rfl (hb hby d3_103) (by decide) (by decide) k_) ?_
    obtain ⟨fs, hrR, hrun, hended, hWW, hsame⟩ := X0.leave (v := some (.int (1 : Int32))) (fun h => by rw [Bd.returns] at h; cases h)
    refine ⟨_, _, own_retZ X0 hx (t := .boolean) Bd.returns (by simp) (by decide) (hb hby d3_107) hrR, hrun, hended, hPP _ _ ⟨_, _, rfl, ?_, ⟨_, rfl⟩, hWW, hsame.mono (by decide) (by decide)⟩⟩
    show Q3 p1 h0 n0 _ s₁.heap _
    rw [e0]
    exact ⟨by simp [own_del, hc3_1], N0, rfl⟩
  · refine own_step (T' := s₁) (g' := (mkF m 6 #[.val (.int p1)] [])) (fun t_ k_ => XS.icmpNo X0.here hx rfl (hb hby d3_3) rfl (feq hc3_1).1 k_) ?_
    refine own_step (T' := s₁) (g' := (mkF m 7 #[.val (.int p1)] [(.int p1)])) (fun t_ k_ => XS.iloadN X0.here hx rfl (hb hby d3_6) rfl k_) ?_
    refine own_step (T' := s₁) (g' := (mkF m 9 #[.val (.int p1)] [(.int (40 : Int32)), (.int p1)])) (fun t_ k_ => XS.bipush X0.here hx rfl (hb hby d3_7) k_) ?_
    by_cases hc9_2 : p1 = (40 : Int32)
    · refine own_step (T' := s₁) (g' := (mkF m 102 #[.val (.int p1)] [])) (fun t_ k_ => XS.icmpYes X0.here hx rfl (pc0 := 9) (pc' := 102) rfl (hb hby d3_9) rfl (teq hc9_2).1 (by decide) (by decide) k_) ?_
      refine own_step (T' := s₁) (g' := (mkF m 103 #[.val (.int p1)] [(.int (1 : Int32))])) (fun t_ k_ => XS.iconst X0.here hx rfl (hb hby d3_102) k_) ?_
      refine own_step (T' := s₁) (g' := (mkF m 107 #[.val (.int p1)] [(.int (1 : Int32))])) (fun t_ k_ => XS.goto X0.here hx rfl (pc0 := 103) (pc' := 107) rfl (hb hby d3_103) (by decide) (by decide) k_) ?_
      obtain ⟨fs, hrR, hrun, hended, hWW, hsame⟩ := X0.leave (v := some (.int (1 : Int32))) (fun h => by rw [Bd.returns] at h; cases h)
      refine ⟨_, _, own_retZ X0 hx (t := .boolean) Bd.returns (by simp) (by decide) (hb hby d3_107) hrR, hrun, hended, hPP _ _ ⟨_, _, rfl, ?_, ⟨_, rfl⟩, hWW, hsame.mono (by decide) (by decide)⟩⟩
      show Q3 p1 h0 n0 _ s₁.heap _
      rw [e0]
      exact ⟨by simp [own_del, hc3_1, hc9_2], N0, rfl⟩
    · refine own_step (T' := s₁) (g' := (mkF m 12 #[.val (.int p1)] [])) (fun t_ k_ => XS.icmpNo X0.here hx rfl (hb hby d3_9) rfl (feq hc9_2).1 k_) ?_
      refine own_step (T' := s₁) (g' := (mkF m 13 #[.val (.int p1)] [(.int p1)])) (fun t_ k_ => XS.iloadN X0.here hx rfl (hb hby d3_12) rfl k_) ?_
      refine own_step (T' := s₁) (g' := (mkF m 15 #[.val (.int p1)] [(.int (41 : Int32)), (.int p1)])) (fun t_ k_ => XS.bipush X0.here hx rfl (hb hby d3_13) k_) ?_
      by_cases hc15_3 : p1 = (41 : Int32)
      · refine own_step (T' := s₁) (g' := (mkF m 102 #[.val (.int p1)] [])) (fun t_ k_ => XS.icmpYes X0.here hx rfl (pc0 := 15) (pc' := 102) rfl (hb hby d3_15) rfl (teq hc15_3).1 (by decide) (by decide) k_) ?_
        refine own_step (T' := s₁) (g' := (mkF m 103 #[.val (.int p1)] [(.int (1 : Int32))])) (fun t_ k_ => XS.iconst X0.here hx rfl (hb hby d3_102) k_) ?_
        refine own_step (T' := s₁) (g' := (mkF m 107 #[.val (.int p1)] [(.int (1 : Int32))])) (fun t_ k_ => XS.goto X0.here hx rfl (pc0 := 103) (pc' := 107) rfl (hb hby d3_103) (by decide) (by decide) k_) ?_
        obtain ⟨fs, hrR, hrun, hended, hWW, hsame⟩ := X0.leave (v := some (.int (1 : Int32))) (fun h => by rw [Bd.returns] at h; cases h)
        refine ⟨_, _, own_retZ X0 hx (t := .boolean) Bd.returns (by simp) (by decide) (hb hby d3_107) hrR, hrun, hended, hPP _ _ ⟨_, _, rfl, ?_, ⟨_, rfl⟩, hWW, hsame.mono (by decide) (by decide)⟩⟩
        show Q3 p1 h0 n0 _ s₁.heap _
        rw [e0]
        exact ⟨by simp [own_del, hc3_1, hc9_2, hc15_3], N0, rfl⟩
      · refine own_step (T' := s₁) (g' := (mkF m 18 #[.val (.int p1)] [])) (fun t_ k_ => XS.icmpNo X0.here hx rfl (hb hby d3_15) rfl (feq hc15_3).1 k_) ?_
        refine own_step (T' := s₁) (g' := (mkF m 19 #[.val (.int p1)] [(.int p1)])) (fun t_ k_ => XS.iloadN X0.here hx rfl (hb hby d3_18) rfl k_) ?_
        refine own_step (T' := s₁) (g' := (mkF m 21 #[.val (.int p1)] [(.int (44 : Int32)), (.int p1)])) (fun t_ k_ => XS.bipush X0.here hx rfl (hb hby d3_19) k_) ?_
        by_cases hc21_4 : p1 = (44 : Int32)
        · refine own_step (T' := s₁) (g' := (mkF m 102 #[.val (.int p1)] [])) (fun t_ k_ => XS.icmpYes X0.here hx rfl (pc0 := 21) (pc' := 102) rfl (hb hby d3_21) rfl (teq hc21_4).1 (by decide) (by decide) k_) ?_
          refine own_step (T' := s₁) (g' := (mkF m 103 #[.val (.int p1)] [(.int (1 : Int32))])) (fun t_ k_ => XS.iconst X0.here hx rfl (hb hby d3_102) k_) ?_
          refine own_step (T' := s₁) (g' := (mkF m 107 #[.val (.int p1)] [(.int (1 : Int32))])) (fun t_ k_ => XS.goto X0.here hx rfl (pc0 := 103) (pc' := 107) rfl (hb hby d3_103) (by decide) (by decide) k_) ?_
          obtain ⟨fs, hrR, hrun, hended, hWW, hsame⟩ := X0.leave (v := some (.int (1 : Int32))) (fun h => by rw [Bd.returns] at h; cases h)
          refine ⟨_, _, own_retZ X0 hx (t := .boolean) Bd.returns (by simp) (by decide) (hb hby d3_107) hrR, hrun, hended, hPP _ _ ⟨_, _, rfl, ?_, ⟨_, rfl⟩, hWW, hsame.mono (by decide) (by decide)⟩⟩
          show Q3 p1 h0 n0 _ s₁.heap _
          rw [e0]
          exact ⟨by simp [own_del, hc3_1, hc9_2, hc15_3, hc21_4], N0, rfl⟩
        · refine own_step (T' := s₁) (g' := (mkF m 24 #[.val (.int p1)] [])) (fun t_ k_ => XS.icmpNo X0.here hx rfl (hb hby d3_21) rfl (feq hc21_4).1 k_) ?_
          refine own_step (T' := s₁) (g' := (mkF m 25 #[.val (.int p1)] [(.int p1)])) (fun t_ k_ => XS.iloadN X0.here hx rfl (hb hby d3_24) rfl k_) ?_
          refine own_step (T' := s₁) (g' := (mkF m 27 #[.val (.int p1)] [(.int (47 : Int32)), (.int p1)])) (fun t_ k_ => XS.bipush X0.here hx rfl (hb hby d3_25) k_) ?_
          by_cases hc27_5 : p1 = (47 : Int32)
          · refine own_step (T' := s₁) (g' := (mkF m 102 #[.val (.int p1)] [])) (fun t_ k_ => XS.icmpYes X0.here hx rfl (pc0 := 27) (pc' := 102) rfl (hb hby d3_27) rfl (teq hc27_5).1 (by decide) (by decide) k_) ?_
            refine own_step (T' := s₁) (g' := (mkF m 103 #[.val (.int p1)] [(.int (1 : Int32))])) (fun t_ k_ => XS.iconst X0.here hx rfl (hb hby d3_102) k_) ?_
            refine own_step (T' := s₁) (g' := (mkF m 107 #[.val (.int p1)] [(.int (1 : Int32))])) (fun t_ k_ => XS.goto X0.here hx rfl (pc0 := 103) (pc' := 107) rfl (hb hby d3_103) (by decide) (by decide) k_) ?_
            obtain ⟨fs, hrR, hrun, hended, hWW, hsame⟩ := X0.leave (v := some (.int (1 : Int32))) (fun h => by rw [Bd.returns] at h; cases h)
            refine ⟨_, _, own_retZ X0 hx (t := .boolean) Bd.returns (by simp) (by decide) (hb hby d3_107) hrR, hrun, hended, hPP _ _ ⟨_, _, rfl, ?_, ⟨_, rfl⟩, hWW, hsame.mono (by decide) (by decide)⟩⟩
            show Q3 p1 h0 n0 _ s₁.heap _
            rw [e0]
            exact ⟨by simp [own_del, hc3_1, hc9_2, hc15_3, hc21_4, hc27_5], N0, rfl⟩
          · refine own_step (T' := s₁) (g' := (mkF m 30 #[.val (.int p1)] [])) (fun t_ k_ => XS.icmpNo X0.here hx rfl (hb hby d3_27) rfl (feq hc27_5).1 k_) ?_
            refine own_step (T' := s₁) (g' := (mkF m 31 #[.val (.int p1)] [(.int p1)])) (fun t_ k_ => XS.iloadN X0.here hx rfl (hb hby d3_30) rfl k_) ?_
            refine own_step (T' := s₁) (g' := (mkF m 33 #[.val (.int p1)] [(.int (58 : Int32)), (.int p1)])) (fun t_ k_ => XS.bipush X0.here hx rfl (hb hby d3_31) k_) ?_
            by_cases hc33_6 : p1 = (58 : Int32)
            · refine own_step (T' := s₁) (g' := (mkF m 102 #[.val (.int p1)] [])) (fun t_ k_ => XS.icmpYes X0.here hx rfl (pc0 := 33) (pc' := 102) rfl (hb hby d3_33) rfl (teq hc33_6).1 (by decide) (by decide) k_) ?_
              refine own_step (T' := s₁) (g' := (mkF m 103 #[.val (.int p1)] [(.int (1 : Int32))])) (fun t_ k_ => XS.iconst X0.here hx rfl (hb hby d3_102) k_) ?_
              refine own_step (T' := s₁) (g' := (mkF m 107 #[.val (.int p1)] [(.int (1 : Int32))])) (fun t_ k_ => XS.goto X0.here hx rfl (pc0 := 103) (pc' := 107) rfl (hb hby d3_103) (by decide) (by decide) k_) ?_
              obtain ⟨fs, hrR, hrun, hended, hWW, hsame⟩ := X0.leave (v := some (.int (1 : Int32))) (fun h => by rw [Bd.returns] at h; cases h)
              refine ⟨_, _, own_retZ X0 hx (t := .boolean) Bd.returns (by simp) (by decide) (hb hby d3_107) hrR, hrun, hended, hPP _ _ ⟨_, _, rfl, ?_, ⟨_, rfl⟩, hWW, hsame.mono (by decide) (by decide)⟩⟩
              show Q3 p1 h0 n0 _ s₁.heap _
              rw [e0]
              exact ⟨by simp [own_del, hc3_1, hc9_2, hc15_3, hc21_4, hc27_5, hc33_6], N0, rfl⟩
            · refine own_step (T' := s₁) (g' := (mkF m 36 #[.val (.int p1)] [])) (fun t_ k_ => XS.icmpNo X0.here hx rfl (hb hby d3_33) rfl (feq hc33_6).1 k_) ?_
              refine own_step (T' := s₁) (g' := (mkF m 37 #[.val (.int p1)] [(.int p1)])) (fun t_ k_ => XS.iloadN X0.here hx rfl (hb hby d3_36) rfl k_) ?_
              refine own_step (T' := s₁) (g' := (mkF m 39 #[.val (.int p1)] [(.int (59 : Int32)), (.int p1)])) (fun t_ k_ => XS.bipush X0.here hx rfl (hb hby d3_37) k_) ?_
              by_cases hc39_7 : p1 = (59 : Int32)
              · refine own_step (T' := s₁) (g' := (mkF m 102 #[.val (.int p1)] [])) (fun t_ k_ => XS.icmpYes X0.here hx rfl (pc0 := 39) (pc' := 102) rfl (hb hby d3_39) rfl (teq hc39_7).1 (by decide) (by decide) k_) ?_
                refine own_step (T' := s₁) (g' := (mkF m 103 #[.val (.int p1)] [(.int (1 : Int32))])) (fun t_ k_ => XS.iconst X0.here hx rfl (hb hby d3_102) k_) ?_
                refine own_step (T' := s₁) (g' := (mkF m 107 #[.val (.int p1)] [(.int (1 : Int32))])) (fun t_ k_ => XS.goto X0.here hx rfl (pc0 := 103) (pc' := 107) rfl (hb hby d3_103) (by decide) (by decide) k_) ?_
                obtain ⟨fs, hrR, hrun, hended, hWW, hsame⟩ := X0.leave (v := some (.int (1 : Int32))) (fun h => by rw [Bd.returns] at h; cases h)
                refine ⟨_, _, own_retZ X0 hx (t := .boolean) Bd.returns (by simp) (by decide) (hb hby d3_107) hrR, hrun, hended, hPP _ _ ⟨_, _, rfl, ?_, ⟨_, rfl⟩, hWW, hsame.mono (by decide) (by decide)⟩⟩
                show Q3 p1 h0 n0 _ s₁.heap _
                rw [e0]
                exact ⟨by simp [own_del, hc3_1, hc9_2, hc15_3, hc21_4, hc27_5, hc33_6, hc39_7], N0, rfl⟩
              · refine own_step (T' := s₁) (g' := (mkF m 42 #[.val (.int p1)] [])) (fun t_ k_ => XS.icmpNo X0.here hx rfl (hb hby d3_39) rfl (feq hc39_7).1 k_) ?_
                refine own_step (T' := s₁) (g' := (mkF m 43 #[.val (.int p1)] [(.int p1)])) (fun t_ k_ => XS.iloadN X0.here hx rfl (hb hby d3_42) rfl k_) ?_
                refine own_step (T' := s₁) (g' := (mkF m 45 #[.val (.int p1)] [(.int (60 : Int32)), (.int p1)])) (fun t_ k_ => XS.bipush X0.here hx rfl (hb hby d3_43) k_) ?_
                by_cases hc45_8 : p1 = (60 : Int32)
                · refine own_step (T' := s₁) (g' := (mkF m 102 #[.val (.int p1)] [])) (fun t_ k_ => XS.icmpYes X0.here hx rfl (pc0 := 45) (pc' := 102) rfl (hb hby d3_45) rfl (teq hc45_8).1 (by decide) (by decide) k_) ?_
                  refine own_step (T' := s₁) (g' := (mkF m 103 #[.val (.int p1)] [(.int (1 : Int32))])) (fun t_ k_ => XS.iconst X0.here hx rfl (hb hby d3_102) k_) ?_
                  refine own_step (T' := s₁) (g' := (mkF m 107 #[.val (.int p1)] [(.int (1 : Int32))])) (fun t_ k_ => XS.goto X0.here hx rfl (pc0 := 103) (pc' := 107) rfl (hb hby d3_103) (by decide) (by decide) k_) ?_
                  obtain ⟨fs, hrR, hrun, hended, hWW, hsame⟩ := X0.leave (v := some (.int (1 : Int32))) (fun h => by rw [Bd.returns] at h; cases h)
                  refine ⟨_, _, own_retZ X0 hx (t := .boolean) Bd.returns (by simp) (by decide) (hb hby d3_107) hrR, hrun, hended, hPP _ _ ⟨_, _, rfl, ?_, ⟨_, rfl⟩, hWW, hsame.mono (by decide) (by decide)⟩⟩
                  show Q3 p1 h0 n0 _ s₁.heap _
                  rw [e0]
                  exact ⟨by simp [own_del, hc3_1, hc9_2, hc15_3, hc21_4, hc27_5, hc33_6, hc39_7, hc45_8], N0, rfl⟩
                · refine own_step (T' := s₁) (g' := (mkF m 48 #[.val (.int p1)] [])) (fun t_ k_ => XS.icmpNo X0.here hx rfl (hb hby d3_45) rfl (feq hc45_8).1 k_) ?_
                  refine own_step (T' := s₁) (g' := (mkF m 49 #[.val (.int p1)] [(.int p1)])) (fun t_ k_ => XS.iloadN X0.here hx rfl (hb hby d3_48) rfl k_) ?_
                  refine own_step (T' := s₁) (g' := (mkF m 51 #[.val (.int p1)] [(.int (61 : Int32)), (.int p1)])) (fun t_ k_ => XS.bipush X0.here hx rfl (hb hby d3_49) k_) ?_
                  by_cases hc51_9 : p1 = (61 : Int32)
                  · refine own_step (T' := s₁) (g' := (mkF m 102 #[.val (.int p1)] [])) (fun t_ k_ => XS.icmpYes X0.here hx rfl (pc0 := 51) (pc' := 102) rfl (hb hby d3_51) rfl (teq hc51_9).1 (by decide) (by decide) k_) ?_
                    refine own_step (T' := s₁) (g' := (mkF m 103 #[.val (.int p1)] [(.int (1 : Int32))])) (fun t_ k_ => XS.iconst X0.here hx rfl (hb hby d3_102) k_) ?_
                    refine own_step (T' := s₁) (g' := (mkF m 107 #[.val (.int p1)] [(.int (1 : Int32))])) (fun t_ k_ => XS.goto X0.here hx rfl (pc0 := 103) (pc' := 107) rfl (hb hby d3_103) (by decide) (by decide) k_) ?_
                    obtain ⟨fs, hrR, hrun, hended, hWW, hsame⟩ := X0.leave (v := some (.int (1 : Int32))) (fun h => by rw [Bd.returns] at h; cases h)
                    refine ⟨_, _, own_retZ X0 hx (t := .boolean) Bd.returns (by simp) (by decide) (hb hby d3_107) hrR, hrun, hended, hPP _ _ ⟨_, _, rfl, ?_, ⟨_, rfl⟩, hWW, hsame.mono (by decide) (by decide)⟩⟩
                    show Q3 p1 h0 n0 _ s₁.heap _
                    rw [e0]
                    exact ⟨by simp [own_del, hc3_1, hc9_2, hc15_3, hc21_4, hc27_5, hc33_6, hc39_7, hc45_8, hc51_9], N0, rfl⟩
                  · refine own_step (T' := s₁) (g' := (mkF m 54 #[.val (.int p1)] [])) (fun t_ k_ => XS.icmpNo X0.here hx rfl (hb hby d3_51) rfl (feq hc51_9).1 k_) ?_
                    refine own_step (T' := s₁) (g' := (mkF m 55 #[.val (.int p1)] [(.int p1)])) (fun t_ k_ => XS.iloadN X0.here hx rfl (hb hby d3_54) rfl k_) ?_
                    refine own_step (T' := s₁) (g' := (mkF m 57 #[.val (.int p1)] [(.int (62 : Int32)), (.int p1)])) (fun t_ k_ => XS.bipush X0.here hx rfl (hb hby d3_55) k_) ?_
                    by_cases hc57_10 : p1 = (62 : Int32)
                    · refine own_step (T' := s₁) (g' := (mkF m 102 #[.val (.int p1)] [])) (fun t_ k_ => XS.icmpYes X0.here hx rfl (pc0 := 57) (pc' := 102) rfl (hb hby d3_57) rfl (teq hc57_10).1 (by decide) (by decide) k_) ?_
                      refine own_step (T' := s₁) (g' := (mkF m 103 #[.val (.int p1)] [(.int (1 : Int32))])) (fun t_ k_ => XS.iconst X0.here hx rfl (hb hby d3_102) k_) ?_
                      refine own_step (T' := s₁) (g' := (mkF m 107 #[.val (.int p1)] [(.int (1 : Int32))])) (fun t_ k_ => XS.goto X0.here hx rfl (pc0 := 103) (pc' := 107) rfl (hb hby d3_103) (by decide) (by decide) k_) ?_
                      obtain ⟨fs, hrR, hrun, hended, hWW, hsame⟩ := X0.leave (v := some (.int (1 : Int32))) (fun h => by rw [Bd.returns] at h; cases h)
                      refine ⟨_, _, own_retZ X0 hx (t := .boolean) Bd.returns (by simp) (by decide) (hb hby d3_107) hrR, hrun, hended, hPP _ _ ⟨_, _, rfl, ?_, ⟨_, rfl⟩, hWW, hsame.mono (by decide) (by decide)⟩⟩
                      show Q3 p1 h0 n0 _ s₁.heap _
                      rw [e0]
                      exact ⟨by simp [own_del, hc3_1, hc9_2, hc15_3, hc21_4, hc27_5, hc33_6, hc39_7, hc45_8, hc51_9, hc57_10], N0, rfl⟩
                    · refine own_step (T' := s₁) (g' := (mkF m 60 #[.val (.int p1)] [])) (fun t_ k_ => XS.icmpNo X0.here hx rfl (hb hby d3_57) rfl (feq hc57_10).1 k_) ?_
                      refine own_step (T' := s₁) (g' := (mkF m 61 #[.val (.int p1)] [(.int p1)])) (fun t_ k_ => XS.iloadN X0.here hx rfl (hb hby d3_60) rfl k_) ?_
                      refine own_step (T' := s₁) (g' := (mkF m 63 #[.val (.int p1)] [(.int (63 : Int32)), (.int p1)])) (fun t_ k_ => XS.bipush X0.here hx rfl (hb hby d3_61) k_) ?_
                      by_cases hc63_11 : p1 = (63 : Int32)
                      · refine own_step (T' := s₁) (g' := (mkF m 102 #[.val (.int p1)] [])) (fun t_ k_ => XS.icmpYes X0.here hx rfl (pc0 := 63) (pc' := 102) rfl (hb hby d3_63) rfl (teq hc63_11).1 (by decide) (by decide) k_) ?_
                        refine own_step (T' := s₁) (g' := (mkF m 103 #[.val (.int p1)] [(.int (1 : Int32))])) (fun t_ k_ => XS.iconst X0.here hx rfl (hb hby d3_102) k_) ?_
                        refine own_step (T' := s₁) (g' := (mkF m 107 #[.val (.int p1)] [(.int (1 : Int32))])) (fun t_ k_ => XS.goto X0.here hx rfl (pc0 := 103) (pc' := 107) rfl (hb hby d3_103) (by decide) (by decide) k_) ?_
                        obtain ⟨fs, hrR, hrun, hended, hWW, hsame⟩ := X0.leave (v := some (.int (1 : Int32))) (fun h => by rw [Bd.returns] at h; cases h)
                        refine ⟨_, _, own_retZ X0 hx (t := .boolean) Bd.returns (by simp) (by decide) (hb hby d3_107) hrR, hrun, hended, hPP _ _ ⟨_, _, rfl, ?_, ⟨_, rfl⟩, hWW, hsame.mono (by decide) (by decide)⟩⟩
                        show Q3 p1 h0 n0 _ s₁.heap _
                        rw [e0]
                        exact ⟨by simp [own_del, hc3_1, hc9_2, hc15_3, hc21_4, hc27_5, hc33_6, hc39_7, hc45_8, hc51_9, hc57_10, hc63_11], N0, rfl⟩
                      · refine own_step (T' := s₁) (g' := (mkF m 66 #[.val (.int p1)] [])) (fun t_ k_ => XS.icmpNo X0.here hx rfl (hb hby d3_63) rfl (feq hc63_11).1 k_) ?_
                        refine own_step (T' := s₁) (g' := (mkF m 67 #[.val (.int p1)] [(.int p1)])) (fun t_ k_ => XS.iloadN X0.here hx rfl (hb hby d3_66) rfl k_) ?_
                        refine own_step (T' := s₁) (g' := (mkF m 69 #[.val (.int p1)] [(.int (64 : Int32)), (.int p1)])) (fun t_ k_ => XS.bipush X0.here hx rfl (hb hby d3_67) k_) ?_
                        by_cases hc69_12 : p1 = (64 : Int32)
                        · refine own_step (T' := s₁) (g' := (mkF m 102 #[.val (.int p1)] [])) (fun t_ k_ => XS.icmpYes X0.here hx rfl (pc0 := 69) (pc' := 102) rfl (hb hby d3_69) rfl (teq hc69_12).1 (by decide) (by decide) k_) ?_
                          refine own_step (T' := s₁) (g' := (mkF m 103 #[.val (.int p1)] [(.int (1 : Int32))])) (fun t_ k_ => XS.iconst X0.here hx rfl (hb hby d3_102) k_) ?_
                          refine own_step (T' := s₁) (g' := (mkF m 107 #[.val (.int p1)] [(.int (1 : Int32))])) (fun t_ k_ => XS.goto X0.here hx rfl (pc0 := 103) (pc' := 107) rfl (hb hby d3_103) (by decide) (by decide) k_) ?_
                          obtain ⟨fs, hrR, hrun, hended, hWW, hsame⟩ := X0.leave (v := some (.int (1 : Int32))) (fun h => by rw [Bd.returns] at h; cases h)
                          refine ⟨_, _, own_retZ X0 hx (t := .boolean) Bd.returns (by simp) (by decide) (hb hby d3_107) hrR, hrun, hended, hPP _ _ ⟨_, _, rfl, ?_, ⟨_, rfl⟩, hWW, hsame.mono (by decide) (by decide)⟩⟩
                          show Q3 p1 h0 n0 _ s₁.heap _
                          rw [e0]
                          exact ⟨by simp [own_del, hc3_1, hc9_2, hc15_3, hc21_4, hc27_5, hc33_6, hc39_7, hc45_8, hc51_9, hc57_10, hc63_11, hc69_12], N0, rfl⟩
                        · refine own_step (T' := s₁) (g' := (mkF m 72 #[.val (.int p1)] [])) (fun t_ k_ => XS.icmpNo X0.here hx rfl (hb hby d3_69) rfl (feq hc69_12).1 k_) ?_
                          refine own_step (T' := s₁) (g' := (mkF m 73 #[.val (.int p1)] [(.int p1)])) (fun t_ k_ => XS.iloadN X0.here hx rfl (hb hby d3_72) rfl k_) ?_
                          refine own_step (T' := s₁) (g' := (mkF m 75 #[.val (.int p1)] [(.int (91 : Int32)), (.int p1)])) (fun t_ k_ => XS.bipush X0.here hx rfl (hb hby d3_73) k_) ?_
                          by_cases hc75_13 : p1 = (91 : Int32)
                          · refine own_step (T' := s₁) (g' := (mkF m 102 #[.val (.int p1)] [])) (fun t_ k_ => XS.icmpYes X0.here hx rfl (pc0 := 75) (pc' := 102) rfl (hb hby d3_75) rfl (teq hc75_13).1 (by decide) (by decide) k_) ?_
                            refine own_step (T' := s₁) (g' := (mkF m 103 #[.val (.int p1)] [(.int (1 : Int32))])) (fun t_ k_ => XS.iconst X0.here hx rfl (hb hby d3_102) k_) ?_
                            refine own_step (T' := s₁) (g' := (mkF m 107 #[.val (.int p1)] [(.int (1 : Int32))])) (fun t_ k_ => XS.goto X0.here hx rfl (pc0 := 103) (pc' := 107) rfl (hb hby d3_103) (by decide) (by decide) k_) ?_
                            obtain ⟨fs, hrR, hrun, hended, hWW, hsame⟩ := X0.leave (v := some (.int (1 : Int32))) (fun h => by rw [Bd.returns] at h; cases h)
                            refine ⟨_, _, own_retZ X0 hx (t := .boolean) Bd.returns (by simp) (by decide) (hb hby d3_107) hrR, hrun, hended, hPP _ _ ⟨_, _, rfl, ?_, ⟨_, rfl⟩, hWW, hsame.mono (by decide) (by decide)⟩⟩
                            show Q3 p1 h0 n0 _ s₁.heap _
                            rw [e0]
                            exact ⟨by simp [own_del, hc3_1, hc9_2, hc15_3, hc21_4, hc27_5, hc33_6, hc39_7, hc45_8, hc51_9, hc57_10, hc63_11, hc69_12, hc75_13], N0, rfl⟩
                          · refine own_step (T' := s₁) (g' := (mkF m 78 #[.val (.int p1)] [])) (fun t_ k_ => XS.icmpNo X0.here hx rfl (hb hby d3_75) rfl (feq hc75_13).1 k_) ?_
                            refine own_step (T' := s₁) (g' := (mkF m 79 #[.val (.int p1)] [(.int p1)])) (fun t_ k_ => XS.iloadN X0.here hx rfl (hb hby d3_78) rfl k_) ?_
                            refine own_step (T' := s₁) (g' := (mkF m 81 #[.val (.int p1)] [(.int (92 : Int32)), (.int p1)])) (fun t_ k_ => XS.bipush X0.here hx rfl (hb hby d3_79) k_) ?_
                            by_cases hc81_14 : p1 = (92 : Int32)
                            · refine own_step (T' := s₁) (g' := (mkF m 102 #[.val (.int p1)] [])) (fun t_ k_ => XS.icmpYes X0.here hx rfl (pc0 := 81) (pc' := 102) rfl (hb hby d3_81) rfl (teq hc81_14).1 (by decide) (by decide) k_) ?_
                              refine own_step (T' := s₁) (g' := (mkF m 103 #[.val (.int p1)] [(.int (1 : Int32))])) (fun t_ k_ => XS.iconst X0.here hx rfl (hb hby d3_102) k_) ?_
                              refine own_step (T' := s₁) (g' := (mkF m 107 #[.val (.int p1)] [(.int (1 : Int32))])) (fun t_ k_ => XS.goto X0.here hx rfl (pc0 := 103) (pc' := 107) rfl (hb hby d3_103) (by decide) (by decide) k_) ?_
                              obtain ⟨fs, hrR, hrun, hended, hWW, hsame⟩ := X0.leave (v := some (.int (1 : Int32))) (fun h => by rw [Bd.returns] at h; cases h)
                              refine ⟨_, _, own_retZ X0 hx (t := .boolean) Bd.returns (by simp) (by decide) (hb hby d3_107) hrR, hrun, hended, hPP _ _ ⟨_, _, rfl, ?_, ⟨_, rfl⟩, hWW, hsame.mono (by decide) (by decide)⟩⟩
                              show Q3 p1 h0 n0 _ s₁.heap _
                              rw [e0]
                              exact ⟨by simp [own_del, hc3_1, hc9_2, hc15_3, hc21_4, hc27_5, hc33_6, hc39_7, hc45_8, hc51_9, hc57_10, hc63_11, hc69_12, hc75_13, hc81_14], N0, rfl⟩
                            · refine own_step (T' := s₁) (g' := (mkF m 84 #[.val (.int p1)] [])) (fun t_ k_ => XS.icmpNo X0.here hx rfl (hb hby d3_81) rfl (feq hc81_14).1 k_) ?_
                              refine own_step (T' := s₁) (g' := (mkF m 85 #[.val (.int p1)] [(.int p1)])) (fun t_ k_ => XS.iloadN X0.here hx rfl (hb hby d3_84) rfl k_) ?_
                              refine own_step (T' := s₁) (g' := (mkF m 87 #[.val (.int p1)] [(.int (93 : Int32)), (.int p1)])) (fun t_ k_ => XS.bipush X0.here hx rfl (hb hby d3_85) k_) ?_
                              by_cases hc87_15 : p1 = (93 : Int32)
                              · refine own_step (T' := s₁) (g' := (mkF m 102 #[.val (.int p1)] [])) (fun t_ k_ => XS.icmpYes X0.here hx rfl (pc0 := 87) (pc' := 102) rfl (hb hby d3_87) rfl (teq hc87_15).1 (by decide) (by decide) k_) ?_
                                refine own_step (T' := s₁) (g' := (mkF m 103 #[.val (.int p1)] [(.int (1 : Int32))])) (fun t_ k_ => XS.iconst X0.here hx rfl (hb hby d3_102) k_) ?_
                                refine own_step (T' := s₁) (g' := (mkF m 107 #[.val (.int p1)] [(.int (1 : Int32))])) (fun t_ k_ => XS.goto X0.here hx rfl (pc0 := 103) (pc' := 107) rfl (hb hby d3_103) (by decide) (by decide) k_) ?_
                                obtain ⟨fs, hrR, hrun, hended, hWW, hsame⟩ := X0.leave (v := some (.int (1 : Int32))) (fun h => by rw [Bd.returns] at h; cases h)
                                refine ⟨_, _, own_retZ X0 hx (t := .boolean) Bd.returns (by simp) (by decide) (hb hby d3_107) hrR, hrun, hended, hPP _ _ ⟨_, _, rfl, ?_, ⟨_, rfl⟩, hWW, hsame.mono (by decide) (by decide)⟩⟩
                                show Q3 p1 h0 n0 _ s₁.heap _
                                rw [e0]
                                exact ⟨by simp [own_del, hc3_1, hc9_2, hc15_3, hc21_4, hc27_5, hc33_6, hc39_7, hc45_8, hc51_9, hc57_10, hc63_11, hc69_12, hc75_13, hc81_14, hc87_15], N0, rfl⟩
                              · refine own_step (T' := s₁) (g' := (mkF m 90 #[.val (.int p1)] [])) (fun t_ k_ => XS.icmpNo X0.here hx rfl (hb hby d3_87) rfl (feq hc87_15).1 k_) ?_
                                refine own_step (T' := s₁) (g' := (mkF m 91 #[.val (.int p1)] [(.int p1)])) (fun t_ k_ => XS.iloadN X0.here hx rfl (hb hby d3_90) rfl k_) ?_
                                refine own_step (T' := s₁) (g' := (mkF m 93 #[.val (.int p1)] [(.int (123 : Int32)), (.int p1)])) (fun t_ k_ => XS.bipush X0.here hx rfl (hb hby d3_91) k_) ?_
                                by_cases hc93_16 : p1 = (123 : Int32)
                                · refine own_step (T' := s₁) (g' := (mkF m 102 #[.val (.int p1)] [])) (fun t_ k_ => XS.icmpYes X0.here hx rfl (pc0 := 93) (pc' := 102) rfl (hb hby d3_93) rfl (teq hc93_16).1 (by decide) (by decide) k_) ?_
                                  refine own_step (T' := s₁) (g' := (mkF m 103 #[.val (.int p1)] [(.int (1 : Int32))])) (fun t_ k_ => XS.iconst X0.here hx rfl (hb hby d3_102) k_) ?_
                                  refine own_step (T' := s₁) (g' := (mkF m 107 #[.val (.int p1)] [(.int (1 : Int32))])) (fun t_ k_ => XS.goto X0.here hx rfl (pc0 := 103) (pc' := 107) rfl (hb hby d3_103) (by decide) (by decide) k_) ?_
                                  obtain ⟨fs, hrR, hrun, hended, hWW, hsame⟩ := X0.leave (v := some (.int (1 : Int32))) (fun h => by rw [Bd.returns] at h; cases h)
                                  refine ⟨_, _, own_retZ X0 hx (t := .boolean) Bd.returns (by simp) (by decide) (hb hby d3_107) hrR, hrun, hended, hPP _ _ ⟨_, _, rfl, ?_, ⟨_, rfl⟩, hWW, hsame.mono (by decide) (by decide)⟩⟩
                                  show Q3 p1 h0 n0 _ s₁.heap _
                                  rw [e0]
                                  exact ⟨by simp [own_del, hc3_1, hc9_2, hc15_3, hc21_4, hc27_5, hc33_6, hc39_7, hc45_8, hc51_9, hc57_10, hc63_11, hc69_12, hc75_13, hc81_14, hc87_15, hc93_16], N0, rfl⟩
                                · refine own_step (T' := s₁) (g' := (mkF m 96 #[.val (.int p1)] [])) (fun t_ k_ => XS.icmpNo X0.here hx rfl (hb hby d3_93) rfl (feq hc93_16).1 k_) ?_
                                  refine own_step (T' := s₁) (g' := (mkF m 97 #[.val (.int p1)] [(.int p1)])) (fun t_ k_ => XS.iloadN X0.here hx rfl (hb hby d3_96) rfl k_) ?_
                                  refine own_step (T' := s₁) (g' := (mkF m 99 #[.val (.int p1)] [(.int (125 : Int32)), (.int p1)])) (fun t_ k_ => XS.bipush X0.here hx rfl (hb hby d3_97) k_) ?_
                                  by_cases hc99_17 : p1 = (125 : Int32)
                                  · refine own_step (T' := s₁) (g' := (mkF m 102 #[.val (.int p1)] [])) (fun t_ k_ => XS.icmpNo X0.here hx rfl (hb hby d3_99) rfl (teq hc99_17).2 k_) ?_
                                    refine own_step (T' := s₁) (g' := (mkF m 103 #[.val (.int p1)] [(.int (1 : Int32))])) (fun t_ k_ => XS.iconst X0.here hx rfl (hb hby d3_102) k_) ?_
                                    refine own_step (T' := s₁) (g' := (mkF m 107 #[.val (.int p1)] [(.int (1 : Int32))])) (fun t_ k_ => XS.goto X0.here hx rfl (pc0 := 103) (pc' := 107) rfl (hb hby d3_103) (by decide) (by decide) k_) ?_
                                    obtain ⟨fs, hrR, hrun, hended, hWW, hsame⟩ := X0.leave (v := some (.int (1 : Int32))) (fun h => by rw [Bd.returns] at h; cases h)
                                    refine ⟨_, _, own_retZ X0 hx (t := .boolean) Bd.returns (by simp) (by decide) (hb hby d3_107) hrR, hrun, hended, hPP _ _ ⟨_, _, rfl, ?_, ⟨_, rfl⟩, hWW, hsame.mono (by decide) (by decide)⟩⟩
                                    show Q3 p1 h0 n0 _ s₁.heap _
                                    rw [e0]
                                    exact ⟨by simp [own_del, hc3_1, hc9_2, hc15_3, hc21_4, hc27_5, hc33_6, hc39_7, hc45_8, hc51_9, hc57_10, hc63_11, hc69_12, hc75_13, hc81_14, hc87_15, hc93_16, hc99_17], N0, rfl⟩
                                  · refine own_step (T' := s₁) (g' := (mkF m 106 #[.val (.int p1)] [])) (fun t_ k_ => XS.icmpYes X0.here hx rfl (pc0 := 99) (pc' := 106) rfl (hb hby d3_99) rfl (feq hc99_17).2 (by decide) (by decide) k_) ?_
                                    refine own_step (T' := s₁) (g' := (mkF m 107 #[.val (.int p1)] [(.int (0 : Int32))])) (fun t_ k_ => XS.iconst X0.here hx rfl (hb hby d3_106) k_) ?_
                                    obtain ⟨fs, hrR, hrun, hended, hWW, hsame⟩ := X0.leave (v := some (.int (0 : Int32))) (fun h => by rw [Bd.returns] at h; cases h)
                                    refine ⟨_, _, own_retZ X0 hx (t := .boolean) Bd.returns (by simp) (by decide) (hb hby d3_107) hrR, hrun, hended, hPP _ _ ⟨_, _, rfl, ?_, ⟨_, rfl⟩, hWW, hsame.mono (by decide) (by decide)⟩⟩
                                    show Q3 p1 h0 n0 _ s₁.heap _
                                    rw [e0]
                                    exact ⟨by simp [own_del, hc3_1, hc9_2, hc15_3, hc21_4, hc27_5, hc33_6, hc39_7, hc45_8, hc51_9, hc57_10, hc63_11, hc69_12, hc75_13, hc81_14, hc87_15, hc93_16, hc99_17], N0, rfl⟩
def Q2 (p1 : Int32) (h0 : Heap) (n0 : Nat) (v : Option Value) (h : Heap) (L : List Loc) : Prop := v = some (.int (own_exp p1)) ∧ Fr n0 L ∧ h = h0
theorem d2_0 : decode method_3_code 0 = .ok (.iload_n 0, 1) := by decide +kernel
theorem d2_1 : decode method_3_code 1 = .ok (.bipush 33, 2) := by decide +kernel
theorem d2_3 : decode method_3_code 3 = .ok (.if_icmp .lt 9, 3) := by decide +kernel
theorem d2_6 : decode method_3_code 6 = .ok (.iload_n 0, 1) := by decide +kernel
theorem d2_7 : decode method_3_code 7 = .ok (.bipush 126, 2) := by decide +kernel
theorem d2_9 : decode method_3_code 9 = .ok (.if_icmp .le 5, 3) := by decide +kernel
theorem d2_12 : decode method_3_code 12 = .ok (.iconst 0, 1) := by decide +kernel
theorem d2_13 : decode method_3_code 13 = .ok (.ireturn, 1) := by decide +kernel
theorem d2_14 : decode method_3_code 14 = .ok (.iload_n 0, 1) := by decide +kernel
theorem d2_15 : decode method_3_code 15 = .ok (.invokestatic 19, 3) := by decide +kernel
theorem d2_18 : decode method_3_code 18 = .ok (.ifCond .ne 7, 3) := by decide +kernel
theorem d2_21 : decode method_3_code 21 = .ok (.iconst 1, 1) := by decide +kernel
theorem d2_22 : decode method_3_code 22 = .ok (.goto 4, 3) := by decide +kernel
theorem d2_25 : decode method_3_code 25 = .ok (.iconst 0, 1) := by decide +kernel
theorem d2_26 : decode method_3_code 26 = .ok (.ireturn, 1) := by decide +kernel
set_option maxRecDepth 65536 in
set_option maxHeartbeats 40000000 in
theorem rm2 (l : Launch) (Z : State) (a0 : Array Value) (hw : ∀ d ∈ tables_1, d.before a0 Z = true) (ws : List Jvm.Cond) (p1 : Int32) (h0 : Heap) (n0 : Nat) (Z0 : n0 ≤ h0.size)  :
    MetFree l (⟨"com/example/vestibule/vestibule/http/TokensIsTokenCharPinLaw", "expected", "(I)Z"⟩ : MethodName) (head1 (Jvm.Cond.code (⟨"com/example/vestibule/vestibule/http/TokensIsTokenCharPinLaw", "expected", "(I)Z"⟩ : MethodName) method_3_code 1 (some .boolean) :: ws) ({ frames := 1, cells := 0, slots := 0, locals := 12 } : Room)) (fun a U => a = #[(.int p1)] ∧ Z.Warmed39 U.vm ∧ U.heap = h0) (fun _ _ _ _ _ => True) (fun _ U o U' => ∃ v L, o = .returned v ∧ Q2 p1 h0 n0 v U'.heap L ∧ FrameEnd U o U' L 0 0) := by
  refine MetFree.of_bodySF (plainFor_of_name (by first | (simp [plainName, overriddenIn]; done) | decide +kernel)) hisR ?_
  intro p e s m args below meth c s₁ Bd hml0 hP hK
  obtain ⟨rfl, hZ, hh⟩ := hP
  have hx := Bd.exec
  have hby := Bd.bytes
  have hml : c.maxLocals = 1 := hml0
  have hown : s.vm.findClass "com/example/vestibule/vestibule/http/TokensIsTokenCharPinLaw" = some m.cls := findClass_of_methodNamed Bd.named
  have hnm := (name_of_methodNamed Bd.named Bd.method).1
  have X0 : Stand p l e ({ frames := 1, cells := 0, slots := 0, locals := 12 } : Room) s m #[(.int p1)] below meth c s₁ [] 0 0 := Stand.of_body Bd
  have e0 : s₁.heap = h0 := by rw [← hh, Bd.state]; rfl
  have N0 := Fr.nil n0
  have ef : entryFrame m #[(.int p1)] 1 = (mkF m 0 #[.val (.int p1)] []) := by first | (simp [entryFrame, mkF, argsToLocals, Value.category]; done) | rfl
  refine own_start (fun P hPP => ?_)
  refine own_step (T' := s₁) (g' := (mkF m 0 #[.val (.int p1)] [])) (fun t_ k_ => castTop ef k_) ?_
  refine own_step (T' := s₁) (g' := (mkF m 1 #[.val (.int p1)] [(.int p1)])) (fun t_ k_ => XS.iloadN X0.here hx rfl (hb hby d2_0) rfl k_) ?_
  refine own_step (T' := s₁) (g' := (mkF m 3 #[.val (.int p1)] [(.int (33 : Int32)), (.int p1)])) (fun t_ k_ => XS.bipush X0.here hx rfl (hb hby d2_1) k_) ?_
  by_cases hc3_1 : p1 < (33 : Int32)
  · refine own_step (T' := s₁) (g' := (mkF m 12 #[.val (.int p1)] [])) (fun t_ k_ => XS.icmpYes X0.here hx rfl (pc0 := 3) (pc' := 12) rfl (hb hby d2_3) rfl (tlt hc3_1).1 (by decide) (by decide) k_) ?_
    refine own_step (T' := s₁) (g' := (mkF m 13 #[.val (.int p1)] [(.int (0 : Int32))])) (fun t_ k_ => XS.iconst X0.here hx rfl (hb hby d2_12) k_) ?_
    obtain ⟨fs, hrR, hrun, hended, hWW, hsame⟩ := X0.leave (v := some (.int (0 : Int32))) (fun h => by rw [Bd.returns] at h; cases h)
    refine ⟨_, _, own_retZ X0 hx (t := .boolean) Bd.returns (by simp) (by decide) (hb hby d2_13) hrR, hrun, hended, hPP _ _ ⟨_, _, rfl, ?_, ⟨_, rfl⟩, hWW, hsame.mono (by decide) (by decide)⟩⟩
    show Q2 p1 h0 n0 _ s₁.heap _
    rw [e0]
    exact ⟨by simp [own_exp, hc3_1], N0, rfl⟩
  · refine own_step (T' := s₁) (g' := (mkF m 6 #[.val (.int p1)] [])) (fun t_ k_ => XS.icmpNo X0.here hx rfl (hb hby d2_3) rfl (flt hc3_1).1 k_) ?_
    refine own_step (T' := s₁) (g' := (mkF m 7 #[.val (.int p1)] [(.int p1)])) (fun t_ k_ => XS.iloadN X0.here hx rfl (hb hby d2_6) rfl k_) ?_
    refine own_step (T' := s₁) (g' := (mkF m 9 #[.val (.int p1)] [(.int (126 : Int32)), (.int p1)])) (fun t_ k_ => XS.bipush X0.here hx rfl (hb hby d2_7) k_) ?_
    by_cases hc9_2 : (126 : Int32) < p1
    · refine own_step (T' := s₁) (g' := (mkF m 12 #[.val (.int p1)] [])) (fun t_ k_ => XS.icmpNo X0.here hx rfl (hb hby d2_9) rfl (tlt hc9_2).2.2.2 k_) ?_
      refine own_step (T' := s₁) (g' := (mkF m 13 #[.val (.int p1)] [(.int (0 : Int32))])) (fun t_ k_ => XS.iconst X0.here hx rfl (hb hby d2_12) k_) ?_
      obtain ⟨fs, hrR, hrun, hended, hWW, hsame⟩ := X0.leave (v := some (.int (0 : Int32))) (fun h => by rw [Bd.returns] at h; cases h)
      refine ⟨_, _, own_retZ X0 hx (t := .boolean) Bd.returns (by simp) (by decide) (hb hby d2_13) hrR, hrun, hended, hPP _ _ ⟨_, _, rfl, ?_, ⟨_, rfl⟩, hWW, hsame.mono (by decide) (by decide)⟩⟩
      show Q2 p1 h0 n0 _ s₁.heap _
      rw [e0]
      exact ⟨by simp [own_exp, hc3_1, hc9_2], N0, rfl⟩
    · refine own_step (T' := s₁) (g' := (mkF m 14 #[.val (.int p1)] [])) (fun t_ k_ => XS.icmpYes X0.here hx rfl (pc0 := 9) (pc' := 14) rfl (hb hby d2_9) rfl (flt hc9_2).2.2.2 (by decide) (by decide) k_) ?_
      refine own_step (T' := s₁) (g' := (mkF m 15 #[.val (.int p1)] [(.int p1)])) (fun t_ k_ => XS.iloadN X0.here hx rfl (hb hby d2_14) rfl k_) ?_
      obtain ⟨_, _, ⟨T3, L3, k3, n3⟩, -, X3, ⟨Lc3, hQ3, l3, y3, z3⟩, st3⟩ := Jvm.LawKit.callS X0 hx (y := (⟨"com/example/vestibule/vestibule/http/TokensIsTokenCharPinLaw", "isDelimiter", "(I)Z"⟩ : MethodName)) hown (mvT hZ (hw _ (List.mem_of_getElem? (i := 11) rfl))) (mvT hZ (hw _ (List.mem_of_getElem? (i := 12) rfl))) (mvT hZ (hw _ (List.mem_of_getElem? (i := 9) rfl))) (mvT hZ (hw _ (List.mem_of_getElem? (i := 13) rfl))) (by decide) (backOf (W := 0) (rm3 l Z a0 hw [] p1 h0 n0 Z0) hZ (hw _ (List.mem_of_getElem? (i := 13) rfl)) (hw _ (List.mem_of_getElem? (i := 9) rfl)) (by decide) (by decide)) (g := (mkF m 15 #[.val (.int p1)] [(.int p1)])) rfl (by rw [hml]; rfl) (argsL := [(.int p1)]) (rest := []) (lenOf (by decide +kernel : parseMethodDescriptor "(I)Z" = some ⟨[.int], some .boolean⟩) rfl) rfl (by show 2 * 0 + _ ≤ _; exact Nat.le_of_eq rfl) (hb hby d2_15) (fun _ _ => ⟨rfl, e0, (by decide : 0 + 0 ≤ _), (by decide : 0 + 0 ≤ _)⟩)
      dsimp only [Pt.U, Pt.locs, Pt.cells, Pt.slots] at X3 l3 y3 z3 st3 hQ3
      subst l3 y3 z3
      obtain ⟨rfl, Nq3, e3⟩ := hQ3
      have N3 := Fr.app N0 Nq3
      refine own_step (T' := T3) (g' := (mkF m 18 #[.val (.int p1)] [(.int (own_del p1))])) st3 ?_
      by_cases hc18_4 : (own_del p1) = (0 : Int32)
      · refine own_step (T' := T3) (g' := (mkF m 21 #[.val (.int p1)] [])) (fun t_ k_ => XS.ifNo X3.here hx rfl (hb hby d2_18) rfl ((if0 _ _).trans (teq hc18_4).2) k_) ?_
        refine own_step (T' := T3) (g' := (mkF m 22 #[.val (.int p1)] [(.int (1 : Int32))])) (fun t_ k_ => XS.iconst X3.here hx rfl (hb hby d2_21) k_) ?_
        refine own_step (T' := T3) (g' := (mkF m 26 #[.val (.int p1)] [(.int (1 : Int32))])) (fun t_ k_ => XS.goto X3.here hx rfl (pc0 := 22) (pc' := 26) rfl (hb hby d2_22) (by decide) (by decide) k_) ?_
        obtain ⟨fs, hrR, hrun, hended, hWW, hsame⟩ := X3.leave (v := some (.int (1 : Int32))) (fun h => by rw [Bd.returns] at h; cases h)
        refine ⟨_, _, own_retZ X3 hx (t := .boolean) Bd.returns (by simp) (by decide) (hb hby d2_26) hrR, hrun, hended, hPP _ _ ⟨_, _, rfl, ?_, ⟨_, rfl⟩, hWW, hsame.mono (by decide) (by decide)⟩⟩
        show Q2 p1 h0 n0 _ T3.heap _
        rw [e3]
        exact ⟨by simp [own_exp, hc3_1, hc9_2, hc18_4], N3, rfl⟩
      · refine own_step (T' := T3) (g' := (mkF m 25 #[.val (.int p1)] [])) (fun t_ k_ => XS.ifYes X3.here hx rfl (pc0 := 18) (pc' := 25) rfl (hb hby d2_18) rfl ((if0 _ _).trans (feq hc18_4).2) (by decide) (by decide) k_) ?_
        refine own_step (T' := T3) (g' := (mkF m 26 #[.val (.int p1)] [(.int (0 : Int32))])) (fun t_ k_ => XS.iconst X3.here hx rfl (hb hby d2_25) k_) ?_
        obtain ⟨fs, hrR, hrun, hended, hWW, hsame⟩ := X3.leave (v := some (.int (0 : Int32))) (fun h => by rw [Bd.returns] at h; cases h)
        refine ⟨_, _, own_retZ X3 hx (t := .boolean) Bd.returns (by simp) (by decide) (hb hby d2_26) hrR, hrun, hended, hPP _ _ ⟨_, _, rfl, ?_, ⟨_, rfl⟩, hWW, hsame.mono (by decide) (by decide)⟩⟩
        show Q2 p1 h0 n0 _ T3.heap _
        rw [e3]
        exact ⟨by simp [own_exp, hc3_1, hc9_2, hc18_4], N3, rfl⟩
def Q1 (p1 : Int32) (h0 : Heap) (n0 : Nat) (v : Option Value) (h : Heap) (L : List Loc) : Prop := v = some (.int (own_exp p1)) ∧ Fr n0 L ∧ h = h0
theorem d1_0 : decode prog_66_method_2_code 0 = .ok (.iload_n 0, 1) := by decide +kernel
theorem d1_1 : decode prog_66_method_2_code 1 = .ok (.ifCond .lt 23, 3) := by decide +kernel
theorem d1_4 : decode prog_66_method_2_code 4 = .ok (.iload_n 0, 1) := by decide +kernel
theorem d1_5 : decode prog_66_method_2_code 5 = .ok (.getstatic 7, 3) := by decide +kernel
theorem d1_8 : decode prog_66_method_2_code 8 = .ok (.arraylength, 1) := by decide +kernel
theorem d1_9 : decode prog_66_method_2_code 9 = .ok (.if_icmp .ge 15, 3) := by decide +kernel
theorem d1_12 : decode prog_66_method_2_code 12 = .ok (.getstatic 7, 3) := by decide +kernel
theorem d1_15 : decode prog_66_method_2_code 15 = .ok (.iload_n 0, 1) := by decide +kernel
theorem d1_16 : decode prog_66_method_2_code 16 = .ok (.baload, 1) := by decide +kernel
theorem d1_17 : decode prog_66_method_2_code 17 = .ok (.ifCond .eq 7, 3) := by decide +kernel
theorem d1_20 : decode prog_66_method_2_code 20 = .ok (.iconst 1, 1) := by decide +kernel
theorem d1_21 : decode prog_66_method_2_code 21 = .ok (.goto 4, 3) := by decide +kernel
theorem d1_24 : decode prog_66_method_2_code 24 = .ok (.iconst 0, 1) := by decide +kernel
theorem d1_25 : decode prog_66_method_2_code 25 = .ok (.ireturn, 1) := by decide +kernel
set_option maxRecDepth 65536 in
set_option maxHeartbeats 40000000 in
theorem rm1 (l : Launch) (Z : State) (a0 : Array Value) (hw : ∀ d ∈ tables_1, d.before a0 Z = true) (ws : List Jvm.Cond) (p1 : Int32) (A1 : Addr) (cl1 : Cell) (h0 : Heap) (n0 : Nat) (Z0 : n0 ≤ h0.size) (S1 : Sta Z h0 "com/example/vestibule/vestibule/http/Tokens" "TOKEN_CHARS" "[Z" (.ref A1)) (Ar : Arr Z h0 A1 cl1 .boolean) (Sz : cl1.slots.size = (128 : Int32).toNatClampNeg) (tab : ∀ j : Int32, ¬ j < 0 → j < 128 → cl1.slots[j.toNatClampNeg]? = some (.int (own_exp j))) :
    MetFree l (⟨"com/example/vestibule/vestibule/http/Tokens", "isTokenChar", "(I)Z"⟩ : MethodName) (head1 (Jvm.Cond.code (⟨"com/example/vestibule/vestibule/http/Tokens", "isTokenChar", "(I)Z"⟩ : MethodName) prog_66_method_2_code 1 (some .boolean) :: ws) ({ frames := 0, cells := 0, slots := 0, locals := 0 } : Room)) (fun a U => a = #[(.int p1)] ∧ Z.Warmed39 U.vm ∧ U.heap = h0) (fun _ _ _ _ _ => True) (fun _ U o U' => ∃ v L, o = .returned v ∧ Q1 p1 h0 n0 v U'.heap L ∧ FrameEnd U o U' L 0 0) := by
  refine MetFree.of_bodySF (plainFor_of_name (by first | (simp [plainName, overriddenIn]; done) | decide +kernel)) hisR ?_
  intro p e s m args below meth c s₁ Bd hml0 hP hK
  obtain ⟨rfl, hZ, hh⟩ := hP
  have hx := Bd.exec
  have hby := Bd.bytes
  have hml : c.maxLocals = 1 := hml0
  have hown : s.vm.findClass "com/example/vestibule/vestibule/http/Tokens" = some m.cls := findClass_of_methodNamed Bd.named
  have hnm := (name_of_methodNamed Bd.named Bd.method).1
  have X0 : Stand p l e ({ frames := 0, cells := 0, slots := 0, locals := 0 } : Room) s m #[(.int p1)] below meth c s₁ [] 0 0 := Stand.of_body Bd
  have e0 : s₁.heap = h0 := by rw [← hh, Bd.state]; rfl
  have N0 := Fr.nil n0
  have ef : entryFrame m #[(.int p1)] 1 = (mkF m 0 #[.val (.int p1)] []) := by first | (simp [entryFrame, mkF, argsToLocals, Value.category]; done) | rfl
  refine own_start (fun P hPP => ?_)
  refine own_step (T' := s₁) (g' := (mkF m 0 #[.val (.int p1)] [])) (fun t_ k_ => castTop ef k_) ?_
  refine own_step (T' := s₁) (g' := (mkF m 1 #[.val (.int p1)] [(.int p1)])) (fun t_ k_ => XS.iloadN X0.here hx rfl (hb hby d1_0) rfl k_) ?_
  by_cases hc1_1 : p1 < (0 : Int32)
  · refine own_step (T' := s₁) (g' := (mkF m 24 #[.val (.int p1)] [])) (fun t_ k_ => XS.ifYes X0.here hx rfl (pc0 := 1) (pc' := 24) rfl (hb hby d1_1) rfl ((if0 _ _).trans (tlt hc1_1).1) (by decide) (by decide) k_) ?_
    refine own_step (T' := s₁) (g' := (mkF m 25 #[.val (.int p1)] [(.int (0 : Int32))])) (fun t_ k_ => XS.iconst X0.here hx rfl (hb hby d1_24) k_) ?_
    obtain ⟨fs, hrR, hrun, hended, hWW, hsame⟩ := X0.leave (v := some (.int (0 : Int32))) (fun h => by rw [Bd.returns] at h; cases h)
    refine ⟨_, _, own_retZ X0 hx (t := .boolean) Bd.returns (by simp) (by decide) (hb hby d1_25) hrR, hrun, hended, hPP _ _ ⟨_, _, rfl, ?_, ⟨_, rfl⟩, hWW, hsame.mono (by decide) (by decide)⟩⟩
    show Q1 p1 h0 n0 _ s₁.heap _
    rw [e0]
    exact ⟨congrArg (fun z => some (Value.int z)) (own_neg hc1_1), N0, rfl⟩
  · refine own_step (T' := s₁) (g' := (mkF m 4 #[.val (.int p1)] [])) (fun t_ k_ => XS.ifNo X0.here hx rfl (hb hby d1_1) rfl ((if0 _ _).trans (flt hc1_1).1) k_) ?_
    refine own_step (T' := s₁) (g' := (mkF m 5 #[.val (.int p1)] [(.int p1)])) (fun t_ k_ => XS.iloadN X0.here hx rfl (hb hby d1_4) rfl k_) ?_
    obtain ⟨T2, X2, e2, st2⟩ := getS2 X0 hx hZ hown (host := "") (Or.inl (hw _ (List.mem_of_getElem? (i := 5) rfl))) Via.refl e0 S1 (g := (mkF m 5 #[.val (.int p1)] [(.int p1)])) rfl (hb hby d1_5)
    refine own_step (T' := T2) (g' := (mkF m 8 #[.val (.int p1)] [(.ref A1), (.int p1)])) st2 ?_
    refine own_step (T' := T2) (g' := (mkF m 9 #[.val (.int p1)] [(.int (128 : Int32)), (.int p1)])) (fun t_ k_ => X2.arraylength hx (by rw [e2]; exact Ar.1) (State.isArrayOf_alike hZ.alike Ar.2.1) (g := (mkF m 8 #[.val (.int p1)] [(.ref A1), (.int p1)])) rfl rfl (hb hby d1_8) _ (by rw [len_of Sz (by decide : ¬ (128 : Int32) < 0)]; exact k_)) ?_
    by_cases hc9_3 : p1 < (128 : Int32)
    · refine own_step (T' := T2) (g' := (mkF m 12 #[.val (.int p1)] [])) (fun t_ k_ => XS.icmpNo X2.here hx rfl (hb hby d1_9) rfl (tlt hc9_3).2.1 k_) ?_
      obtain ⟨T4, X4, e4, st4⟩ := getS2 X2 hx hZ hown (host := "") (Or.inl (hw _ (List.mem_of_getElem? (i := 5) rfl))) Via.refl e2 S1 (g := (mkF m 12 #[.val (.int p1)] [])) rfl (hb hby d1_12)
      refine own_step (T' := T4) (g' := (mkF m 15 #[.val (.int p1)] [(.ref A1)])) st4 ?_
      refine own_step (T' := T4) (g' := (mkF m 16 #[.val (.int p1)] [(.int p1), (.ref A1)])) (fun t_ k_ => XS.iloadN X4.here hx rfl (hb hby d1_15) rfl k_) ?_
      refine own_step (T' := T4) (g' := (mkF m 17 #[.val (.int p1)] [(.int (own_exp p1))])) (fun t_ k_ => X4.baloadBooleans hx (j := p1) (v := (.int (own_exp p1))) (by rw [e4]; exact Ar.1) (State.isArrayOf_alike hZ.alike Ar.2.1) Ar.2.2 (inb_of Sz ⟨hc1_1, hc9_3⟩) (tab p1 hc1_1 hc9_3) (g := (mkF m 16 #[.val (.int p1)] [(.int p1), (.ref A1)])) rfl rfl (hb hby d1_16) _ k_) ?_
      by_cases hc17_5 : (own_exp p1) = (0 : Int32)
      · refine own_step (T' := T4) (g' := (mkF m 24 #[.val (.int p1)] [])) (fun t_ k_ => XS.ifYes X4.here hx rfl (pc0 := 17) (pc' := 24) rfl (hb hby d1_17) rfl ((if0 _ _).trans (teq hc17_5).1) (by decide) (by decide) k_) ?_
        refine own_step (T' := T4) (g' := (mkF m 25 #[.val (.int p1)] [(.int (0 : Int32))])) (fun t_ k_ => XS.iconst X4.here hx rfl (hb hby d1_24) k_) ?_
        obtain ⟨fs, hrR, hrun, hended, hWW, hsame⟩ := X4.leave (v := some (.int (0 : Int32))) (fun h => by rw [Bd.returns] at h; cases h)
        refine ⟨_, _, own_retZ X4 hx (t := .boolean) Bd.returns (by simp) (by decide) (hb hby d1_25) hrR, hrun, hended, hPP _ _ ⟨_, _, rfl, ?_, ⟨_, rfl⟩, hWW, hsame.mono (by decide) (by decide)⟩⟩
        show Q1 p1 h0 n0 _ T4.heap _
        rw [e4]
        exact ⟨congrArg (fun z => some (Value.int z)) (hc17_5.symm), N0, rfl⟩
      · refine own_step (T' := T4) (g' := (mkF m 20 #[.val (.int p1)] [])) (fun t_ k_ => XS.ifNo X4.here hx rfl (hb hby d1_17) rfl ((if0 _ _).trans (feq hc17_5).1) k_) ?_
        refine own_step (T' := T4) (g' := (mkF m 21 #[.val (.int p1)] [(.int (1 : Int32))])) (fun t_ k_ => XS.iconst X4.here hx rfl (hb hby d1_20) k_) ?_
        refine own_step (T' := T4) (g' := (mkF m 25 #[.val (.int p1)] [(.int (1 : Int32))])) (fun t_ k_ => XS.goto X4.here hx rfl (pc0 := 21) (pc' := 25) rfl (hb hby d1_21) (by decide) (by decide) k_) ?_
        obtain ⟨fs, hrR, hrun, hended, hWW, hsame⟩ := X4.leave (v := some (.int (1 : Int32))) (fun h => by rw [Bd.returns] at h; cases h)
        refine ⟨_, _, own_retZ X4 hx (t := .boolean) Bd.returns (by simp) (by decide) (hb hby d1_25) hrR, hrun, hended, hPP _ _ ⟨_, _, rfl, ?_, ⟨_, rfl⟩, hWW, hsame.mono (by decide) (by decide)⟩⟩
        show Q1 p1 h0 n0 _ T4.heap _
        rw [e4]
        exact ⟨congrArg (fun z => some (Value.int z)) (own_01 hc17_5), N0, rfl⟩
    · refine own_step (T' := T2) (g' := (mkF m 24 #[.val (.int p1)] [])) (fun t_ k_ => XS.icmpYes X2.here hx rfl (pc0 := 9) (pc' := 24) rfl (hb hby d1_9) rfl (flt hc9_3).2.1 (by decide) (by decide) k_) ?_
      refine own_step (T' := T2) (g' := (mkF m 25 #[.val (.int p1)] [(.int (0 : Int32))])) (fun t_ k_ => XS.iconst X2.here hx rfl (hb hby d1_24) k_) ?_
      obtain ⟨fs, hrR, hrun, hended, hWW, hsame⟩ := X2.leave (v := some (.int (0 : Int32))) (fun h => by rw [Bd.returns] at h; cases h)
      refine ⟨_, _, own_retZ X2 hx (t := .boolean) Bd.returns (by simp) (by decide) (hb hby d1_25) hrR, hrun, hended, hPP _ _ ⟨_, _, rfl, ?_, ⟨_, rfl⟩, hWW, hsame.mono (by decide) (by decide)⟩⟩
      show Q1 p1 h0 n0 _ T2.heap _
      rw [e2]
      exact ⟨congrArg (fun z => some (Value.int z)) (own_big hc9_3), N0, rfl⟩
def Q0 (n0 : Nat) (v : Option Value) (h : Heap) (L : List Loc) : Prop := v = some (.int 1) ∧ Fr n0 L
set_option maxRecDepth 65536 in
set_option maxHeartbeats 40000000 in
theorem rm0 (l : Launch) (Z : State) (a0 : Array Value) (hw : ∀ d ∈ tables_1, d.before a0 Z = true) (ws : List Jvm.Cond) (p1 p2 : Int32) (A1 : Addr) (cl1 : Cell) (h0 : Heap) (n0 : Nat) (Z0 : n0 ≤ h0.size) (S1 : Sta Z h0 "com/example/vestibule/vestibule/http/Tokens" "TOKEN_CHARS" "[Z" (.ref A1)) (Ar : Arr Z h0 A1 cl1 .boolean) (Sz : cl1.slots.size = (128 : Int32).toNatClampNeg) (tab : ∀ j : Int32, ¬ j < 0 → j < 128 → cl1.slots[j.toNatClampNeg]? = some (.int (own_exp j))) :
    MetFree l x (head1 (Jvm.Cond.code x code maxLocals ret :: ws) room_1) (fun a U => a = #[(.int p1), (.int p2)] ∧ Z.Warmed39 U.vm ∧ U.heap = h0) (fun _ _ _ _ _ => True) (fun _ U o U' => ∃ v L, o = .returned v ∧ Q0 n0 v U'.heap L ∧ FrameEnd U o U' L 0 0) := by
  refine MetFree.of_bodySF (plainFor_of_name (by first | (simp [plainName, overriddenIn]; done) | decide +kernel)) hisR ?_
  intro p e s m args below meth c s₁ Bd hml0 hP hK
  obtain ⟨rfl, hZ, hh⟩ := hP
  have hx := Bd.exec
  have hby := Bd.bytes
  have hml : c.maxLocals = 4 := hml0
  have hown : s.vm.findClass "com/example/vestibule/vestibule/http/TokensIsTokenCharPinLaw" = some m.cls := findClass_of_methodNamed Bd.named
  have hnm := (name_of_methodNamed Bd.named Bd.method).1
  have X0 : Stand p l e room_1 s m #[(.int p1), (.int p2)] below meth c s₁ [] 0 0 := Stand.of_body Bd
  have e0 : s₁.heap = h0 := by rw [← hh, Bd.state]; rfl
  have N0 := Fr.nil n0
  have ef : entryFrame m #[(.int p1), (.int p2)] maxLocals = (mkF m 0 #[.val (.int p1), .val (.int p2), .unset, .unset] []) := by first | (simp [entryFrame, mkF, argsToLocals, Value.category, maxLocals]; done) | rfl
  refine own_start (fun P hPP => ?_)
  refine own_step (T' := s₁) (g' := (mkF m 0 #[.val (.int p1), .val (.int p2), .unset, .unset] [])) (fun t_ k_ => castTop ef k_) ?_
  refine own_step (T' := s₁) (g' := (mkF m 1 #[.val (.int p1), .val (.int p2), .unset, .unset] [(.int p2)])) (fun t_ k_ => XS.iloadN X0.here hx rfl (hb hby at_0) rfl k_) ?_
  refine own_step (T' := s₁) (g' := (mkF m 2 #[.val (.int p1), .val (.int p2), .unset, .unset] [(.int (3 : Int32)), (.int p2)])) (fun t_ k_ => XS.iconst X0.here hx rfl (hb hby at_1) k_) ?_
  refine own_step (T' := s₁) (g' := (mkF m 3 #[.val (.int p1), .val (.int p2), .unset, .unset] [(.int (p2 &&& (3 : Int32)))])) (fun t_ k_ => XS.iand X0.here hx rfl (hb hby at_2) rfl k_) ?_
  refine own_step (T' := s₁) (g' := (mkF m 4 #[.val (.int p1), .val (.int p2), .val (.int (p2 &&& (3 : Int32))), .unset] [])) (fun t_ k_ => XS.istoreN X0.here hx rfl (hb hby at_3) rfl (l' := #[.val (.int p1), .val (.int p2), .val (.int (p2 &&& (3 : Int32))), .unset]) rfl k_) ?_
  refine own_step (T' := s₁) (g' := (mkF m 5 #[.val (.int p1), .val (.int p2), .val (.int (p2 &&& (3 : Int32))), .unset] [(.int (p2 &&& (3 : Int32)))])) (fun t_ k_ => XS.iloadN X0.here hx rfl (hb hby at_4) rfl k_) ?_
  by_cases hc5_1 : (p2 &&& (3 : Int32)) = (0 : Int32)
  · refine own_step (T' := s₁) (g' := (mkF m 8 #[.val (.int p1), .val (.int p2), .val (.int (p2 &&& (3 : Int32))), .unset] [])) (fun t_ k_ => XS.ifNo X0.here hx rfl (hb hby at_5) rfl ((if0 _ _).trans (teq hc5_1).2) k_) ?_
    refine own_step (T' := s₁) (g' := (mkF m 9 #[.val (.int p1), .val (.int p2), .val (.int (p2 &&& (3 : Int32))), .unset] [(.int p1)])) (fun t_ k_ => XS.iloadN X0.here hx rfl (hb hby at_8) rfl k_) ?_
    refine own_step (T' := s₁) (g' := (mkF m 10 #[.val (.int p1), .val (.int p2), .val (.int (p2 &&& (3 : Int32))), .val (.int p1)] [])) (fun t_ k_ => XS.istoreN X0.here hx rfl (hb hby at_9) rfl (l' := #[.val (.int p1), .val (.int p2), .val (.int (p2 &&& (3 : Int32))), .val (.int p1)]) rfl k_) ?_
    refine own_step (T' := s₁) (g' := (mkF m 45 #[.val (.int p1), .val (.int p2), .val (.int (p2 &&& (3 : Int32))), .val (.int p1)] [])) (fun t_ k_ => XS.goto X0.here hx rfl (pc0 := 10) (pc' := 45) rfl (hb hby at_10) (by decide) (by decide) k_) ?_
    refine own_step (T' := s₁) (g' := (mkF m 46 #[.val (.int p1), .val (.int p2), .val (.int (p2 &&& (3 : Int32))), .val (.int p1)] [(.int p1)])) (fun t_ k_ => XS.iloadN X0.here hx rfl (hb hby at_45) rfl k_) ?_
    obtain ⟨_, _, ⟨T2, L2, k2, n2⟩, -, X2, ⟨Lc2, hQ2, l2, y2, z2⟩, st2⟩ := Jvm.LawKit.callS X0 hx (y := (⟨"com/example/vestibule/vestibule/http/Tokens", "isTokenChar", "(I)Z"⟩ : MethodName)) hown (mvT hZ (hw _ (List.mem_of_getElem? (i := 1) rfl))) (mvT hZ (hw _ (List.mem_of_getElem? (i := 2) rfl))) (mvT hZ (hw _ (List.mem_of_getElem? (i := 3) rfl))) (mvT hZ (hw _ (List.mem_of_getElem? (i := 4) rfl))) (by decide) (backOf (W := 0) (rm1 l Z a0 hw [] p1 A1 cl1 h0 n0 Z0 S1 Ar Sz tab) hZ (hw _ (List.mem_of_getElem? (i := 4) rfl)) (hw _ (List.mem_of_getElem? (i := 3) rfl)) (by decide) (by decide)) (g := (mkF m 46 #[.val (.int p1), .val (.int p2), .val (.int (p2 &&& (3 : Int32))), .val (.int p1)] [(.int p1)])) rfl (by rw [hml]; rfl) (argsL := [(.int p1)]) (rest := []) (lenOf (by decide +kernel : parseMethodDescriptor "(I)Z" = some ⟨[.int], some .boolean⟩) rfl) rfl (by show 2 * 0 + _ ≤ _; exact Nat.le_of_eq rfl) (hb hby at_46) (fun _ _ => ⟨rfl, e0, (by decide : 0 + 0 ≤ _), (by decide : 0 + 0 ≤ _)⟩)
    dsimp only [Pt.U, Pt.locs, Pt.cells, Pt.slots] at X2 l2 y2 z2 st2 hQ2
    subst l2 y2 z2
    obtain ⟨rfl, Nq2, e2⟩ := hQ2
    have N2 := Fr.app N0 Nq2
    refine own_step (T' := T2) (g' := (mkF m 49 #[.val (.int p1), .val (.int p2), .val (.int (p2 &&& (3 : Int32))), .val (.int p1)] [(.int (own_exp p1))])) st2 ?_
    refine own_step (T' := T2) (g' := (mkF m 50 #[.val (.int p1), .val (.int p2), .val (.int (p2 &&& (3 : Int32))), .val (.int p1)] [(.int p1), (.int (own_exp p1))])) (fun t_ k_ => XS.iloadN X2.here hx rfl (hb hby at_49) rfl k_) ?_
    obtain ⟨_, _, ⟨T3, L3, k3, n3⟩, -, X3, ⟨Lc3, hQ3, l3, y3, z3⟩, st3⟩ := Jvm.LawKit.callS X2 hx (y := (⟨"com/example/vestibule/vestibule/http/TokensIsTokenCharPinLaw", "expected", "(I)Z"⟩ : MethodName)) hown (mvT hZ (hw _ (List.mem_of_getElem? (i := 7) rfl))) (mvT hZ (hw _ (List.mem_of_getElem? (i := 8) rfl))) (mvT hZ (hw _ (List.mem_of_getElem? (i := 9) rfl))) (mvT hZ (hw _ (List.mem_of_getElem? (i := 10) rfl))) (by decide) (backOf (W := 1) (rm2 l Z a0 hw [] p1 h0 n0 Z0) hZ (hw _ (List.mem_of_getElem? (i := 10) rfl)) (hw _ (List.mem_of_getElem? (i := 9) rfl)) (by decide) (by decide)) (g := (mkF m 50 #[.val (.int p1), .val (.int p2), .val (.int (p2 &&& (3 : Int32))), .val (.int p1)] [(.int p1), (.int (own_exp p1))])) rfl (by rw [hml]; rfl) (argsL := [(.int p1)]) (rest := [(.int (own_exp p1))]) (lenOf (by decide +kernel : parseMethodDescriptor "(I)Z" = some ⟨[.int], some .boolean⟩) rfl) rfl (by show 2 * 0 + _ ≤ _; exact Nat.le_of_eq rfl) (hb hby at_50) (fun _ _ => ⟨rfl, e2, (by decide : 0 + 0 ≤ _), (by decide : 0 + 0 ≤ _)⟩)
    dsimp only [Pt.U, Pt.locs, Pt.cells, Pt.slots] at X3 l3 y3 z3 st3 hQ3
    subst l3 y3 z3
    obtain ⟨rfl, Nq3, e3⟩ := hQ3
    have N3 := Fr.app N2 Nq3
    refine own_step (T' := T3) (g' := (mkF m 53 #[.val (.int p1), .val (.int p2), .val (.int (p2 &&& (3 : Int32))), .val (.int p1)] [(.int (own_exp p1)), (.int (own_exp p1))])) st3 ?_
    refine own_step (T' := T3) (g' := (mkF m 56 #[.val (.int p1), .val (.int p2), .val (.int (p2 &&& (3 : Int32))), .val (.int p1)] [])) (fun t_ k_ => XS.icmpNo X3.here hx rfl (hb hby at_53) rfl (teq (rfl : (own_exp p1) = (own_exp p1))).2 k_) ?_
    refine own_step (T' := T3) (g' := (mkF m 57 #[.val (.int p1), .val (.int p2), .val (.int (p2 &&& (3 : Int32))), .val (.int p1)] [(.int (1 : Int32))])) (fun t_ k_ => XS.iconst X3.here hx rfl (hb hby at_56) k_) ?_
    refine own_step (T' := T3) (g' := (mkF m 61 #[.val (.int p1), .val (.int p2), .val (.int (p2 &&& (3 : Int32))), .val (.int p1)] [(.int (1 : Int32))])) (fun t_ k_ => XS.goto X3.here hx rfl (pc0 := 57) (pc' := 61) rfl (hb hby at_57) (by decide) (by decide) k_) ?_
    obtain ⟨fs, hrR, hrun, hended, hWW, hsame⟩ := X3.leave (v := some (.int (1 : Int32))) (fun h => by rw [Bd.returns] at h; cases h)
    refine ⟨_, _, own_retZ X3 hx (t := .boolean) Bd.returns (by simp) (by decide) (hb hby at_61) hrR, hrun, hended, hPP _ _ ⟨_, _, rfl, ?_, ⟨_, rfl⟩, hWW, hsame.mono (by decide) (by decide)⟩⟩
    show Q0 n0 _ T3.heap _
    rw [e3]
    exact ⟨rfl, N3⟩
  · refine own_step (T' := s₁) (g' := (mkF m 13 #[.val (.int p1), .val (.int p2), .val (.int (p2 &&& (3 : Int32))), .unset] [])) (fun t_ k_ => XS.ifYes X0.here hx rfl (pc0 := 5) (pc' := 13) rfl (hb hby at_5) rfl ((if0 _ _).trans (feq hc5_1).2) (by decide) (by decide) k_) ?_
    refine own_step (T' := s₁) (g' := (mkF m 14 #[.val (.int p1), .val (.int p2), .val (.int (p2 &&& (3 : Int32))), .unset] [(.int (p2 &&& (3 : Int32)))])) (fun t_ k_ => XS.iloadN X0.here hx rfl (hb hby at_13) rfl k_) ?_
    refine own_step (T' := s₁) (g' := (mkF m 15 #[.val (.int p1), .val (.int p2), .val (.int (p2 &&& (3 : Int32))), .unset] [(.int (1 : Int32)), (.int (p2 &&& (3 : Int32)))])) (fun t_ k_ => XS.iconst X0.here hx rfl (hb hby at_14) k_) ?_
    by_cases hc15_4 : (p2 &&& (3 : Int32)) = (1 : Int32)
    · refine own_step (T' := s₁) (g' := (mkF m 18 #[.val (.int p1), .val (.int p2), .val (.int (p2 &&& (3 : Int32))), .unset] [])) (fun t_ k_ => XS.icmpNo X0.here hx rfl (hb hby at_15) rfl (teq hc15_4).2 k_) ?_
      refine own_step (T' := s₁) (g' := (mkF m 19 #[.val (.int p1), .val (.int p2), .val (.int (p2 &&& (3 : Int32))), .unset] [(.int p1)])) (fun t_ k_ => XS.iloadN X0.here hx rfl (hb hby at_18) rfl k_) ?_
      refine own_step (T' := s₁) (g' := (mkF m 21 #[.val (.int p1), .val (.int p2), .val (.int (p2 &&& (3 : Int32))), .unset] [(.int (127 : Int32)), (.int p1)])) (fun t_ k_ => XS.bipush X0.here hx rfl (hb hby at_19) k_) ?_
      refine own_step (T' := s₁) (g' := (mkF m 22 #[.val (.int p1), .val (.int p2), .val (.int (p2 &&& (3 : Int32))), .unset] [(.int (p1 &&& (127 : Int32)))])) (fun t_ k_ => XS.iand X0.here hx rfl (hb hby at_21) rfl k_) ?_
      refine own_step (T' := s₁) (g' := (mkF m 23 #[.val (.int p1), .val (.int p2), .val (.int (p2 &&& (3 : Int32))), .val (.int (p1 &&& (127 : Int32)))] [])) (fun t_ k_ => XS.istoreN X0.here hx rfl (hb hby at_22) rfl (l' := #[.val (.int p1), .val (.int p2), .val (.int (p2 &&& (3 : Int32))), .val (.int (p1 &&& (127 : Int32)))]) rfl k_) ?_
      refine own_step (T' := s₁) (g' := (mkF m 45 #[.val (.int p1), .val (.int p2), .val (.int (p2 &&& (3 : Int32))), .val (.int (p1 &&& (127 : Int32)))] [])) (fun t_ k_ => XS.goto X0.here hx rfl (pc0 := 23) (pc' := 45) rfl (hb hby at_23) (by decide) (by decide) k_) ?_
      refine own_step (T' := s₁) (g' := (mkF m 46 #[.val (.int p1), .val (.int p2), .val (.int (p2 &&& (3 : Int32))), .val (.int (p1 &&& (127 : Int32)))] [(.int (p1 &&& (127 : Int32)))])) (fun t_ k_ => XS.iloadN X0.here hx rfl (hb hby at_45) rfl k_) ?_
      obtain ⟨_, _, ⟨T5, L5, k5, n5⟩, -, X5, ⟨Lc5, hQ5, l5, y5, z5⟩, st5⟩ := Jvm.LawKit.callS X0 hx (y := (⟨"com/example/vestibule/vestibule/http/Tokens", "isTokenChar", "(I)Z"⟩ : MethodName)) hown (mvT hZ (hw _ (List.mem_of_getElem? (i := 1) rfl))) (mvT hZ (hw _ (List.mem_of_getElem? (i := 2) rfl))) (mvT hZ (hw _ (List.mem_of_getElem? (i := 3) rfl))) (mvT hZ (hw _ (List.mem_of_getElem? (i := 4) rfl))) (by decide) (backOf (W := 0) (rm1 l Z a0 hw [] (p1 &&& (127 : Int32)) A1 cl1 h0 n0 Z0 S1 Ar Sz tab) hZ (hw _ (List.mem_of_getElem? (i := 4) rfl)) (hw _ (List.mem_of_getElem? (i := 3) rfl)) (by decide) (by decide)) (g := (mkF m 46 #[.val (.int p1), .val (.int p2), .val (.int (p2 &&& (3 : Int32))), .val (.int (p1 &&& (127 : Int32)))] [(.int (p1 &&& (127 : Int32)))])) rfl (by rw [hml]; rfl) (argsL := [(.int (p1 &&& (127 : Int32)))]) (rest := []) (lenOf (by decide +kernel : parseMethodDescriptor "(I)Z" = some ⟨[.int], some .boolean⟩) rfl) rfl (by show 2 * 0 + _ ≤ _; exact Nat.le_of_eq rfl) (hb hby at_46) (fun _ _ => ⟨rfl, e0, (by decide : 0 + 0 ≤ _), (by decide : 0 + 0 ≤ _)⟩)
      dsimp only [Pt.U, Pt.locs, Pt.cells, Pt.slots] at X5 l5 y5 z5 st5 hQ5
      subst l5 y5 z5
      obtain ⟨rfl, Nq5, e5⟩ := hQ5
      have N5 := Fr.app N0 Nq5
      refine own_step (T' := T5) (g' := (mkF m 49 #[.val (.int p1), .val (.int p2), .val (.int (p2 &&& (3 : Int32))), .val (.int (p1 &&& (127 : Int32)))] [(.int (own_exp (p1 &&& (127 : Int32))))])) st5 ?_
      refine own_step (T' := T5) (g' := (mkF m 50 #[.val (.int p1), .val (.int p2), .val (.int (p2 &&& (3 : Int32))), .val (.int (p1 &&& (127 : Int32)))] [(.int (p1 &&& (127 : Int32))), (.int (own_exp (p1 &&& (127 : Int32))))])) (fun t_ k_ => XS.iloadN X5.here hx rfl (hb hby at_49) rfl k_) ?_
      obtain ⟨_, _, ⟨T6, L6, k6, n6⟩, -, X6, ⟨Lc6, hQ6, l6, y6, z6⟩, st6⟩ := Jvm.LawKit.callS X5 hx (y := (⟨"com/example/vestibule/vestibule/http/TokensIsTokenCharPinLaw", "expected", "(I)Z"⟩ : MethodName)) hown (mvT hZ (hw _ (List.mem_of_getElem? (i := 7) rfl))) (mvT hZ (hw _ (List.mem_of_getElem? (i := 8) rfl))) (mvT hZ (hw _ (List.mem_of_getElem? (i := 9) rfl))) (mvT hZ (hw _ (List.mem_of_getElem? (i := 10) rfl))) (by decide) (backOf (W := 1) (rm2 l Z a0 hw [] (p1 &&& (127 : Int32)) h0 n0 Z0) hZ (hw _ (List.mem_of_getElem? (i := 10) rfl)) (hw _ (List.mem_of_getElem? (i := 9) rfl)) (by decide) (by decide)) (g := (mkF m 50 #[.val (.int p1), .val (.int p2), .val (.int (p2 &&& (3 : Int32))), .val (.int (p1 &&& (127 : Int32)))] [(.int (p1 &&& (127 : Int32))), (.int (own_exp (p1 &&& (127 : Int32))))])) rfl (by rw [hml]; rfl) (argsL := [(.int (p1 &&& (127 : Int32)))]) (rest := [(.int (own_exp (p1 &&& (127 : Int32))))]) (lenOf (by decide +kernel : parseMethodDescriptor "(I)Z" = some ⟨[.int], some .boolean⟩) rfl) rfl (by show 2 * 0 + _ ≤ _; exact Nat.le_of_eq rfl) (hb hby at_50) (fun _ _ => ⟨rfl, e5, (by decide : 0 + 0 ≤ _), (by decide : 0 + 0 ≤ _)⟩)
      dsimp only [Pt.U, Pt.locs, Pt.cells, Pt.slots] at X6 l6 y6 z6 st6 hQ6
      subst l6 y6 z6
      obtain ⟨rfl, Nq6, e6⟩ := hQ6
      have N6 := Fr.app N5 Nq6
      refine own_step (T' := T6) (g' := (mkF m 53 #[.val (.int p1), .val (.int p2), .val (.int (p2 &&& (3 : Int32))), .val (.int (p1 &&& (127 : Int32)))] [(.int (own_exp (p1 &&& (127 : Int32)))), (.int (own_exp (p1 &&& (127 : Int32))))])) st6 ?_
      refine own_step (T' := T6) (g' := (mkF m 56 #[.val (.int p1), .val (.int p2), .val (.int (p2 &&& (3 : Int32))), .val (.int (p1 &&& (127 : Int32)))] [])) (fun t_ k_ => XS.icmpNo X6.here hx rfl (hb hby at_53) rfl (teq (rfl : (own_exp (p1 &&& (127 : Int32))) = (own_exp (p1 &&& (127 : Int32))))).2 k_) ?_
      refine own_step (T' := T6) (g' := (mkF m 57 #[.val (.int p1), .val (.int p2), .val (.int (p2 &&& (3 : Int32))), .val (.int (p1 &&& (127 : Int32)))] [(.int (1 : Int32))])) (fun t_ k_ => XS.iconst X6.here hx rfl (hb hby at_56) k_) ?_
      refine own_step (T' := T6) (g' := (mkF m 61 #[.val (.int p1), .val (.int p2), .val (.int (p2 &&& (3 : Int32))), .val (.int (p1 &&& (127 : Int32)))] [(.int (1 : Int32))])) (fun t_ k_ => XS.goto X6.here hx rfl (pc0 := 57) (pc' := 61) rfl (hb hby at_57) (by decide) (by decide) k_) ?_
      obtain ⟨fs, hrR, hrun, hended, hWW, hsame⟩ := X6.leave (v := some (.int (1 : Int32))) (fun h => by rw [Bd.returns] at h; cases h)
      refine ⟨_, _, own_retZ X6 hx (t := .boolean) Bd.returns (by simp) (by decide) (hb hby at_61) hrR, hrun, hended, hPP _ _ ⟨_, _, rfl, ?_, ⟨_, rfl⟩, hWW, hsame.mono (by decide) (by decide)⟩⟩
      show Q0 n0 _ T6.heap _
      rw [e6]
      exact ⟨rfl, N6⟩
    · refine own_step (T' := s₁) (g' := (mkF m 26 #[.val (.int p1), .val (.int p2), .val (.int (p2 &&& (3 : Int32))), .unset] [])) (fun t_ k_ => XS.icmpYes X0.here hx rfl (pc0 := 15) (pc' := 26) rfl (hb hby at_15) rfl (feq hc15_4).2 (by decide) (by decide) k_) ?_
      refine own_step (T' := s₁) (g' := (mkF m 27 #[.val (.int p1), .val (.int p2), .val (.int (p2 &&& (3 : Int32))), .unset] [(.int (p2 &&& (3 : Int32)))])) (fun t_ k_ => XS.iloadN X0.here hx rfl (hb hby at_26) rfl k_) ?_
      refine own_step (T' := s₁) (g' := (mkF m 28 #[.val (.int p1), .val (.int p2), .val (.int (p2 &&& (3 : Int32))), .unset] [(.int (2 : Int32)), (.int (p2 &&& (3 : Int32)))])) (fun t_ k_ => XS.iconst X0.here hx rfl (hb hby at_27) k_) ?_
      by_cases hc28_7 : (p2 &&& (3 : Int32)) = (2 : Int32)
      · refine own_step (T' := s₁) (g' := (mkF m 31 #[.val (.int p1), .val (.int p2), .val (.int (p2 &&& (3 : Int32))), .unset] [])) (fun t_ k_ => XS.icmpNo X0.here hx rfl (hb hby at_28) rfl (teq hc28_7).2 k_) ?_
        refine own_step (T' := s₁) (g' := (mkF m 32 #[.val (.int p1), .val (.int p2), .val (.int (p2 &&& (3 : Int32))), .unset] [(.int p1)])) (fun t_ k_ => XS.iloadN X0.here hx rfl (hb hby at_31) rfl k_) ?_
        refine own_step (T' := s₁) (g' := (mkF m 35 #[.val (.int p1), .val (.int p2), .val (.int (p2 &&& (3 : Int32))), .unset] [(.int (255 : Int32)), (.int p1)])) (fun t_ k_ => XS.sipush X0.here hx rfl (hb hby at_32) k_) ?_
        refine own_step (T' := s₁) (g' := (mkF m 36 #[.val (.int p1), .val (.int p2), .val (.int (p2 &&& (3 : Int32))), .unset] [(.int (p1 &&& (255 : Int32)))])) (fun t_ k_ => XS.iand X0.here hx rfl (hb hby at_35) rfl k_) ?_
        refine own_step (T' := s₁) (g' := (mkF m 37 #[.val (.int p1), .val (.int p2), .val (.int (p2 &&& (3 : Int32))), .val (.int (p1 &&& (255 : Int32)))] [])) (fun t_ k_ => XS.istoreN X0.here hx rfl (hb hby at_36) rfl (l' := #[.val (.int p1), .val (.int p2), .val (.int (p2 &&& (3 : Int32))), .val (.int (p1 &&& (255 : Int32)))]) rfl k_) ?_
        refine own_step (T' := s₁) (g' := (mkF m 45 #[.val (.int p1), .val (.int p2), .val (.int (p2 &&& (3 : Int32))), .val (.int (p1 &&& (255 : Int32)))] [])) (fun t_ k_ => XS.goto X0.here hx rfl (pc0 := 37) (pc' := 45) rfl (hb hby at_37) (by decide) (by decide) k_) ?_
        refine own_step (T' := s₁) (g' := (mkF m 46 #[.val (.int p1), .val (.int p2), .val (.int (p2 &&& (3 : Int32))), .val (.int (p1 &&& (255 : Int32)))] [(.int (p1 &&& (255 : Int32)))])) (fun t_ k_ => XS.iloadN X0.here hx rfl (hb hby at_45) rfl k_) ?_
        obtain ⟨_, _, ⟨T8, L8, k8, n8⟩, -, X8, ⟨Lc8, hQ8, l8, y8, z8⟩, st8⟩ := Jvm.LawKit.callS X0 hx (y := (⟨"com/example/vestibule/vestibule/http/Tokens", "isTokenChar", "(I)Z"⟩ : MethodName)) hown (mvT hZ (hw _ (List.mem_of_getElem? (i := 1) rfl))) (mvT hZ (hw _ (List.mem_of_getElem? (i := 2) rfl))) (mvT hZ (hw _ (List.mem_of_getElem? (i := 3) rfl))) (mvT hZ (hw _ (List.mem_of_getElem? (i := 4) rfl))) (by decide) (backOf (W := 0) (rm1 l Z a0 hw [] (p1 &&& (255 : Int32)) A1 cl1 h0 n0 Z0 S1 Ar Sz tab) hZ (hw _ (List.mem_of_getElem? (i := 4) rfl)) (hw _ (List.mem_of_getElem? (i := 3) rfl)) (by decide) (by decide)) (g := (mkF m 46 #[.val (.int p1), .val (.int p2), .val (.int (p2 &&& (3 : Int32))), .val (.int (p1 &&& (255 : Int32)))] [(.int (p1 &&& (255 : Int32)))])) rfl (by rw [hml]; rfl) (argsL := [(.int (p1 &&& (255 : Int32)))]) (rest := []) (lenOf (by decide +kernel : parseMethodDescriptor "(I)Z" = some ⟨[.int], some .boolean⟩) rfl) rfl (by show 2 * 0 + _ ≤ _; exact Nat.le_of_eq rfl) (hb hby at_46) (fun _ _ => ⟨rfl, e0, (by decide : 0 + 0 ≤ _), (by decide : 0 + 0 ≤ _)⟩)
        dsimp only [Pt.U, Pt.locs, Pt.cells, Pt.slots] at X8 l8 y8 z8 st8 hQ8
        subst l8 y8 z8
        obtain ⟨rfl, Nq8, e8⟩ := hQ8
        have N8 := Fr.app N0 Nq8
        refine own_step (T' := T8) (g' := (mkF m 49 #[.val (.int p1), .val (.int p2), .val (.int (p2 &&& (3 : Int32))), .val (.int (p1 &&& (255 : Int32)))] [(.int (own_exp (p1 &&& (255 : Int32))))])) st8 ?_
        refine own_step (T' := T8) (g' := (mkF m 50 #[.val (.int p1), .val (.int p2), .val (.int (p2 &&& (3 : Int32))), .val (.int (p1 &&& (255 : Int32)))] [(.int (p1 &&& (255 : Int32))), (.int (own_exp (p1 &&& (255 : Int32))))])) (fun t_ k_ => XS.iloadN X8.here hx rfl (hb hby at_49) rfl k_) ?_
        obtain ⟨_, _, ⟨T9, L9, k9, n9⟩, -, X9, ⟨Lc9, hQ9, l9, y9, z9⟩, st9⟩ := Jvm.LawKit.callS X8 hx (y := (⟨"com/example/vestibule/vestibule/http/TokensIsTokenCharPinLaw", "expected", "(I)Z"⟩ : MethodName)) hown (mvT hZ (hw _ (List.mem_of_getElem? (i := 7) rfl))) (mvT hZ (hw _ (List.mem_of_getElem? (i := 8) rfl))) (mvT hZ (hw _ (List.mem_of_getElem? (i := 9) rfl))) (mvT hZ (hw _ (List.mem_of_getElem? (i := 10) rfl))) (by decide) (backOf (W := 1) (rm2 l Z a0 hw [] (p1 &&& (255 : Int32)) h0 n0 Z0) hZ (hw _ (List.mem_of_getElem? (i := 10) rfl)) (hw _ (List.mem_of_getElem? (i := 9) rfl)) (by decide) (by decide)) (g := (mkF m 50 #[.val (.int p1), .val (.int p2), .val (.int (p2 &&& (3 : Int32))), .val (.int (p1 &&& (255 : Int32)))] [(.int (p1 &&& (255 : Int32))), (.int (own_exp (p1 &&& (255 : Int32))))])) rfl (by rw [hml]; rfl) (argsL := [(.int (p1 &&& (255 : Int32)))]) (rest := [(.int (own_exp (p1 &&& (255 : Int32))))]) (lenOf (by decide +kernel : parseMethodDescriptor "(I)Z" = some ⟨[.int], some .boolean⟩) rfl) rfl (by show 2 * 0 + _ ≤ _; exact Nat.le_of_eq rfl) (hb hby at_50) (fun _ _ => ⟨rfl, e8, (by decide : 0 + 0 ≤ _), (by decide : 0 + 0 ≤ _)⟩)
        dsimp only [Pt.U, Pt.locs, Pt.cells, Pt.slots] at X9 l9 y9 z9 st9 hQ9
        subst l9 y9 z9
        obtain ⟨rfl, Nq9, e9⟩ := hQ9
        have N9 := Fr.app N8 Nq9
        refine own_step (T' := T9) (g' := (mkF m 53 #[.val (.int p1), .val (.int p2), .val (.int (p2 &&& (3 : Int32))), .val (.int (p1 &&& (255 : Int32)))] [(.int (own_exp (p1 &&& (255 : Int32)))), (.int (own_exp (p1 &&& (255 : Int32))))])) st9 ?_
        refine own_step (T' := T9) (g' := (mkF m 56 #[.val (.int p1), .val (.int p2), .val (.int (p2 &&& (3 : Int32))), .val (.int (p1 &&& (255 : Int32)))] [])) (fun t_ k_ => XS.icmpNo X9.here hx rfl (hb hby at_53) rfl (teq (rfl : (own_exp (p1 &&& (255 : Int32))) = (own_exp (p1 &&& (255 : Int32))))).2 k_) ?_
        refine own_step (T' := T9) (g' := (mkF m 57 #[.val (.int p1), .val (.int p2), .val (.int (p2 &&& (3 : Int32))), .val (.int (p1 &&& (255 : Int32)))] [(.int (1 : Int32))])) (fun t_ k_ => XS.iconst X9.here hx rfl (hb hby at_56) k_) ?_
        refine own_step (T' := T9) (g' := (mkF m 61 #[.val (.int p1), .val (.int p2), .val (.int (p2 &&& (3 : Int32))), .val (.int (p1 &&& (255 : Int32)))] [(.int (1 : Int32))])) (fun t_ k_ => XS.goto X9.here hx rfl (pc0 := 57) (pc' := 61) rfl (hb hby at_57) (by decide) (by decide) k_) ?_
        obtain ⟨fs, hrR, hrun, hended, hWW, hsame⟩ := X9.leave (v := some (.int (1 : Int32))) (fun h => by rw [Bd.returns] at h; cases h)
        refine ⟨_, _, own_retZ X9 hx (t := .boolean) Bd.returns (by simp) (by decide) (hb hby at_61) hrR, hrun, hended, hPP _ _ ⟨_, _, rfl, ?_, ⟨_, rfl⟩, hWW, hsame.mono (by decide) (by decide)⟩⟩
        show Q0 n0 _ T9.heap _
        rw [e9]
        exact ⟨rfl, N9⟩
      · refine own_step (T' := s₁) (g' := (mkF m 40 #[.val (.int p1), .val (.int p2), .val (.int (p2 &&& (3 : Int32))), .unset] [])) (fun t_ k_ => XS.icmpYes X0.here hx rfl (pc0 := 28) (pc' := 40) rfl (hb hby at_28) rfl (feq hc28_7).2 (by decide) (by decide) k_) ?_
        refine own_step (T' := s₁) (g' := (mkF m 41 #[.val (.int p1), .val (.int p2), .val (.int (p2 &&& (3 : Int32))), .unset] [(.int p1)])) (fun t_ k_ => XS.iloadN X0.here hx rfl (hb hby at_40) rfl k_) ?_
        refine own_step (T' := s₁) (g' := (mkF m 43 #[.val (.int p1), .val (.int p2), .val (.int (p2 &&& (3 : Int32))), .unset] [(.int (65535 : Int32)), (.int p1)])) (fun t_ k_ => X0.ldcInt hx hown (mvT hZ (hw _ (List.mem_of_getElem? (i := 0) rfl))) (g := (mkF m 41 #[.val (.int p1), .val (.int p2), .val (.int (p2 &&& (3 : Int32))), .unset] [(.int p1)])) rfl (hb hby at_41) _ k_) ?_
        refine own_step (T' := s₁) (g' := (mkF m 44 #[.val (.int p1), .val (.int p2), .val (.int (p2 &&& (3 : Int32))), .unset] [(.int (p1 &&& (65535 : Int32)))])) (fun t_ k_ => XS.iand X0.here hx rfl (hb hby at_43) rfl k_) ?_
        refine own_step (T' := s₁) (g' := (mkF m 45 #[.val (.int p1), .val (.int p2), .val (.int (p2 &&& (3 : Int32))), .val (.int (p1 &&& (65535 : Int32)))] [])) (fun t_ k_ => XS.istoreN X0.here hx rfl (hb hby at_44) rfl (l' := #[.val (.int p1), .val (.int p2), .val (.int (p2 &&& (3 : Int32))), .val (.int (p1 &&& (65535 : Int32)))]) rfl k_) ?_
        refine own_step (T' := s₁) (g' := (mkF m 46 #[.val (.int p1), .val (.int p2), .val (.int (p2 &&& (3 : Int32))), .val (.int (p1 &&& (65535 : Int32)))] [(.int (p1 &&& (65535 : Int32)))])) (fun t_ k_ => XS.iloadN X0.here hx rfl (hb hby at_45) rfl k_) ?_
        obtain ⟨_, _, ⟨T10, L10, k10, n10⟩, -, X10, ⟨Lc10, hQ10, l10, y10, z10⟩, st10⟩ := Jvm.LawKit.callS X0 hx (y := (⟨"com/example/vestibule/vestibule/http/Tokens", "isTokenChar", "(I)Z"⟩ : MethodName)) hown (mvT hZ (hw _ (List.mem_of_getElem? (i := 1) rfl))) (mvT hZ (hw _ (List.mem_of_getElem? (i := 2) rfl))) (mvT hZ (hw _ (List.mem_of_getElem? (i := 3) rfl))) (mvT hZ (hw _ (List.mem_of_getElem? (i := 4) rfl))) (by decide) (backOf (W := 0) (rm1 l Z a0 hw [] (p1 &&& (65535 : Int32)) A1 cl1 h0 n0 Z0 S1 Ar Sz tab) hZ (hw _ (List.mem_of_getElem? (i := 4) rfl)) (hw _ (List.mem_of_getElem? (i := 3) rfl)) (by decide) (by decide)) (g := (mkF m 46 #[.val (.int p1), .val (.int p2), .val (.int (p2 &&& (3 : Int32))), .val (.int (p1 &&& (65535 : Int32)))] [(.int (p1 &&& (65535 : Int32)))])) rfl (by rw [hml]; rfl) (argsL := [(.int (p1 &&& (65535 : Int32)))]) (rest := []) (lenOf (by decide +kernel : parseMethodDescriptor "(I)Z" = some ⟨[.int], some .boolean⟩) rfl) rfl (by show 2 * 0 + _ ≤ _; exact Nat.le_of_eq rfl) (hb hby at_46) (fun _ _ => ⟨rfl, e0, (by decide : 0 + 0 ≤ _), (by decide : 0 + 0 ≤ _)⟩)
        dsimp only [Pt.U, Pt.locs, Pt.cells, Pt.slots] at X10 l10 y10 z10 st10 hQ10
        subst l10 y10 z10
        obtain ⟨rfl, Nq10, e10⟩ := hQ10
        have N10 := Fr.app N0 Nq10
        refine own_step (T' := T10) (g' := (mkF m 49 #[.val (.int p1), .val (.int p2), .val (.int (p2 &&& (3 : Int32))), .val (.int (p1 &&& (65535 : Int32)))] [(.int (own_exp (p1 &&& (65535 : Int32))))])) st10 ?_
        refine own_step (T' := T10) (g' := (mkF m 50 #[.val (.int p1), .val (.int p2), .val (.int (p2 &&& (3 : Int32))), .val (.int (p1 &&& (65535 : Int32)))] [(.int (p1 &&& (65535 : Int32))), (.int (own_exp (p1 &&& (65535 : Int32))))])) (fun t_ k_ => XS.iloadN X10.here hx rfl (hb hby at_49) rfl k_) ?_
        obtain ⟨_, _, ⟨T11, L11, k11, n11⟩, -, X11, ⟨Lc11, hQ11, l11, y11, z11⟩, st11⟩ := Jvm.LawKit.callS X10 hx (y := (⟨"com/example/vestibule/vestibule/http/TokensIsTokenCharPinLaw", "expected", "(I)Z"⟩ : MethodName)) hown (mvT hZ (hw _ (List.mem_of_getElem? (i := 7) rfl))) (mvT hZ (hw _ (List.mem_of_getElem? (i := 8) rfl))) (mvT hZ (hw _ (List.mem_of_getElem? (i := 9) rfl))) (mvT hZ (hw _ (List.mem_of_getElem? (i := 10) rfl))) (by decide) (backOf (W := 1) (rm2 l Z a0 hw [] (p1 &&& (65535 : Int32)) h0 n0 Z0) hZ (hw _ (List.mem_of_getElem? (i := 10) rfl)) (hw _ (List.mem_of_getElem? (i := 9) rfl)) (by decide) (by decide)) (g := (mkF m 50 #[.val (.int p1), .val (.int p2), .val (.int (p2 &&& (3 : Int32))), .val (.int (p1 &&& (65535 : Int32)))] [(.int (p1 &&& (65535 : Int32))), (.int (own_exp (p1 &&& (65535 : Int32))))])) rfl (by rw [hml]; rfl) (argsL := [(.int (p1 &&& (65535 : Int32)))]) (rest := [(.int (own_exp (p1 &&& (65535 : Int32))))]) (lenOf (by decide +kernel : parseMethodDescriptor "(I)Z" = some ⟨[.int], some .boolean⟩) rfl) rfl (by show 2 * 0 + _ ≤ _; exact Nat.le_of_eq rfl) (hb hby at_50) (fun _ _ => ⟨rfl, e10, (by decide : 0 + 0 ≤ _), (by decide : 0 + 0 ≤ _)⟩)
        dsimp only [Pt.U, Pt.locs, Pt.cells, Pt.slots] at X11 l11 y11 z11 st11 hQ11
        subst l11 y11 z11
        obtain ⟨rfl, Nq11, e11⟩ := hQ11
        have N11 := Fr.app N10 Nq11
        refine own_step (T' := T11) (g' := (mkF m 53 #[.val (.int p1), .val (.int p2), .val (.int (p2 &&& (3 : Int32))), .val (.int (p1 &&& (65535 : Int32)))] [(.int (own_exp (p1 &&& (65535 : Int32)))), (.int (own_exp (p1 &&& (65535 : Int32))))])) st11 ?_
        refine own_step (T' := T11) (g' := (mkF m 56 #[.val (.int p1), .val (.int p2), .val (.int (p2 &&& (3 : Int32))), .val (.int (p1 &&& (65535 : Int32)))] [])) (fun t_ k_ => XS.icmpNo X11.here hx rfl (hb hby at_53) rfl (teq (rfl : (own_exp (p1 &&& (65535 : Int32))) = (own_exp (p1 &&& (65535 : Int32))))).2 k_) ?_
        refine own_step (T' := T11) (g' := (mkF m 57 #[.val (.int p1), .val (.int p2), .val (.int (p2 &&& (3 : Int32))), .val (.int (p1 &&& (65535 : Int32)))] [(.int (1 : Int32))])) (fun t_ k_ => XS.iconst X11.here hx rfl (hb hby at_56) k_) ?_
        refine own_step (T' := T11) (g' := (mkF m 61 #[.val (.int p1), .val (.int p2), .val (.int (p2 &&& (3 : Int32))), .val (.int (p1 &&& (65535 : Int32)))] [(.int (1 : Int32))])) (fun t_ k_ => XS.goto X11.here hx rfl (pc0 := 57) (pc' := 61) rfl (hb hby at_57) (by decide) (by decide) k_) ?_
        obtain ⟨fs, hrR, hrun, hended, hWW, hsame⟩ := X11.leave (v := some (.int (1 : Int32))) (fun h => by rw [Bd.returns] at h; cases h)
        refine ⟨_, _, own_retZ X11 hx (t := .boolean) Bd.returns (by simp) (by decide) (hb hby at_61) hrR, hrun, hended, hPP _ _ ⟨_, _, rfl, ?_, ⟨_, rfl⟩, hWW, hsame.mono (by decide) (by decide)⟩⟩
        show Q0 n0 _ T11.heap _
        rw [e11]
        exact ⟨rfl, N11⟩
set_option maxRecDepth 65536 in
set_option maxHeartbeats 40000000 in
theorem comes_1 {Post : Tables → Env → Array Value → State → Outcome → State → Prop} (hpost : ∀ tb e args s v u, (limb_1_1.after args s (.returned v) u = true ∧ limb_1_2.after args s (.returned v) u = true ∧ True) → FrameEnd s (.returned v) u (Jvm.fieldLocs frame_1_writes args s ++ Jvm.arrayLocs frame_1_arrays args s ++ Jvm.staticLocs frame_1_statics s) 0 0 → Post tb e args s (.returned v) u) :
    ArmFor flags0 classFile x code maxLocals ret World_1 tables_1 room_1 Calls_1 rest_1 Pre_1 Post := by
  intro l hfl _ _ p e ha hc hk s m args below hf hA hF happ hP
  obtain ⟨hcalls, hrest, hpre⟩ := hP
  obtain ⟨-, -, -, hnamed, -, -, -, hat⟩ := (Spec.applies_iff hf).mp happ
  obtain ⟨hg, hn⟩ := and_e (Cond.before_iff.mp (show (Jvm.Cond.and given_1 narrow_1).before args s = true from hpre))
  obtain ⟨hcount, hq0⟩ := and_e hg
  obtain ⟨ha0, hq1⟩ := and_e hq0
  obtain ⟨w0, w1, rfl⟩ : ∃ w0 w1 : Value, args = #[w0, w1] := by
    have hs : args.size = 2 := by simpa [Cond.value, given_1] using hcount
    obtain ⟨L⟩ := args
    match L, hs with
    | [w0, w1], _ => exact ⟨w0, w1, rfl⟩
  have hw := fun d (hd : d ∈ tables_1) => atoms_spec (ws := Jvm.Cond.code x code maxLocals ret :: tables_1) hat d (List.mem_cons_of_mem _ hd)
  have hfit : Fit s := fun {y c} hc i hi => by
    obtain ⟨ha, rfl⟩ := Array.getElem?_eq_some_iff.mp hc
    have q := List.all_eq_true.mp ((Array.all_eq_true_iff_forall_mem.mp hF) _ (Array.getElem_mem ha)) i (List.mem_range.mpr hi)
    simpa [Array.getElem?_eq_getElem hi] using q
  obtain ⟨i0, ei0⟩ := is_v ha0
  obtain rfl : w0 = (.int i0) := Option.some.inj ei0
  obtain ⟨i1, ei1⟩ := is_v hq1
  obtain rfl : w1 = (.int i1) := Option.some.inj ei1
  obtain ⟨hn0, hm0⟩ := and_e hn
  obtain ⟨hn1, hm1⟩ := and_e hm0
  obtain ⟨hn2, hm2⟩ := and_e hm1
  obtain ⟨hn3, hm3⟩ := and_e hm2
  obtain ⟨hn4, hm4⟩ := and_e hm3
  obtain ⟨hn5, hm5⟩ := and_e hm4
  obtain ⟨hn6, hm6⟩ := and_e hm5
  obtain ⟨hn7, hm7⟩ := and_e hm6
  obtain ⟨hn8, hm8⟩ := and_e hm7
  obtain ⟨hn9, hm9⟩ := and_e hm8
  obtain ⟨hn10, hm10⟩ := and_e hm9
  obtain ⟨hn11, hm11⟩ := and_e hm10
  obtain ⟨hn12, hm12⟩ := and_e hm11
  obtain ⟨hn13, hm13⟩ := and_e hm12
  obtain ⟨hn14, hm14⟩ := and_e hm13
  obtain ⟨hn15, hm15⟩ := and_e hm14
  obtain ⟨hn16, hm16⟩ := and_e hm15
  obtain ⟨hn17, hm17⟩ := and_e hm16
  obtain ⟨hn18, hm18⟩ := and_e hm17
  obtain ⟨hn19, hm19⟩ := and_e hm18
  obtain ⟨hn20, hm20⟩ := and_e hm19
  obtain ⟨hn21, hm21⟩ := and_e hm20
  obtain ⟨hn22, hm22⟩ := and_e hm21
  obtain ⟨hn23, hm23⟩ := and_e hm22
  obtain ⟨hn24, hm24⟩ := and_e hm23
  have hn25 := hm24
  obtain ⟨A1, ev0⟩ := arr_v hn0
  obtain ⟨cl1, Ar⟩ := Arr.start ev0 hn0
  have ev : ∀ idx, (Term.static "com/example/vestibule/vestibule/http/Tokens" "TOKEN_CHARS" "[Z").eval #[.int i0, .int i1] s none idx s = some (.ref A1) := fun idx => ev0
  have S1 : Sta s s.heap "com/example/vestibule/vestibule/http/Tokens" "TOKEN_CHARS" "[Z" (.ref A1) := Sta.start ev0 (Or.inr ⟨(hw _ (List.mem_of_getElem? (i := 3) rfl)), (hw _ (List.mem_of_getElem? (i := 6) rfl))⟩)
  have hat1 : s.arrayAt? A1 = some cl1 := IntBox.arrayAt_of Ar.1 Ar.2.1 Ar.2.2
  have hsz : cl1.slots.size = 128 := own_size ev0 hat1 (own_eqI hn1) rfl
  have Sz : cl1.slots.size = (128 : Int32).toNatClampNeg := hsz
  have htab : ∀ k : Nat, k < 128 → cl1.slots[k]? = some (.int (own_exp k.toInt32)) := by
    intro k hk
    have hr : (0 ≤ k ∧ k < 33) ∨ k = 33 ∨ k = 34 ∨ (35 ≤ k ∧ k < 40) ∨ k = 40 ∨ k = 41 ∨ k = 42 ∨ k = 43 ∨ k = 44 ∨ k = 45 ∨ k = 46 ∨ k = 47 ∨ (48 ≤ k ∧ k < 58) ∨ (58 ≤ k ∧ k < 65) ∨ (65 ≤ k ∧ k < 91) ∨ k = 91 ∨ k = 92 ∨ k = 93 ∨ (94 ≤ k ∧ k < 123) ∨ k = 123 ∨ k = 124 ∨ k = 125 ∨ k = 126 ∨ k = 127 := by omega
    rcases hr with hr | hr | hr | hr | hr | hr | hr | hr | hr | hr | hr | hr | hr | hr | hr | hr | hr | hr | hr | hr | hr | hr | hr | hr
    · have h := own_all ev0 hat1 hn2 k (by rw [hsz]; exact hk)
      have h := own_or h (nay (Jvm.Cond.le_ints rfl (Term.index_eval k)) (by rw [Int32.le_iff_toInt_le, len_toInt (Nat.lt_trans hk (by decide))]; show ¬ ((33 : Int) ≤ (k : Int)); omega))
      rw [(by decide : ∀ q, q < 33 → 0 ≤ q → own_exp q.toInt32 = 0) k hr.2 hr.1]
      exact own_elem ev Ar.1 (Nat.lt_trans hk (by decide)) h
    · subst hr
      exact own_elemL (j := 33) ev Ar.1 hn3
    · subst hr
      exact own_elemL (j := 34) ev Ar.1 hn4
    · have h := own_all ev0 hat1 hn5 k (by rw [hsz]; exact hk)
      have h := own_or h (nay (Jvm.Cond.lt_ints (Term.index_eval k) rfl) (by rw [Int32.lt_iff_toInt_lt, len_toInt (Nat.lt_trans hk (by decide))]; show ¬ ((k : Int) < (35 : Int)); omega))
      have h := own_or h (nay (Jvm.Cond.le_ints rfl (Term.index_eval k)) (by rw [Int32.le_iff_toInt_le, len_toInt (Nat.lt_trans hk (by decide))]; show ¬ ((40 : Int) ≤ (k : Int)); omega))
      rw [(by decide : ∀ q, q < 40 → 35 ≤ q → own_exp q.toInt32 = 1) k hr.2 hr.1]
      exact own_elem ev Ar.1 (Nat.lt_trans hk (by decide)) h
    · subst hr
      exact own_elemL (j := 40) ev Ar.1 hn6
    · subst hr
      exact own_elemL (j := 41) ev Ar.1 hn7
    · subst hr
      exact own_elemL (j := 42) ev Ar.1 hn8
    · subst hr
      exact own_elemL (j := 43) ev Ar.1 hn9
    · subst hr
      exact own_elemL (j := 44) ev Ar.1 hn10
    · subst hr
      exact own_elemL (j := 45) ev Ar.1 hn11
    · subst hr
      exact own_elemL (j := 46) ev Ar.1 hn12
    · subst hr
      exact own_elemL (j := 47) ev Ar.1 hn13
    · have h := own_all ev0 hat1 hn14 k (by rw [hsz]; exact hk)
      have h := own_or h (nay (Jvm.Cond.lt_ints (Term.index_eval k) rfl) (by rw [Int32.lt_iff_toInt_lt, len_toInt (Nat.lt_trans hk (by decide))]; show ¬ ((k : Int) < (48 : Int)); omega))
      have h := own_or h (nay (Jvm.Cond.le_ints rfl (Term.index_eval k)) (by rw [Int32.le_iff_toInt_le, len_toInt (Nat.lt_trans hk (by decide))]; show ¬ ((58 : Int) ≤ (k : Int)); omega))
      rw [(by decide : ∀ q, q < 58 → 48 ≤ q → own_exp q.toInt32 = 1) k hr.2 hr.1]
      exact own_elem ev Ar.1 (Nat.lt_trans hk (by decide)) h
    · have h := own_all ev0 hat1 hn15 k (by rw [hsz]; exact hk)
      have h := own_or h (nay (Jvm.Cond.lt_ints (Term.index_eval k) rfl) (by rw [Int32.lt_iff_toInt_lt, len_toInt (Nat.lt_trans hk (by decide))]; show ¬ ((k : Int) < (58 : Int)); omega))
      have h := own_or h (nay (Jvm.Cond.le_ints rfl (Term.index_eval k)) (by rw [Int32.le_iff_toInt_le, len_toInt (Nat.lt_trans hk (by decide))]; show ¬ ((65 : Int) ≤ (k : Int)); omega))
      rw [(by decide : ∀ q, q < 65 → 58 ≤ q → own_exp q.toInt32 = 0) k hr.2 hr.1]
      exact own_elem ev Ar.1 (Nat.lt_trans hk (by decide)) h
    · have h := own_all ev0 hat1 hn16 k (by rw [hsz]; exact hk)
      have h := own_or h (nay (Jvm.Cond.lt_ints (Term.index_eval k) rfl) (by rw [Int32.lt_iff_toInt_lt, len_toInt (Nat.lt_trans hk (by decide))]; show ¬ ((k : Int) < (65 : Int)); omega))
      have h := own_or h (nay (Jvm.Cond.le_ints rfl (Term.index_eval k)) (by rw [Int32.le_iff_toInt_le, len_toInt (Nat.lt_trans hk (by decide))]; show ¬ ((91 : Int) ≤ (k : Int)); omega))
      rw [(by decide : ∀ q, q < 91 → 65 ≤ q → own_exp q.toInt32 = 1) k hr.2 hr.1]
      exact own_elem ev Ar.1 (Nat.lt_trans hk (by decide)) h
    · subst hr
      exact own_elemL (j := 91) ev Ar.1 hn17
    · subst hr
      exact own_elemL (j := 92) ev Ar.1 hn18
    · subst hr
      exact own_elemL (j := 93) ev Ar.1 hn19
    · have h := own_all ev0 hat1 hn20 k (by rw [hsz]; exact hk)
      have h := own_or h (nay (Jvm.Cond.lt_ints (Term.index_eval k) rfl) (by rw [Int32.lt_iff_toInt_lt, len_toInt (Nat.lt_trans hk (by decide))]; show ¬ ((k : Int) < (94 : Int)); omega))
      have h := own_or h (nay (Jvm.Cond.le_ints rfl (Term.index_eval k)) (by rw [Int32.le_iff_toInt_le, len_toInt (Nat.lt_trans hk (by decide))]; show ¬ ((123 : Int) ≤ (k : Int)); omega))
      rw [(by decide : ∀ q, q < 123 → 94 ≤ q → own_exp q.toInt32 = 1) k hr.2 hr.1]
      exact own_elem ev Ar.1 (Nat.lt_trans hk (by decide)) h
    · subst hr
      exact own_elemL (j := 123) ev Ar.1 hn21
    · subst hr
      exact own_elemL (j := 124) ev Ar.1 hn22
    · subst hr
      exact own_elemL (j := 125) ev Ar.1 hn23
    · subst hr
      exact own_elemL (j := 126) ev Ar.1 hn24
    · subst hr
      exact own_elemL (j := 127) ev Ar.1 hn25
  have tab : ∀ j : Int32, ¬ j < 0 → j < 128 → cl1.slots[j.toNatClampNeg]? = some (.int (own_exp j)) := by
    intro j h1 h2
    have h3 := htab j.toNatClampNeg (by
      have q := nat_of h1
      rw [Int32.lt_iff_toInt_lt, q] at h2
      have : ((128 : Int32).toInt) = 128 := rfl
      omega)
    rw [(back32 h1).1] at h3
    exact h3
  obtain ⟨n, o, h1, h2, h3, _, L, rfl, ⟨rfl, N⟩, hq⟩ := rm0 l s _ hw tables_1 i0 i1 A1 cl1 s.heap s.heap.size (Nat.le_refl _) S1 Ar Sz tab p e ha hc hk s m _ below hf ((Spec.applies_iff_loose hf).mp happ).1 ⟨rfl, State.Warmed39.refl s, rfl⟩ trivial
  exact ⟨n, _, h1, h2, h3, hpost _ _ _ _ _ _ ⟨Cond.after_iff.mpr rfl, Cond.after_iff.mpr (eq_i res_at (Term.int_eval (1)) rfl), trivial⟩ ⟨hq.1, hq.2.1, (hq.2.2.sift fun y hy => Or.inr (N y hy)).mono (by decide) (by decide)⟩⟩
theorem main_1_1 : Claimed_1_1 := comes_1 fun _ _ _ _ _ _ h hF => ⟨h.1, hF⟩
theorem main_1_2 : Claimed_1_2 := comes_1 fun _ _ _ _ _ _ h hF => ⟨h.2.1, hF⟩
end Jvm.Pilot.@@N@@
namespace Jvm.Pilot.@@N@@
open Jvm Jvm.ClassFile Sem Op Lib Jvm.Free Jvm.Stand Jvm.Pilot.@@N@@.Jvm.D
/-! MADE BY PROGRAM (witnessworld.py) out of the Statement's table words and the real class files: 11 classes; the members and pool entries that the words name. The judged class is class 1, her method 1. -/
namespace start1
open Jvm.ClassFile
def u (s : String) : CpInfo := .utf8 (stringToUtf16 s)
/-- a pool by its gaps: so many unusable entries, then the entry; so many at the end -/
def gap : Nat → List CpInfo → List CpInfo
  | 0, r => r
  | n + 1, r => .unusable :: gap n r
def poolList (es : List (Nat × CpInfo)) (last : Nat) : List CpInfo := es.foldr (fun e r => gap e.1 (e.2 :: r)) (gap last [])
def pool (es : List (Nat × CpInfo)) (last : Nat) : Array CpInfo := ⟨poolList es last⟩
def fileOf (pool : Array CpInfo) (this : Nat) (attrs : Array Attribute := #[]) (ms : Array MethodInfo := #[]) (fl : Nat := 33) (sup : Nat := 0) (ifs : Array Nat := #[]) (fds : Array FieldInfo := #[]) : ClassFile where
  minorVersion := 0
  majorVersion := 65
  constantPool := pool
  accessFlags := fl
  thisClass := this
  superClass := sup
  interfaces := ifs
  fields := fds
  methods := ms
  attributes := attrs
def plain (name : String) (sup : Option ClassId) : Class where
  name := name
  kind := .ordinary
  loader := none
  accessFlags := 33
  super := sup
  interfaces := #[]
  cf := none
  fields := #[]
  methods := #[]
  instanceTypes := #[]
  staticTypes := #[]
  resolved := #[]
  callSites := []
  init := .initialized
  statics := none
  mirror := none

def pool0 : Array CpInfo := pool [(5, u "<init>"), (0, u "()V"), (1, .class_ 10), (1, u "java/lang/Object")] 113

def k0m0 : Method := { name := "<init>", desc := "()V", sig := { parameters := [], returnType := none }, accessFlags := 1, code := none }
/-- java/lang/Object -/
def k0 : Class := { plain "java/lang/Object" none with
  accessFlags := 33
  interfaces := #[]
  cf := some (fileOf pool0 8 #[] #[{ accessFlags := 1, nameIndex := 5, descriptorIndex := 6, attributes := #[] }] 33 0 #[] #[])
  fields := #[]
  methods := #[k0m0]
  instanceTypes := #[]
  staticTypes := #[]
  resolved := Array.replicate 124 none
  statics := none }

def pool1 : Array CpInfo := pool [(2, .class_ 4), (1, u "java/lang/Object"), (0, u "<init>"), (0, u "()V"), (0, .integer 65535), (0, .methodref 9 10), (0, .class_ 11), (0, .nameAndType 12 13), (0, u "com/example/vestibule/vestibule/http/Tokens"), (0, u "isTokenChar"), (0, u "(I)Z"), (0, .methodref 15 16), (0, .class_ 17), (0, .nameAndType 18 13), (0, u "com/example/vestibule/vestibule/http/TokensIsTokenCharPinLaw"), (0, u "expected"), (0, .methodref 15 20), (0, .nameAndType 21 13), (0, u "isDelimiter"), (2, u "law"), (0, u "(II)Z")] 3

def k1m0 : Method := { name := "<init>", desc := "()V", sig := { parameters := [], returnType := none }, accessFlags := 1, code := none }
def k1c1 : Code := { maxStack := 2, maxLocals := 4, code := code, exceptionTable := #[], attributes := #[] }
def k1m1 : Method := { name := "law", desc := "(II)Z", sig := { parameters := [.int, .int], returnType := some .boolean }, accessFlags := 9, code := some k1c1 }
def k1c2 : Code := { maxStack := 2, maxLocals := 1, code := method_3_code, exceptionTable := #[], attributes := #[] }
def k1m2 : Method := { name := "expected", desc := "(I)Z", sig := { parameters := [.int], returnType := some .boolean }, accessFlags := 10, code := some k1c2 }
def k1c3 : Code := { maxStack := 2, maxLocals := 1, code := method_4_code, exceptionTable := #[], attributes := #[] }
def k1m3 : Method := { name := "isDelimiter", desc := "(I)Z", sig := { parameters := [.int], returnType := some .boolean }, accessFlags := 10, code := some k1c3 }
/-- com/example/vestibule/vestibule/http/TokensIsTokenCharPinLaw -/
def k1 : Class := { plain "com/example/vestibule/vestibule/http/TokensIsTokenCharPinLaw" (some 0) with
  accessFlags := 49
  interfaces := #[]
  cf := some (fileOf pool1 15 #[] #[{ accessFlags := 1, nameIndex := 5, descriptorIndex := 6, attributes := #[] }, { accessFlags := 9, nameIndex := 24, descriptorIndex := 25, attributes := #[] }, { accessFlags := 10, nameIndex := 18, descriptorIndex := 13, attributes := #[] }, { accessFlags := 10, nameIndex := 21, descriptorIndex := 13, attributes := #[] }] 49 2 #[] #[])
  fields := #[]
  methods := #[k1m0, k1m1, k1m2, k1m3]
  instanceTypes := #[]
  staticTypes := #[]
  resolved := Array.replicate 29 none
  statics := none }

def pool2 : Array CpInfo := pool [(2, .class_ 4), (1, u "java/lang/Object"), (0, u "<init>"), (0, u "()V"), (0, .fieldref 8 9), (0, .class_ 10), (0, .nameAndType 11 12), (0, u "com/example/vestibule/vestibule/http/Tokens"), (0, u "TOKEN_CHARS"), (0, u "[Z"), (12, u "isTokenChar"), (0, u "(I)Z"), (16, u "SYMBOLS"), (0, u "Ljava/lang/String;")] 10

def k2m0 : Method := { name := "<init>", desc := "()V", sig := { parameters := [], returnType := none }, accessFlags := 2, code := none }
def k2c1 : Code := { maxStack := 2, maxLocals := 1, code := prog_66_method_2_code, exceptionTable := #[], attributes := #[] }
def k2m1 : Method := { name := "isTokenChar", desc := "(I)Z", sig := { parameters := [.int], returnType := some .boolean }, accessFlags := 9, code := some k2c1 }
/-- com/example/vestibule/vestibule/http/Tokens -/
def k2 : Class := { plain "com/example/vestibule/vestibule/http/Tokens" (some 0) with
  accessFlags := 49
  interfaces := #[]
  cf := some (fileOf pool2 8 #[] #[{ accessFlags := 2, nameIndex := 5, descriptorIndex := 6, attributes := #[] }, { accessFlags := 9, nameIndex := 25, descriptorIndex := 26, attributes := #[] }] 49 2 #[] #[{ accessFlags := 26, nameIndex := 43, descriptorIndex := 44, attributes := #[] }, { accessFlags := 26, nameIndex := 11, descriptorIndex := 12, attributes := #[] }])
  fields := #[{ name := "SYMBOLS", type := (.object "java/lang/String"), accessFlags := 26, slot := 0, constantValue := 0 }, { name := "TOKEN_CHARS", type := (.array .boolean), accessFlags := 26, slot := 1, constantValue := 0 }]
  methods := #[k2m0, k2m1]
  instanceTypes := #[]
  staticTypes := #[(.object "java/lang/String"), (.array .boolean)]
  resolved := Array.replicate 55 none
  statics := some 0 }

def pool3 : Array CpInfo := pool [(1, u "java/lang/Cloneable"), (0, .class_ 1), (0, u "java/lang/Object"), (0, .class_ 3)] 3

/-- java/lang/Cloneable -/
def k3 : Class := { plain "java/lang/Cloneable" (some 0) with
  accessFlags := 1537
  interfaces := #[]
  cf := some (fileOf pool3 2 #[] #[] 1537 4 #[] #[])
  fields := #[]
  methods := #[]
  instanceTypes := #[]
  staticTypes := #[]
  resolved := Array.replicate 8 none
  statics := none }

def pool4 : Array CpInfo := pool [(1, u "java/io/Serializable"), (0, .class_ 1), (0, u "java/lang/Object"), (0, .class_ 3)] 3

/-- java/io/Serializable -/
def k4 : Class := { plain "java/io/Serializable" (some 0) with
  accessFlags := 1537
  interfaces := #[]
  cf := some (fileOf pool4 2 #[] #[] 1537 4 #[] #[])
  fields := #[]
  methods := #[]
  instanceTypes := #[]
  staticTypes := #[]
  resolved := Array.replicate 8 none
  statics := none }

/-- the primitive boolean -/
def k5 : Class := { plain "boolean" none with kind := .primitive 'Z', accessFlags := 0x411 }
/-- [Z -/
def k6 : Class := { plain "[Z" (some 0) with kind := .array 5 .boolean, interfaces := #[3, 4], accessFlags := 1041 }

/-- the primitive byte -/
def k7 : Class := { plain "byte" none with kind := .primitive 'B', accessFlags := 0x411 }
/-- [B -/
def k8 : Class := { plain "[B" (some 0) with kind := .array 7 .byte, interfaces := #[3, 4], accessFlags := 1041 }

/-- the primitive int -/
def k9 : Class := { plain "int" none with kind := .primitive 'I', accessFlags := 0x411 }
/-- [I -/
def k10 : Class := { plain "[I" (some 0) with kind := .array 9 .int, interfaces := #[3, 4], accessFlags := 1041 }

def heap : Heap := #[{ cls := 2, slots := #[.null, .ref 1], vm := .statics 2 },
  { cls := 6, slots := #[.int 0, .int 0, .int 0, .int 0, .int 0, .int 0, .int 0, .int 0, .int 0, .int 0, .int 0, .int 0, .int 0, .int 0, .int 0, .int 0, .int 0, .int 0, .int 0, .int 0, .int 0, .int 0, .int 0, .int 0, .int 0, .int 0, .int 0, .int 0, .int 0, .int 0, .int 0, .int 0, .int 0, .int 1, .int 0, .int 1, .int 1, .int 1, .int 1, .int 1, .int 0, .int 0, .int 1, .int 1, .int 0, .int 1, .int 1, .int 0, .int 1, .int 1, .int 1, .int 1, .int 1, .int 1, .int 1, .int 1, .int 1, .int 1, .int 0, .int 0, .int 0, .int 0, .int 0, .int 0, .int 0, .int 1, .int 1, .int 1, .int 1, .int 1, .int 1, .int 1, .int 1, .int 1, .int 1, .int 1, .int 1, .int 1, .int 1, .int 1, .int 1, .int 1, .int 1, .int 1, .int 1, .int 1, .int 1, .int 1, .int 1, .int 1, .int 1, .int 0, .int 0, .int 0, .int 1, .int 1, .int 1, .int 1, .int 1, .int 1, .int 1, .int 1, .int 1, .int 1, .int 1, .int 1, .int 1, .int 1, .int 1, .int 1, .int 1, .int 1, .int 1, .int 1, .int 1, .int 1, .int 1, .int 1, .int 1, .int 1, .int 1, .int 1, .int 1, .int 0, .int 1, .int 0, .int 1, .int 0], vm := .none }]
def classes : Array Class := #[k0, k1, k2, k3, k4, k5, k6, k7, k8, k9, k10]
def interned : List (Array UInt16 × Addr) := []
def slotsUsed : Nat := 130
def theMethod : MethodId := ⟨1, 1⟩
def args0 : Array Value := #[.int 65, .int 1]
def aboutOver (below : List Frame) : State where
  vm := { classes := classes, interned := interned.toArray }
  heap := heap
  slotsUsed := slotsUsed
  threads := #[{ frames := .invoking theMethod args0 :: below }]
def below0 : List Frame := [.native { method := ⟨0, 0⟩, args := #[] }]
def about1 : State := aboutOver below0
def p0 : Program := .bare "" "" ""
def e0 : Env := launch0.env 0 0 0
theorem w_frames : about1.frames = Frame.invoking theMethod args0 :: below0 := rfl
set_option maxRecDepth 65536 in
theorem w_args : argsFit about1.vm theMethod args0 = true := by decide +kernel
set_option maxRecDepth 65536 in
theorem w_heap : heapFits about1 = true := by decide +kernel
set_option maxRecDepth 65536 in
theorem w_runnable : about1.curStatus? = some .runnable := by decide +kernel
set_option maxRecDepth 65536 in
theorem w_alone : about1.alone = true := by decide +kernel
set_option maxRecDepth 65536 in
theorem w_named : about1.methodNamed? x = some theMethod := by decide +kernel
set_option maxRecDepth 65536 in
theorem w_hears : about1.hears theMethod below0 = true := by decide +kernel
set_option maxRecDepth 65536 in
theorem w_ripe : about1.ripe theMethod args0 below0 = true := by decide +kernel
theorem w_running : about1.status = .running := rfl
set_option maxRecDepth 65536 in
theorem w_room : about1.hasRoom e0.platform room_1 = true :=
  launch0.hasRoom_least _ room_1 (by decide +kernel) (by decide +kernel) (by decide +kernel) (by decide +kernel) (by decide +kernel) (by decide +kernel)
theorem allAtoms_all (ts : List Jvm.Cond) (a : Array Jvm.Value) (st : Jvm.State) : (allAtoms ts).before a st = ts.all (fun c => c.before a st) := by
  induction ts with
  | nil => rfl
  | cons c t ih =>
    show (Jvm.Cond.and c (allAtoms t)).before a st = _
    rw [Jvm.Cond.before_and, ih, List.all_cons]
def words1 : List Jvm.Cond := Jvm.Cond.code x code maxLocals ret :: tables_1
/-- a 'code' word, met by the world's own term for the bytes: nothing is compared byte by byte -/
theorem code_word {y : MethodName} {bytes : ByteArray} {mx : Nat} {rt : Option FieldType} {a : Array Value} {s : State} {m : MethodId} {meth : Method} {c : Code} (h1 : s.methodNamed? y = some m) (h2 : s.vm.method? m = some meth) (h3 : meth.code = some c) (h4 : c.code = bytes)
    (h5 : (c.maxLocals == mx && c.exceptionTable.isEmpty && decide (c.maxStack ≤ mostOperands) && decide (meth.sig.returnType = rt) && !meth.locks && decide (parseMethodDescriptor y.desc = some meth.sig)) = true) : (Jvm.Cond.code y bytes mx rt).before a s = true := by
  simp only [Bool.and_eq_true, beq_iff_eq, Bool.not_eq_true', decide_eq_true_eq] at h5
  obtain ⟨⟨⟨⟨⟨g1, g2⟩, g3⟩, g4⟩, g5⟩, g6⟩ := h5
  simp [Cond.before, Cond.holds, Cond.value, h1, h2, h3, h4, g1, g2, g3, g4, g5, g6]
def isCode : Jvm.Cond → Bool
  | .code _ _ _ _ => true
  | _ => false
theorem all_split {L : List Jvm.Cond} {P : Jvm.Cond → Bool} (h1 : L.all (fun c => isCode c || P c) = true) (h2 : ∀ c ∈ L.filter isCode, P c = true) : L.all P = true := by
  refine List.all_eq_true.mpr fun c hc => ?_
  have h := List.all_eq_true.mp h1 c hc
  rcases Bool.eq_false_or_eq_true (isCode c) with hi | hi
  · exact h2 c (List.mem_filter.mpr ⟨hc, hi⟩)
  · simpa [hi] using h
set_option maxRecDepth 65536 in
theorem w_c0 : (Jvm.Cond.code x code maxLocals ret).before args0 about1 = true := code_word (m := ⟨1, 1⟩) (meth := k1m1) (c := k1c1) (by decide +kernel) rfl rfl rfl (by decide +kernel)
set_option maxRecDepth 65536 in
theorem w_c1 : (Jvm.Cond.code ({ cls := "com/example/vestibule/vestibule/http/Tokens", name := "isTokenChar", desc := "(I)Z" } : Jvm.MethodName) prog_66_method_2_code (1 : Nat) (Option.some Jvm.ClassFile.FieldType.boolean)).before args0 about1 = true := code_word (m := ⟨2, 1⟩) (meth := k2m1) (c := k2c1) (by decide +kernel) rfl rfl rfl (by decide +kernel)
set_option maxRecDepth 65536 in
theorem w_c2 : (Jvm.Cond.code ({ cls := "com/example/vestibule/vestibule/http/TokensIsTokenCharPinLaw", name := "expected", desc := "(I)Z" } : Jvm.MethodName) method_3_code (1 : Nat) (Option.some Jvm.ClassFile.FieldType.boolean)).before args0 about1 = true := code_word (m := ⟨1, 2⟩) (meth := k1m2) (c := k1c2) (by decide +kernel) rfl rfl rfl (by decide +kernel)
set_option maxRecDepth 65536 in
theorem w_c3 : (Jvm.Cond.code ({ cls := "com/example/vestibule/vestibule/http/TokensIsTokenCharPinLaw", name := "isDelimiter", desc := "(I)Z" } : Jvm.MethodName) method_4_code (1 : Nat) (Option.some Jvm.ClassFile.FieldType.boolean)).before args0 about1 = true := code_word (m := ⟨1, 3⟩) (meth := k1m3) (c := k1c3) (by decide +kernel) rfl rfl rfl (by decide +kernel)
def codes1 : List Jvm.Cond := [Jvm.Cond.code x code maxLocals ret, Jvm.Cond.code ({ cls := "com/example/vestibule/vestibule/http/Tokens", name := "isTokenChar", desc := "(I)Z" } : Jvm.MethodName) prog_66_method_2_code (1 : Nat) (Option.some Jvm.ClassFile.FieldType.boolean), Jvm.Cond.code ({ cls := "com/example/vestibule/vestibule/http/TokensIsTokenCharPinLaw", name := "expected", desc := "(I)Z" } : Jvm.MethodName) method_3_code (1 : Nat) (Option.some Jvm.ClassFile.FieldType.boolean), Jvm.Cond.code ({ cls := "com/example/vestibule/vestibule/http/TokensIsTokenCharPinLaw", name := "isDelimiter", desc := "(I)Z" } : Jvm.MethodName) method_4_code (1 : Nat) (Option.some Jvm.ClassFile.FieldType.boolean)]
set_option maxRecDepth 65536 in
theorem codes_eq : words1.filter isCode = codes1 := rfl
theorem w_codes : ∀ c ∈ words1.filter isCode, c.before args0 about1 = true := by
  rw [codes_eq]
  intro c hc
  simp only [codes1, List.mem_cons, List.not_mem_nil, or_false] at hc
  rcases hc with rfl | rfl | rfl | rfl
  · exact w_c0
  · exact w_c1
  · exact w_c2
  · exact w_c3
set_option maxRecDepth 65536 in
theorem w_t1 : words1.all (fun c => isCode c || c.before args0 about1) = true := by decide +kernel
theorem w_tables : (allAtoms (Jvm.Cond.code x code maxLocals ret :: tables_1)).before args0 about1 = true := by
  rw [allAtoms_all]
  show words1.all (fun c => c.before args0 about1) = true
  refine all_split ?_ w_codes
  rw [w_t1]
set_option maxRecDepth 65536 in
theorem w_case : (Jvm.Cond.and given_1 narrow_1).before args0 about1 = true := by decide +kernel
theorem w_applies : (headSpec (Jvm.Cond.code x code maxLocals ret :: tables_1) room_1).applies x e0.platform about1 = true :=
  (Spec.applies_iff w_frames).mpr ⟨w_running, w_runnable, w_alone, w_named, w_hears, w_ripe, w_room, w_tables⟩
theorem atStart : AtStart classFile x code maxLocals ret World_1 tables_1 room_1 Calls_1 rest_1 Pre_1 launch0 p0 e0 about1 theMethod args0 below0 :=
  ⟨lists_1, trivial, launch0.admits_env _ _ _, launch0.least_env, fairChoices_fair.cas, fairChoices_fair.clock, w_frames, w_args, w_heap, w_applies, trivial, trivial, w_case⟩
end start1
theorem witness_1 : WitnessClaimed_1 := ⟨start1.p0, start1.e0, start1.about1, start1.theMethod, start1.args0, start1.below0, start1.atStart⟩
end Jvm.Pilot.@@N@@
