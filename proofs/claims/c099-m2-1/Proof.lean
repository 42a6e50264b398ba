import JvmDerived
import JvmDerived.Pilot.@@N@@Statement
import JvmDerived.Pilot.@@N@@Code
set_option linter.unusedVariables false
set_option linter.unusedSimpArgs false
@@BLOCK:NumsL.lean.txt@@
namespace Jvm.Pilot.@@N@@
open Jvm Jvm.ClassFile Sem Op Lib Jvm.Free Jvm.Stand Jvm.LawKit Jvm.RoadKit Bundle Jvm.Pilot.@@N@@.Jvm.D
/-- the run from here comes to an end of which P speaks -/
def own_Run (tb : Tables) (e : Env) (below : List Frame) (T : State) (g : JFrame) (P : Outcome → State → Prop) : Prop :=
  ∃ s₂ o, Steps tb e below (T.setTop g) s₂ ∧ s₂.status = .running ∧ Ended s₂ below o ∧ P o s₂
theorem own_start {tb : Tables} {e : Env} {below : List Frame} {T : State} {g : JFrame} {Pd : Outcome → State → Prop} (h : ∀ P : Outcome → State → Prop, (∀ o U, Pd o U → P o U) → own_Run tb e below T g P) : ∃ s₂ o, Steps tb e below (T.setTop g) s₂ ∧ s₂.status = .running ∧ Ended s₂ below o ∧ Pd o s₂ := h Pd fun _ _ q => q
theorem own_step {tb : Tables} {e : Env} {below : List Frame} {T T' : State} {g g' : JFrame} {P : Outcome → State → Prop} (h : ∀ t, Steps tb e below (T'.setTop g') t → Steps tb e below (T.setTop g) t) (k : own_Run tb e below T' g' P) : own_Run tb e below T g P := by
  obtain ⟨a, b, h1, h2⟩ := k
  exact ⟨a, b, h _ h1, h2⟩
theorem own_to {tb : Tables} {e : Env} {below : List Frame} {T T' : State} {g g' : JFrame} {P : Outcome → State → Prop} (h : Steps tb e below (T.setTop g) (T'.setTop g')) (k : own_Run tb e below T' g' P) : own_Run tb e below T g P := by
  obtain ⟨a, b, h1, h2⟩ := k
  exact ⟨a, b, h.trans h1, h2⟩
section Ret
variable {p : Program} {l : Launch} {e : Env} {R : Room} {s : State} {m : MethodId} {args : Array Value} {below : List Frame} {meth : Method} {c : Code} {T : State} {locs : List Loc} {cells slots : Nat}
theorem own_retI (X : Stand p l e R s m args below meth c T locs cells slots) (hx : p.tables.exec = Jvm.exec) {pc : Nat} {Ls : Array Slot} {z : Int32} {rest : List Value} (hret : meth.sig.returnType = some .int) (hd : decode c.code pc = .ok (.ireturn, 1)) {fs : List Frame}
    (hl : ∀ (f : JFrame) (acts : List Action), f.method = m → f.locked = none → f.entered = [] → (doReturn e (T.setTop f) acts (some (.int z))).1 = T.setFrames fs) : Steps p.tables e below (T.setTop (mkF m pc Ls (.int z :: rest))) (T.setFrames fs) :=
  retOut X hx hret rfl (Or.inl ⟨rfl, Or.inl rfl, _, rfl⟩) hd hl
theorem own_retJ (X : Stand p l e R s m args below meth c T locs cells slots) (hx : p.tables.exec = Jvm.exec) {pc : Nat} {Ls : Array Slot} {z : Int64} {rest : List Value} (hret : meth.sig.returnType = some .long) (hd : decode c.code pc = .ok (.lreturn, 1)) {fs : List Frame}
    (hl : ∀ (f : JFrame) (acts : List Action), f.method = m → f.locked = none → f.entered = [] → (doReturn e (T.setTop f) acts (some (.long z))).1 = T.setFrames fs) : Steps p.tables e below (T.setTop (mkF m pc Ls (.long z :: rest))) (T.setFrames fs) :=
  retOut X hx hret rfl (Or.inr (Or.inl ⟨rfl, rfl, _, rfl⟩)) hd hl
theorem own_retR (X : Stand p l e R s m args below meth c T locs cells slots) (hx : p.tables.exec = Jvm.exec) {pc : Nat} {Ls : Array Slot} {w : Value} {t : FieldType} {rest : List Value} (hret : meth.sig.returnType = some t) (ht : t.isReference = true) (hw : w.isRef = true) (hn : narrow t w = w) (hd : decode c.code pc = .ok (.areturn, 1)) {fs : List Frame}
    (hl : ∀ (f : JFrame) (acts : List Action), f.method = m → f.locked = none → f.entered = [] → (doReturn e (T.setTop f) acts (some w)).1 = T.setFrames fs) : Steps p.tables e below (T.setTop (mkF m pc Ls (w :: rest))) (T.setFrames fs) :=
  retOut X hx hret hn (Or.inr (Or.inr (Or.inr (Or.inr ⟨rfl, ht, hw⟩)))) hd hl
theorem own_retZ (X : Stand p l e R s m args below meth c T locs cells slots) (hx : p.tables.exec = Jvm.exec) {pc : Nat} {Ls : Array Slot} {z z' : Int32} {t : FieldType} {rest : List Value} (hret : meth.sig.returnType = some t) (ht : t = .boolean ∨ t = .byte ∨ t = .char ∨ t = .short) (hz : nar t z = z') (hd : decode c.code pc = .ok (.ireturn, 1)) {fs : List Frame}
    (hl : ∀ (f : JFrame) (acts : List Action), f.method = m → f.locked = none → f.entered = [] → (doReturn e (T.setTop f) acts (some (.int z'))).1 = T.setFrames fs) : Steps p.tables e below (T.setTop (mkF m pc Ls (.int z :: rest))) (T.setFrames fs) :=
  retN X hx hret ht hd (by rw [hz]; exact hl)
end Ret
theorem own_eqI {t : Term} {k : Int32} {args : Array Value} {s : State} {idx : List Nat} (h : (Jvm.Cond.eq t (.int k)).value args s none s idx = some true) : t.eval args s none idx s = some (.int k) :=
  Jvm.Cond.eq_int (b := .int k) (by simp [Jvm.Cond.holds, h]) rfl
theorem own_mod5 (x : Int32) : (x &&& 2147483647) % 5 = 0 ∨ (x &&& 2147483647) % 5 = 1 ∨ (x &&& 2147483647) % 5 = 2 ∨ (x &&& 2147483647) % 5 = 3 ∨ (x &&& 2147483647) % 5 = 4 := by
  have hb : 0 ≤ ((x &&& 2147483647) % 5).toInt ∧ ((x &&& 2147483647) % 5).toInt < 5 := by
    have h1 : (x &&& 2147483647).toInt = x.toInt % 2 ^ 31 := Jvm.Kit.i32_mask x 2147483647 (k := 31) (by decide) (by decide)
    have h2 : ((x &&& 2147483647) % 5).toInt = (x &&& 2147483647).toInt % (5 : Int32).toInt := Jvm.Kit.i32_rem_nonneg (by rw [h1]; exact Int.emod_nonneg _ (by decide))
    have h3 : (5 : Int32).toInt = 5 := rfl
    rw [h2, h3]
    omega
  have hd : ((x &&& 2147483647) % 5).toInt = 0 ∨ ((x &&& 2147483647) % 5).toInt = 1 ∨ ((x &&& 2147483647) % 5).toInt = 2 ∨ ((x &&& 2147483647) % 5).toInt = 3 ∨ ((x &&& 2147483647) % 5).toInt = 4 := by omega
  rcases hd with h | h | h | h | h
  · exact (Or.inl (Int32.toInt_inj.mp (h.trans rfl)))
  · exact (Or.inr (Or.inl (Int32.toInt_inj.mp (h.trans rfl))))
  · exact (Or.inr (Or.inr (Or.inl (Int32.toInt_inj.mp (h.trans rfl)))))
  · exact (Or.inr (Or.inr (Or.inr (Or.inl (Int32.toInt_inj.mp (h.trans rfl))))))
  · exact (Or.inr (Or.inr (Or.inr (Or.inr (Int32.toInt_inj.mp (h.trans rfl))))))
def own_one (x : Int32) : Int32 := if x < 1 then 0 else 1
def Q1 (r : Int32) (h0 : Heap) (n0 : Nat) (v : Option Value) (h : Heap) (L : List Loc) : Prop := v = some (.int r) ∧ Fr n0 L ∧ h = h0
theorem d1_0 : decode prog_41_method_7_code 0 = .ok (.aload_n 0, 1) := by decide +kernel
theorem d1_1 : decode prog_41_method_7_code 1 = .ok (.getfield 50, 3) := by decide +kernel
theorem d1_4 : decode prog_41_method_7_code 4 = .ok (.iconst 1, 1) := by decide +kernel
theorem d1_5 : decode prog_41_method_7_code 5 = .ok (.if_icmp .lt 7, 3) := by decide +kernel
theorem d1_8 : decode prog_41_method_7_code 8 = .ok (.iconst 1, 1) := by decide +kernel
theorem d1_9 : decode prog_41_method_7_code 9 = .ok (.goto 4, 3) := by decide +kernel
theorem d1_12 : decode prog_41_method_7_code 12 = .ok (.iconst 0, 1) := by decide +kernel
theorem d1_13 : decode prog_41_method_7_code 13 = .ok (.ireturn, 1) := by decide +kernel
set_option maxRecDepth 65536 in
set_option maxHeartbeats 40000000 in
theorem rm1 (l : Launch) (Z : State) (a0 : Array Value) (hw : ∀ d ∈ tables_1, d.before a0 Z = true) (ws : List Jvm.Cond) (a1 : Addr) (p1 r : Int32) (h0 : Heap) (n0 : Nat) (Z0 : n0 ≤ h0.size) (F1 : Fld Z h0 a1 "com/example/hushed_flood/hushedflood/peer/Strategy" "levels" "I" (.int p1)) (hr : own_one p1 = r) :
    MetFree l (⟨"com/example/hushed_flood/hushedflood/peer/Strategy", "bloom", "()Z"⟩ : MethodName) (head1 (Jvm.Cond.code (⟨"com/example/hushed_flood/hushedflood/peer/Strategy", "bloom", "()Z"⟩ : MethodName) prog_41_method_7_code 1 (some .boolean) :: ws) ({ frames := 0, cells := 0, slots := 0, locals := 0 } : Room)) (fun a U => a = #[(.ref a1)] ∧ Z.Warmed39 U.vm ∧ U.heap = h0) (fun _ _ _ _ _ => True) (fun _ U o U' => ∃ v L, o = .returned v ∧ Q1 r h0 n0 v U'.heap L ∧ FrameEnd U o U' L 0 0) := by
  refine MetFree.of_bodySF (plainFor_of_name (by first | (simp [plainName, overriddenIn]; done) | decide +kernel)) hisR ?_
  intro p e s m args below meth c s₁ Bd hml0 hP hK
  obtain ⟨rfl, hZ, hh⟩ := hP
  have hx := Bd.exec
  have hby := Bd.bytes
  have hml : c.maxLocals = 1 := hml0
  have hown : s.vm.findClass "com/example/hushed_flood/hushedflood/peer/Strategy" = some m.cls := findClass_of_methodNamed Bd.named
  have hnm := (name_of_methodNamed Bd.named Bd.method).1
  have X0 : Stand p l e ({ frames := 0, cells := 0, slots := 0, locals := 0 } : Room) s m #[(.ref a1)] below meth c s₁ [] 0 0 := Stand.of_body Bd
  have e0 : s₁.heap = h0 := by rw [← hh, Bd.state]; rfl
  have N0 := Fr.nil n0
  have ef : entryFrame m #[(.ref a1)] 1 = (mkF m 0 #[.val (.ref a1)] []) := by first | (simp [entryFrame, mkF, argsToLocals, Value.category]; done) | rfl
  refine own_start (fun P hPP => ?_)
  refine own_step (T' := s₁) (g' := (mkF m 0 #[.val (.ref a1)] [])) (fun t_ k_ => castTop ef k_) ?_
  refine own_step (T' := s₁) (g' := (mkF m 1 #[.val (.ref a1)] [(.ref a1)])) (fun t_ k_ => XS.aloadN X0.here hx rfl (hb hby d1_0) rfl rfl k_) ?_
  obtain ⟨T1, X1, e1, st1⟩ := getF X0 hx hZ hown (host := "") (Or.inl (hw _ (List.mem_of_getElem? (i := 9) rfl))) Via.refl e0 F1 (g := (mkF m 1 #[.val (.ref a1)] [(.ref a1)])) rfl rfl (hb hby d1_1)
  refine own_step (T' := T1) (g' := (mkF m 4 #[.val (.ref a1)] [(.int p1)])) st1 ?_
  refine own_step (T' := T1) (g' := (mkF m 5 #[.val (.ref a1)] [(.int (1 : Int32)), (.int p1)])) (fun t_ k_ => XS.iconst X1.here hx rfl (hb hby d1_4) k_) ?_
  by_cases hc5_2 : p1 < (1 : Int32)
  · refine own_step (T' := T1) (g' := (mkF m 12 #[.val (.ref a1)] [])) (fun t_ k_ => XS.icmpYes X1.here hx rfl (pc0 := 5) (pc' := 12) rfl (hb hby d1_5) rfl (tlt hc5_2).1 (by decide) (by decide) k_) ?_
    refine own_step (T' := T1) (g' := (mkF m 13 #[.val (.ref a1)] [(.int (0 : Int32))])) (fun t_ k_ => XS.iconst X1.here hx rfl (hb hby d1_12) k_) ?_
    obtain ⟨fs, hrR, hrun, hended, hWW, hsame⟩ := X1.leave (v := some (.int (0 : Int32))) (fun h => by rw [Bd.returns] at h; cases h)
    refine ⟨_, _, own_retZ X1 hx (t := .boolean) Bd.returns (by simp) (by decide) (hb hby d1_13) hrR, hrun, hended, hPP _ _ ⟨_, _, rfl, ?_, ⟨_, rfl⟩, hWW, hsame.mono (by decide) (by decide)⟩⟩
    show Q1 r h0 n0 _ T1.heap _
    rw [e1]
    exact ⟨by simp [← hr, own_one, hc5_2], N0, rfl⟩
  · refine own_step (T' := T1) (g' := (mkF m 8 #[.val (.ref a1)] [])) (fun t_ k_ => XS.icmpNo X1.here hx rfl (hb hby d1_5) rfl (flt hc5_2).1 k_) ?_
    refine own_step (T' := T1) (g' := (mkF m 9 #[.val (.ref a1)] [(.int (1 : Int32))])) (fun t_ k_ => XS.iconst X1.here hx rfl (hb hby d1_8) k_) ?_
    refine own_step (T' := T1) (g' := (mkF m 13 #[.val (.ref a1)] [(.int (1 : Int32))])) (fun t_ k_ => XS.goto X1.here hx rfl (pc0 := 9) (pc' := 13) rfl (hb hby d1_9) (by decide) (by decide) k_) ?_
    obtain ⟨fs, hrR, hrun, hended, hWW, hsame⟩ := X1.leave (v := some (.int (1 : Int32))) (fun h => by rw [Bd.returns] at h; cases h)
    refine ⟨_, _, own_retZ X1 hx (t := .boolean) Bd.returns (by simp) (by decide) (hb hby d1_13) hrR, hrun, hended, hPP _ _ ⟨_, _, rfl, ?_, ⟨_, rfl⟩, hWW, hsame.mono (by decide) (by decide)⟩⟩
    show Q1 r h0 n0 _ T1.heap _
    rw [e1]
    exact ⟨by simp [← hr, own_one, hc5_2], N0, rfl⟩
def own_two (x : Int32) : Int32 := if x < 2 then 0 else 1
def Q2 (r : Int32) (h0 : Heap) (n0 : Nat) (v : Option Value) (h : Heap) (L : List Loc) : Prop := v = some (.int r) ∧ Fr n0 L ∧ h = h0
theorem d2_0 : decode prog_41_method_8_code 0 = .ok (.aload_n 0, 1) := by decide +kernel
theorem d2_1 : decode prog_41_method_8_code 1 = .ok (.getfield 50, 3) := by decide +kernel
theorem d2_4 : decode prog_41_method_8_code 4 = .ok (.iconst 2, 1) := by decide +kernel
theorem d2_5 : decode prog_41_method_8_code 5 = .ok (.if_icmp .lt 7, 3) := by decide +kernel
theorem d2_8 : decode prog_41_method_8_code 8 = .ok (.iconst 1, 1) := by decide +kernel
theorem d2_9 : decode prog_41_method_8_code 9 = .ok (.goto 4, 3) := by decide +kernel
theorem d2_12 : decode prog_41_method_8_code 12 = .ok (.iconst 0, 1) := by decide +kernel
theorem d2_13 : decode prog_41_method_8_code 13 = .ok (.ireturn, 1) := by decide +kernel
set_option maxRecDepth 65536 in
set_option maxHeartbeats 40000000 in
theorem rm2 (l : Launch) (Z : State) (a0 : Array Value) (hw : ∀ d ∈ tables_1, d.before a0 Z = true) (ws : List Jvm.Cond) (a1 : Addr) (p1 r : Int32) (h0 : Heap) (n0 : Nat) (Z0 : n0 ≤ h0.size) (F1 : Fld Z h0 a1 "com/example/hushed_flood/hushedflood/peer/Strategy" "levels" "I" (.int p1)) (hr : own_two p1 = r) :
    MetFree l (⟨"com/example/hushed_flood/hushedflood/peer/Strategy", "levelTwo", "()Z"⟩ : MethodName) (head1 (Jvm.Cond.code (⟨"com/example/hushed_flood/hushedflood/peer/Strategy", "levelTwo", "()Z"⟩ : MethodName) prog_41_method_8_code 1 (some .boolean) :: ws) ({ frames := 0, cells := 0, slots := 0, locals := 0 } : Room)) (fun a U => a = #[(.ref a1)] ∧ Z.Warmed39 U.vm ∧ U.heap = h0) (fun _ _ _ _ _ => True) (fun _ U o U' => ∃ v L, o = .returned v ∧ Q2 r h0 n0 v U'.heap L ∧ FrameEnd U o U' L 0 0) := by
  refine MetFree.of_bodySF (plainFor_of_name (by first | (simp [plainName, overriddenIn]; done) | decide +kernel)) hisR ?_
  intro p e s m args below meth c s₁ Bd hml0 hP hK
  obtain ⟨rfl, hZ, hh⟩ := hP
  have hx := Bd.exec
  have hby := Bd.bytes
  have hml : c.maxLocals = 1 := hml0
  have hown : s.vm.findClass "com/example/hushed_flood/hushedflood/peer/Strategy" = some m.cls := findClass_of_methodNamed Bd.named
  have hnm := (name_of_methodNamed Bd.named Bd.method).1
  have X0 : Stand p l e ({ frames := 0, cells := 0, slots := 0, locals := 0 } : Room) s m #[(.ref a1)] below meth c s₁ [] 0 0 := Stand.of_body Bd
  have e0 : s₁.heap = h0 := by rw [← hh, Bd.state]; rfl
  have N0 := Fr.nil n0
  have ef : entryFrame m #[(.ref a1)] 1 = (mkF m 0 #[.val (.ref a1)] []) := by first | (simp [entryFrame, mkF, argsToLocals, Value.category]; done) | rfl
  refine own_start (fun P hPP => ?_)
  refine own_step (T' := s₁) (g' := (mkF m 0 #[.val (.ref a1)] [])) (fun t_ k_ => castTop ef k_) ?_
  refine own_step (T' := s₁) (g' := (mkF m 1 #[.val (.ref a1)] [(.ref a1)])) (fun t_ k_ => XS.aloadN X0.here hx rfl (hb hby d2_0) rfl rfl k_) ?_
  obtain ⟨T1, X1, e1, st1⟩ := getF X0 hx hZ hown (host := "") (Or.inl (hw _ (List.mem_of_getElem? (i := 9) rfl))) Via.refl e0 F1 (g := (mkF m 1 #[.val (.ref a1)] [(.ref a1)])) rfl rfl (hb hby d2_1)
  refine own_step (T' := T1) (g' := (mkF m 4 #[.val (.ref a1)] [(.int p1)])) st1 ?_
  refine own_step (T' := T1) (g' := (mkF m 5 #[.val (.ref a1)] [(.int (2 : Int32)), (.int p1)])) (fun t_ k_ => XS.iconst X1.here hx rfl (hb hby d2_4) k_) ?_
  by_cases hc5_2 : p1 < (2 : Int32)
  · refine own_step (T' := T1) (g' := (mkF m 12 #[.val (.ref a1)] [])) (fun t_ k_ => XS.icmpYes X1.here hx rfl (pc0 := 5) (pc' := 12) rfl (hb hby d2_5) rfl (tlt hc5_2).1 (by decide) (by decide) k_) ?_
    refine own_step (T' := T1) (g' := (mkF m 13 #[.val (.ref a1)] [(.int (0 : Int32))])) (fun t_ k_ => XS.iconst X1.here hx rfl (hb hby d2_12) k_) ?_
    obtain ⟨fs, hrR, hrun, hended, hWW, hsame⟩ := X1.leave (v := some (.int (0 : Int32))) (fun h => by rw [Bd.returns] at h; cases h)
    refine ⟨_, _, own_retZ X1 hx (t := .boolean) Bd.returns (by simp) (by decide) (hb hby d2_13) hrR, hrun, hended, hPP _ _ ⟨_, _, rfl, ?_, ⟨_, rfl⟩, hWW, hsame.mono (by decide) (by decide)⟩⟩
    show Q2 r h0 n0 _ T1.heap _
    rw [e1]
    exact ⟨by simp [← hr, own_two, hc5_2], N0, rfl⟩
  · refine own_step (T' := T1) (g' := (mkF m 8 #[.val (.ref a1)] [])) (fun t_ k_ => XS.icmpNo X1.here hx rfl (hb hby d2_5) rfl (flt hc5_2).1 k_) ?_
    refine own_step (T' := T1) (g' := (mkF m 9 #[.val (.ref a1)] [(.int (1 : Int32))])) (fun t_ k_ => XS.iconst X1.here hx rfl (hb hby d2_8) k_) ?_
    refine own_step (T' := T1) (g' := (mkF m 13 #[.val (.ref a1)] [(.int (1 : Int32))])) (fun t_ k_ => XS.goto X1.here hx rfl (pc0 := 9) (pc' := 13) rfl (hb hby d2_9) (by decide) (by decide) k_) ?_
    obtain ⟨fs, hrR, hrun, hended, hWW, hsame⟩ := X1.leave (v := some (.int (1 : Int32))) (fun h => by rw [Bd.returns] at h; cases h)
    refine ⟨_, _, own_retZ X1 hx (t := .boolean) Bd.returns (by simp) (by decide) (hb hby d2_13) hrR, hrun, hended, hPP _ _ ⟨_, _, rfl, ?_, ⟨_, rfl⟩, hWW, hsame.mono (by decide) (by decide)⟩⟩
    show Q2 r h0 n0 _ T1.heap _
    rw [e1]
    exact ⟨by simp [← hr, own_two, hc5_2], N0, rfl⟩
def Q3 (r : Int32) (h0 : Heap) (n0 : Nat) (v : Option Value) (h : Heap) (L : List Loc) : Prop := v = some (.int r) ∧ Fr n0 L ∧ h = h0
theorem d3_0 : decode prog_41_method_6_code 0 = .ok (.aload_n 0, 1) := by decide +kernel
theorem d3_1 : decode prog_41_method_6_code 1 = .ok (.getfield 46, 3) := by decide +kernel
theorem d3_4 : decode prog_41_method_6_code 4 = .ok (.ireturn, 1) := by decide +kernel
set_option maxRecDepth 65536 in
set_option maxHeartbeats 40000000 in
theorem rm3 (l : Launch) (Z : State) (a0 : Array Value) (hw : ∀ d ∈ tables_1, d.before a0 Z = true) (ws : List Jvm.Cond) (a1 : Addr) (p1 r : Int32) (h0 : Heap) (n0 : Nat) (Z0 : n0 ≤ h0.size) (F1 : Fld Z h0 a1 "com/example/hushed_flood/hushedflood/peer/Strategy" "walks" "Z" (.int p1)) (hr : nar .boolean p1 = r) :
    MetFree l (⟨"com/example/hushed_flood/hushedflood/peer/Strategy", "walks", "()Z"⟩ : MethodName) (head1 (Jvm.Cond.code (⟨"com/example/hushed_flood/hushedflood/peer/Strategy", "walks", "()Z"⟩ : MethodName) prog_41_method_6_code 1 (some .boolean) :: ws) ({ frames := 0, cells := 0, slots := 0, locals := 0 } : Room)) (fun a U => a = #[(.ref a1)] ∧ Z.Warmed39 U.vm ∧ U.heap = h0) (fun _ _ _ _ _ => True) (fun _ U o U' => ∃ v L, o = .returned v ∧ Q3 r h0 n0 v U'.heap L ∧ FrameEnd U o U' L 0 0) := by
  refine MetFree.of_bodySF (plainFor_of_name (by first | (simp [plainName, overriddenIn]; done) | decide +kernel)) hisR ?_
  intro p e s m args below meth c s₁ Bd hml0 hP hK
  obtain ⟨rfl, hZ, hh⟩ := hP
  have hx := Bd.exec
  have hby := Bd.bytes
  have hml : c.maxLocals = 1 := hml0
  have hown : s.vm.findClass "com/example/hushed_flood/hushedflood/peer/Strategy" = some m.cls := findClass_of_methodNamed Bd.named
  have hnm := (name_of_methodNamed Bd.named Bd.method).1
  have X0 : Stand p l e ({ frames := 0, cells := 0, slots := 0, locals := 0 } : Room) s m #[(.ref a1)] below meth c s₁ [] 0 0 := Stand.of_body Bd
  have e0 : s₁.heap = h0 := by rw [← hh, Bd.state]; rfl
  have N0 := Fr.nil n0
  have ef : entryFrame m #[(.ref a1)] 1 = (mkF m 0 #[.val (.ref a1)] []) := by first | (simp [entryFrame, mkF, argsToLocals, Value.category]; done) | rfl
  refine own_start (fun P hPP => ?_)
  refine own_step (T' := s₁) (g' := (mkF m 0 #[.val (.ref a1)] [])) (fun t_ k_ => castTop ef k_) ?_
  refine own_step (T' := s₁) (g' := (mkF m 1 #[.val (.ref a1)] [(.ref a1)])) (fun t_ k_ => XS.aloadN X0.here hx rfl (hb hby d3_0) rfl rfl k_) ?_
  obtain ⟨T1, X1, e1, st1⟩ := getF X0 hx hZ hown (host := "") (Or.inl (hw _ (List.mem_of_getElem? (i := 21) rfl))) Via.refl e0 F1 (g := (mkF m 1 #[.val (.ref a1)] [(.ref a1)])) rfl rfl (hb hby d3_1)
  refine own_step (T' := T1) (g' := (mkF m 4 #[.val (.ref a1)] [(.int p1)])) st1 ?_
  obtain ⟨fs, hrR, hrun, hended, hWW, hsame⟩ := X1.leave (v := some (.int r)) (fun h => by rw [Bd.returns] at h; cases h)
  refine ⟨_, _, own_retZ X1 hx (t := .boolean) Bd.returns (by simp) hr (hb hby d3_4) hrR, hrun, hended, hPP _ _ ⟨_, _, rfl, ?_, ⟨_, rfl⟩, hWW, hsame.mono (by decide) (by decide)⟩⟩
  show Q3 r h0 n0 _ T1.heap _
  rw [e1]
  exact ⟨rfl, N0, rfl⟩
def Q0 (n0 : Nat) (v : Option Value) (h : Heap) (L : List Loc) : Prop := v = some (.int 1) ∧ Fr n0 L
set_option maxRecDepth 65536 in
set_option maxHeartbeats 40000000 in
theorem rm0_0 (l : Launch) (Z : State) (a0 : Array Value) (hw : ∀ d ∈ tables_1, d.before a0 Z = true) (ws : List Jvm.Cond) (p1 : Int32) (A_FLOOD : Addr) (h0 : Heap) (n0 : Nat) (Z0 : n0 ≤ h0.size) (hk : (p1 &&& 2147483647) % 5 = 0) (E_FLOOD : Exa Z h0 A_FLOOD "com/example/hushed_flood/hushedflood/peer/Strategy") (S_FLOOD : Sta Z h0 "com/example/hushed_flood/hushedflood/peer/Strategy" "FLOOD" "Lcom/example/hushed_flood/hushedflood/peer/Strategy;" (.ref A_FLOOD)) (F_FLOOD_levels : Fld Z h0 A_FLOOD "com/example/hushed_flood/hushedflood/peer/Strategy" "levels" "I" (.int (0 : Int32))) (F_FLOOD_walks : Fld Z h0 A_FLOOD "com/example/hushed_flood/hushedflood/peer/Strategy" "walks" "Z" (.int (0 : Int32))) :
    MetFree l x (head1 (Jvm.Cond.code x code maxLocals ret :: ws) room_1) (fun a U => a = #[(.int p1)] ∧ Z.Warmed39 U.vm ∧ U.heap = h0) (fun _ _ _ _ _ => True) (fun _ U o U' => ∃ v L, o = .returned v ∧ Q0 n0 v U'.heap L ∧ FrameEnd U o U' L 0 0) := by
  refine MetFree.of_bodySF (plainFor_of_name (by first | (simp [plainName, overriddenIn]; done) | decide +kernel)) hisR ?_
  intro p e s m args below meth c s₁ Bd hml0 hP hK
  obtain ⟨rfl, hZ, hh⟩ := hP
  have hx := Bd.exec
  have hby := Bd.bytes
  have hml : c.maxLocals = 7 := hml0
  have hown : s.vm.findClass "com/example/hushed_flood/hushedflood/peer/StrategyBloomPinLaw" = some m.cls := findClass_of_methodNamed Bd.named
  have hnm := (name_of_methodNamed Bd.named Bd.method).1
  have X0 : Stand p l e room_1 s m #[(.int p1)] below meth c s₁ [] 0 0 := Stand.of_body Bd
  have e0 : s₁.heap = h0 := by rw [← hh, Bd.state]; rfl
  have N0 := Fr.nil n0
  have ef : entryFrame m #[(.int p1)] maxLocals = (mkF m 0 #[.val (.int p1), .unset, .unset, .unset, .unset, .unset, .unset] []) := by first | (simp [entryFrame, mkF, argsToLocals, Value.category, maxLocals]; done) | rfl
  refine own_start (fun P hPP => ?_)
  refine own_step (T' := s₁) (g' := (mkF m 0 #[.val (.int p1), .unset, .unset, .unset, .unset, .unset, .unset] [])) (fun t_ k_ => castTop ef k_) ?_
  refine own_step (T' := s₁) (g' := (mkF m 1 #[.val (.int p1), .unset, .unset, .unset, .unset, .unset, .unset] [(.int p1)])) (fun t_ k_ => XS.iloadN X0.here hx rfl (hb hby at_0) rfl k_) ?_
  refine own_step (T' := s₁) (g' := (mkF m 3 #[.val (.int p1), .unset, .unset, .unset, .unset, .unset, .unset] [(.int (2147483647 : Int32)), (.int p1)])) (fun t_ k_ => X0.ldcInt hx hown (mvT hZ (hw _ (List.mem_of_getElem? (i := 0) rfl))) (g := (mkF m 1 #[.val (.int p1), .unset, .unset, .unset, .unset, .unset, .unset] [(.int p1)])) rfl (hb hby at_1) _ k_) ?_
  refine own_step (T' := s₁) (g' := (mkF m 4 #[.val (.int p1), .unset, .unset, .unset, .unset, .unset, .unset] [(.int (p1 &&& (2147483647 : Int32)))])) (fun t_ k_ => XS.iand X0.here hx rfl (hb hby at_3) rfl k_) ?_
  refine own_step (T' := s₁) (g' := (mkF m 5 #[.val (.int p1), .unset, .unset, .unset, .unset, .unset, .unset] [(.int (5 : Int32)), (.int (p1 &&& (2147483647 : Int32)))])) (fun t_ k_ => XS.iconst X0.here hx rfl (hb hby at_4) k_) ?_
  refine own_step (T' := s₁) (g' := (mkF m 6 #[.val (.int p1), .unset, .unset, .unset, .unset, .unset, .unset] [(.int ((p1 &&& (2147483647 : Int32)) % (5 : Int32)))])) (fun t_ k_ => iremM X0 hx rfl (hb hby at_5) rfl (by decide) k_) ?_
  rw [hk]
  refine own_step (T' := s₁) (g' := (mkF m 7 #[.val (.int p1), .val (.int (0 : Int32)), .unset, .unset, .unset, .unset, .unset] [])) (fun t_ k_ => XS.istoreN X0.here hx rfl (hb hby at_6) rfl (l' := #[.val (.int p1), .val (.int (0 : Int32)), .unset, .unset, .unset, .unset, .unset]) rfl k_) ?_
  refine own_step (T' := s₁) (g' := (mkF m 8 #[.val (.int p1), .val (.int (0 : Int32)), .unset, .unset, .unset, .unset, .unset] [(.int (0 : Int32))])) (fun t_ k_ => XS.iloadN X0.here hx rfl (hb hby at_7) rfl k_) ?_
  refine own_step (T' := s₁) (g' := (mkF m 11 #[.val (.int p1), .val (.int (0 : Int32)), .unset, .unset, .unset, .unset, .unset] [])) (fun t_ k_ => XS.ifNo X0.here hx rfl (hb hby at_8) rfl ((if0 _ _).trans (teq (by decide)).2) k_) ?_
  obtain ⟨T1, X1, e1, st1⟩ := getS2 X0 hx hZ hown (host := "") (Or.inl (hw _ (List.mem_of_getElem? (i := 1) rfl))) Via.refl e0 S_FLOOD (g := (mkF m 11 #[.val (.int p1), .val (.int (0 : Int32)), .unset, .unset, .unset, .unset, .unset] [])) rfl (hb hby at_11)
  refine own_step (T' := T1) (g' := (mkF m 14 #[.val (.int p1), .val (.int (0 : Int32)), .unset, .unset, .unset, .unset, .unset] [(.ref A_FLOOD)])) st1 ?_
  refine own_step (T' := T1) (g' := (mkF m 15 #[.val (.int p1), .val (.int (0 : Int32)), .val (.ref A_FLOOD), .unset, .unset, .unset, .unset] [])) (fun t_ k_ => XS.astoreN X1.here hx rfl (hb hby at_14) rfl rfl (l' := #[.val (.int p1), .val (.int (0 : Int32)), .val (.ref A_FLOOD), .unset, .unset, .unset, .unset]) rfl k_) ?_
  refine own_step (T' := T1) (g' := (mkF m 16 #[.val (.int p1), .val (.int (0 : Int32)), .val (.ref A_FLOOD), .unset, .unset, .unset, .unset] [(.int (0 : Int32))])) (fun t_ k_ => XS.iconst X1.here hx rfl (hb hby at_15) k_) ?_
  refine own_step (T' := T1) (g' := (mkF m 17 #[.val (.int p1), .val (.int (0 : Int32)), .val (.ref A_FLOOD), .val (.int (0 : Int32)), .unset, .unset, .unset] [])) (fun t_ k_ => XS.istoreN X1.here hx rfl (hb hby at_16) rfl (l' := #[.val (.int p1), .val (.int (0 : Int32)), .val (.ref A_FLOOD), .val (.int (0 : Int32)), .unset, .unset, .unset]) rfl k_) ?_
  refine own_step (T' := T1) (g' := (mkF m 68 #[.val (.int p1), .val (.int (0 : Int32)), .val (.ref A_FLOOD), .val (.int (0 : Int32)), .unset, .unset, .unset] [])) (fun t_ k_ => XS.goto X1.here hx rfl (pc0 := 17) (pc' := 68) rfl (hb hby at_17) (by decide) (by decide) k_) ?_
  refine own_step (T' := T1) (g' := (mkF m 69 #[.val (.int p1), .val (.int (0 : Int32)), .val (.ref A_FLOOD), .val (.int (0 : Int32)), .unset, .unset, .unset] [(.ref A_FLOOD)])) (fun t_ k_ => XS.aloadN X1.here hx rfl (hb hby at_68) rfl rfl k_) ?_
  obtain ⟨cq2, kq2, q2a, q2b, q2c⟩ := isOf hZ e1 E_FLOOD
  obtain ⟨_, _, ⟨T2, L2, k2, n2⟩, -, X2, ⟨Lc2, hQ2, l2, y2, z2⟩, st2⟩ := X1.virtualBack hx (y := (⟨"com/example/hushed_flood/hushedflood/peer/Strategy", "bloom", "()Z"⟩ : MethodName)) (z := (⟨"com/example/hushed_flood/hushedflood/peer/Strategy", "bloom", "()Z"⟩ : MethodName)) hown (mvT hZ (hw _ (List.mem_of_getElem? (i := 4) rfl))) (mvT hZ (hw _ (List.mem_of_getElem? (i := 5) rfl))) (notFace_of_selects (args := #[]) (mvT hZ (hw _ (List.mem_of_getElem? (i := 7) rfl)))) (mvT hZ (hw _ (List.mem_of_getElem? (i := 7) rfl))) (mvT hZ (hw _ (List.mem_of_getElem? (i := 6) rfl))) (by decide) (backOf (W := 0) (rm1 l Z a0 hw [] A_FLOOD (0 : Int32) (0 : Int32) h0 n0 Z0 F_FLOOD_levels (by decide)) hZ (hw _ (List.mem_of_getElem? (i := 8) rfl)) (hw _ (List.mem_of_getElem? (i := 2) rfl)) (by decide) (by decide)) q2a q2c (g := (mkF m 69 #[.val (.int p1), .val (.int (0 : Int32)), .val (.ref A_FLOOD), .val (.int (0 : Int32)), .unset, .unset, .unset] [(.ref A_FLOOD)])) rfl (by rw [hml]; rfl) (Steps.refl _) (argsL := []) (rest := []) (lenOf (by decide +kernel : parseMethodDescriptor "()Z" = some ⟨[], some .boolean⟩) rfl) rfl (by show 2 * 0 + _ ≤ _; exact Nat.le_of_eq rfl) (hb hby at_69) (fun _ _ => ⟨rfl, e1, (by decide : 0 + 0 ≤ _), (by decide : 0 + 0 ≤ _)⟩)
  dsimp only [Pt.U, Pt.locs, Pt.cells, Pt.slots] at X2 l2 y2 z2 st2 hQ2
  subst l2 y2 z2
  obtain ⟨rfl, Nq2, e2⟩ := hQ2
  have N2 := Fr.app N0 Nq2
  refine own_to (T' := T2) (g' := (mkF m 72 #[.val (.int p1), .val (.int (0 : Int32)), .val (.ref A_FLOOD), .val (.int (0 : Int32)), .unset, .unset, .unset] [(.int (0 : Int32))])) st2 ?_
  refine own_step (T' := T2) (g' := (mkF m 74 #[.val (.int p1), .val (.int (0 : Int32)), .val (.ref A_FLOOD), .val (.int (0 : Int32)), .val (.int (0 : Int32)), .unset, .unset] [])) (fun t_ k_ => XS.istore X2.here hx rfl (hb hby at_72) rfl (l' := #[.val (.int p1), .val (.int (0 : Int32)), .val (.ref A_FLOOD), .val (.int (0 : Int32)), .val (.int (0 : Int32)), .unset, .unset]) rfl k_) ?_
  refine own_step (T' := T2) (g' := (mkF m 75 #[.val (.int p1), .val (.int (0 : Int32)), .val (.ref A_FLOOD), .val (.int (0 : Int32)), .val (.int (0 : Int32)), .unset, .unset] [(.ref A_FLOOD)])) (fun t_ k_ => XS.aloadN X2.here hx rfl (hb hby at_74) rfl rfl k_) ?_
  obtain ⟨cq3, kq3, q3a, q3b, q3c⟩ := isOf hZ e2 E_FLOOD
  obtain ⟨_, _, ⟨T3, L3, k3, n3⟩, -, X3, ⟨Lc3, hQ3, l3, y3, z3⟩, st3⟩ := X2.virtualBack hx (y := (⟨"com/example/hushed_flood/hushedflood/peer/Strategy", "levelTwo", "()Z"⟩ : MethodName)) (z := (⟨"com/example/hushed_flood/hushedflood/peer/Strategy", "levelTwo", "()Z"⟩ : MethodName)) hown (mvT hZ (hw _ (List.mem_of_getElem? (i := 11) rfl))) (mvT hZ (hw _ (List.mem_of_getElem? (i := 12) rfl))) (notFace_of_selects (args := #[]) (mvT hZ (hw _ (List.mem_of_getElem? (i := 14) rfl)))) (mvT hZ (hw _ (List.mem_of_getElem? (i := 14) rfl))) (mvT hZ (hw _ (List.mem_of_getElem? (i := 13) rfl))) (by decide) (backOf (W := 0) (rm2 l Z a0 hw [] A_FLOOD (0 : Int32) (0 : Int32) h0 n0 Z0 F_FLOOD_levels (by decide)) hZ (hw _ (List.mem_of_getElem? (i := 15) rfl)) (hw _ (List.mem_of_getElem? (i := 2) rfl)) (by decide) (by decide)) q3a q3c (g := (mkF m 75 #[.val (.int p1), .val (.int (0 : Int32)), .val (.ref A_FLOOD), .val (.int (0 : Int32)), .val (.int (0 : Int32)), .unset, .unset] [(.ref A_FLOOD)])) rfl (by rw [hml]; rfl) (Steps.refl _) (argsL := []) (rest := []) (lenOf (by decide +kernel : parseMethodDescriptor "()Z" = some ⟨[], some .boolean⟩) rfl) rfl (by show 2 * 0 + _ ≤ _; exact Nat.le_of_eq rfl) (hb hby at_75) (fun _ _ => ⟨rfl, e2, (by decide : 0 + 0 ≤ _), (by decide : 0 + 0 ≤ _)⟩)
  dsimp only [Pt.U, Pt.locs, Pt.cells, Pt.slots] at X3 l3 y3 z3 st3 hQ3
  subst l3 y3 z3
  obtain ⟨rfl, Nq3, e3⟩ := hQ3
  have N3 := Fr.app N2 Nq3
  refine own_to (T' := T3) (g' := (mkF m 78 #[.val (.int p1), .val (.int (0 : Int32)), .val (.ref A_FLOOD), .val (.int (0 : Int32)), .val (.int (0 : Int32)), .unset, .unset] [(.int (0 : Int32))])) st3 ?_
  refine own_step (T' := T3) (g' := (mkF m 80 #[.val (.int p1), .val (.int (0 : Int32)), .val (.ref A_FLOOD), .val (.int (0 : Int32)), .val (.int (0 : Int32)), .val (.int (0 : Int32)), .unset] [])) (fun t_ k_ => XS.istore X3.here hx rfl (hb hby at_78) rfl (l' := #[.val (.int p1), .val (.int (0 : Int32)), .val (.ref A_FLOOD), .val (.int (0 : Int32)), .val (.int (0 : Int32)), .val (.int (0 : Int32)), .unset]) rfl k_) ?_
  refine own_step (T' := T3) (g' := (mkF m 81 #[.val (.int p1), .val (.int (0 : Int32)), .val (.ref A_FLOOD), .val (.int (0 : Int32)), .val (.int (0 : Int32)), .val (.int (0 : Int32)), .unset] [(.ref A_FLOOD)])) (fun t_ k_ => XS.aloadN X3.here hx rfl (hb hby at_80) rfl rfl k_) ?_
  obtain ⟨cq4, kq4, q4a, q4b, q4c⟩ := isOf hZ e3 E_FLOOD
  obtain ⟨_, _, ⟨T4, L4, k4, n4⟩, -, X4, ⟨Lc4, hQ4, l4, y4, z4⟩, st4⟩ := X3.virtualBack hx (y := (⟨"com/example/hushed_flood/hushedflood/peer/Strategy", "walks", "()Z"⟩ : MethodName)) (z := (⟨"com/example/hushed_flood/hushedflood/peer/Strategy", "walks", "()Z"⟩ : MethodName)) hown (mvT hZ (hw _ (List.mem_of_getElem? (i := 16) rfl))) (mvT hZ (hw _ (List.mem_of_getElem? (i := 17) rfl))) (notFace_of_selects (args := #[]) (mvT hZ (hw _ (List.mem_of_getElem? (i := 19) rfl)))) (mvT hZ (hw _ (List.mem_of_getElem? (i := 19) rfl))) (mvT hZ (hw _ (List.mem_of_getElem? (i := 18) rfl))) (by decide) (backOf (W := 0) (rm3 l Z a0 hw [] A_FLOOD (0 : Int32) (0 : Int32) h0 n0 Z0 F_FLOOD_walks (by decide)) hZ (hw _ (List.mem_of_getElem? (i := 20) rfl)) (hw _ (List.mem_of_getElem? (i := 2) rfl)) (by decide) (by decide)) q4a q4c (g := (mkF m 81 #[.val (.int p1), .val (.int (0 : Int32)), .val (.ref A_FLOOD), .val (.int (0 : Int32)), .val (.int (0 : Int32)), .val (.int (0 : Int32)), .unset] [(.ref A_FLOOD)])) rfl (by rw [hml]; rfl) (Steps.refl _) (argsL := []) (rest := []) (lenOf (by decide +kernel : parseMethodDescriptor "()Z" = some ⟨[], some .boolean⟩) rfl) rfl (by show 2 * 0 + _ ≤ _; exact Nat.le_of_eq rfl) (hb hby at_81) (fun _ _ => ⟨rfl, e3, (by decide : 0 + 0 ≤ _), (by decide : 0 + 0 ≤ _)⟩)
  dsimp only [Pt.U, Pt.locs, Pt.cells, Pt.slots] at X4 l4 y4 z4 st4 hQ4
  subst l4 y4 z4
  obtain ⟨rfl, Nq4, e4⟩ := hQ4
  have N4 := Fr.app N3 Nq4
  refine own_to (T' := T4) (g' := (mkF m 84 #[.val (.int p1), .val (.int (0 : Int32)), .val (.ref A_FLOOD), .val (.int (0 : Int32)), .val (.int (0 : Int32)), .val (.int (0 : Int32)), .unset] [(.int (0 : Int32))])) st4 ?_
  refine own_step (T' := T4) (g' := (mkF m 86 #[.val (.int p1), .val (.int (0 : Int32)), .val (.ref A_FLOOD), .val (.int (0 : Int32)), .val (.int (0 : Int32)), .val (.int (0 : Int32)), .val (.int (0 : Int32))] [])) (fun t_ k_ => XS.istore X4.here hx rfl (hb hby at_84) rfl (l' := #[.val (.int p1), .val (.int (0 : Int32)), .val (.ref A_FLOOD), .val (.int (0 : Int32)), .val (.int (0 : Int32)), .val (.int (0 : Int32)), .val (.int (0 : Int32))]) rfl k_) ?_
  refine own_step (T' := T4) (g' := (mkF m 88 #[.val (.int p1), .val (.int (0 : Int32)), .val (.ref A_FLOOD), .val (.int (0 : Int32)), .val (.int (0 : Int32)), .val (.int (0 : Int32)), .val (.int (0 : Int32))] [(.int (0 : Int32))])) (fun t_ k_ => XS.iload X4.here hx rfl (hb hby at_86) rfl k_) ?_
  refine own_step (T' := T4) (g' := (mkF m 89 #[.val (.int p1), .val (.int (0 : Int32)), .val (.ref A_FLOOD), .val (.int (0 : Int32)), .val (.int (0 : Int32)), .val (.int (0 : Int32)), .val (.int (0 : Int32))] [(.int (0 : Int32)), (.int (0 : Int32))])) (fun t_ k_ => XS.iloadN X4.here hx rfl (hb hby at_88) rfl k_) ?_
  refine own_step (T' := T4) (g' := (mkF m 92 #[.val (.int p1), .val (.int (0 : Int32)), .val (.ref A_FLOOD), .val (.int (0 : Int32)), .val (.int (0 : Int32)), .val (.int (0 : Int32)), .val (.int (0 : Int32))] [])) (fun t_ k_ => XS.icmpNo X4.here hx rfl (hb hby at_89) rfl (teq (by decide)).2 k_) ?_
  refine own_step (T' := T4) (g' := (mkF m 94 #[.val (.int p1), .val (.int (0 : Int32)), .val (.ref A_FLOOD), .val (.int (0 : Int32)), .val (.int (0 : Int32)), .val (.int (0 : Int32)), .val (.int (0 : Int32))] [(.int (0 : Int32))])) (fun t_ k_ => XS.iload X4.here hx rfl (hb hby at_92) rfl k_) ?_
  refine own_step (T' := T4) (g' := (mkF m 102 #[.val (.int p1), .val (.int (0 : Int32)), .val (.ref A_FLOOD), .val (.int (0 : Int32)), .val (.int (0 : Int32)), .val (.int (0 : Int32)), .val (.int (0 : Int32))] [])) (fun t_ k_ => XS.ifYes X4.here hx rfl (pc0 := 94) (pc' := 102) rfl (hb hby at_94) rfl ((if0 _ _).trans (teq (by decide)).1) (by decide) (by decide) k_) ?_
  refine own_step (T' := T4) (g' := (mkF m 104 #[.val (.int p1), .val (.int (0 : Int32)), .val (.ref A_FLOOD), .val (.int (0 : Int32)), .val (.int (0 : Int32)), .val (.int (0 : Int32)), .val (.int (0 : Int32))] [(.int (0 : Int32))])) (fun t_ k_ => XS.iload X4.here hx rfl (hb hby at_102) rfl k_) ?_
  refine own_step (T' := T4) (g' := (mkF m 112 #[.val (.int p1), .val (.int (0 : Int32)), .val (.ref A_FLOOD), .val (.int (0 : Int32)), .val (.int (0 : Int32)), .val (.int (0 : Int32)), .val (.int (0 : Int32))] [])) (fun t_ k_ => XS.ifYes X4.here hx rfl (pc0 := 104) (pc' := 112) rfl (hb hby at_104) rfl ((if0 _ _).trans (teq (by decide)).1) (by decide) (by decide) k_) ?_
  refine own_step (T' := T4) (g' := (mkF m 113 #[.val (.int p1), .val (.int (0 : Int32)), .val (.ref A_FLOOD), .val (.int (0 : Int32)), .val (.int (0 : Int32)), .val (.int (0 : Int32)), .val (.int (0 : Int32))] [(.int (1 : Int32))])) (fun t_ k_ => XS.iconst X4.here hx rfl (hb hby at_112) k_) ?_
  refine own_step (T' := T4) (g' := (mkF m 117 #[.val (.int p1), .val (.int (0 : Int32)), .val (.ref A_FLOOD), .val (.int (0 : Int32)), .val (.int (0 : Int32)), .val (.int (0 : Int32)), .val (.int (0 : Int32))] [(.int (1 : Int32))])) (fun t_ k_ => XS.goto X4.here hx rfl (pc0 := 113) (pc' := 117) rfl (hb hby at_113) (by decide) (by decide) k_) ?_
  obtain ⟨fs, hrR, hrun, hended, hWW, hsame⟩ := X4.leave (v := some (.int (1 : Int32))) (fun h => by rw [Bd.returns] at h; cases h)
  refine ⟨_, _, own_retZ X4 hx (t := .boolean) Bd.returns (by simp) (by decide) (hb hby at_117) hrR, hrun, hended, hPP _ _ ⟨_, _, rfl, ?_, ⟨_, rfl⟩, hWW, hsame.mono (by decide) (by decide)⟩⟩
  show Q0 n0 _ T4.heap _
  rw [e4]
  exact ⟨rfl, N4⟩
set_option maxRecDepth 65536 in
set_option maxHeartbeats 40000000 in
theorem rm0_1 (l : Launch) (Z : State) (a0 : Array Value) (hw : ∀ d ∈ tables_1, d.before a0 Z = true) (ws : List Jvm.Cond) (p1 : Int32) (A_RANDOM_WALK : Addr) (h0 : Heap) (n0 : Nat) (Z0 : n0 ≤ h0.size) (hk : (p1 &&& 2147483647) % 5 = 1) (E_RANDOM_WALK : Exa Z h0 A_RANDOM_WALK "com/example/hushed_flood/hushedflood/peer/Strategy") (S_RANDOM_WALK : Sta Z h0 "com/example/hushed_flood/hushedflood/peer/Strategy" "RANDOM_WALK" "Lcom/example/hushed_flood/hushedflood/peer/Strategy;" (.ref A_RANDOM_WALK)) (F_RANDOM_WALK_levels : Fld Z h0 A_RANDOM_WALK "com/example/hushed_flood/hushedflood/peer/Strategy" "levels" "I" (.int (0 : Int32))) (F_RANDOM_WALK_walks : Fld Z h0 A_RANDOM_WALK "com/example/hushed_flood/hushedflood/peer/Strategy" "walks" "Z" (.int (1 : Int32))) :
    MetFree l x (head1 (Jvm.Cond.code x code maxLocals ret :: ws) room_1) (fun a U => a = #[(.int p1)] ∧ Z.Warmed39 U.vm ∧ U.heap = h0) (fun _ _ _ _ _ => True) (fun _ U o U' => ∃ v L, o = .returned v ∧ Q0 n0 v U'.heap L ∧ FrameEnd U o U' L 0 0) := by
  refine MetFree.of_bodySF (plainFor_of_name (by first | (simp [plainName, overriddenIn]; done) | decide +kernel)) hisR ?_
  intro p e s m args below meth c s₁ Bd hml0 hP hK
  obtain ⟨rfl, hZ, hh⟩ := hP
  have hx := Bd.exec
  have hby := Bd.bytes
  have hml : c.maxLocals = 7 := hml0
  have hown : s.vm.findClass "com/example/hushed_flood/hushedflood/peer/StrategyBloomPinLaw" = some m.cls := findClass_of_methodNamed Bd.named
  have hnm := (name_of_methodNamed Bd.named Bd.method).1
  have X0 : Stand p l e room_1 s m #[(.int p1)] below meth c s₁ [] 0 0 := Stand.of_body Bd
  have e0 : s₁.heap = h0 := by rw [← hh, Bd.state]; rfl
  have N0 := Fr.nil n0
  have ef : entryFrame m #[(.int p1)] maxLocals = (mkF m 0 #[.val (.int p1), .unset, .unset, .unset, .unset, .unset, .unset] []) := by first | (simp [entryFrame, mkF, argsToLocals, Value.category, maxLocals]; done) | rfl
  refine own_start (fun P hPP => ?_)
  refine own_step (T' := s₁) (g' := (mkF m 0 #[.val (.int p1), .unset, .unset, .unset, .unset, .unset, .unset] [])) (fun t_ k_ => castTop ef k_) ?_
  refine own_step (T' := s₁) (g' := (mkF m 1 #[.val (.int p1), .unset, .unset, .unset, .unset, .unset, .unset] [(.int p1)])) (fun t_ k_ => XS.iloadN X0.here hx rfl (hb hby at_0) rfl k_) ?_
  refine own_step (T' := s₁) (g' := (mkF m 3 #[.val (.int p1), .unset, .unset, .unset, .unset, .unset, .unset] [(.int (2147483647 : Int32)), (.int p1)])) (fun t_ k_ => X0.ldcInt hx hown (mvT hZ (hw _ (List.mem_of_getElem? (i := 0) rfl))) (g := (mkF m 1 #[.val (.int p1), .unset, .unset, .unset, .unset, .unset, .unset] [(.int p1)])) rfl (hb hby at_1) _ k_) ?_
  refine own_step (T' := s₁) (g' := (mkF m 4 #[.val (.int p1), .unset, .unset, .unset, .unset, .unset, .unset] [(.int (p1 &&& (2147483647 : Int32)))])) (fun t_ k_ => XS.iand X0.here hx rfl (hb hby at_3) rfl k_) ?_
  refine own_step (T' := s₁) (g' := (mkF m 5 #[.val (.int p1), .unset, .unset, .unset, .unset, .unset, .unset] [(.int (5 : Int32)), (.int (p1 &&& (2147483647 : Int32)))])) (fun t_ k_ => XS.iconst X0.here hx rfl (hb hby at_4) k_) ?_
  refine own_step (T' := s₁) (g' := (mkF m 6 #[.val (.int p1), .unset, .unset, .unset, .unset, .unset, .unset] [(.int ((p1 &&& (2147483647 : Int32)) % (5 : Int32)))])) (fun t_ k_ => iremM X0 hx rfl (hb hby at_5) rfl (by decide) k_) ?_
  rw [hk]
  refine own_step (T' := s₁) (g' := (mkF m 7 #[.val (.int p1), .val (.int (1 : Int32)), .unset, .unset, .unset, .unset, .unset] [])) (fun t_ k_ => XS.istoreN X0.here hx rfl (hb hby at_6) rfl (l' := #[.val (.int p1), .val (.int (1 : Int32)), .unset, .unset, .unset, .unset, .unset]) rfl k_) ?_
  refine own_step (T' := s₁) (g' := (mkF m 8 #[.val (.int p1), .val (.int (1 : Int32)), .unset, .unset, .unset, .unset, .unset] [(.int (1 : Int32))])) (fun t_ k_ => XS.iloadN X0.here hx rfl (hb hby at_7) rfl k_) ?_
  refine own_step (T' := s₁) (g' := (mkF m 20 #[.val (.int p1), .val (.int (1 : Int32)), .unset, .unset, .unset, .unset, .unset] [])) (fun t_ k_ => XS.ifYes X0.here hx rfl (pc0 := 8) (pc' := 20) rfl (hb hby at_8) rfl ((if0 _ _).trans (feq (by decide)).2) (by decide) (by decide) k_) ?_
  refine own_step (T' := s₁) (g' := (mkF m 21 #[.val (.int p1), .val (.int (1 : Int32)), .unset, .unset, .unset, .unset, .unset] [(.int (1 : Int32))])) (fun t_ k_ => XS.iloadN X0.here hx rfl (hb hby at_20) rfl k_) ?_
  refine own_step (T' := s₁) (g' := (mkF m 22 #[.val (.int p1), .val (.int (1 : Int32)), .unset, .unset, .unset, .unset, .unset] [(.int (1 : Int32)), (.int (1 : Int32))])) (fun t_ k_ => XS.iconst X0.here hx rfl (hb hby at_21) k_) ?_
  refine own_step (T' := s₁) (g' := (mkF m 25 #[.val (.int p1), .val (.int (1 : Int32)), .unset, .unset, .unset, .unset, .unset] [])) (fun t_ k_ => XS.icmpNo X0.here hx rfl (hb hby at_22) rfl (teq (by decide)).2 k_) ?_
  obtain ⟨T1, X1, e1, st1⟩ := getS2 X0 hx hZ hown (host := "") (Or.inl (hw _ (List.mem_of_getElem? (i := 25) rfl))) Via.refl e0 S_RANDOM_WALK (g := (mkF m 25 #[.val (.int p1), .val (.int (1 : Int32)), .unset, .unset, .unset, .unset, .unset] [])) rfl (hb hby at_25)
  refine own_step (T' := T1) (g' := (mkF m 28 #[.val (.int p1), .val (.int (1 : Int32)), .unset, .unset, .unset, .unset, .unset] [(.ref A_RANDOM_WALK)])) st1 ?_
  refine own_step (T' := T1) (g' := (mkF m 29 #[.val (.int p1), .val (.int (1 : Int32)), .val (.ref A_RANDOM_WALK), .unset, .unset, .unset, .unset] [])) (fun t_ k_ => XS.astoreN X1.here hx rfl (hb hby at_28) rfl rfl (l' := #[.val (.int p1), .val (.int (1 : Int32)), .val (.ref A_RANDOM_WALK), .unset, .unset, .unset, .unset]) rfl k_) ?_
  refine own_step (T' := T1) (g' := (mkF m 30 #[.val (.int p1), .val (.int (1 : Int32)), .val (.ref A_RANDOM_WALK), .unset, .unset, .unset, .unset] [(.int (0 : Int32))])) (fun t_ k_ => XS.iconst X1.here hx rfl (hb hby at_29) k_) ?_
  refine own_step (T' := T1) (g' := (mkF m 31 #[.val (.int p1), .val (.int (1 : Int32)), .val (.ref A_RANDOM_WALK), .val (.int (0 : Int32)), .unset, .unset, .unset] [])) (fun t_ k_ => XS.istoreN X1.here hx rfl (hb hby at_30) rfl (l' := #[.val (.int p1), .val (.int (1 : Int32)), .val (.ref A_RANDOM_WALK), .val (.int (0 : Int32)), .unset, .unset, .unset]) rfl k_) ?_
  refine own_step (T' := T1) (g' := (mkF m 68 #[.val (.int p1), .val (.int (1 : Int32)), .val (.ref A_RANDOM_WALK), .val (.int (0 : Int32)), .unset, .unset, .unset] [])) (fun t_ k_ => XS.goto X1.here hx rfl (pc0 := 31) (pc' := 68) rfl (hb hby at_31) (by decide) (by decide) k_) ?_
  refine own_step (T' := T1) (g' := (mkF m 69 #[.val (.int p1), .val (.int (1 : Int32)), .val (.ref A_RANDOM_WALK), .val (.int (0 : Int32)), .unset, .unset, .unset] [(.ref A_RANDOM_WALK)])) (fun t_ k_ => XS.aloadN X1.here hx rfl (hb hby at_68) rfl rfl k_) ?_
  obtain ⟨cq2, kq2, q2a, q2b, q2c⟩ := isOf hZ e1 E_RANDOM_WALK
  obtain ⟨_, _, ⟨T2, L2, k2, n2⟩, -, X2, ⟨Lc2, hQ2, l2, y2, z2⟩, st2⟩ := X1.virtualBack hx (y := (⟨"com/example/hushed_flood/hushedflood/peer/Strategy", "bloom", "()Z"⟩ : MethodName)) (z := (⟨"com/example/hushed_flood/hushedflood/peer/Strategy", "bloom", "()Z"⟩ : MethodName)) hown (mvT hZ (hw _ (List.mem_of_getElem? (i := 4) rfl))) (mvT hZ (hw _ (List.mem_of_getElem? (i := 5) rfl))) (notFace_of_selects (args := #[]) (mvT hZ (hw _ (List.mem_of_getElem? (i := 7) rfl)))) (mvT hZ (hw _ (List.mem_of_getElem? (i := 7) rfl))) (mvT hZ (hw _ (List.mem_of_getElem? (i := 6) rfl))) (by decide) (backOf (W := 0) (rm1 l Z a0 hw [] A_RANDOM_WALK (0 : Int32) (0 : Int32) h0 n0 Z0 F_RANDOM_WALK_levels (by decide)) hZ (hw _ (List.mem_of_getElem? (i := 8) rfl)) (hw _ (List.mem_of_getElem? (i := 2) rfl)) (by decide) (by decide)) q2a q2c (g := (mkF m 69 #[.val (.int p1), .val (.int (1 : Int32)), .val (.ref A_RANDOM_WALK), .val (.int (0 : Int32)), .unset, .unset, .unset] [(.ref A_RANDOM_WALK)])) rfl (by rw [hml]; rfl) (Steps.refl _) (argsL := []) (rest := []) (lenOf (by decide +kernel : parseMethodDescriptor "()Z" = some ⟨[], some .boolean⟩) rfl) rfl (by show 2 * 0 + _ ≤ _; exact Nat.le_of_eq rfl) (hb hby at_69) (fun _ _ => ⟨rfl, e1, (by decide : 0 + 0 ≤ _), (by decide : 0 + 0 ≤ _)⟩)
  dsimp only [Pt.U, Pt.locs, Pt.cells, Pt.slots] at X2 l2 y2 z2 st2 hQ2
  subst l2 y2 z2
  obtain ⟨rfl, Nq2, e2⟩ := hQ2
  have N2 := Fr.app N0 Nq2
  refine own_to (T' := T2) (g' := (mkF m 72 #[.val (.int p1), .val (.int (1 : Int32)), .val (.ref A_RANDOM_WALK), .val (.int (0 : Int32)), .unset, .unset, .unset] [(.int (0 : Int32))])) st2 ?_
  refine own_step (T' := T2) (g' := (mkF m 74 #[.val (.int p1), .val (.int (1 : Int32)), .val (.ref A_RANDOM_WALK), .val (.int (0 : Int32)), .val (.int (0 : Int32)), .unset, .unset] [])) (fun t_ k_ => XS.istore X2.here hx rfl (hb hby at_72) rfl (l' := #[.val (.int p1), .val (.int (1 : Int32)), .val (.ref A_RANDOM_WALK), .val (.int (0 : Int32)), .val (.int (0 : Int32)), .unset, .unset]) rfl k_) ?_
  refine own_step (T' := T2) (g' := (mkF m 75 #[.val (.int p1), .val (.int (1 : Int32)), .val (.ref A_RANDOM_WALK), .val (.int (0 : Int32)), .val (.int (0 : Int32)), .unset, .unset] [(.ref A_RANDOM_WALK)])) (fun t_ k_ => XS.aloadN X2.here hx rfl (hb hby at_74) rfl rfl k_) ?_
  obtain ⟨cq3, kq3, q3a, q3b, q3c⟩ := isOf hZ e2 E_RANDOM_WALK
  obtain ⟨_, _, ⟨T3, L3, k3, n3⟩, -, X3, ⟨Lc3, hQ3, l3, y3, z3⟩, st3⟩ := X2.virtualBack hx (y := (⟨"com/example/hushed_flood/hushedflood/peer/Strategy", "levelTwo", "()Z"⟩ : MethodName)) (z := (⟨"com/example/hushed_flood/hushedflood/peer/Strategy", "levelTwo", "()Z"⟩ : MethodName)) hown (mvT hZ (hw _ (List.mem_of_getElem? (i := 11) rfl))) (mvT hZ (hw _ (List.mem_of_getElem? (i := 12) rfl))) (notFace_of_selects (args := #[]) (mvT hZ (hw _ (List.mem_of_getElem? (i := 14) rfl)))) (mvT hZ (hw _ (List.mem_of_getElem? (i := 14) rfl))) (mvT hZ (hw _ (List.mem_of_getElem? (i := 13) rfl))) (by decide) (backOf (W := 0) (rm2 l Z a0 hw [] A_RANDOM_WALK (0 : Int32) (0 : Int32) h0 n0 Z0 F_RANDOM_WALK_levels (by decide)) hZ (hw _ (List.mem_of_getElem? (i := 15) rfl)) (hw _ (List.mem_of_getElem? (i := 2) rfl)) (by decide) (by decide)) q3a q3c (g := (mkF m 75 #[.val (.int p1), .val (.int (1 : Int32)), .val (.ref A_RANDOM_WALK), .val (.int (0 : Int32)), .val (.int (0 : Int32)), .unset, .unset] [(.ref A_RANDOM_WALK)])) rfl (by rw [hml]; rfl) (Steps.refl _) (argsL := []) (rest := []) (lenOf (by decide +kernel : parseMethodDescriptor "()Z" = some ⟨[], some .boolean⟩) rfl) rfl (by show 2 * 0 + _ ≤ _; exact Nat.le_of_eq rfl) (hb hby at_75) (fun _ _ => ⟨rfl, e2, (by decide : 0 + 0 ≤ _), (by decide : 0 + 0 ≤ _)⟩)
  dsimp only [Pt.U, Pt.locs, Pt.cells, Pt.slots] at X3 l3 y3 z3 st3 hQ3
  subst l3 y3 z3
  obtain ⟨rfl, Nq3, e3⟩ := hQ3
  have N3 := Fr.app N2 Nq3
  refine own_to (T' := T3) (g' := (mkF m 78 #[.val (.int p1), .val (.int (1 : Int32)), .val (.ref A_RANDOM_WALK), .val (.int (0 : Int32)), .val (.int (0 : Int32)), .unset, .unset] [(.int (0 : Int32))])) st3 ?_
  refine own_step (T' := T3) (g' := (mkF m 80 #[.val (.int p1), .val (.int (1 : Int32)), .val (.ref A_RANDOM_WALK), .val (.int (0 : Int32)), .val (.int (0 : Int32)), .val (.int (0 : Int32)), .unset] [])) (fun t_ k_ => XS.istore X3.here hx rfl (hb hby at_78) rfl (l' := #[.val (.int p1), .val (.int (1 : Int32)), .val (.ref A_RANDOM_WALK), .val (.int (0 : Int32)), .val (.int (0 : Int32)), .val (.int (0 : Int32)), .unset]) rfl k_) ?_
  refine own_step (T' := T3) (g' := (mkF m 81 #[.val (.int p1), .val (.int (1 : Int32)), .val (.ref A_RANDOM_WALK), .val (.int (0 : Int32)), .val (.int (0 : Int32)), .val (.int (0 : Int32)), .unset] [(.ref A_RANDOM_WALK)])) (fun t_ k_ => XS.aloadN X3.here hx rfl (hb hby at_80) rfl rfl k_) ?_
  obtain ⟨cq4, kq4, q4a, q4b, q4c⟩ := isOf hZ e3 E_RANDOM_WALK
  obtain ⟨_, _, ⟨T4, L4, k4, n4⟩, -, X4, ⟨Lc4, hQ4, l4, y4, z4⟩, st4⟩ := X3.virtualBack hx (y := (⟨"com/example/hushed_flood/hushedflood/peer/Strategy", "walks", "()Z"⟩ : MethodName)) (z := (⟨"com/example/hushed_flood/hushedflood/peer/Strategy", "walks", "()Z"⟩ : MethodName)) hown (mvT hZ (hw _ (List.mem_of_getElem? (i := 16) rfl))) (mvT hZ (hw _ (List.mem_of_getElem? (i := 17) rfl))) (notFace_of_selects (args := #[]) (mvT hZ (hw _ (List.mem_of_getElem? (i := 19) rfl)))) (mvT hZ (hw _ (List.mem_of_getElem? (i := 19) rfl))) (mvT hZ (hw _ (List.mem_of_getElem? (i := 18) rfl))) (by decide) (backOf (W := 0) (rm3 l Z a0 hw [] A_RANDOM_WALK (1 : Int32) (1 : Int32) h0 n0 Z0 F_RANDOM_WALK_walks (by decide)) hZ (hw _ (List.mem_of_getElem? (i := 20) rfl)) (hw _ (List.mem_of_getElem? (i := 2) rfl)) (by decide) (by decide)) q4a q4c (g := (mkF m 81 #[.val (.int p1), .val (.int (1 : Int32)), .val (.ref A_RANDOM_WALK), .val (.int (0 : Int32)), .val (.int (0 : Int32)), .val (.int (0 : Int32)), .unset] [(.ref A_RANDOM_WALK)])) rfl (by rw [hml]; rfl) (Steps.refl _) (argsL := []) (rest := []) (lenOf (by decide +kernel : parseMethodDescriptor "()Z" = some ⟨[], some .boolean⟩) rfl) rfl (by show 2 * 0 + _ ≤ _; exact Nat.le_of_eq rfl) (hb hby at_81) (fun _ _ => ⟨rfl, e3, (by decide : 0 + 0 ≤ _), (by decide : 0 + 0 ≤ _)⟩)
  dsimp only [Pt.U, Pt.locs, Pt.cells, Pt.slots] at X4 l4 y4 z4 st4 hQ4
  subst l4 y4 z4
  obtain ⟨rfl, Nq4, e4⟩ := hQ4
  have N4 := Fr.app N3 Nq4
  refine own_to (T' := T4) (g' := (mkF m 84 #[.val (.int p1), .val (.int (1 : Int32)), .val (.ref A_RANDOM_WALK), .val (.int (0 : Int32)), .val (.int (0 : Int32)), .val (.int (0 : Int32)), .unset] [(.int (1 : Int32))])) st4 ?_
  refine own_step (T' := T4) (g' := (mkF m 86 #[.val (.int p1), .val (.int (1 : Int32)), .val (.ref A_RANDOM_WALK), .val (.int (0 : Int32)), .val (.int (0 : Int32)), .val (.int (0 : Int32)), .val (.int (1 : Int32))] [])) (fun t_ k_ => XS.istore X4.here hx rfl (hb hby at_84) rfl (l' := #[.val (.int p1), .val (.int (1 : Int32)), .val (.ref A_RANDOM_WALK), .val (.int (0 : Int32)), .val (.int (0 : Int32)), .val (.int (0 : Int32)), .val (.int (1 : Int32))]) rfl k_) ?_
  refine own_step (T' := T4) (g' := (mkF m 88 #[.val (.int p1), .val (.int (1 : Int32)), .val (.ref A_RANDOM_WALK), .val (.int (0 : Int32)), .val (.int (0 : Int32)), .val (.int (0 : Int32)), .val (.int (1 : Int32))] [(.int (0 : Int32))])) (fun t_ k_ => XS.iload X4.here hx rfl (hb hby at_86) rfl k_) ?_
  refine own_step (T' := T4) (g' := (mkF m 89 #[.val (.int p1), .val (.int (1 : Int32)), .val (.ref A_RANDOM_WALK), .val (.int (0 : Int32)), .val (.int (0 : Int32)), .val (.int (0 : Int32)), .val (.int (1 : Int32))] [(.int (0 : Int32)), (.int (0 : Int32))])) (fun t_ k_ => XS.iloadN X4.here hx rfl (hb hby at_88) rfl k_) ?_
  refine own_step (T' := T4) (g' := (mkF m 92 #[.val (.int p1), .val (.int (1 : Int32)), .val (.ref A_RANDOM_WALK), .val (.int (0 : Int32)), .val (.int (0 : Int32)), .val (.int (0 : Int32)), .val (.int (1 : Int32))] [])) (fun t_ k_ => XS.icmpNo X4.here hx rfl (hb hby at_89) rfl (teq (by decide)).2 k_) ?_
  refine own_step (T' := T4) (g' := (mkF m 94 #[.val (.int p1), .val (.int (1 : Int32)), .val (.ref A_RANDOM_WALK), .val (.int (0 : Int32)), .val (.int (0 : Int32)), .val (.int (0 : Int32)), .val (.int (1 : Int32))] [(.int (0 : Int32))])) (fun t_ k_ => XS.iload X4.here hx rfl (hb hby at_92) rfl k_) ?_
  refine own_step (T' := T4) (g' := (mkF m 102 #[.val (.int p1), .val (.int (1 : Int32)), .val (.ref A_RANDOM_WALK), .val (.int (0 : Int32)), .val (.int (0 : Int32)), .val (.int (0 : Int32)), .val (.int (1 : Int32))] [])) (fun t_ k_ => XS.ifYes X4.here hx rfl (pc0 := 94) (pc' := 102) rfl (hb hby at_94) rfl ((if0 _ _).trans (teq (by decide)).1) (by decide) (by decide) k_) ?_
  refine own_step (T' := T4) (g' := (mkF m 104 #[.val (.int p1), .val (.int (1 : Int32)), .val (.ref A_RANDOM_WALK), .val (.int (0 : Int32)), .val (.int (0 : Int32)), .val (.int (0 : Int32)), .val (.int (1 : Int32))] [(.int (0 : Int32))])) (fun t_ k_ => XS.iload X4.here hx rfl (hb hby at_102) rfl k_) ?_
  refine own_step (T' := T4) (g' := (mkF m 112 #[.val (.int p1), .val (.int (1 : Int32)), .val (.ref A_RANDOM_WALK), .val (.int (0 : Int32)), .val (.int (0 : Int32)), .val (.int (0 : Int32)), .val (.int (1 : Int32))] [])) (fun t_ k_ => XS.ifYes X4.here hx rfl (pc0 := 104) (pc' := 112) rfl (hb hby at_104) rfl ((if0 _ _).trans (teq (by decide)).1) (by decide) (by decide) k_) ?_
  refine own_step (T' := T4) (g' := (mkF m 113 #[.val (.int p1), .val (.int (1 : Int32)), .val (.ref A_RANDOM_WALK), .val (.int (0 : Int32)), .val (.int (0 : Int32)), .val (.int (0 : Int32)), .val (.int (1 : Int32))] [(.int (1 : Int32))])) (fun t_ k_ => XS.iconst X4.here hx rfl (hb hby at_112) k_) ?_
  refine own_step (T' := T4) (g' := (mkF m 117 #[.val (.int p1), .val (.int (1 : Int32)), .val (.ref A_RANDOM_WALK), .val (.int (0 : Int32)), .val (.int (0 : Int32)), .val (.int (0 : Int32)), .val (.int (1 : Int32))] [(.int (1 : Int32))])) (fun t_ k_ => XS.goto X4.here hx rfl (pc0 := 113) (pc' := 117) rfl (hb hby at_113) (by decide) (by decide) k_) ?_
  obtain ⟨fs, hrR, hrun, hended, hWW, hsame⟩ := X4.leave (v := some (.int (1 : Int32))) (fun h => by rw [Bd.returns] at h; cases h)
  refine ⟨_, _, own_retZ X4 hx (t := .boolean) Bd.returns (by simp) (by decide) (hb hby at_117) hrR, hrun, hended, hPP _ _ ⟨_, _, rfl, ?_, ⟨_, rfl⟩, hWW, hsame.mono (by decide) (by decide)⟩⟩
  show Q0 n0 _ T4.heap _
  rw [e4]
  exact ⟨rfl, N4⟩
set_option maxRecDepth 65536 in
set_option maxHeartbeats 40000000 in
theorem rm0_2 (l : Launch) (Z : State) (a0 : Array Value) (hw : ∀ d ∈ tables_1, d.before a0 Z = true) (ws : List Jvm.Cond) (p1 : Int32) (A_BLOOM_L1 : Addr) (h0 : Heap) (n0 : Nat) (Z0 : n0 ≤ h0.size) (hk : (p1 &&& 2147483647) % 5 = 2) (E_BLOOM_L1 : Exa Z h0 A_BLOOM_L1 "com/example/hushed_flood/hushedflood/peer/Strategy") (S_BLOOM_L1 : Sta Z h0 "com/example/hushed_flood/hushedflood/peer/Strategy" "BLOOM_L1" "Lcom/example/hushed_flood/hushedflood/peer/Strategy;" (.ref A_BLOOM_L1)) (F_BLOOM_L1_levels : Fld Z h0 A_BLOOM_L1 "com/example/hushed_flood/hushedflood/peer/Strategy" "levels" "I" (.int (1 : Int32))) (F_BLOOM_L1_walks : Fld Z h0 A_BLOOM_L1 "com/example/hushed_flood/hushedflood/peer/Strategy" "walks" "Z" (.int (1 : Int32))) :
    MetFree l x (head1 (Jvm.Cond.code x code maxLocals ret :: ws) room_1) (fun a U => a = #[(.int p1)] ∧ Z.Warmed39 U.vm ∧ U.heap = h0) (fun _ _ _ _ _ => True) (fun _ U o U' => ∃ v L, o = .returned v ∧ Q0 n0 v U'.heap L ∧ FrameEnd U o U' L 0 0) := by
  refine MetFree.of_bodySF (plainFor_of_name (by first | (simp [plainName, overriddenIn]; done) | decide +kernel)) hisR ?_
  intro p e s m args below meth c s₁ Bd hml0 hP hK
  obtain ⟨rfl, hZ, hh⟩ := hP
  have hx := Bd.exec
  have hby := Bd.bytes
  have hml : c.maxLocals = 7 := hml0
  have hown : s.vm.findClass "com/example/hushed_flood/hushedflood/peer/StrategyBloomPinLaw" = some m.cls := findClass_of_methodNamed Bd.named
  have hnm := (name_of_methodNamed Bd.named Bd.method).1
  have X0 : Stand p l e room_1 s m #[(.int p1)] below meth c s₁ [] 0 0 := Stand.of_body Bd
  have e0 : s₁.heap = h0 := by rw [← hh, Bd.state]; rfl
  have N0 := Fr.nil n0
  have ef : entryFrame m #[(.int p1)] maxLocals = (mkF m 0 #[.val (.int p1), .unset, .unset, .unset, .unset, .unset, .unset] []) := by first | (simp [entryFrame, mkF, argsToLocals, Value.category, maxLocals]; done) | rfl
  refine own_start (fun P hPP => ?_)
  refine own_step (T' := s₁) (g' := (mkF m 0 #[.val (.int p1), .unset, .unset, .unset, .unset, .unset, .unset] [])) (fun t_ k_ => castTop ef k_) ?_
  refine own_step (T' := s₁) (g' := (mkF m 1 #[.val (.int p1), .unset, .unset, .unset, .unset, .unset, .unset] [(.int p1)])) (fun t_ k_ => XS.iloadN X0.here hx rfl (hb hby at_0) rfl k_) ?_
  refine own_step (T' := s₁) (g' := (mkF m 3 #[.val (.int p1), .unset, .unset, .unset, .unset, .unset, .unset] [(.int (2147483647 : Int32)), (.int p1)])) (fun t_ k_ => X0.ldcInt hx hown (mvT hZ (hw _ (List.mem_of_getElem? (i := 0) rfl))) (g := (mkF m 1 #[.val (.int p1), .unset, .unset, .unset, .unset, .unset, .unset] [(.int p1)])) rfl (hb hby at_1) _ k_) ?_
  refine own_step (T' := s₁) (g' := (mkF m 4 #[.val (.int p1), .unset, .unset, .unset, .unset, .unset, .unset] [(.int (p1 &&& (2147483647 : Int32)))])) (fun t_ k_ => XS.iand X0.here hx rfl (hb hby at_3) rfl k_) ?_
  refine own_step (T' := s₁) (g' := (mkF m 5 #[.val (.int p1), .unset, .unset, .unset, .unset, .unset, .unset] [(.int (5 : Int32)), (.int (p1 &&& (2147483647 : Int32)))])) (fun t_ k_ => XS.iconst X0.here hx rfl (hb hby at_4) k_) ?_
  refine own_step (T' := s₁) (g' := (mkF m 6 #[.val (.int p1), .unset, .unset, .unset, .unset, .unset, .unset] [(.int ((p1 &&& (2147483647 : Int32)) % (5 : Int32)))])) (fun t_ k_ => iremM X0 hx rfl (hb hby at_5) rfl (by decide) k_) ?_
  rw [hk]
  refine own_step (T' := s₁) (g' := (mkF m 7 #[.val (.int p1), .val (.int (2 : Int32)), .unset, .unset, .unset, .unset, .unset] [])) (fun t_ k_ => XS.istoreN X0.here hx rfl (hb hby at_6) rfl (l' := #[.val (.int p1), .val (.int (2 : Int32)), .unset, .unset, .unset, .unset, .unset]) rfl k_) ?_
  refine own_step (T' := s₁) (g' := (mkF m 8 #[.val (.int p1), .val (.int (2 : Int32)), .unset, .unset, .unset, .unset, .unset] [(.int (2 : Int32))])) (fun t_ k_ => XS.iloadN X0.here hx rfl (hb hby at_7) rfl k_) ?_
  refine own_step (T' := s₁) (g' := (mkF m 20 #[.val (.int p1), .val (.int (2 : Int32)), .unset, .unset, .unset, .unset, .unset] [])) (fun t_ k_ => XS.ifYes X0.here hx rfl (pc0 := 8) (pc' := 20) rfl (hb hby at_8) rfl ((if0 _ _).trans (feq (by decide)).2) (by decide) (by decide) k_) ?_
  refine own_step (T' := s₁) (g' := (mkF m 21 #[.val (.int p1), .val (.int (2 : Int32)), .unset, .unset, .unset, .unset, .unset] [(.int (2 : Int32))])) (fun t_ k_ => XS.iloadN X0.here hx rfl (hb hby at_20) rfl k_) ?_
  refine own_step (T' := s₁) (g' := (mkF m 22 #[.val (.int p1), .val (.int (2 : Int32)), .unset, .unset, .unset, .unset, .unset] [(.int (1 : Int32)), (.int (2 : Int32))])) (fun t_ k_ => XS.iconst X0.here hx rfl (hb hby at_21) k_) ?_
  refine own_step (T' := s₁) (g' := (mkF m 34 #[.val (.int p1), .val (.int (2 : Int32)), .unset, .unset, .unset, .unset, .unset] [])) (fun t_ k_ => XS.icmpYes X0.here hx rfl (pc0 := 22) (pc' := 34) rfl (hb hby at_22) rfl (feq (by decide)).2 (by decide) (by decide) k_) ?_
  refine own_step (T' := s₁) (g' := (mkF m 35 #[.val (.int p1), .val (.int (2 : Int32)), .unset, .unset, .unset, .unset, .unset] [(.int (2 : Int32))])) (fun t_ k_ => XS.iloadN X0.here hx rfl (hb hby at_34) rfl k_) ?_
  refine own_step (T' := s₁) (g' := (mkF m 36 #[.val (.int p1), .val (.int (2 : Int32)), .unset, .unset, .unset, .unset, .unset] [(.int (2 : Int32)), (.int (2 : Int32))])) (fun t_ k_ => XS.iconst X0.here hx rfl (hb hby at_35) k_) ?_
  refine own_step (T' := s₁) (g' := (mkF m 39 #[.val (.int p1), .val (.int (2 : Int32)), .unset, .unset, .unset, .unset, .unset] [])) (fun t_ k_ => XS.icmpNo X0.here hx rfl (hb hby at_36) rfl (teq (by decide)).2 k_) ?_
  obtain ⟨T1, X1, e1, st1⟩ := getS2 X0 hx hZ hown (host := "") (Or.inl (hw _ (List.mem_of_getElem? (i := 29) rfl))) Via.refl e0 S_BLOOM_L1 (g := (mkF m 39 #[.val (.int p1), .val (.int (2 : Int32)), .unset, .unset, .unset, .unset, .unset] [])) rfl (hb hby at_39)
  refine own_step (T' := T1) (g' := (mkF m 42 #[.val (.int p1), .val (.int (2 : Int32)), .unset, .unset, .unset, .unset, .unset] [(.ref A_BLOOM_L1)])) st1 ?_
  refine own_step (T' := T1) (g' := (mkF m 43 #[.val (.int p1), .val (.int (2 : Int32)), .val (.ref A_BLOOM_L1), .unset, .unset, .unset, .unset] [])) (fun t_ k_ => XS.astoreN X1.here hx rfl (hb hby at_42) rfl rfl (l' := #[.val (.int p1), .val (.int (2 : Int32)), .val (.ref A_BLOOM_L1), .unset, .unset, .unset, .unset]) rfl k_) ?_
  refine own_step (T' := T1) (g' := (mkF m 44 #[.val (.int p1), .val (.int (2 : Int32)), .val (.ref A_BLOOM_L1), .unset, .unset, .unset, .unset] [(.int (1 : Int32))])) (fun t_ k_ => XS.iconst X1.here hx rfl (hb hby at_43) k_) ?_
  refine own_step (T' := T1) (g' := (mkF m 45 #[.val (.int p1), .val (.int (2 : Int32)), .val (.ref A_BLOOM_L1), .val (.int (1 : Int32)), .unset, .unset, .unset] [])) (fun t_ k_ => XS.istoreN X1.here hx rfl (hb hby at_44) rfl (l' := #[.val (.int p1), .val (.int (2 : Int32)), .val (.ref A_BLOOM_L1), .val (.int (1 : Int32)), .unset, .unset, .unset]) rfl k_) ?_
  refine own_step (T' := T1) (g' := (mkF m 68 #[.val (.int p1), .val (.int (2 : Int32)), .val (.ref A_BLOOM_L1), .val (.int (1 : Int32)), .unset, .unset, .unset] [])) (fun t_ k_ => XS.goto X1.here hx rfl (pc0 := 45) (pc' := 68) rfl (hb hby at_45) (by decide) (by decide) k_) ?_
  refine own_step (T' := T1) (g' := (mkF m 69 #[.val (.int p1), .val (.int (2 : Int32)), .val (.ref A_BLOOM_L1), .val (.int (1 : Int32)), .unset, .unset, .unset] [(.ref A_BLOOM_L1)])) (fun t_ k_ => XS.aloadN X1.here hx rfl (hb hby at_68) rfl rfl k_) ?_
  obtain ⟨cq2, kq2, q2a, q2b, q2c⟩ := isOf hZ e1 E_BLOOM_L1
  obtain ⟨_, _, ⟨T2, L2, k2, n2⟩, -, X2, ⟨Lc2, hQ2, l2, y2, z2⟩, st2⟩ := X1.virtualBack hx (y := (⟨"com/example/hushed_flood/hushedflood/peer/Strategy", "bloom", "()Z"⟩ : MethodName)) (z := (⟨"com/example/hushed_flood/hushedflood/peer/Strategy", "bloom", "()Z"⟩ : MethodName)) hown (mvT hZ (hw _ (List.mem_of_getElem? (i := 4) rfl))) (mvT hZ (hw _ (List.mem_of_getElem? (i := 5) rfl))) (notFace_of_selects (args := #[]) (mvT hZ (hw _ (List.mem_of_getElem? (i := 7) rfl)))) (mvT hZ (hw _ (List.mem_of_getElem? (i := 7) rfl))) (mvT hZ (hw _ (List.mem_of_getElem? (i := 6) rfl))) (by decide) (backOf (W := 0) (rm1 l Z a0 hw [] A_BLOOM_L1 (1 : Int32) (1 : Int32) h0 n0 Z0 F_BLOOM_L1_levels (by decide)) hZ (hw _ (List.mem_of_getElem? (i := 8) rfl)) (hw _ (List.mem_of_getElem? (i := 2) rfl)) (by decide) (by decide)) q2a q2c (g := (mkF m 69 #[.val (.int p1), .val (.int (2 : Int32)), .val (.ref A_BLOOM_L1), .val (.int (1 : Int32)), .unset, .unset, .unset] [(.ref A_BLOOM_L1)])) rfl (by rw [hml]; rfl) (Steps.refl _) (argsL := []) (rest := []) (lenOf (by decide +kernel : parseMethodDescriptor "()Z" = some ⟨[], some .boolean⟩) rfl) rfl (by show 2 * 0 + _ ≤ _; exact Nat.le_of_eq rfl) (hb hby at_69) (fun _ _ => ⟨rfl, e1, (by decide : 0 + 0 ≤ _), (by decide : 0 + 0 ≤ _)⟩)
  dsimp only [Pt.U, Pt.locs, Pt.cells, Pt.slots] at X2 l2 y2 z2 st2 hQ2
  subst l2 y2 z2
  obtain ⟨rfl, Nq2, e2⟩ := hQ2
  have N2 := Fr.app N0 Nq2
  refine own_to (T' := T2) (g' := (mkF m 72 #[.val (.int p1), .val (.int (2 : Int32)), .val (.ref A_BLOOM_L1), .val (.int (1 : Int32)), .unset, .unset, .unset] [(.int (1 : Int32))])) st2 ?_
  refine own_step (T' := T2) (g' := (mkF m 74 #[.val (.int p1), .val (.int (2 : Int32)), .val (.ref A_BLOOM_L1), .val (.int (1 : Int32)), .val (.int (1 : Int32)), .unset, .unset] [])) (fun t_ k_ => XS.istore X2.here hx rfl (hb hby at_72) rfl (l' := #[.val (.int p1), .val (.int (2 : Int32)), .val (.ref A_BLOOM_L1), .val (.int (1 : Int32)), .val (.int (1 : Int32)), .unset, .unset]) rfl k_) ?_
  refine own_step (T' := T2) (g' := (mkF m 75 #[.val (.int p1), .val (.int (2 : Int32)), .val (.ref A_BLOOM_L1), .val (.int (1 : Int32)), .val (.int (1 : Int32)), .unset, .unset] [(.ref A_BLOOM_L1)])) (fun t_ k_ => XS.aloadN X2.here hx rfl (hb hby at_74) rfl rfl k_) ?_
  obtain ⟨cq3, kq3, q3a, q3b, q3c⟩ := isOf hZ e2 E_BLOOM_L1
  obtain ⟨_, _, ⟨T3, L3, k3, n3⟩, -, X3, ⟨Lc3, hQ3, l3, y3, z3⟩, st3⟩ := X2.virtualBack hx (y := (⟨"com/example/hushed_flood/hushedflood/peer/Strategy", "levelTwo", "()Z"⟩ : MethodName)) (z := (⟨"com/example/hushed_flood/hushedflood/peer/Strategy", "levelTwo", "()Z"⟩ : MethodName)) hown (mvT hZ (hw _ (List.mem_of_getElem? (i := 11) rfl))) (mvT hZ (hw _ (List.mem_of_getElem? (i := 12) rfl))) (notFace_of_selects (args := #[]) (mvT hZ (hw _ (List.mem_of_getElem? (i := 14) rfl)))) (mvT hZ (hw _ (List.mem_of_getElem? (i := 14) rfl))) (mvT hZ (hw _ (List.mem_of_getElem? (i := 13) rfl))) (by decide) (backOf (W := 0) (rm2 l Z a0 hw [] A_BLOOM_L1 (1 : Int32) (0 : Int32) h0 n0 Z0 F_BLOOM_L1_levels (by decide)) hZ (hw _ (List.mem_of_getElem? (i := 15) rfl)) (hw _ (List.mem_of_getElem? (i := 2) rfl)) (by decide) (by decide)) q3a q3c (g := (mkF m 75 #[.val (.int p1), .val (.int (2 : Int32)), .val (.ref A_BLOOM_L1), .val (.int (1 : Int32)), .val (.int (1 : Int32)), .unset, .unset] [(.ref A_BLOOM_L1)])) rfl (by rw [hml]; rfl) (Steps.refl _) (argsL := []) (rest := []) (lenOf (by decide +kernel : parseMethodDescriptor "()Z" = some ⟨[], some .boolean⟩) rfl) rfl (by show 2 * 0 + _ ≤ _; exact Nat.le_of_eq rfl) (hb hby at_75) (fun _ _ => ⟨rfl, e2, (by decide : 0 + 0 ≤ _), (by decide : 0 + 0 ≤ _)⟩)
  dsimp only [Pt.U, Pt.locs, Pt.cells, Pt.slots] at X3 l3 y3 z3 st3 hQ3
  subst l3 y3 z3
  obtain ⟨rfl, Nq3, e3⟩ := hQ3
  have N3 := Fr.app N2 Nq3
  refine own_to (T' := T3) (g' := (mkF m 78 #[.val (.int p1), .val (.int (2 : Int32)), .val (.ref A_BLOOM_L1), .val (.int (1 : Int32)), .val (.int (1 : Int32)), .unset, .unset] [(.int (0 : Int32))])) st3 ?_
  refine own_step (T' := T3) (g' := (mkF m 80 #[.val (.int p1), .val (.int (2 : Int32)), .val (.ref A_BLOOM_L1), .val (.int (1 : Int32)), .val (.int (1 : Int32)), .val (.int (0 : Int32)), .unset] [])) (fun t_ k_ => XS.istore X3.here hx rfl (hb hby at_78) rfl (l' := #[.val (.int p1), .val (.int (2 : Int32)), .val (.ref A_BLOOM_L1), .val (.int (1 : Int32)), .val (.int (1 : Int32)), .val (.int (0 : Int32)), .unset]) rfl k_) ?_
  refine own_step (T' := T3) (g' := (mkF m 81 #[.val (.int p1), .val (.int (2 : Int32)), .val (.ref A_BLOOM_L1), .val (.int (1 : Int32)), .val (.int (1 : Int32)), .val (.int (0 : Int32)), .unset] [(.ref A_BLOOM_L1)])) (fun t_ k_ => XS.aloadN X3.here hx rfl (hb hby at_80) rfl rfl k_) ?_
  obtain ⟨cq4, kq4, q4a, q4b, q4c⟩ := isOf hZ e3 E_BLOOM_L1
  obtain ⟨_, _, ⟨T4, L4, k4, n4⟩, -, X4, ⟨Lc4, hQ4, l4, y4, z4⟩, st4⟩ := X3.virtualBack hx (y := (⟨"com/example/hushed_flood/hushedflood/peer/Strategy", "walks", "()Z"⟩ : MethodName)) (z := (⟨"com/example/hushed_flood/hushedflood/peer/Strategy", "walks", "()Z"⟩ : MethodName)) hown (mvT hZ (hw _ (List.mem_of_getElem? (i := 16) rfl))) (mvT hZ (hw _ (List.mem_of_getElem? (i := 17) rfl))) (notFace_of_selects (args := #[]) (mvT hZ (hw _ (List.mem_of_getElem? (i := 19) rfl)))) (mvT hZ (hw _ (List.mem_of_getElem? (i := 19) rfl))) (mvT hZ (hw _ (List.mem_of_getElem? (i := 18) rfl))) (by decide) (backOf (W := 0) (rm3 l Z a0 hw [] A_BLOOM_L1 (1 : Int32) (1 : Int32) h0 n0 Z0 F_BLOOM_L1_walks (by decide)) hZ (hw _ (List.mem_of_getElem? (i := 20) rfl)) (hw _ (List.mem_of_getElem? (i := 2) rfl)) (by decide) (by decide)) q4a q4c (g := (mkF m 81 #[.val (.int p1), .val (.int (2 : Int32)), .val (.ref A_BLOOM_L1), .val (.int (1 : Int32)), .val (.int (1 : Int32)), .val (.int (0 : Int32)), .unset] [(.ref A_BLOOM_L1)])) rfl (by rw [hml]; rfl) (Steps.refl _) (argsL := []) (rest := []) (lenOf (by decide +kernel : parseMethodDescriptor "()Z" = some ⟨[], some .boolean⟩) rfl) rfl (by show 2 * 0 + _ ≤ _; exact Nat.le_of_eq rfl) (hb hby at_81) (fun _ _ => ⟨rfl, e3, (by decide : 0 + 0 ≤ _), (by decide : 0 + 0 ≤ _)⟩)
  dsimp only [Pt.U, Pt.locs, Pt.cells, Pt.slots] at X4 l4 y4 z4 st4 hQ4
  subst l4 y4 z4
  obtain ⟨rfl, Nq4, e4⟩ := hQ4
  have N4 := Fr.app N3 Nq4
  refine own_to (T' := T4) (g' := (mkF m 84 #[.val (.int p1), .val (.int (2 : Int32)), .val (.ref A_BLOOM_L1), .val (.int (1 : Int32)), .val (.int (1 : Int32)), .val (.int (0 : Int32)), .unset] [(.int (1 : Int32))])) st4 ?_
  refine own_step (T' := T4) (g' := (mkF m 86 #[.val (.int p1), .val (.int (2 : Int32)), .val (.ref A_BLOOM_L1), .val (.int (1 : Int32)), .val (.int (1 : Int32)), .val (.int (0 : Int32)), .val (.int (1 : Int32))] [])) (fun t_ k_ => XS.istore X4.here hx rfl (hb hby at_84) rfl (l' := #[.val (.int p1), .val (.int (2 : Int32)), .val (.ref A_BLOOM_L1), .val (.int (1 : Int32)), .val (.int (1 : Int32)), .val (.int (0 : Int32)), .val (.int (1 : Int32))]) rfl k_) ?_
  refine own_step (T' := T4) (g' := (mkF m 88 #[.val (.int p1), .val (.int (2 : Int32)), .val (.ref A_BLOOM_L1), .val (.int (1 : Int32)), .val (.int (1 : Int32)), .val (.int (0 : Int32)), .val (.int (1 : Int32))] [(.int (1 : Int32))])) (fun t_ k_ => XS.iload X4.here hx rfl (hb hby at_86) rfl k_) ?_
  refine own_step (T' := T4) (g' := (mkF m 89 #[.val (.int p1), .val (.int (2 : Int32)), .val (.ref A_BLOOM_L1), .val (.int (1 : Int32)), .val (.int (1 : Int32)), .val (.int (0 : Int32)), .val (.int (1 : Int32))] [(.int (1 : Int32)), (.int (1 : Int32))])) (fun t_ k_ => XS.iloadN X4.here hx rfl (hb hby at_88) rfl k_) ?_
  refine own_step (T' := T4) (g' := (mkF m 92 #[.val (.int p1), .val (.int (2 : Int32)), .val (.ref A_BLOOM_L1), .val (.int (1 : Int32)), .val (.int (1 : Int32)), .val (.int (0 : Int32)), .val (.int (1 : Int32))] [])) (fun t_ k_ => XS.icmpNo X4.here hx rfl (hb hby at_89) rfl (teq (by decide)).2 k_) ?_
  refine own_step (T' := T4) (g' := (mkF m 94 #[.val (.int p1), .val (.int (2 : Int32)), .val (.ref A_BLOOM_L1), .val (.int (1 : Int32)), .val (.int (1 : Int32)), .val (.int (0 : Int32)), .val (.int (1 : Int32))] [(.int (0 : Int32))])) (fun t_ k_ => XS.iload X4.here hx rfl (hb hby at_92) rfl k_) ?_
  refine own_step (T' := T4) (g' := (mkF m 102 #[.val (.int p1), .val (.int (2 : Int32)), .val (.ref A_BLOOM_L1), .val (.int (1 : Int32)), .val (.int (1 : Int32)), .val (.int (0 : Int32)), .val (.int (1 : Int32))] [])) (fun t_ k_ => XS.ifYes X4.here hx rfl (pc0 := 94) (pc' := 102) rfl (hb hby at_94) rfl ((if0 _ _).trans (teq (by decide)).1) (by decide) (by decide) k_) ?_
  refine own_step (T' := T4) (g' := (mkF m 104 #[.val (.int p1), .val (.int (2 : Int32)), .val (.ref A_BLOOM_L1), .val (.int (1 : Int32)), .val (.int (1 : Int32)), .val (.int (0 : Int32)), .val (.int (1 : Int32))] [(.int (1 : Int32))])) (fun t_ k_ => XS.iload X4.here hx rfl (hb hby at_102) rfl k_) ?_
  refine own_step (T' := T4) (g' := (mkF m 107 #[.val (.int p1), .val (.int (2 : Int32)), .val (.ref A_BLOOM_L1), .val (.int (1 : Int32)), .val (.int (1 : Int32)), .val (.int (0 : Int32)), .val (.int (1 : Int32))] [])) (fun t_ k_ => XS.ifNo X4.here hx rfl (hb hby at_104) rfl ((if0 _ _).trans (feq (by decide)).1) k_) ?_
  refine own_step (T' := T4) (g' := (mkF m 109 #[.val (.int p1), .val (.int (2 : Int32)), .val (.ref A_BLOOM_L1), .val (.int (1 : Int32)), .val (.int (1 : Int32)), .val (.int (0 : Int32)), .val (.int (1 : Int32))] [(.int (1 : Int32))])) (fun t_ k_ => XS.iload X4.here hx rfl (hb hby at_107) rfl k_) ?_
  refine own_step (T' := T4) (g' := (mkF m 112 #[.val (.int p1), .val (.int (2 : Int32)), .val (.ref A_BLOOM_L1), .val (.int (1 : Int32)), .val (.int (1 : Int32)), .val (.int (0 : Int32)), .val (.int (1 : Int32))] [])) (fun t_ k_ => XS.ifNo X4.here hx rfl (hb hby at_109) rfl ((if0 _ _).trans (feq (by decide)).1) k_) ?_
  refine own_step (T' := T4) (g' := (mkF m 113 #[.val (.int p1), .val (.int (2 : Int32)), .val (.ref A_BLOOM_L1), .val (.int (1 : Int32)), .val (.int (1 : Int32)), .val (.int (0 : Int32)), .val (.int (1 : Int32))] [(.int (1 : Int32))])) (fun t_ k_ => XS.iconst X4.here hx rfl (hb hby at_112) k_) ?_
  refine own_step (T' := T4) (g' := (mkF m 117 #[.val (.int p1), .val (.int (2 : Int32)), .val (.ref A_BLOOM_L1), .val (.int (1 : Int32)), .val (.int (1 : Int32)), .val (.int (0 : Int32)), .val (.int (1 : Int32))] [(.int (1 : Int32))])) (fun t_ k_ => XS.goto X4.here hx rfl (pc0 := 113) (pc' := 117) rfl (hb hby at_113) (by decide) (by decide) k_) ?_
  obtain ⟨fs, hrR, hrun, hended, hWW, hsame⟩ := X4.leave (v := some (.int (1 : Int32))) (fun h => by rw [Bd.returns] at h; cases h)
  refine ⟨_, _, own_retZ X4 hx (t := .boolean) Bd.returns (by simp) (by decide) (hb hby at_117) hrR, hrun, hended, hPP _ _ ⟨_, _, rfl, ?_, ⟨_, rfl⟩, hWW, hsame.mono (by decide) (by decide)⟩⟩
  show Q0 n0 _ T4.heap _
  rw [e4]
  exact ⟨rfl, N4⟩
set_option maxRecDepth 65536 in
set_option maxHeartbeats 40000000 in
theorem rm0_3 (l : Launch) (Z : State) (a0 : Array Value) (hw : ∀ d ∈ tables_1, d.before a0 Z = true) (ws : List Jvm.Cond) (p1 : Int32) (A_BLOOM : Addr) (h0 : Heap) (n0 : Nat) (Z0 : n0 ≤ h0.size) (hk : (p1 &&& 2147483647) % 5 = 3) (E_BLOOM : Exa Z h0 A_BLOOM "com/example/hushed_flood/hushedflood/peer/Strategy") (S_BLOOM : Sta Z h0 "com/example/hushed_flood/hushedflood/peer/Strategy" "BLOOM" "Lcom/example/hushed_flood/hushedflood/peer/Strategy;" (.ref A_BLOOM)) (F_BLOOM_levels : Fld Z h0 A_BLOOM "com/example/hushed_flood/hushedflood/peer/Strategy" "levels" "I" (.int (2 : Int32))) (F_BLOOM_walks : Fld Z h0 A_BLOOM "com/example/hushed_flood/hushedflood/peer/Strategy" "walks" "Z" (.int (1 : Int32))) :
    MetFree l x (head1 (Jvm.Cond.code x code maxLocals ret :: ws) room_1) (fun a U => a = #[(.int p1)] ∧ Z.Warmed39 U.vm ∧ U.heap = h0) (fun _ _ _ _ _ => True) (fun _ U o U' => ∃ v L, o = .returned v ∧ Q0 n0 v U'.heap L ∧ FrameEnd U o U' L 0 0) := by
  refine MetFree.of_bodySF (plainFor_of_name (by first | (simp [plainName, overriddenIn]; done) | decide +kernel)) hisR ?_
  intro p e s m args below meth c s₁ Bd hml0 hP hK
  obtain ⟨rfl, hZ, hh⟩ := hP
  have hx := Bd.exec
  have hby := Bd.bytes
  have hml : c.maxLocals = 7 := hml0
  have hown : s.vm.findClass "com/example/hushed_flood/hushedflood/peer/StrategyBloomPinLaw" = some m.cls := findClass_of_methodNamed Bd.named
  have hnm := (name_of_methodNamed Bd.named Bd.method).1
  have X0 : Stand p l e room_1 s m #[(.int p1)] below meth c s₁ [] 0 0 := Stand.of_body Bd
  have e0 : s₁.heap = h0 := by rw [← hh, Bd.state]; rfl
  have N0 := Fr.nil n0
  have ef : entryFrame m #[(.int p1)] maxLocals = (mkF m 0 #[.val (.int p1), .unset, .unset, .unset, .unset, .unset, .unset] []) := by first | (simp [entryFrame, mkF, argsToLocals, Value.category, maxLocals]; done) | rfl
  refine own_start (fun P hPP => ?_)
  refine own_step (T' := s₁) (g' := (mkF m 0 #[.val (.int p1), .unset, .unset, .unset, .unset, .unset, .unset] [])) (fun t_ k_ => castTop ef k_) ?_
  refine own_step (T' := s₁) (g' := (mkF m 1 #[.val (.int p1), .unset, .unset, .unset, .unset, .unset, .unset] [(.int p1)])) (fun t_ k_ => XS.iloadN X0.here hx rfl (hb hby at_0) rfl k_) ?_
  refine own_step (T' := s₁) (g' := (mkF m 3 #[.val (.int p1), .unset, .unset, .unset, .unset, .unset, .unset] [(.int (2147483647 : Int32)), (.int p1)])) (fun t_ k_ => X0.ldcInt hx hown (mvT hZ (hw _ (List.mem_of_getElem? (i := 0) rfl))) (g := (mkF m 1 #[.val (.int p1), .unset, .unset, .unset, .unset, .unset, .unset] [(.int p1)])) rfl (hb hby at_1) _ k_) ?_
  refine own_step (T' := s₁) (g' := (mkF m 4 #[.val (.int p1), .unset, .unset, .unset, .unset, .unset, .unset] [(.int (p1 &&& (2147483647 : Int32)))])) (fun t_ k_ => XS.iand X0.here hx rfl (hb hby at_3) rfl k_) ?_
  refine own_step (T' := s₁) (g' := (mkF m 5 #[.val (.int p1), .unset, .unset, .unset, .unset, .unset, .unset] [(.int (5 : Int32)), (.int (p1 &&& (2147483647 : Int32)))])) (fun t_ k_ => XS.iconst X0.here hx rfl (hb hby at_4) k_) ?_
  refine own_step (T' := s₁) (g' := (mkF m 6 #[.val (.int p1), .unset, .unset, .unset, .unset, .unset, .unset] [(.int ((p1 &&& (2147483647 : Int32)) % (5 : Int32)))])) (fun t_ k_ => iremM X0 hx rfl (hb hby at_5) rfl (by decide) k_) ?_
  rw [hk]
  refine own_step (T' := s₁) (g' := (mkF m 7 #[.val (.int p1), .val (.int (3 : Int32)), .unset, .unset, .unset, .unset, .unset] [])) (fun t_ k_ => XS.istoreN X0.here hx rfl (hb hby at_6) rfl (l' := #[.val (.int p1), .val (.int (3 : Int32)), .unset, .unset, .unset, .unset, .unset]) rfl k_) ?_
  refine own_step (T' := s₁) (g' := (mkF m 8 #[.val (.int p1), .val (.int (3 : Int32)), .unset, .unset, .unset, .unset, .unset] [(.int (3 : Int32))])) (fun t_ k_ => XS.iloadN X0.here hx rfl (hb hby at_7) rfl k_) ?_
  refine own_step (T' := s₁) (g' := (mkF m 20 #[.val (.int p1), .val (.int (3 : Int32)), .unset, .unset, .unset, .unset, .unset] [])) (fun t_ k_ => XS.ifYes X0.here hx rfl (pc0 := 8) (pc' := 20) rfl (hb hby at_8) rfl ((if0 _ _).trans (feq (by decide)).2) (by decide) (by decide) k_) ?_
  refine own_step (T' := s₁) (g' := (mkF m 21 #[.val (.int p1), .val (.int (3 : Int32)), .unset, .unset, .unset, .unset, .unset] [(.int (3 : Int32))])) (fun t_ k_ => XS.iloadN X0.here hx rfl (hb hby at_20) rfl k_) ?_
  refine own_step (T' := s₁) (g' := (mkF m 22 #[.val (.int p1), .val (.int (3 : Int32)), .unset, .unset, .unset, .unset, .unset] [(.int (1 : Int32)), (.int (3 : Int32))])) (fun t_ k_ => XS.iconst X0.here hx rfl (hb hby at_21) k_) ?_
  refine own_step (T' := s₁) (g' := (mkF m 34 #[.val (.int p1), .val (.int (3 : Int32)), .unset, .unset, .unset, .unset, .unset] [])) (fun t_ k_ => XS.icmpYes X0.here hx rfl (pc0 := 22) (pc' := 34) rfl (hb hby at_22) rfl (feq (by decide)).2 (by decide) (by decide) k_) ?_
  refine own_step (T' := s₁) (g' := (mkF m 35 #[.val (.int p1), .val (.int (3 : Int32)), .unset, .unset, .unset, .unset, .unset] [(.int (3 : Int32))])) (fun t_ k_ => XS.iloadN X0.here hx rfl (hb hby at_34) rfl k_) ?_
  refine own_step (T' := s₁) (g' := (mkF m 36 #[.val (.int p1), .val (.int (3 : Int32)), .unset, .unset, .unset, .unset, .unset] [(.int (2 : Int32)), (.int (3 : Int32))])) (fun t_ k_ => XS.iconst X0.here hx rfl (hb hby at_35) k_) ?_
  refine own_step (T' := s₁) (g' := (mkF m 48 #[.val (.int p1), .val (.int (3 : Int32)), .unset, .unset, .unset, .unset, .unset] [])) (fun t_ k_ => XS.icmpYes X0.here hx rfl (pc0 := 36) (pc' := 48) rfl (hb hby at_36) rfl (feq (by decide)).2 (by decide) (by decide) k_) ?_
  refine own_step (T' := s₁) (g' := (mkF m 49 #[.val (.int p1), .val (.int (3 : Int32)), .unset, .unset, .unset, .unset, .unset] [(.int (3 : Int32))])) (fun t_ k_ => XS.iloadN X0.here hx rfl (hb hby at_48) rfl k_) ?_
  refine own_step (T' := s₁) (g' := (mkF m 50 #[.val (.int p1), .val (.int (3 : Int32)), .unset, .unset, .unset, .unset, .unset] [(.int (3 : Int32)), (.int (3 : Int32))])) (fun t_ k_ => XS.iconst X0.here hx rfl (hb hby at_49) k_) ?_
  refine own_step (T' := s₁) (g' := (mkF m 53 #[.val (.int p1), .val (.int (3 : Int32)), .unset, .unset, .unset, .unset, .unset] [])) (fun t_ k_ => XS.icmpNo X0.here hx rfl (hb hby at_50) rfl (teq (by decide)).2 k_) ?_
  obtain ⟨T1, X1, e1, st1⟩ := getS2 X0 hx hZ hown (host := "") (Or.inl (hw _ (List.mem_of_getElem? (i := 23) rfl))) Via.refl e0 S_BLOOM (g := (mkF m 53 #[.val (.int p1), .val (.int (3 : Int32)), .unset, .unset, .unset, .unset, .unset] [])) rfl (hb hby at_53)
  refine own_step (T' := T1) (g' := (mkF m 56 #[.val (.int p1), .val (.int (3 : Int32)), .unset, .unset, .unset, .unset, .unset] [(.ref A_BLOOM)])) st1 ?_
  refine own_step (T' := T1) (g' := (mkF m 57 #[.val (.int p1), .val (.int (3 : Int32)), .val (.ref A_BLOOM), .unset, .unset, .unset, .unset] [])) (fun t_ k_ => XS.astoreN X1.here hx rfl (hb hby at_56) rfl rfl (l' := #[.val (.int p1), .val (.int (3 : Int32)), .val (.ref A_BLOOM), .unset, .unset, .unset, .unset]) rfl k_) ?_
  refine own_step (T' := T1) (g' := (mkF m 58 #[.val (.int p1), .val (.int (3 : Int32)), .val (.ref A_BLOOM), .unset, .unset, .unset, .unset] [(.int (1 : Int32))])) (fun t_ k_ => XS.iconst X1.here hx rfl (hb hby at_57) k_) ?_
  refine own_step (T' := T1) (g' := (mkF m 59 #[.val (.int p1), .val (.int (3 : Int32)), .val (.ref A_BLOOM), .val (.int (1 : Int32)), .unset, .unset, .unset] [])) (fun t_ k_ => XS.istoreN X1.here hx rfl (hb hby at_58) rfl (l' := #[.val (.int p1), .val (.int (3 : Int32)), .val (.ref A_BLOOM), .val (.int (1 : Int32)), .unset, .unset, .unset]) rfl k_) ?_
  refine own_step (T' := T1) (g' := (mkF m 68 #[.val (.int p1), .val (.int (3 : Int32)), .val (.ref A_BLOOM), .val (.int (1 : Int32)), .unset, .unset, .unset] [])) (fun t_ k_ => XS.goto X1.here hx rfl (pc0 := 59) (pc' := 68) rfl (hb hby at_59) (by decide) (by decide) k_) ?_
  refine own_step (T' := T1) (g' := (mkF m 69 #[.val (.int p1), .val (.int (3 : Int32)), .val (.ref A_BLOOM), .val (.int (1 : Int32)), .unset, .unset, .unset] [(.ref A_BLOOM)])) (fun t_ k_ => XS.aloadN X1.here hx rfl (hb hby at_68) rfl rfl k_) ?_
  obtain ⟨cq2, kq2, q2a, q2b, q2c⟩ := isOf hZ e1 E_BLOOM
  obtain ⟨_, _, ⟨T2, L2, k2, n2⟩, -, X2, ⟨Lc2, hQ2, l2, y2, z2⟩, st2⟩ := X1.virtualBack hx (y := (⟨"com/example/hushed_flood/hushedflood/peer/Strategy", "bloom", "()Z"⟩ : MethodName)) (z := (⟨"com/example/hushed_flood/hushedflood/peer/Strategy", "bloom", "()Z"⟩ : MethodName)) hown (mvT hZ (hw _ (List.mem_of_getElem? (i := 4) rfl))) (mvT hZ (hw _ (List.mem_of_getElem? (i := 5) rfl))) (notFace_of_selects (args := #[]) (mvT hZ (hw _ (List.mem_of_getElem? (i := 7) rfl)))) (mvT hZ (hw _ (List.mem_of_getElem? (i := 7) rfl))) (mvT hZ (hw _ (List.mem_of_getElem? (i := 6) rfl))) (by decide) (backOf (W := 0) (rm1 l Z a0 hw [] A_BLOOM (2 : Int32) (1 : Int32) h0 n0 Z0 F_BLOOM_levels (by decide)) hZ (hw _ (List.mem_of_getElem? (i := 8) rfl)) (hw _ (List.mem_of_getElem? (i := 2) rfl)) (by decide) (by decide)) q2a q2c (g := (mkF m 69 #[.val (.int p1), .val (.int (3 : Int32)), .val (.ref A_BLOOM), .val (.int (1 : Int32)), .unset, .unset, .unset] [(.ref A_BLOOM)])) rfl (by rw [hml]; rfl) (Steps.refl _) (argsL := []) (rest := []) (lenOf (by decide +kernel : parseMethodDescriptor "()Z" = some ⟨[], some .boolean⟩) rfl) rfl (by show 2 * 0 + _ ≤ _; exact Nat.le_of_eq rfl) (hb hby at_69) (fun _ _ => ⟨rfl, e1, (by decide : 0 + 0 ≤ _), (by decide : 0 + 0 ≤ _)⟩)
  dsimp only [Pt.U, Pt.locs, Pt.cells, Pt.slots] at X2 l2 y2 z2 st2 hQ2
  subst l2 y2 z2
  obtain ⟨rfl, Nq2, e2⟩ := hQ2
  have N2 := Fr.app N0 Nq2
  refine own_to (T' := T2) (g' := (mkF m 72 #[.val (.int p1), .val (.int (3 : Int32)), .val (.ref A_BLOOM), .val (.int (1 : Int32)), .unset, .unset, .unset] [(.int (1 : Int32))])) st2 ?_
  refine own_step (T' := T2) (g' := (mkF m 74 #[.val (.int p1), .val (.int (3 : Int32)), .val (.ref A_BLOOM), .val (.int (1 : Int32)), .val (.int (1 : Int32)), .unset, .unset] [])) (fun t_ k_ => XS.istore X2.here hx rfl (hb hby at_72) rfl (l' := #[.val (.int p1), .val (.int (3 : Int32)), .val (.ref A_BLOOM), .val (.int (1 : Int32)), .val (.int (1 : Int32)), .unset, .unset]) rfl k_) ?_
  refine own_step (T' := T2) (g' := (mkF m 75 #[.val (.int p1), .val (.int (3 : Int32)), .val (.ref A_BLOOM), .val (.int (1 : Int32)), .val (.int (1 : Int32)), .unset, .unset] [(.ref A_BLOOM)])) (fun t_ k_ => XS.aloadN X2.here hx rfl (hb hby at_74) rfl rfl k_) ?_
  obtain ⟨cq3, kq3, q3a, q3b, q3c⟩ := isOf hZ e2 E_BLOOM
  obtain ⟨_, _, ⟨T3, L3, k3, n3⟩, -, X3, ⟨Lc3, hQ3, l3, y3, z3⟩, st3⟩ := X2.virtualBack hx (y := (⟨"com/example/hushed_flood/hushedflood/peer/Strategy", "levelTwo", "()Z"⟩ : MethodName)) (z := (⟨"com/example/hushed_flood/hushedflood/peer/Strategy", "levelTwo", "()Z"⟩ : MethodName)) hown (mvT hZ (hw _ (List.mem_of_getElem? (i := 11) rfl))) (mvT hZ (hw _ (List.mem_of_getElem? (i := 12) rfl))) (notFace_of_selects (args := #[]) (mvT hZ (hw _ (List.mem_of_getElem? (i := 14) rfl)))) (mvT hZ (hw _ (List.mem_of_getElem? (i := 14) rfl))) (mvT hZ (hw _ (List.mem_of_getElem? (i := 13) rfl))) (by decide) (backOf (W := 0) (rm2 l Z a0 hw [] A_BLOOM (2 : Int32) (1 : Int32) h0 n0 Z0 F_BLOOM_levels (by decide)) hZ (hw _ (List.mem_of_getElem? (i := 15) rfl)) (hw _ (List.mem_of_getElem? (i := 2) rfl)) (by decide) (by decide)) q3a q3c (g := (mkF m 75 #[.val (.int p1), .val (.int (3 : Int32)), .val (.ref A_BLOOM), .val (.int (1 : Int32)), .val (.int (1 : Int32)), .unset, .unset] [(.ref A_BLOOM)])) rfl (by rw [hml]; rfl) (Steps.refl _) (argsL := []) (rest := []) (lenOf (by decide +kernel : parseMethodDescriptor "()Z" = some ⟨[], some .boolean⟩) rfl) rfl (by show 2 * 0 + _ ≤ _; exact Nat.le_of_eq rfl) (hb hby at_75) (fun _ _ => ⟨rfl, e2, (by decide : 0 + 0 ≤ _), (by decide : 0 + 0 ≤ _)⟩)
  dsimp only [Pt.U, Pt.locs, Pt.cells, Pt.slots] at X3 l3 y3 z3 st3 hQ3
  subst l3 y3 z3
  obtain ⟨rfl, Nq3, e3⟩ := hQ3
  have N3 := Fr.app N2 Nq3
  refine own_to (T' := T3) (g' := (mkF m 78 #[.val (.int p1), .val (.int (3 : Int32)), .val (.ref A_BLOOM), .val (.int (1 : Int32)), .val (.int (1 : Int32)), .unset, .unset] [(.int (1 : Int32))])) st3 ?_
  refine own_step (T' := T3) (g' := (mkF m 80 #[.val (.int p1), .val (.int (3 : Int32)), .val (.ref A_BLOOM), .val (.int (1 : Int32)), .val (.int (1 : Int32)), .val (.int (1 : Int32)), .unset] [])) (fun t_ k_ => XS.istore X3.here hx rfl (hb hby at_78) rfl (l' := #[.val (.int p1), .val (.int (3 : Int32)), .val (.ref A_BLOOM), .val (.int (1 : Int32)), .val (.int (1 : Int32)), .val (.int (1 : Int32)), .unset]) rfl k_) ?_
  refine own_step (T' := T3) (g' := (mkF m 81 #[.val (.int p1), .val (.int (3 : Int32)), .val (.ref A_BLOOM), .val (.int (1 : Int32)), .val (.int (1 : Int32)), .val (.int (1 : Int32)), .unset] [(.ref A_BLOOM)])) (fun t_ k_ => XS.aloadN X3.here hx rfl (hb hby at_80) rfl rfl k_) ?_
  obtain ⟨cq4, kq4, q4a, q4b, q4c⟩ := isOf hZ e3 E_BLOOM
  obtain ⟨_, _, ⟨T4, L4, k4, n4⟩, -, X4, ⟨Lc4, hQ4, l4, y4, z4⟩, st4⟩ := X3.virtualBack hx (y := (⟨"com/example/hushed_flood/hushedflood/peer/Strategy", "walks", "()Z"⟩ : MethodName)) (z := (⟨"com/example/hushed_flood/hushedflood/peer/Strategy", "walks", "()Z"⟩ : MethodName)) hown (mvT hZ (hw _ (List.mem_of_getElem? (i := 16) rfl))) (mvT hZ (hw _ (List.mem_of_getElem? (i := 17) rfl))) (notFace_of_selects (args := #[]) (mvT hZ (hw _ (List.mem_of_getElem? (i := 19) rfl)))) (mvT hZ (hw _ (List.mem_of_getElem? (i := 19) rfl))) (mvT hZ (hw _ (List.mem_of_getElem? (i := 18) rfl))) (by decide) (backOf (W := 0) (rm3 l Z a0 hw [] A_BLOOM (1 : Int32) (1 : Int32) h0 n0 Z0 F_BLOOM_walks (by decide)) hZ (hw _ (List.mem_of_getElem? (i := 20) rfl)) (hw _ (List.mem_of_getElem? (i := 2) rfl)) (by decide) (by decide)) q4a q4c (g := (mkF m 81 #[.val (.int p1), .val (.int (3 : Int32)), .val (.ref A_BLOOM), .val (.int (1 : Int32)), .val (.int (1 : Int32)), .val (.int (1 : Int32)), .unset] [(.ref A_BLOOM)])) rfl (by rw [hml]; rfl) (Steps.refl _) (argsL := []) (rest := []) (lenOf (by decide +kernel : parseMethodDescriptor "()Z" = some ⟨[], some .boolean⟩) rfl) rfl (by show 2 * 0 + _ ≤ _; exact Nat.le_of_eq rfl) (hb hby at_81) (fun _ _ => ⟨rfl, e3, (by decide : 0 + 0 ≤ _), (by decide : 0 + 0 ≤ _)⟩)
  dsimp only [Pt.U, Pt.locs, Pt.cells, Pt.slots] at X4 l4 y4 z4 st4 hQ4
  subst l4 y4 z4
  obtain ⟨rfl, Nq4, e4⟩ := hQ4
  have N4 := Fr.app N3 Nq4
  refine own_to (T' := T4) (g' := (mkF m 84 #[.val (.int p1), .val (.int (3 : Int32)), .val (.ref A_BLOOM), .val (.int (1 : Int32)), .val (.int (1 : Int32)), .val (.int (1 : Int32)), .unset] [(.int (1 : Int32))])) st4 ?_
  refine own_step (T' := T4) (g' := (mkF m 86 #[.val (.int p1), .val (.int (3 : Int32)), .val (.ref A_BLOOM), .val (.int (1 : Int32)), .val (.int (1 : Int32)), .val (.int (1 : Int32)), .val (.int (1 : Int32))] [])) (fun t_ k_ => XS.istore X4.here hx rfl (hb hby at_84) rfl (l' := #[.val (.int p1), .val (.int (3 : Int32)), .val (.ref A_BLOOM), .val (.int (1 : Int32)), .val (.int (1 : Int32)), .val (.int (1 : Int32)), .val (.int (1 : Int32))]) rfl k_) ?_
  refine own_step (T' := T4) (g' := (mkF m 88 #[.val (.int p1), .val (.int (3 : Int32)), .val (.ref A_BLOOM), .val (.int (1 : Int32)), .val (.int (1 : Int32)), .val (.int (1 : Int32)), .val (.int (1 : Int32))] [(.int (1 : Int32))])) (fun t_ k_ => XS.iload X4.here hx rfl (hb hby at_86) rfl k_) ?_
  refine own_step (T' := T4) (g' := (mkF m 89 #[.val (.int p1), .val (.int (3 : Int32)), .val (.ref A_BLOOM), .val (.int (1 : Int32)), .val (.int (1 : Int32)), .val (.int (1 : Int32)), .val (.int (1 : Int32))] [(.int (1 : Int32)), (.int (1 : Int32))])) (fun t_ k_ => XS.iloadN X4.here hx rfl (hb hby at_88) rfl k_) ?_
  refine own_step (T' := T4) (g' := (mkF m 92 #[.val (.int p1), .val (.int (3 : Int32)), .val (.ref A_BLOOM), .val (.int (1 : Int32)), .val (.int (1 : Int32)), .val (.int (1 : Int32)), .val (.int (1 : Int32))] [])) (fun t_ k_ => XS.icmpNo X4.here hx rfl (hb hby at_89) rfl (teq (by decide)).2 k_) ?_
  refine own_step (T' := T4) (g' := (mkF m 94 #[.val (.int p1), .val (.int (3 : Int32)), .val (.ref A_BLOOM), .val (.int (1 : Int32)), .val (.int (1 : Int32)), .val (.int (1 : Int32)), .val (.int (1 : Int32))] [(.int (1 : Int32))])) (fun t_ k_ => XS.iload X4.here hx rfl (hb hby at_92) rfl k_) ?_
  refine own_step (T' := T4) (g' := (mkF m 97 #[.val (.int p1), .val (.int (3 : Int32)), .val (.ref A_BLOOM), .val (.int (1 : Int32)), .val (.int (1 : Int32)), .val (.int (1 : Int32)), .val (.int (1 : Int32))] [])) (fun t_ k_ => XS.ifNo X4.here hx rfl (hb hby at_94) rfl ((if0 _ _).trans (feq (by decide)).1) k_) ?_
  refine own_step (T' := T4) (g' := (mkF m 99 #[.val (.int p1), .val (.int (3 : Int32)), .val (.ref A_BLOOM), .val (.int (1 : Int32)), .val (.int (1 : Int32)), .val (.int (1 : Int32)), .val (.int (1 : Int32))] [(.int (1 : Int32))])) (fun t_ k_ => XS.iload X4.here hx rfl (hb hby at_97) rfl k_) ?_
  refine own_step (T' := T4) (g' := (mkF m 102 #[.val (.int p1), .val (.int (3 : Int32)), .val (.ref A_BLOOM), .val (.int (1 : Int32)), .val (.int (1 : Int32)), .val (.int (1 : Int32)), .val (.int (1 : Int32))] [])) (fun t_ k_ => XS.ifNo X4.here hx rfl (hb hby at_99) rfl ((if0 _ _).trans (feq (by decide)).1) k_) ?_
  refine own_step (T' := T4) (g' := (mkF m 104 #[.val (.int p1), .val (.int (3 : Int32)), .val (.ref A_BLOOM), .val (.int (1 : Int32)), .val (.int (1 : Int32)), .val (.int (1 : Int32)), .val (.int (1 : Int32))] [(.int (1 : Int32))])) (fun t_ k_ => XS.iload X4.here hx rfl (hb hby at_102) rfl k_) ?_
  refine own_step (T' := T4) (g' := (mkF m 107 #[.val (.int p1), .val (.int (3 : Int32)), .val (.ref A_BLOOM), .val (.int (1 : Int32)), .val (.int (1 : Int32)), .val (.int (1 : Int32)), .val (.int (1 : Int32))] [])) (fun t_ k_ => XS.ifNo X4.here hx rfl (hb hby at_104) rfl ((if0 _ _).trans (feq (by decide)).1) k_) ?_
  refine own_step (T' := T4) (g' := (mkF m 109 #[.val (.int p1), .val (.int (3 : Int32)), .val (.ref A_BLOOM), .val (.int (1 : Int32)), .val (.int (1 : Int32)), .val (.int (1 : Int32)), .val (.int (1 : Int32))] [(.int (1 : Int32))])) (fun t_ k_ => XS.iload X4.here hx rfl (hb hby at_107) rfl k_) ?_
  refine own_step (T' := T4) (g' := (mkF m 112 #[.val (.int p1), .val (.int (3 : Int32)), .val (.ref A_BLOOM), .val (.int (1 : Int32)), .val (.int (1 : Int32)), .val (.int (1 : Int32)), .val (.int (1 : Int32))] [])) (fun t_ k_ => XS.ifNo X4.here hx rfl (hb hby at_109) rfl ((if0 _ _).trans (feq (by decide)).1) k_) ?_
  refine own_step (T' := T4) (g' := (mkF m 113 #[.val (.int p1), .val (.int (3 : Int32)), .val (.ref A_BLOOM), .val (.int (1 : Int32)), .val (.int (1 : Int32)), .val (.int (1 : Int32)), .val (.int (1 : Int32))] [(.int (1 : Int32))])) (fun t_ k_ => XS.iconst X4.here hx rfl (hb hby at_112) k_) ?_
  refine own_step (T' := T4) (g' := (mkF m 117 #[.val (.int p1), .val (.int (3 : Int32)), .val (.ref A_BLOOM), .val (.int (1 : Int32)), .val (.int (1 : Int32)), .val (.int (1 : Int32)), .val (.int (1 : Int32))] [(.int (1 : Int32))])) (fun t_ k_ => XS.goto X4.here hx rfl (pc0 := 113) (pc' := 117) rfl (hb hby at_113) (by decide) (by decide) k_) ?_
  obtain ⟨fs, hrR, hrun, hended, hWW, hsame⟩ := X4.leave (v := some (.int (1 : Int32))) (fun h => by rw [Bd.returns] at h; cases h)
  refine ⟨_, _, own_retZ X4 hx (t := .boolean) Bd.returns (by simp) (by decide) (hb hby at_117) hrR, hrun, hended, hPP _ _ ⟨_, _, rfl, ?_, ⟨_, rfl⟩, hWW, hsame.mono (by decide) (by decide)⟩⟩
  show Q0 n0 _ T4.heap _
  rw [e4]
  exact ⟨rfl, N4⟩
set_option maxRecDepth 65536 in
set_option maxHeartbeats 40000000 in
theorem rm0_4 (l : Launch) (Z : State) (a0 : Array Value) (hw : ∀ d ∈ tables_1, d.before a0 Z = true) (ws : List Jvm.Cond) (p1 : Int32) (A_COUNT_INDEX : Addr) (h0 : Heap) (n0 : Nat) (Z0 : n0 ≤ h0.size) (hk : (p1 &&& 2147483647) % 5 = 4) (E_COUNT_INDEX : Exa Z h0 A_COUNT_INDEX "com/example/hushed_flood/hushedflood/peer/Strategy") (S_COUNT_INDEX : Sta Z h0 "com/example/hushed_flood/hushedflood/peer/Strategy" "COUNT_INDEX" "Lcom/example/hushed_flood/hushedflood/peer/Strategy;" (.ref A_COUNT_INDEX)) (F_COUNT_INDEX_levels : Fld Z h0 A_COUNT_INDEX "com/example/hushed_flood/hushedflood/peer/Strategy" "levels" "I" (.int (0 : Int32))) (F_COUNT_INDEX_walks : Fld Z h0 A_COUNT_INDEX "com/example/hushed_flood/hushedflood/peer/Strategy" "walks" "Z" (.int (1 : Int32))) :
    MetFree l x (head1 (Jvm.Cond.code x code maxLocals ret :: ws) room_1) (fun a U => a = #[(.int p1)] ∧ Z.Warmed39 U.vm ∧ U.heap = h0) (fun _ _ _ _ _ => True) (fun _ U o U' => ∃ v L, o = .returned v ∧ Q0 n0 v U'.heap L ∧ FrameEnd U o U' L 0 0) := by
  refine MetFree.of_bodySF (plainFor_of_name (by first | (simp [plainName, overriddenIn]; done) | decide +kernel)) hisR ?_
  intro p e s m args below meth c s₁ Bd hml0 hP hK
  obtain ⟨rfl, hZ, hh⟩ := hP
  have hx := Bd.exec
  have hby := Bd.bytes
  have hml : c.maxLocals = 7 := hml0
  have hown : s.vm.findClass "com/example/hushed_flood/hushedflood/peer/StrategyBloomPinLaw" = some m.cls := findClass_of_methodNamed Bd.named
  have hnm := (name_of_methodNamed Bd.named Bd.method).1
  have X0 : Stand p l e room_1 s m #[(.int p1)] below meth c s₁ [] 0 0 := Stand.of_body Bd
  have e0 : s₁.heap = h0 := by rw [← hh, Bd.state]; rfl
  have N0 := Fr.nil n0
  have ef : entryFrame m #[(.int p1)] maxLocals = (mkF m 0 #[.val (.int p1), .unset, .unset, .unset, .unset, .unset, .unset] []) := by first | (simp [entryFrame, mkF, argsToLocals, Value.category, maxLocals]; done) | rfl
  refine own_start (fun P hPP => ?_)
  refine own_step (T' := s₁) (g' := (mkF m 0 #[.val (.int p1), .unset, .unset, .unset, .unset, .unset, .unset] [])) (fun t_ k_ => castTop ef k_) ?_
  refine own_step (T' := s₁) (g' := (mkF m 1 #[.val (.int p1), .unset, .unset, .unset, .unset, .unset, .unset] [(.int p1)])) (fun t_ k_ => XS.iloadN X0.here hx rfl (hb hby at_0) rfl k_) ?_
  refine own_step (T' := s₁) (g' := (mkF m 3 #[.val (.int p1), .unset, .unset, .unset, .unset, .unset, .unset] [(.int (2147483647 : Int32)), (.int p1)])) (fun t_ k_ => X0.ldcInt hx hown (mvT hZ (hw _ (List.mem_of_getElem? (i := 0) rfl))) (g := (mkF m 1 #[.val (.int p1), .unset, .unset, .unset, .unset, .unset, .unset] [(.int p1)])) rfl (hb hby at_1) _ k_) ?_
  refine own_step (T' := s₁) (g' := (mkF m 4 #[.val (.int p1), .unset, .unset, .unset, .unset, .unset, .unset] [(.int (p1 &&& (2147483647 : Int32)))])) (fun t_ k_ => XS.iand X0.here hx rfl (hb hby at_3) rfl k_) ?_
  refine own_step (T' := s₁) (g' := (mkF m 5 #[.val (.int p1), .unset, .unset, .unset, .unset, .unset, .unset] [(.int (5 : Int32)), (.int (p1 &&& (2147483647 : Int32)))])) (fun t_ k_ => XS.iconst X0.here hx rfl (hb hby at_4) k_) ?_
  refine own_step (T' := s₁) (g' := (mkF m 6 #[.val (.int p1), .unset, .unset, .unset, .unset, .unset, .unset] [(.int ((p1 &&& (2147483647 : Int32)) % (5 : Int32)))])) (fun t_ k_ => iremM X0 hx rfl (hb hby at_5) rfl (by decide) k_) ?_
  rw [hk]
  refine own_step (T' := s₁) (g' := (mkF m 7 #[.val (.int p1), .val (.int (4 : Int32)), .unset, .unset, .unset, .unset, .unset] [])) (fun t_ k_ => XS.istoreN X0.here hx rfl (hb hby at_6) rfl (l' := #[.val (.int p1), .val (.int (4 : Int32)), .unset, .unset, .unset, .unset, .unset]) rfl k_) ?_
  refine own_step (T' := s₁) (g' := (mkF m 8 #[.val (.int p1), .val (.int (4 : Int32)), .unset, .unset, .unset, .unset, .unset] [(.int (4 : Int32))])) (fun t_ k_ => XS.iloadN X0.here hx rfl (hb hby at_7) rfl k_) ?_
  refine own_step (T' := s₁) (g' := (mkF m 20 #[.val (.int p1), .val (.int (4 : Int32)), .unset, .unset, .unset, .unset, .unset] [])) (fun t_ k_ => XS.ifYes X0.here hx rfl (pc0 := 8) (pc' := 20) rfl (hb hby at_8) rfl ((if0 _ _).trans (feq (by decide)).2) (by decide) (by decide) k_) ?_
  refine own_step (T' := s₁) (g' := (mkF m 21 #[.val (.int p1), .val (.int (4 : Int32)), .unset, .unset, .unset, .unset, .unset] [(.int (4 : Int32))])) (fun t_ k_ => XS.iloadN X0.here hx rfl (hb hby at_20) rfl k_) ?_
  refine own_step (T' := s₁) (g' := (mkF m 22 #[.val (.int p1), .val (.int (4 : Int32)), .unset, .unset, .unset, .unset, .unset] [(.int (1 : Int32)), (.int (4 : Int32))])) (fun t_ k_ => XS.iconst X0.here hx rfl (hb hby at_21) k_) ?_
  refine own_step (T' := s₁) (g' := (mkF m 34 #[.val (.int p1), .val (.int (4 : Int32)), .unset, .unset, .unset, .unset, .unset] [])) (fun t_ k_ => XS.icmpYes X0.here hx rfl (pc0 := 22) (pc' := 34) rfl (hb hby at_22) rfl (feq (by decide)).2 (by decide) (by decide) k_) ?_
  refine own_step (T' := s₁) (g' := (mkF m 35 #[.val (.int p1), .val (.int (4 : Int32)), .unset, .unset, .unset, .unset, .unset] [(.int (4 : Int32))])) (fun t_ k_ => XS.iloadN X0.here hx rfl (hb hby at_34) rfl k_) ?_
  refine own_step (T' := s₁) (g' := (mkF m 36 #[.val (.int p1), .val (.int (4 : Int32)), .unset, .unset, .unset, .unset, .unset] [(.int (2 : Int32)), (.int (4 : Int32))])) (fun t_ k_ => XS.iconst X0.here hx rfl (hb hby at_35) k_) ?_
  refine own_step (T' := s₁) (g' := (mkF m 48 #[.val (.int p1), .val (.int (4 : Int32)), .unset, .unset, .unset, .unset, .unset] [])) (fun t_ k_ => XS.icmpYes X0.here hx rfl (pc0 := 36) (pc' := 48) rfl (hb hby at_36) rfl (feq (by decide)).2 (by decide) (by decide) k_) ?_
  refine own_step (T' := s₁) (g' := (mkF m 49 #[.val (.int p1), .val (.int (4 : Int32)), .unset, .unset, .unset, .unset, .unset] [(.int (4 : Int32))])) (fun t_ k_ => XS.iloadN X0.here hx rfl (hb hby at_48) rfl k_) ?_
  refine own_step (T' := s₁) (g' := (mkF m 50 #[.val (.int p1), .val (.int (4 : Int32)), .unset, .unset, .unset, .unset, .unset] [(.int (3 : Int32)), (.int (4 : Int32))])) (fun t_ k_ => XS.iconst X0.here hx rfl (hb hby at_49) k_) ?_
  refine own_step (T' := s₁) (g' := (mkF m 62 #[.val (.int p1), .val (.int (4 : Int32)), .unset, .unset, .unset, .unset, .unset] [])) (fun t_ k_ => XS.icmpYes X0.here hx rfl (pc0 := 50) (pc' := 62) rfl (hb hby at_50) rfl (feq (by decide)).2 (by decide) (by decide) k_) ?_
  obtain ⟨T1, X1, e1, st1⟩ := getS2 X0 hx hZ hown (host := "") (Or.inl (hw _ (List.mem_of_getElem? (i := 27) rfl))) Via.refl e0 S_COUNT_INDEX (g := (mkF m 62 #[.val (.int p1), .val (.int (4 : Int32)), .unset, .unset, .unset, .unset, .unset] [])) rfl (hb hby at_62)
  refine own_step (T' := T1) (g' := (mkF m 65 #[.val (.int p1), .val (.int (4 : Int32)), .unset, .unset, .unset, .unset, .unset] [(.ref A_COUNT_INDEX)])) st1 ?_
  refine own_step (T' := T1) (g' := (mkF m 66 #[.val (.int p1), .val (.int (4 : Int32)), .val (.ref A_COUNT_INDEX), .unset, .unset, .unset, .unset] [])) (fun t_ k_ => XS.astoreN X1.here hx rfl (hb hby at_65) rfl rfl (l' := #[.val (.int p1), .val (.int (4 : Int32)), .val (.ref A_COUNT_INDEX), .unset, .unset, .unset, .unset]) rfl k_) ?_
  refine own_step (T' := T1) (g' := (mkF m 67 #[.val (.int p1), .val (.int (4 : Int32)), .val (.ref A_COUNT_INDEX), .unset, .unset, .unset, .unset] [(.int (0 : Int32))])) (fun t_ k_ => XS.iconst X1.here hx rfl (hb hby at_66) k_) ?_
  refine own_step (T' := T1) (g' := (mkF m 68 #[.val (.int p1), .val (.int (4 : Int32)), .val (.ref A_COUNT_INDEX), .val (.int (0 : Int32)), .unset, .unset, .unset] [])) (fun t_ k_ => XS.istoreN X1.here hx rfl (hb hby at_67) rfl (l' := #[.val (.int p1), .val (.int (4 : Int32)), .val (.ref A_COUNT_INDEX), .val (.int (0 : Int32)), .unset, .unset, .unset]) rfl k_) ?_
  refine own_step (T' := T1) (g' := (mkF m 69 #[.val (.int p1), .val (.int (4 : Int32)), .val (.ref A_COUNT_INDEX), .val (.int (0 : Int32)), .unset, .unset, .unset] [(.ref A_COUNT_INDEX)])) (fun t_ k_ => XS.aloadN X1.here hx rfl (hb hby at_68) rfl rfl k_) ?_
  obtain ⟨cq2, kq2, q2a, q2b, q2c⟩ := isOf hZ e1 E_COUNT_INDEX
  obtain ⟨_, _, ⟨T2, L2, k2, n2⟩, -, X2, ⟨Lc2, hQ2, l2, y2, z2⟩, st2⟩ := X1.virtualBack hx (y := (⟨"com/example/hushed_flood/hushedflood/peer/Strategy", "bloom", "()Z"⟩ : MethodName)) (z := (⟨"com/example/hushed_flood/hushedflood/peer/Strategy", "bloom", "()Z"⟩ : MethodName)) hown (mvT hZ (hw _ (List.mem_of_getElem? (i := 4) rfl))) (mvT hZ (hw _ (List.mem_of_getElem? (i := 5) rfl))) (notFace_of_selects (args := #[]) (mvT hZ (hw _ (List.mem_of_getElem? (i := 7) rfl)))) (mvT hZ (hw _ (List.mem_of_getElem? (i := 7) rfl))) (mvT hZ (hw _ (List.mem_of_getElem? (i := 6) rfl))) (by decide) (backOf (W := 0) (rm1 l Z a0 hw [] A_COUNT_INDEX (0 : Int32) (0 : Int32) h0 n0 Z0 F_COUNT_INDEX_levels (by decide)) hZ (hw _ (List.mem_of_getElem? (i := 8) rfl)) (hw _ (List.mem_of_getElem? (i := 2) rfl)) (by decide) (by decide)) q2a q2c (g := (mkF m 69 #[.val (.int p1), .val (.int (4 : Int32)), .val (.ref A_COUNT_INDEX), .val (.int (0 : Int32)), .unset, .unset, .unset] [(.ref A_COUNT_INDEX)])) rfl (by rw [hml]; rfl) (Steps.refl _) (argsL := []) (rest := []) (lenOf (by decide +kernel : parseMethodDescriptor "()Z" = some ⟨[], some .boolean⟩) rfl) rfl (by show 2 * 0 + _ ≤ _; exact Nat.le_of_eq rfl) (hb hby at_69) (fun _ _ => ⟨rfl, e1, (by decide : 0 + 0 ≤ _), (by decide : 0 + 0 ≤ _)⟩)
  dsimp only [Pt.U, Pt.locs, Pt.cells, Pt.slots] at X2 l2 y2 z2 st2 hQ2
  subst l2 y2 z2
  obtain ⟨rfl, Nq2, e2⟩ := hQ2
  have N2 := Fr.app N0 Nq2
  refine own_to (T' := T2) (g' := (mkF m 72 #[.val (.int p1), .val (.int (4 : Int32)), .val (.ref A_COUNT_INDEX), .val (.int (0 : Int32)), .unset, .unset, .unset] [(.int (0 : Int32))])) st2 ?_
  refine own_step (T' := T2) (g' := (mkF m 74 #[.val (.int p1), .val (.int (4 : Int32)), .val (.ref A_COUNT_INDEX), .val (.int (0 : Int32)), .val (.int (0 : Int32)), .unset, .unset] [])) (fun t_ k_ => XS.istore X2.here hx rfl (hb hby at_72) rfl (l' := #[.val (.int p1), .val (.int (4 : Int32)), .val (.ref A_COUNT_INDEX), .val (.int (0 : Int32)), .val (.int (0 : Int32)), .unset, .unset]) rfl k_) ?_
  refine own_step (T' := T2) (g' := (mkF m 75 #[.val (.int p1), .val (.int (4 : Int32)), .val (.ref A_COUNT_INDEX), .val (.int (0 : Int32)), .val (.int (0 : Int32)), .unset, .unset] [(.ref A_COUNT_INDEX)])) (fun t_ k_ => XS.aloadN X2.here hx rfl (hb hby at_74) rfl rfl k_) ?_
  obtain ⟨cq3, kq3, q3a, q3b, q3c⟩ := isOf hZ e2 E_COUNT_INDEX
  obtain ⟨_, _, ⟨T3, L3, k3, n3⟩, -, X3, ⟨Lc3, hQ3, l3, y3, z3⟩, st3⟩ := X2.virtualBack hx (y := (⟨"com/example/hushed_flood/hushedflood/peer/Strategy", "levelTwo", "()Z"⟩ : MethodName)) (z := (⟨"com/example/hushed_flood/hushedflood/peer/Strategy", "levelTwo", "()Z"⟩ : MethodName)) hown (mvT hZ (hw _ (List.mem_of_getElem? (i := 11) rfl))) (mvT hZ (hw _ (List.mem_of_getElem? (i := 12) rfl))) (notFace_of_selects (args := #[]) (mvT hZ (hw _ (List.mem_of_getElem? (i := 14) rfl)))) (mvT hZ (hw _ (List.mem_of_getElem? (i := 14) rfl))) (mvT hZ (hw _ (List.mem_of_getElem? (i := 13) rfl))) (by decide) (backOf (W := 0) (rm2 l Z a0 hw [] A_COUNT_INDEX (0 : Int32) (0 : Int32) h0 n0 Z0 F_COUNT_INDEX_levels (by decide)) hZ (hw _ (List.mem_of_getElem? (i := 15) rfl)) (hw _ (List.mem_of_getElem? (i := 2) rfl)) (by decide) (by decide)) q3a q3c (g := (mkF m 75 #[.val (.int p1), .val (.int (4 : Int32)), .val (.ref A_COUNT_INDEX), .val (.int (0 : Int32)), .val (.int (0 : Int32)), .unset, .unset] [(.ref A_COUNT_INDEX)])) rfl (by rw [hml]; rfl) (Steps.refl _) (argsL := []) (rest := []) (lenOf (by decide +kernel : parseMethodDescriptor "()Z" = some ⟨[], some .boolean⟩) rfl) rfl (by show 2 * 0 + _ ≤ _; exact Nat.le_of_eq rfl) (hb hby at_75) (fun _ _ => ⟨rfl, e2, (by decide : 0 + 0 ≤ _), (by decide : 0 + 0 ≤ _)⟩)
  dsimp only [Pt.U, Pt.locs, Pt.cells, Pt.slots] at X3 l3 y3 z3 st3 hQ3
  subst l3 y3 z3
  obtain ⟨rfl, Nq3, e3⟩ := hQ3
  have N3 := Fr.app N2 Nq3
  refine own_to (T' := T3) (g' := (mkF m 78 #[.val (.int p1), .val (.int (4 : Int32)), .val (.ref A_COUNT_INDEX), .val (.int (0 : Int32)), .val (.int (0 : Int32)), .unset, .unset] [(.int (0 : Int32))])) st3 ?_
  refine own_step (T' := T3) (g' := (mkF m 80 #[.val (.int p1), .val (.int (4 : Int32)), .val (.ref A_COUNT_INDEX), .val (.int (0 : Int32)), .val (.int (0 : Int32)), .val (.int (0 : Int32)), .unset] [])) (fun t_ k_ => XS.istore X3.here hx rfl (hb hby at_78) rfl (l' := #[.val (.int p1), .val (.int (4 : Int32)), .val (.ref A_COUNT_INDEX), .val (.int (0 : Int32)), .val (.int (0 : Int32)), .val (.int (0 : Int32)), .unset]) rfl k_) ?_
  refine own_step (T' := T3) (g' := (mkF m 81 #[.val (.int p1), .val (.int (4 : Int32)), .val (.ref A_COUNT_INDEX), .val (.int (0 : Int32)), .val (.int (0 : Int32)), .val (.int (0 : Int32)), .unset] [(.ref A_COUNT_INDEX)])) (fun t_ k_ => XS.aloadN X3.here hx rfl (hb hby at_80) rfl rfl k_) ?_
  obtain ⟨cq4, kq4, q4a, q4b, q4c⟩ := isOf hZ e3 E_COUNT_INDEX
  obtain ⟨_, _, ⟨T4, L4, k4, n4⟩, -, X4, ⟨Lc4, hQ4, l4, y4, z4⟩, st4⟩ := X3.virtualBack hx (y := (⟨"com/example/hushed_flood/hushedflood/peer/Strategy", "walks", "()Z"⟩ : MethodName)) (z := (⟨"com/example/hushed_flood/hushedflood/peer/Strategy", "walks", "()Z"⟩ : MethodName)) hown (mvT hZ (hw _ (List.mem_of_getElem? (i := 16) rfl))) (mvT hZ (hw _ (List.mem_of_getElem? (i := 17) rfl))) (notFace_of_selects (args := #[]) (mvT hZ (hw _ (List.mem_of_getElem? (i := 19) rfl)))) (mvT hZ (hw _ (List.mem_of_getElem? (i := 19) rfl))) (mvT hZ (hw _ (List.mem_of_getElem? (i := 18) rfl))) (by decide) (backOf (W := 0) (rm3 l Z a0 hw [] A_COUNT_INDEX (1 : Int32) (1 : Int32) h0 n0 Z0 F_COUNT_INDEX_walks (by decide)) hZ (hw _ (List.mem_of_getElem? (i := 20) rfl)) (hw _ (List.mem_of_getElem? (i := 2) rfl)) (by decide) (by decide)) q4a q4c (g := (mkF m 81 #[.val (.int p1), .val (.int (4 : Int32)), .val (.ref A_COUNT_INDEX), .val (.int (0 : Int32)), .val (.int (0 : Int32)), .val (.int (0 : Int32)), .unset] [(.ref A_COUNT_INDEX)])) rfl (by rw [hml]; rfl) (Steps.refl _) (argsL := []) (rest := []) (lenOf (by decide +kernel : parseMethodDescriptor "()Z" = some ⟨[], some .boolean⟩) rfl) rfl (by show 2 * 0 + _ ≤ _; exact Nat.le_of_eq rfl) (hb hby at_81) (fun _ _ => ⟨rfl, e3, (by decide : 0 + 0 ≤ _), (by decide : 0 + 0 ≤ _)⟩)
  dsimp only [Pt.U, Pt.locs, Pt.cells, Pt.slots] at X4 l4 y4 z4 st4 hQ4
  subst l4 y4 z4
  obtain ⟨rfl, Nq4, e4⟩ := hQ4
  have N4 := Fr.app N3 Nq4
  refine own_to (T' := T4) (g' := (mkF m 84 #[.val (.int p1), .val (.int (4 : Int32)), .val (.ref A_COUNT_INDEX), .val (.int (0 : Int32)), .val (.int (0 : Int32)), .val (.int (0 : Int32)), .unset] [(.int (1 : Int32))])) st4 ?_
  refine own_step (T' := T4) (g' := (mkF m 86 #[.val (.int p1), .val (.int (4 : Int32)), .val (.ref A_COUNT_INDEX), .val (.int (0 : Int32)), .val (.int (0 : Int32)), .val (.int (0 : Int32)), .val (.int (1 : Int32))] [])) (fun t_ k_ => XS.istore X4.here hx rfl (hb hby at_84) rfl (l' := #[.val (.int p1), .val (.int (4 : Int32)), .val (.ref A_COUNT_INDEX), .val (.int (0 : Int32)), .val (.int (0 : Int32)), .val (.int (0 : Int32)), .val (.int (1 : Int32))]) rfl k_) ?_
  refine own_step (T' := T4) (g' := (mkF m 88 #[.val (.int p1), .val (.int (4 : Int32)), .val (.ref A_COUNT_INDEX), .val (.int (0 : Int32)), .val (.int (0 : Int32)), .val (.int (0 : Int32)), .val (.int (1 : Int32))] [(.int (0 : Int32))])) (fun t_ k_ => XS.iload X4.here hx rfl (hb hby at_86) rfl k_) ?_
  refine own_step (T' := T4) (g' := (mkF m 89 #[.val (.int p1), .val (.int (4 : Int32)), .val (.ref A_COUNT_INDEX), .val (.int (0 : Int32)), .val (.int (0 : Int32)), .val (.int (0 : Int32)), .val (.int (1 : Int32))] [(.int (0 : Int32)), (.int (0 : Int32))])) (fun t_ k_ => XS.iloadN X4.here hx rfl (hb hby at_88) rfl k_) ?_
  refine own_step (T' := T4) (g' := (mkF m 92 #[.val (.int p1), .val (.int (4 : Int32)), .val (.ref A_COUNT_INDEX), .val (.int (0 : Int32)), .val (.int (0 : Int32)), .val (.int (0 : Int32)), .val (.int (1 : Int32))] [])) (fun t_ k_ => XS.icmpNo X4.here hx rfl (hb hby at_89) rfl (teq (by decide)).2 k_) ?_
  refine own_step (T' := T4) (g' := (mkF m 94 #[.val (.int p1), .val (.int (4 : Int32)), .val (.ref A_COUNT_INDEX), .val (.int (0 : Int32)), .val (.int (0 : Int32)), .val (.int (0 : Int32)), .val (.int (1 : Int32))] [(.int (0 : Int32))])) (fun t_ k_ => XS.iload X4.here hx rfl (hb hby at_92) rfl k_) ?_
  refine own_step (T' := T4) (g' := (mkF m 102 #[.val (.int p1), .val (.int (4 : Int32)), .val (.ref A_COUNT_INDEX), .val (.int (0 : Int32)), .val (.int (0 : Int32)), .val (.int (0 : Int32)), .val (.int (1 : Int32))] [])) (fun t_ k_ => XS.ifYes X4.here hx rfl (pc0 := 94) (pc' := 102) rfl (hb hby at_94) rfl ((if0 _ _).trans (teq (by decide)).1) (by decide) (by decide) k_) ?_
  refine own_step (T' := T4) (g' := (mkF m 104 #[.val (.int p1), .val (.int (4 : Int32)), .val (.ref A_COUNT_INDEX), .val (.int (0 : Int32)), .val (.int (0 : Int32)), .val (.int (0 : Int32)), .val (.int (1 : Int32))] [(.int (0 : Int32))])) (fun t_ k_ => XS.iload X4.here hx rfl (hb hby at_102) rfl k_) ?_
  refine own_step (T' := T4) (g' := (mkF m 112 #[.val (.int p1), .val (.int (4 : Int32)), .val (.ref A_COUNT_INDEX), .val (.int (0 : Int32)), .val (.int (0 : Int32)), .val (.int (0 : Int32)), .val (.int (1 : Int32))] [])) (fun t_ k_ => XS.ifYes X4.here hx rfl (pc0 := 104) (pc' := 112) rfl (hb hby at_104) rfl ((if0 _ _).trans (teq (by decide)).1) (by decide) (by decide) k_) ?_
  refine own_step (T' := T4) (g' := (mkF m 113 #[.val (.int p1), .val (.int (4 : Int32)), .val (.ref A_COUNT_INDEX), .val (.int (0 : Int32)), .val (.int (0 : Int32)), .val (.int (0 : Int32)), .val (.int (1 : Int32))] [(.int (1 : Int32))])) (fun t_ k_ => XS.iconst X4.here hx rfl (hb hby at_112) k_) ?_
  refine own_step (T' := T4) (g' := (mkF m 117 #[.val (.int p1), .val (.int (4 : Int32)), .val (.ref A_COUNT_INDEX), .val (.int (0 : Int32)), .val (.int (0 : Int32)), .val (.int (0 : Int32)), .val (.int (1 : Int32))] [(.int (1 : Int32))])) (fun t_ k_ => XS.goto X4.here hx rfl (pc0 := 113) (pc' := 117) rfl (hb hby at_113) (by decide) (by decide) k_) ?_
  obtain ⟨fs, hrR, hrun, hended, hWW, hsame⟩ := X4.leave (v := some (.int (1 : Int32))) (fun h => by rw [Bd.returns] at h; cases h)
  refine ⟨_, _, own_retZ X4 hx (t := .boolean) Bd.returns (by simp) (by decide) (hb hby at_117) hrR, hrun, hended, hPP _ _ ⟨_, _, rfl, ?_, ⟨_, rfl⟩, hWW, hsame.mono (by decide) (by decide)⟩⟩
  show Q0 n0 _ T4.heap _
  rw [e4]
  exact ⟨rfl, N4⟩
set_option maxRecDepth 65536 in
set_option maxHeartbeats 40000000 in
theorem comes_1 {Post : Tables → Env → Array Value → State → Outcome → State → Prop} (hpost : ∀ tb e args s v u, (limb_1_1.after args s (.returned v) u = true ∧ limb_1_2.after args s (.returned v) u = true ∧ True) → FrameEnd s (.returned v) u (Jvm.fieldLocs frame_1_writes args s ++ Jvm.arrayLocs frame_1_arrays args s ++ Jvm.staticLocs frame_1_statics s) 0 0 → Post tb e args s (.returned v) u) :
    ArmFor flags0 classFile x code maxLocals ret World_1 tables_1 room_1 Calls_1 rest_1 Pre_1 Post := by
  intro l hfl _ _ p e ha hc hk s m args below hf hA hF happ hP
  obtain ⟨hcalls, hrest, hpre⟩ := hP
  obtain ⟨-, -, -, hnamed, -, -, -, hat⟩ := (Spec.applies_iff hf).mp happ
  obtain ⟨hg, hn⟩ := and_e (Cond.before_iff.mp (show (Jvm.Cond.and given_1 narrow_1).before args s = true from hpre))
  obtain ⟨hcount, hq0⟩ := and_e hg
  obtain ⟨w0, rfl⟩ : ∃ w0 : Value, args = #[w0] := by
    have hs : args.size = 1 := by simpa [Cond.value, given_1] using hcount
    obtain ⟨L⟩ := args
    match L, hs with
    | [w0], _ => exact ⟨w0, rfl⟩
  have hw := fun d (hd : d ∈ tables_1) => atoms_spec (ws := Jvm.Cond.code x code maxLocals ret :: tables_1) hat d (List.mem_cons_of_mem _ hd)
  have hfit : Fit s := fun {y c} hc i hi => by
    obtain ⟨ha, rfl⟩ := Array.getElem?_eq_some_iff.mp hc
    have q := List.all_eq_true.mp ((Array.all_eq_true_iff_forall_mem.mp hF) _ (Array.getElem_mem ha)) i (List.mem_range.mpr hi)
    simpa [Array.getElem?_eq_getElem hi] using q
  obtain ⟨i0, ei0⟩ := is_v hq0
  obtain rfl : w0 = (.int i0) := Option.some.inj ei0
  obtain ⟨hn0, hm0⟩ := and_e hn
  obtain ⟨hn1, hm1⟩ := and_e hm0
  obtain ⟨hn2, hm2⟩ := and_e hm1
  obtain ⟨hn3, hm3⟩ := and_e hm2
  obtain ⟨hn4, hm4⟩ := and_e hm3
  obtain ⟨hn5, hm5⟩ := and_e hm4
  obtain ⟨hn6, hm6⟩ := and_e hm5
  obtain ⟨hn7, hm7⟩ := and_e hm6
  obtain ⟨hn8, hm8⟩ := and_e hm7
  obtain ⟨hn9, hm9⟩ := and_e hm8
  obtain ⟨hn10, hm10⟩ := and_e hm9
  obtain ⟨hn11, hm11⟩ := and_e hm10
  obtain ⟨hn12, hm12⟩ := and_e hm11
  obtain ⟨hn13, hm13⟩ := and_e hm12
  have hn14 := hm13
  obtain ⟨A_FLOOD, ev_FLOOD⟩ := exa_v hn0
  have E_FLOOD : Exa s s.heap A_FLOOD "com/example/hushed_flood/hushedflood/peer/Strategy" := Exa.start ev_FLOOD hn0
  have S_FLOOD : Sta s s.heap "com/example/hushed_flood/hushedflood/peer/Strategy" "FLOOD" "Lcom/example/hushed_flood/hushedflood/peer/Strategy;" (.ref A_FLOOD) := Sta.start ev_FLOOD (Or.inr ⟨(hw _ (List.mem_of_getElem? (i := 2) rfl)), (hw _ (List.mem_of_getElem? (i := 3) rfl))⟩)
  have F_FLOOD_levels : Fld s s.heap A_FLOOD "com/example/hushed_flood/hushedflood/peer/Strategy" "levels" "I" (.int (0 : Int32)) := Fld.start ((fld_at ev_FLOOD).symm.trans (own_eqI hn1))
  have F_FLOOD_walks : Fld s s.heap A_FLOOD "com/example/hushed_flood/hushedflood/peer/Strategy" "walks" "Z" (.int (0 : Int32)) := Fld.start ((fld_at ev_FLOOD).symm.trans (own_eqI hn2))
  obtain ⟨A_BLOOM, ev_BLOOM⟩ := exa_v hn3
  have E_BLOOM : Exa s s.heap A_BLOOM "com/example/hushed_flood/hushedflood/peer/Strategy" := Exa.start ev_BLOOM hn3
  have S_BLOOM : Sta s s.heap "com/example/hushed_flood/hushedflood/peer/Strategy" "BLOOM" "Lcom/example/hushed_flood/hushedflood/peer/Strategy;" (.ref A_BLOOM) := Sta.start ev_BLOOM (Or.inr ⟨(hw _ (List.mem_of_getElem? (i := 2) rfl)), (hw _ (List.mem_of_getElem? (i := 24) rfl))⟩)
  have F_BLOOM_levels : Fld s s.heap A_BLOOM "com/example/hushed_flood/hushedflood/peer/Strategy" "levels" "I" (.int (2 : Int32)) := Fld.start ((fld_at ev_BLOOM).symm.trans (own_eqI hn4))
  have F_BLOOM_walks : Fld s s.heap A_BLOOM "com/example/hushed_flood/hushedflood/peer/Strategy" "walks" "Z" (.int (1 : Int32)) := Fld.start ((fld_at ev_BLOOM).symm.trans (own_eqI hn5))
  obtain ⟨A_RANDOM_WALK, ev_RANDOM_WALK⟩ := exa_v hn6
  have E_RANDOM_WALK : Exa s s.heap A_RANDOM_WALK "com/example/hushed_flood/hushedflood/peer/Strategy" := Exa.start ev_RANDOM_WALK hn6
  have S_RANDOM_WALK : Sta s s.heap "com/example/hushed_flood/hushedflood/peer/Strategy" "RANDOM_WALK" "Lcom/example/hushed_flood/hushedflood/peer/Strategy;" (.ref A_RANDOM_WALK) := Sta.start ev_RANDOM_WALK (Or.inr ⟨(hw _ (List.mem_of_getElem? (i := 2) rfl)), (hw _ (List.mem_of_getElem? (i := 26) rfl))⟩)
  have F_RANDOM_WALK_levels : Fld s s.heap A_RANDOM_WALK "com/example/hushed_flood/hushedflood/peer/Strategy" "levels" "I" (.int (0 : Int32)) := Fld.start ((fld_at ev_RANDOM_WALK).symm.trans (own_eqI hn7))
  have F_RANDOM_WALK_walks : Fld s s.heap A_RANDOM_WALK "com/example/hushed_flood/hushedflood/peer/Strategy" "walks" "Z" (.int (1 : Int32)) := Fld.start ((fld_at ev_RANDOM_WALK).symm.trans (own_eqI hn8))
  obtain ⟨A_COUNT_INDEX, ev_COUNT_INDEX⟩ := exa_v hn9
  have E_COUNT_INDEX : Exa s s.heap A_COUNT_INDEX "com/example/hushed_flood/hushedflood/peer/Strategy" := Exa.start ev_COUNT_INDEX hn9
  have S_COUNT_INDEX : Sta s s.heap "com/example/hushed_flood/hushedflood/peer/Strategy" "COUNT_INDEX" "Lcom/example/hushed_flood/hushedflood/peer/Strategy;" (.ref A_COUNT_INDEX) := Sta.start ev_COUNT_INDEX (Or.inr ⟨(hw _ (List.mem_of_getElem? (i := 2) rfl)), (hw _ (List.mem_of_getElem? (i := 28) rfl))⟩)
  have F_COUNT_INDEX_levels : Fld s s.heap A_COUNT_INDEX "com/example/hushed_flood/hushedflood/peer/Strategy" "levels" "I" (.int (0 : Int32)) := Fld.start ((fld_at ev_COUNT_INDEX).symm.trans (own_eqI hn10))
  have F_COUNT_INDEX_walks : Fld s s.heap A_COUNT_INDEX "com/example/hushed_flood/hushedflood/peer/Strategy" "walks" "Z" (.int (1 : Int32)) := Fld.start ((fld_at ev_COUNT_INDEX).symm.trans (own_eqI hn11))
  obtain ⟨A_BLOOM_L1, ev_BLOOM_L1⟩ := exa_v hn12
  have E_BLOOM_L1 : Exa s s.heap A_BLOOM_L1 "com/example/hushed_flood/hushedflood/peer/Strategy" := Exa.start ev_BLOOM_L1 hn12
  have S_BLOOM_L1 : Sta s s.heap "com/example/hushed_flood/hushedflood/peer/Strategy" "BLOOM_L1" "Lcom/example/hushed_flood/hushedflood/peer/Strategy;" (.ref A_BLOOM_L1) := Sta.start ev_BLOOM_L1 (Or.inr ⟨(hw _ (List.mem_of_getElem? (i := 2) rfl)), (hw _ (List.mem_of_getElem? (i := 30) rfl))⟩)
  have F_BLOOM_L1_levels : Fld s s.heap A_BLOOM_L1 "com/example/hushed_flood/hushedflood/peer/Strategy" "levels" "I" (.int (1 : Int32)) := Fld.start ((fld_at ev_BLOOM_L1).symm.trans (own_eqI hn13))
  have F_BLOOM_L1_walks : Fld s s.heap A_BLOOM_L1 "com/example/hushed_flood/hushedflood/peer/Strategy" "walks" "Z" (.int (1 : Int32)) := Fld.start ((fld_at ev_BLOOM_L1).symm.trans (own_eqI hn14))
  have rmL : MetFree l x (head1 (Jvm.Cond.code x code maxLocals ret :: tables_1) room_1) (fun a U => a = #[(.int i0)] ∧ s.Warmed39 U.vm ∧ U.heap = s.heap) (fun _ _ _ _ _ => True) (fun _ U o U' => ∃ v L, o = .returned v ∧ Q0 s.heap.size v U'.heap L ∧ FrameEnd U o U' L 0 0) := by
    rcases own_mod5 i0 with h | h | h | h | h
    · exact rm0_0 l s _ hw tables_1 i0 A_FLOOD s.heap s.heap.size (Nat.le_refl _) h E_FLOOD S_FLOOD F_FLOOD_levels F_FLOOD_walks
    · exact rm0_1 l s _ hw tables_1 i0 A_RANDOM_WALK s.heap s.heap.size (Nat.le_refl _) h E_RANDOM_WALK S_RANDOM_WALK F_RANDOM_WALK_levels F_RANDOM_WALK_walks
    · exact rm0_2 l s _ hw tables_1 i0 A_BLOOM_L1 s.heap s.heap.size (Nat.le_refl _) h E_BLOOM_L1 S_BLOOM_L1 F_BLOOM_L1_levels F_BLOOM_L1_walks
    · exact rm0_3 l s _ hw tables_1 i0 A_BLOOM s.heap s.heap.size (Nat.le_refl _) h E_BLOOM S_BLOOM F_BLOOM_levels F_BLOOM_walks
    · exact rm0_4 l s _ hw tables_1 i0 A_COUNT_INDEX s.heap s.heap.size (Nat.le_refl _) h E_COUNT_INDEX S_COUNT_INDEX F_COUNT_INDEX_levels F_COUNT_INDEX_walks
  obtain ⟨n, o, h1, h2, h3, _, L, rfl, ⟨rfl, N⟩, hq⟩ := rmL p e ha hc hk s m _ below hf ((Spec.applies_iff_loose hf).mp happ).1 ⟨rfl, State.Warmed39.refl s, rfl⟩ trivial
  exact ⟨n, _, h1, h2, h3, hpost _ _ _ _ _ _ ⟨Cond.after_iff.mpr rfl, Cond.after_iff.mpr (eq_i res_at (Term.int_eval (1)) rfl), trivial⟩ ⟨hq.1, hq.2.1, (hq.2.2.sift fun y hy => Or.inr (N y hy)).mono (by decide) (by decide)⟩⟩
theorem main_1_1 : Claimed_1_1 := comes_1 fun _ _ _ _ _ _ h hF => ⟨h.1, hF⟩
theorem main_1_2 : Claimed_1_2 := comes_1 fun _ _ _ _ _ _ h hF => ⟨h.2.1, hF⟩
end Jvm.Pilot.@@N@@
namespace Jvm.Pilot.@@N@@
open Jvm Jvm.ClassFile Sem Op Lib Jvm.Free Jvm.Stand Jvm.Pilot.@@N@@.Jvm.D
/-! MADE BY PROGRAM (witnessworld.py) out of the Statement's table words and the real class files: 12 classes; the members and pool entries that the words name. The judged class is class 1, her method 1. -/
namespace start1
open Jvm.ClassFile
def u (s : String) : CpInfo := .utf8 (stringToUtf16 s)
/-- a pool by its gaps: so many unusable entries, then the entry; so many at the end -/
def gap : Nat → List CpInfo → List CpInfo
  | 0, r => r
  | n + 1, r => .unusable :: gap n r
def poolList (es : List (Nat × CpInfo)) (last : Nat) : List CpInfo := es.foldr (fun e r => gap e.1 (e.2 :: r)) (gap last [])
def pool (es : List (Nat × CpInfo)) (last : Nat) : Array CpInfo := ⟨poolList es last⟩
def fileOf (pool : Array CpInfo) (this : Nat) (attrs : Array Attribute := #[]) (ms : Array MethodInfo := #[]) (fl : Nat := 33) (sup : Nat := 0) (ifs : Array Nat := #[]) (fds : Array FieldInfo := #[]) : ClassFile where
  minorVersion := 0
  majorVersion := 65
  constantPool := pool
  accessFlags := fl
  thisClass := this
  superClass := sup
  interfaces := ifs
  fields := fds
  methods := ms
  attributes := attrs
def plain (name : String) (sup : Option ClassId) : Class where
  name := name
  kind := .ordinary
  loader := none
  accessFlags := 33
  super := sup
  interfaces := #[]
  cf := none
  fields := #[]
  methods := #[]
  instanceTypes := #[]
  staticTypes := #[]
  resolved := #[]
  callSites := []
  init := .initialized
  statics := none
  mirror := none

def pool0 : Array CpInfo := pool [(5, u "<init>"), (0, u "()V"), (1, .class_ 10), (1, u "java/lang/Object")] 113

def k0m0 : Method := { name := "<init>", desc := "()V", sig := { parameters := [], returnType := none }, accessFlags := 1, code := none }
/-- java/lang/Object -/
def k0 : Class := { plain "java/lang/Object" none with
  accessFlags := 33
  interfaces := #[]
  cf := some (fileOf pool0 8 #[] #[{ accessFlags := 1, nameIndex := 5, descriptorIndex := 6, attributes := #[] }] 33 0 #[] #[])
  fields := #[]
  methods := #[k0m0]
  instanceTypes := #[]
  staticTypes := #[]
  resolved := Array.replicate 124 none
  statics := none }

def pool1 : Array CpInfo := pool [(2, .class_ 4), (1, u "java/lang/Object"), (0, u "<init>"), (0, u "()V"), (0, .integer 2147483647), (0, .fieldref 9 10), (0, .class_ 11), (0, .nameAndType 12 13), (0, u "com/example/hushed_flood/hushedflood/peer/Strategy"), (0, u "FLOOD"), (0, u "Lcom/example/hushed_flood/hushedflood/peer/Strategy;"), (0, .fieldref 9 15), (0, .nameAndType 16 13), (0, u "RANDOM_WALK"), (0, .fieldref 9 18), (0, .nameAndType 19 13), (0, u "BLOOM_L1"), (0, .fieldref 9 21), (0, .nameAndType 22 13), (0, u "BLOOM"), (0, .fieldref 9 24), (0, .nameAndType 25 13), (0, u "COUNT_INDEX"), (0, .methodref 9 27), (0, .nameAndType 28 29), (0, u "bloom"), (0, u "()Z"), (0, .methodref 9 31), (0, .nameAndType 32 29), (0, u "levelTwo"), (0, .methodref 9 34), (0, .nameAndType 35 29), (0, u "walks"), (0, .class_ 37), (0, u "com/example/hushed_flood/hushedflood/peer/StrategyBloomPinLaw"), (2, u "law"), (0, u "(I)Z")] 3

def k1m0 : Method := { name := "<init>", desc := "()V", sig := { parameters := [], returnType := none }, accessFlags := 2, code := none }
def k1c1 : Code := { maxStack := 2, maxLocals := 7, code := code, exceptionTable := #[], attributes := #[] }
def k1m1 : Method := { name := "law", desc := "(I)Z", sig := { parameters := [.int], returnType := some .boolean }, accessFlags := 9, code := some k1c1 }
/-- com/example/hushed_flood/hushedflood/peer/StrategyBloomPinLaw -/
def k1 : Class := { plain "com/example/hushed_flood/hushedflood/peer/StrategyBloomPinLaw" (some 0) with
  accessFlags := 49
  interfaces := #[]
  cf := some (fileOf pool1 36 #[] #[{ accessFlags := 2, nameIndex := 5, descriptorIndex := 6, attributes := #[] }, { accessFlags := 9, nameIndex := 40, descriptorIndex := 41, attributes := #[] }] 49 2 #[] #[])
  fields := #[]
  methods := #[k1m0, k1m1]
  instanceTypes := #[]
  staticTypes := #[]
  resolved := Array.replicate 45 none
  statics := none }

def pool2 : Array CpInfo := pool [(1, .class_ 2), (0, u "java/lang/constant/Constable"), (0, .class_ 4), (0, u "java/lang/Object")] 6

/-- java/lang/constant/Constable -/
def k2 : Class := { plain "java/lang/constant/Constable" (some 0) with
  accessFlags := 1537
  interfaces := #[]
  cf := some (fileOf pool2 1 #[] #[] 1537 3 #[] #[])
  fields := #[]
  methods := #[]
  instanceTypes := #[]
  staticTypes := #[]
  resolved := Array.replicate 11 none
  statics := none }

def pool3 : Array CpInfo := pool [(1, .class_ 2), (0, u "java/lang/Comparable"), (0, .class_ 4), (0, u "java/lang/Object")] 7

/-- java/lang/Comparable -/
def k3 : Class := { plain "java/lang/Comparable" (some 0) with
  accessFlags := 1537
  interfaces := #[]
  cf := some (fileOf pool3 1 #[] #[] 1537 3 #[] #[])
  fields := #[]
  methods := #[]
  instanceTypes := #[]
  staticTypes := #[]
  resolved := Array.replicate 12 none
  statics := none }

def pool4 : Array CpInfo := pool [(1, .class_ 2), (0, u "java/io/Serializable"), (0, .class_ 4), (0, u "java/lang/Object")] 2

/-- java/io/Serializable -/
def k4 : Class := { plain "java/io/Serializable" (some 0) with
  accessFlags := 1537
  interfaces := #[]
  cf := some (fileOf pool4 1 #[] #[] 1537 3 #[] #[])
  fields := #[]
  methods := #[]
  instanceTypes := #[]
  staticTypes := #[]
  resolved := Array.replicate 7 none
  statics := none }

def pool5 : Array CpInfo := pool [(2, .class_ 4), (1, u "java/lang/Enum"), (0, u "name"), (0, u "Ljava/lang/String;"), (2, u "ordinal"), (0, u "I"), (1, .class_ 14), (1, u "java/lang/Object"), (4, u "hash"), (86, .class_ 108), (1, u "java/lang/Enum$EnumDesc"), (2, .class_ 112), (0, u "java/lang/constant/Constable"), (0, .class_ 114), (0, u "java/lang/Comparable"), (0, .class_ 116), (0, u "java/io/Serializable")] 87

/-- java/lang/Enum -/
def k5 : Class := { plain "java/lang/Enum" (some 0) with
  accessFlags := 1057
  interfaces := #[2, 3, 4]
  cf := some (fileOf pool5 2 #[.nestMembers #[106]] #[] 1057 12 #[111, 113, 115] #[{ accessFlags := 18, nameIndex := 5, descriptorIndex := 6, attributes := #[] }, { accessFlags := 18, nameIndex := 9, descriptorIndex := 10, attributes := #[] }, { accessFlags := 2, nameIndex := 19, descriptorIndex := 10, attributes := #[] }])
  fields := #[{ name := "name", type := (.object "java/lang/String"), accessFlags := 18, slot := 0, constantValue := 0 }, { name := "ordinal", type := .int, accessFlags := 18, slot := 1, constantValue := 0 }, { name := "hash", type := .int, accessFlags := 2, slot := 2, constantValue := 0 }]
  methods := #[]
  instanceTypes := #[(.object "java/lang/String"), .int, .int]
  staticTypes := #[]
  resolved := Array.replicate 204 none
  statics := none }

def pool6 : Array CpInfo := pool [(1, .class_ 2), (0, u "com/example/hushed_flood/hushedflood/peer/Strategy"), (2, u "FLOOD"), (0, u "Lcom/example/hushed_flood/hushedflood/peer/Strategy;"), (2, u "RANDOM_WALK"), (2, u "BLOOM_L1"), (2, u "BLOOM"), (2, u "COUNT_INDEX"), (2, u "$VALUES"), (0, u "[Lcom/example/hushed_flood/hushedflood/peer/Strategy;"), (6, .class_ 31), (1, u "java/lang/Enum"), (8, u "label"), (0, u "Ljava/lang/String;"), (2, u "code"), (0, u "I"), (0, .fieldref 1 47), (0, .nameAndType 48 49), (0, u "walks"), (0, u "Z"), (0, .fieldref 1 51), (0, .nameAndType 52 45), (0, u "levels"), (2, u "counts"), (34, u "bloom"), (14, u "()Z"), (1, u "levelTwo")] 11

def k6c0 : Code := { maxStack := 1, maxLocals := 1, code := prog_41_method_6_code, exceptionTable := #[], attributes := #[] }
def k6m0 : Method := { name := "walks", desc := "()Z", sig := { parameters := [], returnType := some .boolean }, accessFlags := 1, code := some k6c0 }
def k6c1 : Code := { maxStack := 2, maxLocals := 1, code := prog_41_method_7_code, exceptionTable := #[], attributes := #[] }
def k6m1 : Method := { name := "bloom", desc := "()Z", sig := { parameters := [], returnType := some .boolean }, accessFlags := 1, code := some k6c1 }
def k6c2 : Code := { maxStack := 2, maxLocals := 1, code := prog_41_method_8_code, exceptionTable := #[], attributes := #[] }
def k6m2 : Method := { name := "levelTwo", desc := "()Z", sig := { parameters := [], returnType := some .boolean }, accessFlags := 1, code := some k6c2 }
/-- com/example/hushed_flood/hushedflood/peer/Strategy -/
def k6 : Class := { plain "com/example/hushed_flood/hushedflood/peer/Strategy" (some 5) with
  accessFlags := 16433
  interfaces := #[]
  cf := some (fileOf pool6 1 #[] #[{ accessFlags := 1, nameIndex := 48, descriptorIndex := 105, attributes := #[] }, { accessFlags := 1, nameIndex := 90, descriptorIndex := 105, attributes := #[] }, { accessFlags := 1, nameIndex := 107, descriptorIndex := 105, attributes := #[] }] 16433 29 #[] #[{ accessFlags := 16409, nameIndex := 5, descriptorIndex := 6, attributes := #[] }, { accessFlags := 16409, nameIndex := 9, descriptorIndex := 6, attributes := #[] }, { accessFlags := 16409, nameIndex := 12, descriptorIndex := 6, attributes := #[] }, { accessFlags := 16409, nameIndex := 15, descriptorIndex := 6, attributes := #[] }, { accessFlags := 16409, nameIndex := 18, descriptorIndex := 6, attributes := #[] }, { accessFlags := 18, nameIndex := 40, descriptorIndex := 41, attributes := #[] }, { accessFlags := 18, nameIndex := 44, descriptorIndex := 45, attributes := #[] }, { accessFlags := 18, nameIndex := 48, descriptorIndex := 49, attributes := #[] }, { accessFlags := 18, nameIndex := 52, descriptorIndex := 45, attributes := #[] }, { accessFlags := 18, nameIndex := 55, descriptorIndex := 49, attributes := #[] }, { accessFlags := 4122, nameIndex := 21, descriptorIndex := 22, attributes := #[] }])
  fields := #[{ name := "FLOOD", type := (.object "com/example/hushed_flood/hushedflood/peer/Strategy"), accessFlags := 16409, slot := 0, constantValue := 0 }, { name := "RANDOM_WALK", type := (.object "com/example/hushed_flood/hushedflood/peer/Strategy"), accessFlags := 16409, slot := 1, constantValue := 0 }, { name := "BLOOM_L1", type := (.object "com/example/hushed_flood/hushedflood/peer/Strategy"), accessFlags := 16409, slot := 2, constantValue := 0 }, { name := "BLOOM", type := (.object "com/example/hushed_flood/hushedflood/peer/Strategy"), accessFlags := 16409, slot := 3, constantValue := 0 }, { name := "COUNT_INDEX", type := (.object "com/example/hushed_flood/hushedflood/peer/Strategy"), accessFlags := 16409, slot := 4, constantValue := 0 }, { name := "label", type := (.object "java/lang/String"), accessFlags := 18, slot := 3, constantValue := 0 }, { name := "code", type := .int, accessFlags := 18, slot := 4, constantValue := 0 }, { name := "walks", type := .boolean, accessFlags := 18, slot := 5, constantValue := 0 }, { name := "levels", type := .int, accessFlags := 18, slot := 6, constantValue := 0 }, { name := "counts", type := .boolean, accessFlags := 18, slot := 7, constantValue := 0 }, { name := "$VALUES", type := (.array (.object "com/example/hushed_flood/hushedflood/peer/Strategy")), accessFlags := 4122, slot := 5, constantValue := 0 }]
  methods := #[k6m0, k6m1, k6m2]
  instanceTypes := #[(.object "java/lang/String"), .int, .int, (.object "java/lang/String"), .int, .boolean, .int, .boolean]
  staticTypes := #[(.object "com/example/hushed_flood/hushedflood/peer/Strategy"), (.object "com/example/hushed_flood/hushedflood/peer/Strategy"), (.object "com/example/hushed_flood/hushedflood/peer/Strategy"), (.object "com/example/hushed_flood/hushedflood/peer/Strategy"), (.object "com/example/hushed_flood/hushedflood/peer/Strategy"), (.array (.object "com/example/hushed_flood/hushedflood/peer/Strategy"))]
  resolved := Array.replicate 119 none
  statics := some 0 }

def pool7 : Array CpInfo := pool [(1, u "java/lang/Cloneable"), (0, .class_ 1), (0, u "java/lang/Object"), (0, .class_ 3)] 3

/-- java/lang/Cloneable -/
def k7 : Class := { plain "java/lang/Cloneable" (some 0) with
  accessFlags := 1537
  interfaces := #[]
  cf := some (fileOf pool7 2 #[] #[] 1537 4 #[] #[])
  fields := #[]
  methods := #[]
  instanceTypes := #[]
  staticTypes := #[]
  resolved := Array.replicate 8 none
  statics := none }

/-- the primitive byte -/
def k8 : Class := { plain "byte" none with kind := .primitive 'B', accessFlags := 0x411 }
/-- [B -/
def k9 : Class := { plain "[B" (some 0) with kind := .array 8 .byte, interfaces := #[7, 4], accessFlags := 1041 }

/-- the primitive int -/
def k10 : Class := { plain "int" none with kind := .primitive 'I', accessFlags := 0x411 }
/-- [I -/
def k11 : Class := { plain "[I" (some 0) with kind := .array 10 .int, interfaces := #[7, 4], accessFlags := 1041 }

def heap : Heap := #[{ cls := 6, slots := #[.ref 1, .ref 3, .ref 5, .ref 2, .ref 4, .null], vm := .statics 6 },
  { cls := 6, slots := #[.null, .int 0, .int 0, .null, .int 0, .int 0, .int 0, .int 0], vm := .none },
  { cls := 6, slots := #[.null, .int 0, .int 0, .null, .int 0, .int 1, .int 2, .int 0], vm := .none },
  { cls := 6, slots := #[.null, .int 0, .int 0, .null, .int 0, .int 1, .int 0, .int 0], vm := .none },
  { cls := 6, slots := #[.null, .int 0, .int 0, .null, .int 0, .int 1, .int 0, .int 0], vm := .none },
  { cls := 6, slots := #[.null, .int 0, .int 0, .null, .int 0, .int 1, .int 1, .int 0], vm := .none }]
def classes : Array Class := #[k0, k1, k2, k3, k4, k5, k6, k7, k8, k9, k10, k11]
def interned : List (Array UInt16 × Addr) := []
def slotsUsed : Nat := 46
def theMethod : MethodId := ⟨1, 1⟩
def args0 : Array Value := #[.int 5]
def aboutOver (below : List Frame) : State where
  vm := { classes := classes, interned := interned.toArray }
  heap := heap
  slotsUsed := slotsUsed
  threads := #[{ frames := .invoking theMethod args0 :: below }]
def below0 : List Frame := [.native { method := ⟨0, 0⟩, args := #[] }]
def about1 : State := aboutOver below0
def p0 : Program := .bare "" "" ""
def e0 : Env := launch0.env 0 0 0
theorem w_frames : about1.frames = Frame.invoking theMethod args0 :: below0 := rfl
set_option maxRecDepth 65536 in
theorem w_args : argsFit about1.vm theMethod args0 = true := by decide +kernel
set_option maxRecDepth 65536 in
theorem w_heap : heapFits about1 = true := by decide +kernel
set_option maxRecDepth 65536 in
theorem w_runnable : about1.curStatus? = some .runnable := by decide +kernel
set_option maxRecDepth 65536 in
theorem w_alone : about1.alone = true := by decide +kernel
set_option maxRecDepth 65536 in
theorem w_named : about1.methodNamed? x = some theMethod := by decide +kernel
set_option maxRecDepth 65536 in
theorem w_hears : about1.hears theMethod below0 = true := by decide +kernel
set_option maxRecDepth 65536 in
theorem w_ripe : about1.ripe theMethod args0 below0 = true := by decide +kernel
theorem w_running : about1.status = .running := rfl
set_option maxRecDepth 65536 in
theorem w_room : about1.hasRoom e0.platform room_1 = true :=
  launch0.hasRoom_least _ room_1 (by decide +kernel) (by decide +kernel) (by decide +kernel) (by decide +kernel) (by decide +kernel) (by decide +kernel)
theorem allAtoms_all (ts : List Jvm.Cond) (a : Array Jvm.Value) (st : Jvm.State) : (allAtoms ts).before a st = ts.all (fun c => c.before a st) := by
  induction ts with
  | nil => rfl
  | cons c t ih =>
    show (Jvm.Cond.and c (allAtoms t)).before a st = _
    rw [Jvm.Cond.before_and, ih, List.all_cons]
def words1 : List Jvm.Cond := Jvm.Cond.code x code maxLocals ret :: tables_1
/-- a 'code' word, met by the world's own term for the bytes: nothing is compared byte by byte -/
theorem code_word {y : MethodName} {bytes : ByteArray} {mx : Nat} {rt : Option FieldType} {a : Array Value} {s : State} {m : MethodId} {meth : Method} {c : Code} (h1 : s.methodNamed? y = some m) (h2 : s.vm.method? m = some meth) (h3 : meth.code = some c) (h4 : c.code = bytes)
    (h5 : (c.maxLocals == mx && c.exceptionTable.isEmpty && decide (c.maxStack ≤ mostOperands) && decide (meth.sig.returnType = rt) && !meth.locks && decide (parseMethodDescriptor y.desc = some meth.sig)) = true) : (Jvm.Cond.code y bytes mx rt).before a s = true := by
  simp only [Bool.and_eq_true, beq_iff_eq, Bool.not_eq_true', decide_eq_true_eq] at h5
  obtain ⟨⟨⟨⟨⟨g1, g2⟩, g3⟩, g4⟩, g5⟩, g6⟩ := h5
  simp [Cond.before, Cond.holds, Cond.value, h1, h2, h3, h4, g1, g2, g3, g4, g5, g6]
def isCode : Jvm.Cond → Bool
  | .code _ _ _ _ => true
  | _ => false
theorem all_split {L : List Jvm.Cond} {P : Jvm.Cond → Bool} (h1 : L.all (fun c => isCode c || P c) = true) (h2 : ∀ c ∈ L.filter isCode, P c = true) : L.all P = true := by
  refine List.all_eq_true.mpr fun c hc => ?_
  have h := List.all_eq_true.mp h1 c hc
  rcases Bool.eq_false_or_eq_true (isCode c) with hi | hi
  · exact h2 c (List.mem_filter.mpr ⟨hc, hi⟩)
  · simpa [hi] using h
set_option maxRecDepth 65536 in
theorem w_c0 : (Jvm.Cond.code x code maxLocals ret).before args0 about1 = true := code_word (m := ⟨1, 1⟩) (meth := k1m1) (c := k1c1) (by decide +kernel) rfl rfl rfl (by decide +kernel)
set_option maxRecDepth 65536 in
theorem w_c1 : (Jvm.Cond.code ({ cls := "com/example/hushed_flood/hushedflood/peer/Strategy", name := "bloom", desc := "()Z" } : Jvm.MethodName) prog_41_method_7_code (1 : Nat) (Option.some Jvm.ClassFile.FieldType.boolean)).before args0 about1 = true := code_word (m := ⟨6, 1⟩) (meth := k6m1) (c := k6c1) (by decide +kernel) rfl rfl rfl (by decide +kernel)
set_option maxRecDepth 65536 in
theorem w_c2 : (Jvm.Cond.code ({ cls := "com/example/hushed_flood/hushedflood/peer/Strategy", name := "levelTwo", desc := "()Z" } : Jvm.MethodName) prog_41_method_8_code (1 : Nat) (Option.some Jvm.ClassFile.FieldType.boolean)).before args0 about1 = true := code_word (m := ⟨6, 2⟩) (meth := k6m2) (c := k6c2) (by decide +kernel) rfl rfl rfl (by decide +kernel)
set_option maxRecDepth 65536 in
theorem w_c3 : (Jvm.Cond.code ({ cls := "com/example/hushed_flood/hushedflood/peer/Strategy", name := "walks", desc := "()Z" } : Jvm.MethodName) prog_41_method_6_code (1 : Nat) (Option.some Jvm.ClassFile.FieldType.boolean)).before args0 about1 = true := code_word (m := ⟨6, 0⟩) (meth := k6m0) (c := k6c0) (by decide +kernel) rfl rfl rfl (by decide +kernel)
def codes1 : List Jvm.Cond := [Jvm.Cond.code x code maxLocals ret, Jvm.Cond.code ({ cls := "com/example/hushed_flood/hushedflood/peer/Strategy", name := "bloom", desc := "()Z" } : Jvm.MethodName) prog_41_method_7_code (1 : Nat) (Option.some Jvm.ClassFile.FieldType.boolean), Jvm.Cond.code ({ cls := "com/example/hushed_flood/hushedflood/peer/Strategy", name := "levelTwo", desc := "()Z" } : Jvm.MethodName) prog_41_method_8_code (1 : Nat) (Option.some Jvm.ClassFile.FieldType.boolean), Jvm.Cond.code ({ cls := "com/example/hushed_flood/hushedflood/peer/Strategy", name := "walks", desc := "()Z" } : Jvm.MethodName) prog_41_method_6_code (1 : Nat) (Option.some Jvm.ClassFile.FieldType.boolean)]
set_option maxRecDepth 65536 in
theorem codes_eq : words1.filter isCode = codes1 := rfl
theorem w_codes : ∀ c ∈ words1.filter isCode, c.before args0 about1 = true := by
  rw [codes_eq]
  intro c hc
  simp only [codes1, List.mem_cons, List.not_mem_nil, or_false] at hc
  rcases hc with rfl | rfl | rfl | rfl
  · exact w_c0
  · exact w_c1
  · exact w_c2
  · exact w_c3
set_option maxRecDepth 65536 in
theorem w_t1 : (words1.take 24).all (fun c => isCode c || c.before args0 about1) = true := by decide +kernel
set_option maxRecDepth 65536 in
theorem w_t2 : (words1.drop 24).all (fun c => isCode c || c.before args0 about1) = true := by decide +kernel
theorem w_tables : (allAtoms (Jvm.Cond.code x code maxLocals ret :: tables_1)).before args0 about1 = true := by
  rw [allAtoms_all]
  show words1.all (fun c => c.before args0 about1) = true
  refine all_split ?_ w_codes
  rw [← List.take_append_drop 24 words1, List.all_append, w_t1, w_t2]
  rfl
set_option maxRecDepth 65536 in
theorem w_case : (Jvm.Cond.and given_1 narrow_1).before args0 about1 = true := by decide +kernel
theorem w_applies : (headSpec (Jvm.Cond.code x code maxLocals ret :: tables_1) room_1).applies x e0.platform about1 = true :=
  (Spec.applies_iff w_frames).mpr ⟨w_running, w_runnable, w_alone, w_named, w_hears, w_ripe, w_room, w_tables⟩
theorem atStart : AtStart classFile x code maxLocals ret World_1 tables_1 room_1 Calls_1 rest_1 Pre_1 launch0 p0 e0 about1 theMethod args0 below0 :=
  ⟨lists_1, trivial, launch0.admits_env _ _ _, launch0.least_env, fairChoices_fair.cas, fairChoices_fair.clock, w_frames, w_args, w_heap, w_applies, trivial, trivial, w_case⟩
end start1
theorem witness_1 : WitnessClaimed_1 := ⟨start1.p0, start1.e0, start1.about1, start1.theMethod, start1.args0, start1.below0, start1.atStart⟩
end Jvm.Pilot.@@N@@
