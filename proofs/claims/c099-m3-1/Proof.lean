import JvmDerived
import JvmDerived.Pilot.@@N@@Statement
import JvmDerived.Pilot.@@N@@Code
set_option linter.unusedVariables false
set_option linter.unusedSimpArgs false
@@BLOCK:NumsL.lean.txt@@
namespace Jvm.Pilot.@@N@@
open Jvm Jvm.ClassFile Sem Op Lib Jvm.Free Jvm.Stand Jvm.LawKit Jvm.RoadKit Bundle Jvm.Pilot.@@N@@.Jvm.D
/-- the run from here comes to an end of which P speaks -/
def own_Run (tb : Tables) (e : Env) (below : List Frame) (T : State) (g : JFrame) (P : Outcome → State → Prop) : Prop :=
  ∃ s₂ o, Steps tb e below (T.setTop g) s₂ ∧ s₂.status = .running ∧ Ended s₂ below o ∧ P o s₂
theorem own_start {tb : Tables} {e : Env} {below : List Frame} {T : State} {g : JFrame} {Pd : Outcome → State → Prop} (h : ∀ P : Outcome → State → Prop, (∀ o U, Pd o U → P o U) → own_Run tb e below T g P) : ∃ s₂ o, Steps tb e below (T.setTop g) s₂ ∧ s₂.status = .running ∧ Ended s₂ below o ∧ Pd o s₂ := h Pd fun _ _ q => q
theorem own_step {tb : Tables} {e : Env} {below : List Frame} {T T' : State} {g g' : JFrame} {P : Outcome → State → Prop} (h : ∀ t, Steps tb e below (T'.setTop g') t → Steps tb e below (T.setTop g) t) (k : own_Run tb e below T' g' P) : own_Run tb e below T g P := by
  obtain ⟨a, b, h1, h2⟩ := k
  exact ⟨a, b, h _ h1, h2⟩
theorem own_to {tb : Tables} {e : Env} {below : List Frame} {T T' : State} {g g' : JFrame} {P : Outcome → State → Prop} (h : Steps tb e below (T.setTop g) (T'.setTop g')) (k : own_Run tb e below T' g' P) : own_Run tb e below T g P := by
  obtain ⟨a, b, h1, h2⟩ := k
  exact ⟨a, b, h.trans h1, h2⟩
section Ret
variable {p : Program} {l : Launch} {e : Env} {R : Room} {s : State} {m : MethodId} {args : Array Value} {below : List Frame} {meth : Method} {c : Code} {T : State} {locs : List Loc} {cells slots : Nat}
theorem own_retI (X : Stand p l e R s m args below meth c T locs cells slots) (hx : p.tables.exec = Jvm.exec) {pc : Nat} {Ls : Array Slot} {z : Int32} {rest : List Value} (hret : meth.sig.returnType = some .int) (hd : decode c.code pc = .ok (.ireturn, 1)) {fs : List Frame}
    (hl : ∀ (f : JFrame) (acts : List Action), f.method = m → f.locked = none → f.entered = [] → (doReturn e (T.setTop f) acts (some (.int z))).1 = T.setFrames fs) : Steps p.tables e below (T.setTop (mkF m pc Ls (.int z :: rest))) (T.setFrames fs) :=
  retOut X hx hret rfl (Or.inl ⟨rfl, Or.inl rfl, _, rfl⟩) hd hl
theorem own_retJ (X : Stand p l e R s m args below meth c T locs cells slots) (hx : p.tables.exec = Jvm.exec) {pc : Nat} {Ls : Array Slot} {z : Int64} {rest : List Value} (hret : meth.sig.returnType = some .long) (hd : decode c.code pc = .ok (.lreturn, 1)) {fs : List Frame}
    (hl : ∀ (f : JFrame) (acts : List Action), f.method = m → f.locked = none → f.entered = [] → (doReturn e (T.setTop f) acts (some (.long z))).1 = T.setFrames fs) : Steps p.tables e below (T.setTop (mkF m pc Ls (.long z :: rest))) (T.setFrames fs) :=
  retOut X hx hret rfl (Or.inr (Or.inl ⟨rfl, rfl, _, rfl⟩)) hd hl
theorem own_retR (X : Stand p l e R s m args below meth c T locs cells slots) (hx : p.tables.exec = Jvm.exec) {pc : Nat} {Ls : Array Slot} {w : Value} {t : FieldType} {rest : List Value} (hret : meth.sig.returnType = some t) (ht : t.isReference = true) (hw : w.isRef = true) (hn : narrow t w = w) (hd : decode c.code pc = .ok (.areturn, 1)) {fs : List Frame}
    (hl : ∀ (f : JFrame) (acts : List Action), f.method = m → f.locked = none → f.entered = [] → (doReturn e (T.setTop f) acts (some w)).1 = T.setFrames fs) : Steps p.tables e below (T.setTop (mkF m pc Ls (w :: rest))) (T.setFrames fs) :=
  retOut X hx hret hn (Or.inr (Or.inr (Or.inr (Or.inr ⟨rfl, ht, hw⟩)))) hd hl
theorem own_retZ (X : Stand p l e R s m args below meth c T locs cells slots) (hx : p.tables.exec = Jvm.exec) {pc : Nat} {Ls : Array Slot} {z z' : Int32} {t : FieldType} {rest : List Value} (hret : meth.sig.returnType = some t) (ht : t = .boolean ∨ t = .byte ∨ t = .char ∨ t = .short) (hz : nar t z = z') (hd : decode c.code pc = .ok (.ireturn, 1)) {fs : List Frame}
    (hl : ∀ (f : JFrame) (acts : List Action), f.method = m → f.locked = none → f.entered = [] → (doReturn e (T.setTop f) acts (some (.int z'))).1 = T.setFrames fs) : Steps p.tables e below (T.setTop (mkF m pc Ls (.int z :: rest))) (T.setFrames fs) :=
  retN X hx hret ht hd (by rw [hz]; exact hl)
end Ret
theorem own_eqI {t : Term} {k : Int32} {args : Array Value} {s : State} {idx : List Nat} (h : (Jvm.Cond.eq t (.int k)).value args s none s idx = some true) : t.eval args s none idx s = some (.int k) :=
  Jvm.Cond.eq_int (b := .int k) (by simp [Jvm.Cond.holds, h]) rfl
theorem own_mod5 (x : Int32) : (x &&& 2147483647) % 5 = 0 ∨ (x &&& 2147483647) % 5 = 1 ∨ (x &&& 2147483647) % 5 = 2 ∨ (x &&& 2147483647) % 5 = 3 ∨ (x &&& 2147483647) % 5 = 4 := by
  have hb : 0 ≤ ((x &&& 2147483647) % 5).toInt ∧ ((x &&& 2147483647) % 5).toInt < 5 := by
    have h1 : (x &&& 2147483647).toInt = x.toInt % 2 ^ 31 := Jvm.Kit.i32_mask x 2147483647 (k := 31) (by decide) (by decide)
    have h2 : ((x &&& 2147483647) % 5).toInt = (x &&& 2147483647).toInt % (5 : Int32).toInt := Jvm.Kit.i32_rem_nonneg (by rw [h1]; exact Int.emod_nonneg _ (by decide))
    have h3 : (5 : Int32).toInt = 5 := rfl
    rw [h2, h3]
    omega
  have hd : ((x &&& 2147483647) % 5).toInt = 0 ∨ ((x &&& 2147483647) % 5).toInt = 1 ∨ ((x &&& 2147483647) % 5).toInt = 2 ∨ ((x &&& 2147483647) % 5).toInt = 3 ∨ ((x &&& 2147483647) % 5).toInt = 4 := by omega
  rcases hd with h | h | h | h | h
  · exact (Or.inl (Int32.toInt_inj.mp (h.trans rfl)))
  · exact (Or.inr (Or.inl (Int32.toInt_inj.mp (h.trans rfl))))
  · exact (Or.inr (Or.inr (Or.inl (Int32.toInt_inj.mp (h.trans rfl)))))
  · exact (Or.inr (Or.inr (Or.inr (Or.inl (Int32.toInt_inj.mp (h.trans rfl))))))
  · exact (Or.inr (Or.inr (Or.inr (Or.inr (Int32.toInt_inj.mp (h.trans rfl))))))
def Q1 (a : Addr) (h0 : Heap) (n0 : Nat) (v : Option Value) (h : Heap) (L : List Loc) : Prop := v = some (.ref a) ∧ Fr n0 L ∧ h = h0
theorem d1_0 : decode method_2_code 0 = .ok (.iload_n 0, 1) := by decide +kernel
theorem d1_1 : decode method_2_code 1 = .ok (.ifCond .ne 7, 3) := by decide +kernel
theorem d1_4 : decode method_2_code 4 = .ok (.getstatic 7, 3) := by decide +kernel
theorem d1_7 : decode method_2_code 7 = .ok (.areturn, 1) := by decide +kernel
theorem d1_8 : decode method_2_code 8 = .ok (.iload_n 0, 1) := by decide +kernel
theorem d1_9 : decode method_2_code 9 = .ok (.iconst 1, 1) := by decide +kernel
theorem d1_10 : decode method_2_code 10 = .ok (.if_icmp .ne 7, 3) := by decide +kernel
theorem d1_13 : decode method_2_code 13 = .ok (.getstatic 13, 3) := by decide +kernel
theorem d1_16 : decode method_2_code 16 = .ok (.areturn, 1) := by decide +kernel
theorem d1_17 : decode method_2_code 17 = .ok (.iload_n 0, 1) := by decide +kernel
theorem d1_18 : decode method_2_code 18 = .ok (.iconst 2, 1) := by decide +kernel
theorem d1_19 : decode method_2_code 19 = .ok (.if_icmp .ne 7, 3) := by decide +kernel
theorem d1_22 : decode method_2_code 22 = .ok (.getstatic 16, 3) := by decide +kernel
theorem d1_25 : decode method_2_code 25 = .ok (.areturn, 1) := by decide +kernel
theorem d1_26 : decode method_2_code 26 = .ok (.iload_n 0, 1) := by decide +kernel
theorem d1_27 : decode method_2_code 27 = .ok (.iconst 3, 1) := by decide +kernel
theorem d1_28 : decode method_2_code 28 = .ok (.if_icmp .ne 7, 3) := by decide +kernel
theorem d1_31 : decode method_2_code 31 = .ok (.getstatic 19, 3) := by decide +kernel
theorem d1_34 : decode method_2_code 34 = .ok (.areturn, 1) := by decide +kernel
theorem d1_35 : decode method_2_code 35 = .ok (.getstatic 22, 3) := by decide +kernel
theorem d1_38 : decode method_2_code 38 = .ok (.areturn, 1) := by decide +kernel
set_option maxRecDepth 65536 in
set_option maxHeartbeats 40000000 in
theorem rm1_0 (l : Launch) (Z : State) (a0 : Array Value) (hw : ∀ d ∈ tables_1, d.before a0 Z = true) (ws : List Jvm.Cond) (a1 : Addr) (h0 : Heap) (n0 : Nat) (Z0 : n0 ≤ h0.size) (S1 : Sta Z h0 "com/example/hushed_flood/hushedflood/peer/Strategy" "FLOOD" "Lcom/example/hushed_flood/hushedflood/peer/Strategy;" (.ref a1)) :
    MetFree l (⟨"com/example/hushed_flood/hushedflood/peer/StrategyLevelTwoPinLaw", "pick", "(I)Lcom/example/hushed_flood/hushedflood/peer/Strategy;"⟩ : MethodName) (head1 (Jvm.Cond.code (⟨"com/example/hushed_flood/hushedflood/peer/StrategyLevelTwoPinLaw", "pick", "(I)Lcom/example/hushed_flood/hushedflood/peer/Strategy;"⟩ : MethodName) method_2_code 1 (some (.object "com/example/hushed_flood/hushedflood/peer/Strategy")) :: ws) ({ frames := 0, cells := 0, slots := 0, locals := 0 } : Room)) (fun a U => a = #[(.int (0 : Int32))] ∧ Z.Warmed39 U.vm ∧ U.heap = h0) (fun _ _ _ _ _ => True) (fun _ U o U' => ∃ v L, o = .returned v ∧ Q1 a1 h0 n0 v U'.heap L ∧ FrameEnd U o U' L 0 0) := by
  refine MetFree.of_bodySF (plainFor_of_name (by first | (simp [plainName, overriddenIn]; done) | decide +kernel)) hisR ?_
  intro p e s m args below meth c s₁ Bd hml0 hP hK
  obtain ⟨rfl, hZ, hh⟩ := hP
  have hx := Bd.exec
  have hby := Bd.bytes
  have hml : c.maxLocals = 1 := hml0
  have hown : s.vm.findClass "com/example/hushed_flood/hushedflood/peer/StrategyLevelTwoPinLaw" = some m.cls := findClass_of_methodNamed Bd.named
  have hnm := (name_of_methodNamed Bd.named Bd.method).1
  have X0 : Stand p l e ({ frames := 0, cells := 0, slots := 0, locals := 0 } : Room) s m #[(.int (0 : Int32))] below meth c s₁ [] 0 0 := Stand.of_body Bd
  have e0 : s₁.heap = h0 := by rw [← hh, Bd.state]; rfl
  have N0 := Fr.nil n0
  have ef : entryFrame m #[(.int (0 : Int32))] 1 = (mkF m 0 #[.val (.int (0 : Int32))] []) := by first | (simp [entryFrame, mkF, argsToLocals, Value.category]; done) | rfl
  refine own_start (fun P hPP => ?_)
  refine own_step (T' := s₁) (g' := (mkF m 0 #[.val (.int (0 : Int32))] [])) (fun t_ k_ => castTop ef k_) ?_
  refine own_step (T' := s₁) (g' := (mkF m 1 #[.val (.int (0 : Int32))] [(.int (0 : Int32))])) (fun t_ k_ => XS.iloadN X0.here hx rfl (hb hby d1_0) rfl k_) ?_
  refine own_step (T' := s₁) (g' := (mkF m 4 #[.val (.int (0 : Int32))] [])) (fun t_ k_ => XS.ifNo X0.here hx rfl (hb hby d1_1) rfl ((if0 _ _).trans (teq (by decide)).2) k_) ?_
  obtain ⟨T1, X1, e1, st1⟩ := getS2 X0 hx hZ hown (host := "") (Or.inl (hw _ (List.mem_of_getElem? (i := 5) rfl))) Via.refl e0 S1 (g := (mkF m 4 #[.val (.int (0 : Int32))] [])) rfl (hb hby d1_4)
  refine own_step (T' := T1) (g' := (mkF m 7 #[.val (.int (0 : Int32))] [(.ref a1)])) st1 ?_
  obtain ⟨fs, hrR, hrun, hended, hWW, hsame⟩ := X1.leave (v := some (.ref a1)) (fun h => by rw [Bd.returns] at h; cases h)
  refine ⟨_, _, own_retR X1 hx Bd.returns rfl rfl rfl (hb hby d1_7) hrR, hrun, hended, hPP _ _ ⟨_, _, rfl, ?_, ⟨_, rfl⟩, hWW, hsame.mono (by decide) (by decide)⟩⟩
  show Q1 a1 h0 n0 _ T1.heap _
  rw [e1]
  exact ⟨rfl, N0, rfl⟩
set_option maxRecDepth 65536 in
set_option maxHeartbeats 40000000 in
theorem rm1_1 (l : Launch) (Z : State) (a0 : Array Value) (hw : ∀ d ∈ tables_1, d.before a0 Z = true) (ws : List Jvm.Cond) (a1 : Addr) (h0 : Heap) (n0 : Nat) (Z0 : n0 ≤ h0.size) (S1 : Sta Z h0 "com/example/hushed_flood/hushedflood/peer/Strategy" "RANDOM_WALK" "Lcom/example/hushed_flood/hushedflood/peer/Strategy;" (.ref a1)) :
    MetFree l (⟨"com/example/hushed_flood/hushedflood/peer/StrategyLevelTwoPinLaw", "pick", "(I)Lcom/example/hushed_flood/hushedflood/peer/Strategy;"⟩ : MethodName) (head1 (Jvm.Cond.code (⟨"com/example/hushed_flood/hushedflood/peer/StrategyLevelTwoPinLaw", "pick", "(I)Lcom/example/hushed_flood/hushedflood/peer/Strategy;"⟩ : MethodName) method_2_code 1 (some (.object "com/example/hushed_flood/hushedflood/peer/Strategy")) :: ws) ({ frames := 0, cells := 0, slots := 0, locals := 0 } : Room)) (fun a U => a = #[(.int (1 : Int32))] ∧ Z.Warmed39 U.vm ∧ U.heap = h0) (fun _ _ _ _ _ => True) (fun _ U o U' => ∃ v L, o = .returned v ∧ Q1 a1 h0 n0 v U'.heap L ∧ FrameEnd U o U' L 0 0) := by
  refine MetFree.of_bodySF (plainFor_of_name (by first | (simp [plainName, overriddenIn]; done) | decide +kernel)) hisR ?_
  intro p e s m args below meth c s₁ Bd hml0 hP hK
  obtain ⟨rfl, hZ, hh⟩ := hP
  have hx := Bd.exec
  have hby := Bd.bytes
  have hml : c.maxLocals = 1 := hml0
  have hown : s.vm.findClass "com/example/hushed_flood/hushedflood/peer/StrategyLevelTwoPinLaw" = some m.cls := findClass_of_methodNamed Bd.named
  have hnm := (name_of_methodNamed Bd.named Bd.method).1
  have X0 : Stand p l e ({ frames := 0, cells := 0, slots := 0, locals := 0 } : Room) s m #[(.int (1 : Int32))] below meth c s₁ [] 0 0 := Stand.of_body Bd
  have e0 : s₁.heap = h0 := by rw [← hh, Bd.state]; rfl
  have N0 := Fr.nil n0
  have ef : entryFrame m #[(.int (1 : Int32))] 1 = (mkF m 0 #[.val (.int (1 : Int32))] []) := by first | (simp [entryFrame, mkF, argsToLocals, Value.category]; done) | rfl
  refine own_start (fun P hPP => ?_)
  refine own_step (T' := s₁) (g' := (mkF m 0 #[.val (.int (1 : Int32))] [])) (fun t_ k_ => castTop ef k_) ?_
  refine own_step (T' := s₁) (g' := (mkF m 1 #[.val (.int (1 : Int32))] [(.int (1 : Int32))])) (fun t_ k_ => XS.iloadN X0.here hx rfl (hb hby d1_0) rfl k_) ?_
  refine own_step (T' := s₁) (g' := (mkF m 8 #[.val (.int (1 : Int32))] [])) (fun t_ k_ => XS.ifYes X0.here hx rfl (pc0 := 1) (pc' := 8) rfl (hb hby d1_1) rfl ((if0 _ _).trans (feq (by decide)).2) (by decide) (by decide) k_) ?_
  refine own_step (T' := s₁) (g' := (mkF m 9 #[.val (.int (1 : Int32))] [(.int (1 : Int32))])) (fun t_ k_ => XS.iloadN X0.here hx rfl (hb hby d1_8) rfl k_) ?_
  refine own_step (T' := s₁) (g' := (mkF m 10 #[.val (.int (1 : Int32))] [(.int (1 : Int32)), (.int (1 : Int32))])) (fun t_ k_ => XS.iconst X0.here hx rfl (hb hby d1_9) k_) ?_
  refine own_step (T' := s₁) (g' := (mkF m 13 #[.val (.int (1 : Int32))] [])) (fun t_ k_ => XS.icmpNo X0.here hx rfl (hb hby d1_10) rfl (teq (by decide)).2 k_) ?_
  obtain ⟨T1, X1, e1, st1⟩ := getS2 X0 hx hZ hown (host := "") (Or.inl (hw _ (List.mem_of_getElem? (i := 22) rfl))) Via.refl e0 S1 (g := (mkF m 13 #[.val (.int (1 : Int32))] [])) rfl (hb hby d1_13)
  refine own_step (T' := T1) (g' := (mkF m 16 #[.val (.int (1 : Int32))] [(.ref a1)])) st1 ?_
  obtain ⟨fs, hrR, hrun, hended, hWW, hsame⟩ := X1.leave (v := some (.ref a1)) (fun h => by rw [Bd.returns] at h; cases h)
  refine ⟨_, _, own_retR X1 hx Bd.returns rfl rfl rfl (hb hby d1_16) hrR, hrun, hended, hPP _ _ ⟨_, _, rfl, ?_, ⟨_, rfl⟩, hWW, hsame.mono (by decide) (by decide)⟩⟩
  show Q1 a1 h0 n0 _ T1.heap _
  rw [e1]
  exact ⟨rfl, N0, rfl⟩
set_option maxRecDepth 65536 in
set_option maxHeartbeats 40000000 in
theorem rm1_2 (l : Launch) (Z : State) (a0 : Array Value) (hw : ∀ d ∈ tables_1, d.before a0 Z = true) (ws : List Jvm.Cond) (a1 : Addr) (h0 : Heap) (n0 : Nat) (Z0 : n0 ≤ h0.size) (S1 : Sta Z h0 "com/example/hushed_flood/hushedflood/peer/Strategy" "BLOOM_L1" "Lcom/example/hushed_flood/hushedflood/peer/Strategy;" (.ref a1)) :
    MetFree l (⟨"com/example/hushed_flood/hushedflood/peer/StrategyLevelTwoPinLaw", "pick", "(I)Lcom/example/hushed_flood/hushedflood/peer/Strategy;"⟩ : MethodName) (head1 (Jvm.Cond.code (⟨"com/example/hushed_flood/hushedflood/peer/StrategyLevelTwoPinLaw", "pick", "(I)Lcom/example/hushed_flood/hushedflood/peer/Strategy;"⟩ : MethodName) method_2_code 1 (some (.object "com/example/hushed_flood/hushedflood/peer/Strategy")) :: ws) ({ frames := 0, cells := 0, slots := 0, locals := 0 } : Room)) (fun a U => a = #[(.int (2 : Int32))] ∧ Z.Warmed39 U.vm ∧ U.heap = h0) (fun _ _ _ _ _ => True) (fun _ U o U' => ∃ v L, o = .returned v ∧ Q1 a1 h0 n0 v U'.heap L ∧ FrameEnd U o U' L 0 0) := by
  refine MetFree.of_bodySF (plainFor_of_name (by first | (simp [plainName, overriddenIn]; done) | decide +kernel)) hisR ?_
  intro p e s m args below meth c s₁ Bd hml0 hP hK
  obtain ⟨rfl, hZ, hh⟩ := hP
  have hx := Bd.exec
  have hby := Bd.bytes
  have hml : c.maxLocals = 1 := hml0
  have hown : s.vm.findClass "com/example/hushed_flood/hushedflood/peer/StrategyLevelTwoPinLaw" = some m.cls := findClass_of_methodNamed Bd.named
  have hnm := (name_of_methodNamed Bd.named Bd.method).1
  have X0 : Stand p l e ({ frames := 0, cells := 0, slots := 0, locals := 0 } : Room) s m #[(.int (2 : Int32))] below meth c s₁ [] 0 0 := Stand.of_body Bd
  have e0 : s₁.heap = h0 := by rw [← hh, Bd.state]; rfl
  have N0 := Fr.nil n0
  have ef : entryFrame m #[(.int (2 : Int32))] 1 = (mkF m 0 #[.val (.int (2 : Int32))] []) := by first | (simp [entryFrame, mkF, argsToLocals, Value.category]; done) | rfl
  refine own_start (fun P hPP => ?_)
  refine own_step (T' := s₁) (g' := (mkF m 0 #[.val (.int (2 : Int32))] [])) (fun t_ k_ => castTop ef k_) ?_
  refine own_step (T' := s₁) (g' := (mkF m 1 #[.val (.int (2 : Int32))] [(.int (2 : Int32))])) (fun t_ k_ => XS.iloadN X0.here hx rfl (hb hby d1_0) rfl k_) ?_
  refine own_step (T' := s₁) (g' := (mkF m 8 #[.val (.int (2 : Int32))] [])) (fun t_ k_ => XS.ifYes X0.here hx rfl (pc0 := 1) (pc' := 8) rfl (hb hby d1_1) rfl ((if0 _ _).trans (feq (by decide)).2) (by decide) (by decide) k_) ?_
  refine own_step (T' := s₁) (g' := (mkF m 9 #[.val (.int (2 : Int32))] [(.int (2 : Int32))])) (fun t_ k_ => XS.iloadN X0.here hx rfl (hb hby d1_8) rfl k_) ?_
  refine own_step (T' := s₁) (g' := (mkF m 10 #[.val (.int (2 : Int32))] [(.int (1 : Int32)), (.int (2 : Int32))])) (fun t_ k_ => XS.iconst X0.here hx rfl (hb hby d1_9) k_) ?_
  refine own_step (T' := s₁) (g' := (mkF m 17 #[.val (.int (2 : Int32))] [])) (fun t_ k_ => XS.icmpYes X0.here hx rfl (pc0 := 10) (pc' := 17) rfl (hb hby d1_10) rfl (feq (by decide)).2 (by decide) (by decide) k_) ?_
  refine own_step (T' := s₁) (g' := (mkF m 18 #[.val (.int (2 : Int32))] [(.int (2 : Int32))])) (fun t_ k_ => XS.iloadN X0.here hx rfl (hb hby d1_17) rfl k_) ?_
  refine own_step (T' := s₁) (g' := (mkF m 19 #[.val (.int (2 : Int32))] [(.int (2 : Int32)), (.int (2 : Int32))])) (fun t_ k_ => XS.iconst X0.here hx rfl (hb hby d1_18) k_) ?_
  refine own_step (T' := s₁) (g' := (mkF m 22 #[.val (.int (2 : Int32))] [])) (fun t_ k_ => XS.icmpNo X0.here hx rfl (hb hby d1_19) rfl (teq (by decide)).2 k_) ?_
  obtain ⟨T1, X1, e1, st1⟩ := getS2 X0 hx hZ hown (host := "") (Or.inl (hw _ (List.mem_of_getElem? (i := 26) rfl))) Via.refl e0 S1 (g := (mkF m 22 #[.val (.int (2 : Int32))] [])) rfl (hb hby d1_22)
  refine own_step (T' := T1) (g' := (mkF m 25 #[.val (.int (2 : Int32))] [(.ref a1)])) st1 ?_
  obtain ⟨fs, hrR, hrun, hended, hWW, hsame⟩ := X1.leave (v := some (.ref a1)) (fun h => by rw [Bd.returns] at h; cases h)
  refine ⟨_, _, own_retR X1 hx Bd.returns rfl rfl rfl (hb hby d1_25) hrR, hrun, hended, hPP _ _ ⟨_, _, rfl, ?_, ⟨_, rfl⟩, hWW, hsame.mono (by decide) (by decide)⟩⟩
  show Q1 a1 h0 n0 _ T1.heap _
  rw [e1]
  exact ⟨rfl, N0, rfl⟩
set_option maxRecDepth 65536 in
set_option maxHeartbeats 40000000 in
theorem rm1_3 (l : Launch) (Z : State) (a0 : Array Value) (hw : ∀ d ∈ tables_1, d.before a0 Z = true) (ws : List Jvm.Cond) (a1 : Addr) (h0 : Heap) (n0 : Nat) (Z0 : n0 ≤ h0.size) (S1 : Sta Z h0 "com/example/hushed_flood/hushedflood/peer/Strategy" "BLOOM" "Lcom/example/hushed_flood/hushedflood/peer/Strategy;" (.ref a1)) :
    MetFree l (⟨"com/example/hushed_flood/hushedflood/peer/StrategyLevelTwoPinLaw", "pick", "(I)Lcom/example/hushed_flood/hushedflood/peer/Strategy;"⟩ : MethodName) (head1 (Jvm.Cond.code (⟨"com/example/hushed_flood/hushedflood/peer/StrategyLevelTwoPinLaw", "pick", "(I)Lcom/example/hushed_flood/hushedflood/peer/Strategy;"⟩ : MethodName) method_2_code 1 (some (.object "com/example/hushed_flood/hushedflood/peer/Strategy")) :: ws) ({ frames := 0, cells := 0, slots := 0, locals := 0 } : Room)) (fun a U => a = #[(.int (3 : Int32))] ∧ Z.Warmed39 U.vm ∧ U.heap = h0) (fun _ _ _ _ _ => True) (fun _ U o U' => ∃ v L, o = .returned v ∧ Q1 a1 h0 n0 v U'.heap L ∧ FrameEnd U o U' L 0 0) := by
  refine MetFree.of_bodySF (plainFor_of_name (by first | (simp [plainName, overriddenIn]; done) | decide +kernel)) hisR ?_
  intro p e s m args below meth c s₁ Bd hml0 hP hK
  obtain ⟨rfl, hZ, hh⟩ := hP
  have hx := Bd.exec
  have hby := Bd.bytes
  have hml : c.maxLocals = 1 := hml0
  have hown : s.vm.findClass "com/example/hushed_flood/hushedflood/peer/StrategyLevelTwoPinLaw" = some m.cls := findClass_of_methodNamed Bd.named
  have hnm := (name_of_methodNamed Bd.named Bd.method).1
  have X0 : Stand p l e ({ frames := 0, cells := 0, slots := 0, locals := 0 } : Room) s m #[(.int (3 : Int32))] below meth c s₁ [] 0 0 := Stand.of_body Bd
  have e0 : s₁.heap = h0 := by rw [← hh, Bd.state]; rfl
  have N0 := Fr.nil n0
  have ef : entryFrame m #[(.int (3 : Int32))] 1 = (mkF m 0 #[.val (.int (3 : Int32))] []) := by first | (simp [entryFrame, mkF, argsToLocals, Value.category]; done) | rfl
  refine own_start (fun P hPP => ?_)
  refine own_step (T' := s₁) (g' := (mkF m 0 #[.val (.int (3 : Int32))] [])) (fun t_ k_ => castTop ef k_) ?_
  refine own_step (T' := s₁) (g' := (mkF m 1 #[.val (.int (3 : Int32))] [(.int (3 : Int32))])) (fun t_ k_ => XS.iloadN X0.here hx rfl (hb hby d1_0) rfl k_) ?_
  refine own_step (T' := s₁) (g' := (mkF m 8 #[.val (.int (3 : Int32))] [])) (fun t_ k_ => XS.ifYes X0.here hx rfl (pc0 := 1) (pc' := 8) rfl (hb hby d1_1) rfl ((if0 _ _).trans (feq (by decide)).2) (by decide) (by decide) k_) ?_
  refine own_step (T' := s₁) (g' := (mkF m 9 #[.val (.int (3 : Int32))] [(.int (3 : Int32))])) (fun t_ k_ => XS.iloadN X0.here hx rfl (hb hby d1_8) rfl k_) ?_
  refine own_step (T' := s₁) (g' := (mkF m 10 #[.val (.int (3 : Int32))] [(.int (1 : Int32)), (.int (3 : Int32))])) (fun t_ k_ => XS.iconst X0.here hx rfl (hb hby d1_9) k_) ?_
  refine own_step (T' := s₁) (g' := (mkF m 17 #[.val (.int (3 : Int32))] [])) (fun t_ k_ => XS.icmpYes X0.here hx rfl (pc0 := 10) (pc' := 17) rfl (hb hby d1_10) rfl (feq (by decide)).2 (by decide) (by decide) k_) ?_
  refine own_step (T' := s₁) (g' := (mkF m 18 #[.val (.int (3 : Int32))] [(.int (3 : Int32))])) (fun t_ k_ => XS.iloadN X0.here hx rfl (hb hby d1_17) rfl k_) ?_
  refine own_step (T' := s₁) (g' := (mkF m 19 #[.val (.int (3 : Int32))] [(.int (2 : Int32)), (.int (3 : Int32))])) (fun t_ k_ => XS.iconst X0.here hx rfl (hb hby d1_18) k_) ?_
  refine own_step (T' := s₁) (g' := (mkF m 26 #[.val (.int (3 : Int32))] [])) (fun t_ k_ => XS.icmpYes X0.here hx rfl (pc0 := 19) (pc' := 26) rfl (hb hby d1_19) rfl (feq (by decide)).2 (by decide) (by decide) k_) ?_
  refine own_step (T' := s₁) (g' := (mkF m 27 #[.val (.int (3 : Int32))] [(.int (3 : Int32))])) (fun t_ k_ => XS.iloadN X0.here hx rfl (hb hby d1_26) rfl k_) ?_
  refine own_step (T' := s₁) (g' := (mkF m 28 #[.val (.int (3 : Int32))] [(.int (3 : Int32)), (.int (3 : Int32))])) (fun t_ k_ => XS.iconst X0.here hx rfl (hb hby d1_27) k_) ?_
  refine own_step (T' := s₁) (g' := (mkF m 31 #[.val (.int (3 : Int32))] [])) (fun t_ k_ => XS.icmpNo X0.here hx rfl (hb hby d1_28) rfl (teq (by decide)).2 k_) ?_
  obtain ⟨T1, X1, e1, st1⟩ := getS2 X0 hx hZ hown (host := "") (Or.inl (hw _ (List.mem_of_getElem? (i := 15) rfl))) Via.refl e0 S1 (g := (mkF m 31 #[.val (.int (3 : Int32))] [])) rfl (hb hby d1_31)
  refine own_step (T' := T1) (g' := (mkF m 34 #[.val (.int (3 : Int32))] [(.ref a1)])) st1 ?_
  obtain ⟨fs, hrR, hrun, hended, hWW, hsame⟩ := X1.leave (v := some (.ref a1)) (fun h => by rw [Bd.returns] at h; cases h)
  refine ⟨_, _, own_retR X1 hx Bd.returns rfl rfl rfl (hb hby d1_34) hrR, hrun, hended, hPP _ _ ⟨_, _, rfl, ?_, ⟨_, rfl⟩, hWW, hsame.mono (by decide) (by decide)⟩⟩
  show Q1 a1 h0 n0 _ T1.heap _
  rw [e1]
  exact ⟨rfl, N0, rfl⟩
set_option maxRecDepth 65536 in
set_option maxHeartbeats 40000000 in
theorem rm1_4 (l : Launch) (Z : State) (a0 : Array Value) (hw : ∀ d ∈ tables_1, d.before a0 Z = true) (ws : List Jvm.Cond) (a1 : Addr) (h0 : Heap) (n0 : Nat) (Z0 : n0 ≤ h0.size) (S1 : Sta Z h0 "com/example/hushed_flood/hushedflood/peer/Strategy" "COUNT_INDEX" "Lcom/example/hushed_flood/hushedflood/peer/Strategy;" (.ref a1)) :
    MetFree l (⟨"com/example/hushed_flood/hushedflood/peer/StrategyLevelTwoPinLaw", "pick", "(I)Lcom/example/hushed_flood/hushedflood/peer/Strategy;"⟩ : MethodName) (head1 (Jvm.Cond.code (⟨"com/example/hushed_flood/hushedflood/peer/StrategyLevelTwoPinLaw", "pick", "(I)Lcom/example/hushed_flood/hushedflood/peer/Strategy;"⟩ : MethodName) method_2_code 1 (some (.object "com/example/hushed_flood/hushedflood/peer/Strategy")) :: ws) ({ frames := 0, cells := 0, slots := 0, locals := 0 } : Room)) (fun a U => a = #[(.int (4 : Int32))] ∧ Z.Warmed39 U.vm ∧ U.heap = h0) (fun _ _ _ _ _ => True) (fun _ U o U' => ∃ v L, o = .returned v ∧ Q1 a1 h0 n0 v U'.heap L ∧ FrameEnd U o U' L 0 0) := by
  refine MetFree.of_bodySF (plainFor_of_name (by first | (simp [plainName, overriddenIn]; done) | decide +kernel)) hisR ?_
  intro p e s m args below meth c s₁ Bd hml0 hP hK
  obtain ⟨rfl, hZ, hh⟩ := hP
  have hx := Bd.exec
  have hby := Bd.bytes
  have hml : c.maxLocals = 1 := hml0
  have hown : s.vm.findClass "com/example/hushed_flood/hushedflood/peer/StrategyLevelTwoPinLaw" = some m.cls := findClass_of_methodNamed Bd.named
  have hnm := (name_of_methodNamed Bd.named Bd.method).1
  have X0 : Stand p l e ({ frames := 0, cells := 0, slots := 0, locals := 0 } : Room) s m #[(.int (4 : Int32))] below meth c s₁ [] 0 0 := Stand.of_body Bd
  have e0 : s₁.heap = h0 := by rw [← hh, Bd.state]; rfl
  have N0 := Fr.nil n0
  have ef : entryFrame m #[(.int (4 : Int32))] 1 = (mkF m 0 #[.val (.int (4 : Int32))] []) := by first | (simp [entryFrame, mkF, argsToLocals, Value.category]; done) | rfl
  refine own_start (fun P hPP => ?_)
  refine own_step (T' := s₁) (g' := (mkF m 0 #[.val (.int (4 : Int32))] [])) (fun t_ k_ => castTop ef k_) ?_
  refine own_step (T' := s₁) (g' := (mkF m 1 #[.val (.int (4 : Int32))] [(.int (4 : Int32))])) (fun t_ k_ => XS.iloadN X0.here hx rfl (hb hby d1_0) rfl k_) ?_
  refine own_step (T' := s₁) (g' := (mkF m 8 #[.val (.int (4 : Int32))] [])) (fun t_ k_ => XS.ifYes X0.here hx rfl (pc0 := 1) (pc' := 8) rfl (hb hby d1_1) rfl ((if0 _ _).trans (feq (by decide)).2) (by decide) (by decide) k_) ?_
  refine own_step (T' := s₁) (g' := (mkF m 9 #[.val (.int (4 : Int32))] [(.int (4 : Int32))])) (fun t_ k_ => XS.iloadN X0.here hx rfl (hb hby d1_8) rfl k_) ?_
  refine own_step (T' := s₁) (g' := (mkF m 10 #[.val (.int (4 : Int32))] [(.int (1 : Int32)), (.int (4 : Int32))])) (fun t_ k_ => XS.iconst X0.here hx rfl (hb hby d1_9) k_) ?_
  refine own_step (T' := s₁) (g' := (mkF m 17 #[.val (.int (4 : Int32))] [])) (fun t_ k_ => XS.icmpYes X0.here hx rfl (pc0 := 10) (pc' := 17) rfl (hb hby d1_10) rfl (feq (by decide)).2 (by decide) (by decide) k_) ?_
  refine own_step (T' := s₁) (g' := (mkF m 18 #[.val (.int (4 : Int32))] [(.int (4 : Int32))])) (fun t_ k_ => XS.iloadN X0.here hx rfl (hb hby d1_17) rfl k_) ?_
  refine own_step (T' := s₁) (g' := (mkF m 19 #[.val (.int (4 : Int32))] [(.int (2 : Int32)), (.int (4 : Int32))])) (fun t_ k_ => XS.iconst X0.here hx rfl (hb hby d1_18) k_) ?_
  refine own_step (T' := s₁) (g' := (mkF m 26 #[.val (.int (4 : Int32))] [])) (fun t_ k_ => XS.icmpYes X0.here hx rfl (pc0 := 19) (pc' := 26) rfl (hb hby d1_19) rfl (feq (by decide)).2 (by decide) (by decide) k_) ?_
  refine own_step (T' := s₁) (g' := (mkF m 27 #[.val (.int (4 : Int32))] [(.int (4 : Int32))])) (fun t_ k_ => XS.iloadN X0.here hx rfl (hb hby d1_26) rfl k_) ?_
  refine own_step (T' := s₁) (g' := (mkF m 28 #[.val (.int (4 : Int32))] [(.int (3 : Int32)), (.int (4 : Int32))])) (fun t_ k_ => XS.iconst X0.here hx rfl (hb hby d1_27) k_) ?_
  refine own_step (T' := s₁) (g' := (mkF m 35 #[.val (.int (4 : Int32))] [])) (fun t_ k_ => XS.icmpYes X0.here hx rfl (pc0 := 28) (pc' := 35) rfl (hb hby d1_28) rfl (feq (by decide)).2 (by decide) (by decide) k_) ?_
  obtain ⟨T1, X1, e1, st1⟩ := getS2 X0 hx hZ hown (host := "") (Or.inl (hw _ (List.mem_of_getElem? (i := 24) rfl))) Via.refl e0 S1 (g := (mkF m 35 #[.val (.int (4 : Int32))] [])) rfl (hb hby d1_35)
  refine own_step (T' := T1) (g' := (mkF m 38 #[.val (.int (4 : Int32))] [(.ref a1)])) st1 ?_
  obtain ⟨fs, hrR, hrun, hended, hWW, hsame⟩ := X1.leave (v := some (.ref a1)) (fun h => by rw [Bd.returns] at h; cases h)
  refine ⟨_, _, own_retR X1 hx Bd.returns rfl rfl rfl (hb hby d1_38) hrR, hrun, hended, hPP _ _ ⟨_, _, rfl, ?_, ⟨_, rfl⟩, hWW, hsame.mono (by decide) (by decide)⟩⟩
  show Q1 a1 h0 n0 _ T1.heap _
  rw [e1]
  exact ⟨rfl, N0, rfl⟩
def own_two (x : Int32) : Int32 := if x < 2 then 0 else 1
def Q2 (r : Int32) (h0 : Heap) (n0 : Nat) (v : Option Value) (h : Heap) (L : List Loc) : Prop := v = some (.int r) ∧ Fr n0 L ∧ h = h0
theorem d2_0 : decode prog_41_method_8_code 0 = .ok (.aload_n 0, 1) := by decide +kernel
theorem d2_1 : decode prog_41_method_8_code 1 = .ok (.getfield 50, 3) := by decide +kernel
theorem d2_4 : decode prog_41_method_8_code 4 = .ok (.iconst 2, 1) := by decide +kernel
theorem d2_5 : decode prog_41_method_8_code 5 = .ok (.if_icmp .lt 7, 3) := by decide +kernel
theorem d2_8 : decode prog_41_method_8_code 8 = .ok (.iconst 1, 1) := by decide +kernel
theorem d2_9 : decode prog_41_method_8_code 9 = .ok (.goto 4, 3) := by decide +kernel
theorem d2_12 : decode prog_41_method_8_code 12 = .ok (.iconst 0, 1) := by decide +kernel
theorem d2_13 : decode prog_41_method_8_code 13 = .ok (.ireturn, 1) := by decide +kernel
set_option maxRecDepth 65536 in
set_option maxHeartbeats 40000000 in
theorem rm2 (l : Launch) (Z : State) (a0 : Array Value) (hw : ∀ d ∈ tables_1, d.before a0 Z = true) (ws : List Jvm.Cond) (a1 : Addr) (p1 r : Int32) (h0 : Heap) (n0 : Nat) (Z0 : n0 ≤ h0.size) (F1 : Fld Z h0 a1 "com/example/hushed_flood/hushedflood/peer/Strategy" "levels" "I" (.int p1)) (hr : own_two p1 = r) :
    MetFree l (⟨"com/example/hushed_flood/hushedflood/peer/Strategy", "levelTwo", "()Z"⟩ : MethodName) (head1 (Jvm.Cond.code (⟨"com/example/hushed_flood/hushedflood/peer/Strategy", "levelTwo", "()Z"⟩ : MethodName) prog_41_method_8_code 1 (some .boolean) :: ws) ({ frames := 0, cells := 0, slots := 0, locals := 0 } : Room)) (fun a U => a = #[(.ref a1)] ∧ Z.Warmed39 U.vm ∧ U.heap = h0) (fun _ _ _ _ _ => True) (fun _ U o U' => ∃ v L, o = .returned v ∧ Q2 r h0 n0 v U'.heap L ∧ FrameEnd U o U' L 0 0) := by
  refine MetFree.of_bodySF (plainFor_of_name (by first | (simp [plainName, overriddenIn]; done) | decide +kernel)) hisR ?_
  intro p e s m args below meth c s₁ Bd hml0 hP hK
  obtain ⟨rfl, hZ, hh⟩ := hP
  have hx := Bd.exec
  have hby := Bd.bytes
  have hml : c.maxLocals = 1 := hml0
  have hown : s.vm.findClass "com/example/hushed_flood/hushedflood/peer/Strategy" = some m.cls := findClass_of_methodNamed Bd.named
  have hnm := (name_of_methodNamed Bd.named Bd.method).1
  have X0 : Stand p l e ({ frames := 0, cells := 0, slots := 0, locals := 0 } : Room) s m #[(.ref a1)] below meth c s₁ [] 0 0 := Stand.of_body Bd
  have e0 : s₁.heap = h0 := by rw [← hh, Bd.state]; rfl
  have N0 := Fr.nil n0
  have ef : entryFrame m #[(.ref a1)] 1 = (mkF m 0 #[.val (.ref a1)] []) := by first | (simp [entryFrame, mkF, argsToLocals, Value.category]; done) | rfl
  refine own_start (fun P hPP => ?_)
  refine own_step (T' := s₁) (g' := (mkF m 0 #[.val (.ref a1)] [])) (fun t_ k_ => castTop ef k_) ?_
  refine own_step (T' := s₁) (g' := (mkF m 1 #[.val (.ref a1)] [(.ref a1)])) (fun t_ k_ => XS.aloadN X0.here hx rfl (hb hby d2_0) rfl rfl k_) ?_
  obtain ⟨T1, X1, e1, st1⟩ := getF X0 hx hZ hown (host := "") (Or.inl (hw _ (List.mem_of_getElem? (i := 13) rfl))) Via.refl e0 F1 (g := (mkF m 1 #[.val (.ref a1)] [(.ref a1)])) rfl rfl (hb hby d2_1)
  refine own_step (T' := T1) (g' := (mkF m 4 #[.val (.ref a1)] [(.int p1)])) st1 ?_
  refine own_step (T' := T1) (g' := (mkF m 5 #[.val (.ref a1)] [(.int (2 : Int32)), (.int p1)])) (fun t_ k_ => XS.iconst X1.here hx rfl (hb hby d2_4) k_) ?_
  by_cases hc5_2 : p1 < (2 : Int32)
  · refine own_step (T' := T1) (g' := (mkF m 12 #[.val (.ref a1)] [])) (fun t_ k_ => XS.icmpYes X1.here hx rfl (pc0 := 5) (pc' := 12) rfl (hb hby d2_5) rfl (tlt hc5_2).1 (by decide) (by decide) k_) ?_
    refine own_step (T' := T1) (g' := (mkF m 13 #[.val (.ref a1)] [(.int (0 : Int32))])) (fun t_ k_ => XS.iconst X1.here hx rfl (hb hby d2_12) k_) ?_
    obtain ⟨fs, hrR, hrun, hended, hWW, hsame⟩ := X1.leave (v := some (.int (0 : Int32))) (fun h => by rw [Bd.returns] at h; cases h)
    refine ⟨_, _, own_retZ X1 hx (t := .boolean) Bd.returns (by simp) (by decide) (hb hby d2_13) hrR, hrun, hended, hPP _ _ ⟨_, _, rfl, ?_, ⟨_, rfl⟩, hWW, hsame.mono (by decide) (by decide)⟩⟩
    show Q2 r h0 n0 _ T1.heap _
    rw [e1]
    exact ⟨by simp [← hr, own_two, hc5_2], N0, rfl⟩
  · refine own_step (T' := T1) (g' := (mkF m 8 #[.val (.ref a1)] [])) (fun t_ k_ => XS.icmpNo X1.here hx rfl (hb hby d2_5) rfl (flt hc5_2).1 k_) ?_
    refine own_step (T' := T1) (g' := (mkF m 9 #[.val (.ref a1)] [(.int (1 : Int32))])) (fun t_ k_ => XS.iconst X1.here hx rfl (hb hby d2_8) k_) ?_
    refine own_step (T' := T1) (g' := (mkF m 13 #[.val (.ref a1)] [(.int (1 : Int32))])) (fun t_ k_ => XS.goto X1.here hx rfl (pc0 := 9) (pc' := 13) rfl (hb hby d2_9) (by decide) (by decide) k_) ?_
    obtain ⟨fs, hrR, hrun, hended, hWW, hsame⟩ := X1.leave (v := some (.int (1 : Int32))) (fun h => by rw [Bd.returns] at h; cases h)
    refine ⟨_, _, own_retZ X1 hx (t := .boolean) Bd.returns (by simp) (by decide) (hb hby d2_13) hrR, hrun, hended, hPP _ _ ⟨_, _, rfl, ?_, ⟨_, rfl⟩, hWW, hsame.mono (by decide) (by decide)⟩⟩
    show Q2 r h0 n0 _ T1.heap _
    rw [e1]
    exact ⟨by simp [← hr, own_two, hc5_2], N0, rfl⟩
def own_one (x : Int32) : Int32 := if x < 1 then 0 else 1
def Q3 (r : Int32) (h0 : Heap) (n0 : Nat) (v : Option Value) (h : Heap) (L : List Loc) : Prop := v = some (.int r) ∧ Fr n0 L ∧ h = h0
theorem d3_0 : decode prog_41_method_7_code 0 = .ok (.aload_n 0, 1) := by decide +kernel
theorem d3_1 : decode prog_41_method_7_code 1 = .ok (.getfield 50, 3) := by decide +kernel
theorem d3_4 : decode prog_41_method_7_code 4 = .ok (.iconst 1, 1) := by decide +kernel
theorem d3_5 : decode prog_41_method_7_code 5 = .ok (.if_icmp .lt 7, 3) := by decide +kernel
theorem d3_8 : decode prog_41_method_7_code 8 = .ok (.iconst 1, 1) := by decide +kernel
theorem d3_9 : decode prog_41_method_7_code 9 = .ok (.goto 4, 3) := by decide +kernel
theorem d3_12 : decode prog_41_method_7_code 12 = .ok (.iconst 0, 1) := by decide +kernel
theorem d3_13 : decode prog_41_method_7_code 13 = .ok (.ireturn, 1) := by decide +kernel
set_option maxRecDepth 65536 in
set_option maxHeartbeats 40000000 in
theorem rm3 (l : Launch) (Z : State) (a0 : Array Value) (hw : ∀ d ∈ tables_1, d.before a0 Z = true) (ws : List Jvm.Cond) (a1 : Addr) (p1 r : Int32) (h0 : Heap) (n0 : Nat) (Z0 : n0 ≤ h0.size) (F1 : Fld Z h0 a1 "com/example/hushed_flood/hushedflood/peer/Strategy" "levels" "I" (.int p1)) (hr : own_one p1 = r) :
    MetFree l (⟨"com/example/hushed_flood/hushedflood/peer/Strategy", "bloom", "()Z"⟩ : MethodName) (head1 (Jvm.Cond.code (⟨"com/example/hushed_flood/hushedflood/peer/Strategy", "bloom", "()Z"⟩ : MethodName) prog_41_method_7_code 1 (some .boolean) :: ws) ({ frames := 0, cells := 0, slots := 0, locals := 0 } : Room)) (fun a U => a = #[(.ref a1)] ∧ Z.Warmed39 U.vm ∧ U.heap = h0) (fun _ _ _ _ _ => True) (fun _ U o U' => ∃ v L, o = .returned v ∧ Q3 r h0 n0 v U'.heap L ∧ FrameEnd U o U' L 0 0) := by
  refine MetFree.of_bodySF (plainFor_of_name (by first | (simp [plainName, overriddenIn]; done) | decide +kernel)) hisR ?_
  intro p e s m args below meth c s₁ Bd hml0 hP hK
  obtain ⟨rfl, hZ, hh⟩ := hP
  have hx := Bd.exec
  have hby := Bd.bytes
  have hml : c.maxLocals = 1 := hml0
  have hown : s.vm.findClass "com/example/hushed_flood/hushedflood/peer/Strategy" = some m.cls := findClass_of_methodNamed Bd.named
  have hnm := (name_of_methodNamed Bd.named Bd.method).1
  have X0 : Stand p l e ({ frames := 0, cells := 0, slots := 0, locals := 0 } : Room) s m #[(.ref a1)] below meth c s₁ [] 0 0 := Stand.of_body Bd
  have e0 : s₁.heap = h0 := by rw [← hh, Bd.state]; rfl
  have N0 := Fr.nil n0
  have ef : entryFrame m #[(.ref a1)] 1 = (mkF m 0 #[.val (.ref a1)] []) := by first | (simp [entryFrame, mkF, argsToLocals, Value.category]; done) | rfl
  refine own_start (fun P hPP => ?_)
  refine own_step (T' := s₁) (g' := (mkF m 0 #[.val (.ref a1)] [])) (fun t_ k_ => castTop ef k_) ?_
  refine own_step (T' := s₁) (g' := (mkF m 1 #[.val (.ref a1)] [(.ref a1)])) (fun t_ k_ => XS.aloadN X0.here hx rfl (hb hby d3_0) rfl rfl k_) ?_
  obtain ⟨T1, X1, e1, st1⟩ := getF X0 hx hZ hown (host := "") (Or.inl (hw _ (List.mem_of_getElem? (i := 13) rfl))) Via.refl e0 F1 (g := (mkF m 1 #[.val (.ref a1)] [(.ref a1)])) rfl rfl (hb hby d3_1)
  refine own_step (T' := T1) (g' := (mkF m 4 #[.val (.ref a1)] [(.int p1)])) st1 ?_
  refine own_step (T' := T1) (g' := (mkF m 5 #[.val (.ref a1)] [(.int (1 : Int32)), (.int p1)])) (fun t_ k_ => XS.iconst X1.here hx rfl (hb hby d3_4) k_) ?_
  by_cases hc5_2 : p1 < (1 : Int32)
  · refine own_step (T' := T1) (g' := (mkF m 12 #[.val (.ref a1)] [])) (fun t_ k_ => XS.icmpYes X1.here hx rfl (pc0 := 5) (pc' := 12) rfl (hb hby d3_5) rfl (tlt hc5_2).1 (by decide) (by decide) k_) ?_
    refine own_step (T' := T1) (g' := (mkF m 13 #[.val (.ref a1)] [(.int (0 : Int32))])) (fun t_ k_ => XS.iconst X1.here hx rfl (hb hby d3_12) k_) ?_
    obtain ⟨fs, hrR, hrun, hended, hWW, hsame⟩ := X1.leave (v := some (.int (0 : Int32))) (fun h => by rw [Bd.returns] at h; cases h)
    refine ⟨_, _, own_retZ X1 hx (t := .boolean) Bd.returns (by simp) (by decide) (hb hby d3_13) hrR, hrun, hended, hPP _ _ ⟨_, _, rfl, ?_, ⟨_, rfl⟩, hWW, hsame.mono (by decide) (by decide)⟩⟩
    show Q3 r h0 n0 _ T1.heap _
    rw [e1]
    exact ⟨by simp [← hr, own_one, hc5_2], N0, rfl⟩
  · refine own_step (T' := T1) (g' := (mkF m 8 #[.val (.ref a1)] [])) (fun t_ k_ => XS.icmpNo X1.here hx rfl (hb hby d3_5) rfl (flt hc5_2).1 k_) ?_
    refine own_step (T' := T1) (g' := (mkF m 9 #[.val (.ref a1)] [(.int (1 : Int32))])) (fun t_ k_ => XS.iconst X1.here hx rfl (hb hby d3_8) k_) ?_
    refine own_step (T' := T1) (g' := (mkF m 13 #[.val (.ref a1)] [(.int (1 : Int32))])) (fun t_ k_ => XS.goto X1.here hx rfl (pc0 := 9) (pc' := 13) rfl (hb hby d3_9) (by decide) (by decide) k_) ?_
    obtain ⟨fs, hrR, hrun, hended, hWW, hsame⟩ := X1.leave (v := some (.int (1 : Int32))) (fun h => by rw [Bd.returns] at h; cases h)
    refine ⟨_, _, own_retZ X1 hx (t := .boolean) Bd.returns (by simp) (by decide) (hb hby d3_13) hrR, hrun, hended, hPP _ _ ⟨_, _, rfl, ?_, ⟨_, rfl⟩, hWW, hsame.mono (by decide) (by decide)⟩⟩
    show Q3 r h0 n0 _ T1.heap _
    rw [e1]
    exact ⟨by simp [← hr, own_one, hc5_2], N0, rfl⟩
def Q0 (n0 : Nat) (v : Option Value) (h : Heap) (L : List Loc) : Prop := v = some (.int 1) ∧ Fr n0 L
set_option maxRecDepth 65536 in
set_option maxHeartbeats 40000000 in
theorem rm0_0 (l : Launch) (Z : State) (a0 : Array Value) (hw : ∀ d ∈ tables_1, d.before a0 Z = true) (ws : List Jvm.Cond) (p1 : Int32) (A_FLOOD : Addr) (h0 : Heap) (n0 : Nat) (Z0 : n0 ≤ h0.size) (hk : (p1 &&& 2147483647) % 5 = 0) (E_FLOOD : Exa Z h0 A_FLOOD "com/example/hushed_flood/hushedflood/peer/Strategy") (S_FLOOD : Sta Z h0 "com/example/hushed_flood/hushedflood/peer/Strategy" "FLOOD" "Lcom/example/hushed_flood/hushedflood/peer/Strategy;" (.ref A_FLOOD)) (F_FLOOD_levels : Fld Z h0 A_FLOOD "com/example/hushed_flood/hushedflood/peer/Strategy" "levels" "I" (.int (0 : Int32))) :
    MetFree l x (head1 (Jvm.Cond.code x code maxLocals ret :: ws) room_1) (fun a U => a = #[(.int p1)] ∧ Z.Warmed39 U.vm ∧ U.heap = h0) (fun _ _ _ _ _ => True) (fun _ U o U' => ∃ v L, o = .returned v ∧ Q0 n0 v U'.heap L ∧ FrameEnd U o U' L 0 0) := by
  refine MetFree.of_bodySF (plainFor_of_name (by first | (simp [plainName, overriddenIn]; done) | decide +kernel)) hisR ?_
  intro p e s m args below meth c s₁ Bd hml0 hP hK
  obtain ⟨rfl, hZ, hh⟩ := hP
  have hx := Bd.exec
  have hby := Bd.bytes
  have hml : c.maxLocals = 5 := hml0
  have hown : s.vm.findClass "com/example/hushed_flood/hushedflood/peer/StrategyLevelTwoPinLaw" = some m.cls := findClass_of_methodNamed Bd.named
  have hnm := (name_of_methodNamed Bd.named Bd.method).1
  have X0 : Stand p l e room_1 s m #[(.int p1)] below meth c s₁ [] 0 0 := Stand.of_body Bd
  have e0 : s₁.heap = h0 := by rw [← hh, Bd.state]; rfl
  have N0 := Fr.nil n0
  have ef : entryFrame m #[(.int p1)] maxLocals = (mkF m 0 #[.val (.int p1), .unset, .unset, .unset, .unset] []) := by first | (simp [entryFrame, mkF, argsToLocals, Value.category, maxLocals]; done) | rfl
  refine own_start (fun P hPP => ?_)
  refine own_step (T' := s₁) (g' := (mkF m 0 #[.val (.int p1), .unset, .unset, .unset, .unset] [])) (fun t_ k_ => castTop ef k_) ?_
  refine own_step (T' := s₁) (g' := (mkF m 1 #[.val (.int p1), .unset, .unset, .unset, .unset] [(.int p1)])) (fun t_ k_ => XS.iloadN X0.here hx rfl (hb hby at_0) rfl k_) ?_
  refine own_step (T' := s₁) (g' := (mkF m 3 #[.val (.int p1), .unset, .unset, .unset, .unset] [(.int (2147483647 : Int32)), (.int p1)])) (fun t_ k_ => X0.ldcInt hx hown (mvT hZ (hw _ (List.mem_of_getElem? (i := 0) rfl))) (g := (mkF m 1 #[.val (.int p1), .unset, .unset, .unset, .unset] [(.int p1)])) rfl (hb hby at_1) _ k_) ?_
  refine own_step (T' := s₁) (g' := (mkF m 4 #[.val (.int p1), .unset, .unset, .unset, .unset] [(.int (p1 &&& (2147483647 : Int32)))])) (fun t_ k_ => XS.iand X0.here hx rfl (hb hby at_3) rfl k_) ?_
  refine own_step (T' := s₁) (g' := (mkF m 5 #[.val (.int p1), .unset, .unset, .unset, .unset] [(.int (5 : Int32)), (.int (p1 &&& (2147483647 : Int32)))])) (fun t_ k_ => XS.iconst X0.here hx rfl (hb hby at_4) k_) ?_
  refine own_step (T' := s₁) (g' := (mkF m 6 #[.val (.int p1), .unset, .unset, .unset, .unset] [(.int ((p1 &&& (2147483647 : Int32)) % (5 : Int32)))])) (fun t_ k_ => iremM X0 hx rfl (hb hby at_5) rfl (by decide) k_) ?_
  rw [hk]
  refine own_step (T' := s₁) (g' := (mkF m 7 #[.val (.int p1), .val (.int (0 : Int32)), .unset, .unset, .unset] [])) (fun t_ k_ => XS.istoreN X0.here hx rfl (hb hby at_6) rfl (l' := #[.val (.int p1), .val (.int (0 : Int32)), .unset, .unset, .unset]) rfl k_) ?_
  refine own_step (T' := s₁) (g' := (mkF m 8 #[.val (.int p1), .val (.int (0 : Int32)), .unset, .unset, .unset] [(.int (0 : Int32))])) (fun t_ k_ => XS.iloadN X0.here hx rfl (hb hby at_7) rfl k_) ?_
  obtain ⟨_, _, ⟨T1, L1, k1, n1⟩, -, X1, ⟨Lc1, hQ1, l1, y1, z1⟩, st1⟩ := Jvm.LawKit.callS X0 hx (y := (⟨"com/example/hushed_flood/hushedflood/peer/StrategyLevelTwoPinLaw", "pick", "(I)Lcom/example/hushed_flood/hushedflood/peer/Strategy;"⟩ : MethodName)) hown (mvT hZ (hw _ (List.mem_of_getElem? (i := 1) rfl))) (mvT hZ (hw _ (List.mem_of_getElem? (i := 2) rfl))) (mvT hZ (hw _ (List.mem_of_getElem? (i := 3) rfl))) (mvT hZ (hw _ (List.mem_of_getElem? (i := 4) rfl))) (by decide) (backOf (W := 0) (rm1_0 l Z a0 hw [] A_FLOOD h0 n0 Z0 S_FLOOD) hZ (hw _ (List.mem_of_getElem? (i := 4) rfl)) (hw _ (List.mem_of_getElem? (i := 3) rfl)) (by decide) (by decide)) (g := (mkF m 8 #[.val (.int p1), .val (.int (0 : Int32)), .unset, .unset, .unset] [(.int (0 : Int32))])) rfl (by rw [hml]; rfl) (argsL := [(.int (0 : Int32))]) (rest := []) (lenOf (by decide +kernel : parseMethodDescriptor "(I)Lcom/example/hushed_flood/hushedflood/peer/Strategy;" = some ⟨[.int], some (.object "com/example/hushed_flood/hushedflood/peer/Strategy")⟩) rfl) rfl (by show 2 * 0 + _ ≤ _; exact Nat.le_of_eq rfl) (hb hby at_8) (fun _ _ => ⟨rfl, e0, (by decide : 0 + 0 ≤ _), (by decide : 0 + 0 ≤ _)⟩)
  dsimp only [Pt.U, Pt.locs, Pt.cells, Pt.slots] at X1 l1 y1 z1 st1 hQ1
  subst l1 y1 z1
  obtain ⟨rfl, Nq1, e1⟩ := hQ1
  have N1 := Fr.app N0 Nq1
  refine own_step (T' := T1) (g' := (mkF m 11 #[.val (.int p1), .val (.int (0 : Int32)), .unset, .unset, .unset] [(.ref A_FLOOD)])) st1 ?_
  refine own_step (T' := T1) (g' := (mkF m 12 #[.val (.int p1), .val (.int (0 : Int32)), .val (.ref A_FLOOD), .unset, .unset] [])) (fun t_ k_ => XS.astoreN X1.here hx rfl (hb hby at_11) rfl rfl (l' := #[.val (.int p1), .val (.int (0 : Int32)), .val (.ref A_FLOOD), .unset, .unset]) rfl k_) ?_
  refine own_step (T' := T1) (g' := (mkF m 13 #[.val (.int p1), .val (.int (0 : Int32)), .val (.ref A_FLOOD), .unset, .unset] [(.int (0 : Int32))])) (fun t_ k_ => XS.iloadN X1.here hx rfl (hb hby at_12) rfl k_) ?_
  refine own_step (T' := T1) (g' := (mkF m 14 #[.val (.int p1), .val (.int (0 : Int32)), .val (.ref A_FLOOD), .unset, .unset] [(.int (3 : Int32)), (.int (0 : Int32))])) (fun t_ k_ => XS.iconst X1.here hx rfl (hb hby at_13) k_) ?_
  refine own_step (T' := T1) (g' := (mkF m 21 #[.val (.int p1), .val (.int (0 : Int32)), .val (.ref A_FLOOD), .unset, .unset] [])) (fun t_ k_ => XS.icmpYes X1.here hx rfl (pc0 := 14) (pc' := 21) rfl (hb hby at_14) rfl (feq (by decide)).2 (by decide) (by decide) k_) ?_
  refine own_step (T' := T1) (g' := (mkF m 22 #[.val (.int p1), .val (.int (0 : Int32)), .val (.ref A_FLOOD), .unset, .unset] [(.int (0 : Int32))])) (fun t_ k_ => XS.iconst X1.here hx rfl (hb hby at_21) k_) ?_
  refine own_step (T' := T1) (g' := (mkF m 23 #[.val (.int p1), .val (.int (0 : Int32)), .val (.ref A_FLOOD), .val (.int (0 : Int32)), .unset] [])) (fun t_ k_ => XS.istoreN X1.here hx rfl (hb hby at_22) rfl (l' := #[.val (.int p1), .val (.int (0 : Int32)), .val (.ref A_FLOOD), .val (.int (0 : Int32)), .unset]) rfl k_) ?_
  refine own_step (T' := T1) (g' := (mkF m 24 #[.val (.int p1), .val (.int (0 : Int32)), .val (.ref A_FLOOD), .val (.int (0 : Int32)), .unset] [(.ref A_FLOOD)])) (fun t_ k_ => XS.aloadN X1.here hx rfl (hb hby at_23) rfl rfl k_) ?_
  obtain ⟨cq2, kq2, q2a, q2b, q2c⟩ := isOf hZ e1 E_FLOOD
  obtain ⟨_, _, ⟨T2, L2, k2, n2⟩, -, X2, ⟨Lc2, hQ2, l2, y2, z2⟩, st2⟩ := X1.virtualBack hx (y := (⟨"com/example/hushed_flood/hushedflood/peer/Strategy", "levelTwo", "()Z"⟩ : MethodName)) (z := (⟨"com/example/hushed_flood/hushedflood/peer/Strategy", "levelTwo", "()Z"⟩ : MethodName)) hown (mvT hZ (hw _ (List.mem_of_getElem? (i := 8) rfl))) (mvT hZ (hw _ (List.mem_of_getElem? (i := 9) rfl))) (notFace_of_selects (args := #[]) (mvT hZ (hw _ (List.mem_of_getElem? (i := 11) rfl)))) (mvT hZ (hw _ (List.mem_of_getElem? (i := 11) rfl))) (mvT hZ (hw _ (List.mem_of_getElem? (i := 10) rfl))) (by decide) (backOf (W := 0) (rm2 l Z a0 hw [] A_FLOOD (0 : Int32) (0 : Int32) h0 n0 Z0 F_FLOOD_levels (by decide)) hZ (hw _ (List.mem_of_getElem? (i := 12) rfl)) (hw _ (List.mem_of_getElem? (i := 6) rfl)) (by decide) (by decide)) q2a q2c (g := (mkF m 24 #[.val (.int p1), .val (.int (0 : Int32)), .val (.ref A_FLOOD), .val (.int (0 : Int32)), .unset] [(.ref A_FLOOD)])) rfl (by rw [hml]; rfl) (Steps.refl _) (argsL := []) (rest := []) (lenOf (by decide +kernel : parseMethodDescriptor "()Z" = some ⟨[], some .boolean⟩) rfl) rfl (by show 2 * 0 + _ ≤ _; exact Nat.le_of_eq rfl) (hb hby at_24) (fun _ _ => ⟨rfl, e1, (by decide : 0 + 0 ≤ _), (by decide : 0 + 0 ≤ _)⟩)
  dsimp only [Pt.U, Pt.locs, Pt.cells, Pt.slots] at X2 l2 y2 z2 st2 hQ2
  subst l2 y2 z2
  obtain ⟨rfl, Nq2, e2⟩ := hQ2
  have N2 := Fr.app N1 Nq2
  refine own_to (T' := T2) (g' := (mkF m 27 #[.val (.int p1), .val (.int (0 : Int32)), .val (.ref A_FLOOD), .val (.int (0 : Int32)), .unset] [(.int (0 : Int32))])) st2 ?_
  refine own_step (T' := T2) (g' := (mkF m 29 #[.val (.int p1), .val (.int (0 : Int32)), .val (.ref A_FLOOD), .val (.int (0 : Int32)), .val (.int (0 : Int32))] [])) (fun t_ k_ => XS.istore X2.here hx rfl (hb hby at_27) rfl (l' := #[.val (.int p1), .val (.int (0 : Int32)), .val (.ref A_FLOOD), .val (.int (0 : Int32)), .val (.int (0 : Int32))]) rfl k_) ?_
  refine own_step (T' := T2) (g' := (mkF m 31 #[.val (.int p1), .val (.int (0 : Int32)), .val (.ref A_FLOOD), .val (.int (0 : Int32)), .val (.int (0 : Int32))] [(.int (0 : Int32))])) (fun t_ k_ => XS.iload X2.here hx rfl (hb hby at_29) rfl k_) ?_
  refine own_step (T' := T2) (g' := (mkF m 32 #[.val (.int p1), .val (.int (0 : Int32)), .val (.ref A_FLOOD), .val (.int (0 : Int32)), .val (.int (0 : Int32))] [(.int (0 : Int32)), (.int (0 : Int32))])) (fun t_ k_ => XS.iloadN X2.here hx rfl (hb hby at_31) rfl k_) ?_
  refine own_step (T' := T2) (g' := (mkF m 37 #[.val (.int p1), .val (.int (0 : Int32)), .val (.ref A_FLOOD), .val (.int (0 : Int32)), .val (.int (0 : Int32))] [])) (fun t_ k_ => XS.icmpYes X2.here hx rfl (pc0 := 32) (pc' := 37) rfl (hb hby at_32) rfl (teq (by decide)).1 (by decide) (by decide) k_) ?_
  refine own_step (T' := T2) (g' := (mkF m 39 #[.val (.int p1), .val (.int (0 : Int32)), .val (.ref A_FLOOD), .val (.int (0 : Int32)), .val (.int (0 : Int32))] [(.int (0 : Int32))])) (fun t_ k_ => XS.iload X2.here hx rfl (hb hby at_37) rfl k_) ?_
  refine own_step (T' := T2) (g' := (mkF m 51 #[.val (.int p1), .val (.int (0 : Int32)), .val (.ref A_FLOOD), .val (.int (0 : Int32)), .val (.int (0 : Int32))] [])) (fun t_ k_ => XS.ifYes X2.here hx rfl (pc0 := 39) (pc' := 51) rfl (hb hby at_39) rfl ((if0 _ _).trans (teq (by decide)).1) (by decide) (by decide) k_) ?_
  refine own_step (T' := T2) (g' := (mkF m 52 #[.val (.int p1), .val (.int (0 : Int32)), .val (.ref A_FLOOD), .val (.int (0 : Int32)), .val (.int (0 : Int32))] [(.int (1 : Int32))])) (fun t_ k_ => XS.iconst X2.here hx rfl (hb hby at_51) k_) ?_
  obtain ⟨fs, hrR, hrun, hended, hWW, hsame⟩ := X2.leave (v := some (.int (1 : Int32))) (fun h => by rw [Bd.returns] at h; cases h)
  refine ⟨_, _, own_retZ X2 hx (t := .boolean) Bd.returns (by simp) (by decide) (hb hby at_52) hrR, hrun, hended, hPP _ _ ⟨_, _, rfl, ?_, ⟨_, rfl⟩, hWW, hsame.mono (by decide) (by decide)⟩⟩
  show Q0 n0 _ T2.heap _
  rw [e2]
  exact ⟨rfl, N2⟩
set_option maxRecDepth 65536 in
set_option maxHeartbeats 40000000 in
theorem rm0_1 (l : Launch) (Z : State) (a0 : Array Value) (hw : ∀ d ∈ tables_1, d.before a0 Z = true) (ws : List Jvm.Cond) (p1 : Int32) (A_RANDOM_WALK : Addr) (h0 : Heap) (n0 : Nat) (Z0 : n0 ≤ h0.size) (hk : (p1 &&& 2147483647) % 5 = 1) (E_RANDOM_WALK : Exa Z h0 A_RANDOM_WALK "com/example/hushed_flood/hushedflood/peer/Strategy") (S_RANDOM_WALK : Sta Z h0 "com/example/hushed_flood/hushedflood/peer/Strategy" "RANDOM_WALK" "Lcom/example/hushed_flood/hushedflood/peer/Strategy;" (.ref A_RANDOM_WALK)) (F_RANDOM_WALK_levels : Fld Z h0 A_RANDOM_WALK "com/example/hushed_flood/hushedflood/peer/Strategy" "levels" "I" (.int (0 : Int32))) :
    MetFree l x (head1 (Jvm.Cond.code x code maxLocals ret :: ws) room_1) (fun a U => a = #[(.int p1)] ∧ Z.Warmed39 U.vm ∧ U.heap = h0) (fun _ _ _ _ _ => True) (fun _ U o U' => ∃ v L, o = .returned v ∧ Q0 n0 v U'.heap L ∧ FrameEnd U o U' L 0 0) := by
  refine MetFree.of_bodySF (plainFor_of_name (by first | (simp [plainName, overriddenIn]; done) | decide +kernel)) hisR ?_
  intro p e s m args below meth c s₁ Bd hml0 hP hK
  obtain ⟨rfl, hZ, hh⟩ := hP
  have hx := Bd.exec
  have hby := Bd.bytes
  have hml : c.maxLocals = 5 := hml0
  have hown : s.vm.findClass "com/example/hushed_flood/hushedflood/peer/StrategyLevelTwoPinLaw" = some m.cls := findClass_of_methodNamed Bd.named
  have hnm := (name_of_methodNamed Bd.named Bd.method).1
  have X0 : Stand p l e room_1 s m #[(.int p1)] below meth c s₁ [] 0 0 := Stand.of_body Bd
  have e0 : s₁.heap = h0 := by rw [← hh, Bd.state]; rfl
  have N0 := Fr.nil n0
  have ef : entryFrame m #[(.int p1)] maxLocals = (mkF m 0 #[.val (.int p1), .unset, .unset, .unset, .unset] []) := by first | (simp [entryFrame, mkF, argsToLocals, Value.category, maxLocals]; done) | rfl
  refine own_start (fun P hPP => ?_)
  refine own_step (T' := s₁) (g' := (mkF m 0 #[.val (.int p1), .unset, .unset, .unset, .unset] [])) (fun t_ k_ => castTop ef k_) ?_
  refine own_step (T' := s₁) (g' := (mkF m 1 #[.val (.int p1), .unset, .unset, .unset, .unset] [(.int p1)])) (fun t_ k_ => XS.iloadN X0.here hx rfl (hb hby at_0) rfl k_) ?_
  refine own_step (T' := s₁) (g' := (mkF m 3 #[.val (.int p1), .unset, .unset, .unset, .unset] [(.int (2147483647 : Int32)), (.int p1)])) (fun t_ k_ => X0.ldcInt hx hown (mvT hZ (hw _ (List.mem_of_getElem? (i := 0) rfl))) (g := (mkF m 1 #[.val (.int p1), .unset, .unset, .unset, .unset] [(.int p1)])) rfl (hb hby at_1) _ k_) ?_
  refine own_step (T' := s₁) (g' := (mkF m 4 #[.val (.int p1), .unset, .unset, .unset, .unset] [(.int (p1 &&& (2147483647 : Int32)))])) (fun t_ k_ => XS.iand X0.here hx rfl (hb hby at_3) rfl k_) ?_
  refine own_step (T' := s₁) (g' := (mkF m 5 #[.val (.int p1), .unset, .unset, .unset, .unset] [(.int (5 : Int32)), (.int (p1 &&& (2147483647 : Int32)))])) (fun t_ k_ => XS.iconst X0.here hx rfl (hb hby at_4) k_) ?_
  refine own_step (T' := s₁) (g' := (mkF m 6 #[.val (.int p1), .unset, .unset, .unset, .unset] [(.int ((p1 &&& (2147483647 : Int32)) % (5 : Int32)))])) (fun t_ k_ => iremM X0 hx rfl (hb hby at_5) rfl (by decide) k_) ?_
  rw [hk]
  refine own_step (T' := s₁) (g' := (mkF m 7 #[.val (.int p1), .val (.int (1 : Int32)), .unset, .unset, .unset] [])) (fun t_ k_ => XS.istoreN X0.here hx rfl (hb hby at_6) rfl (l' := #[.val (.int p1), .val (.int (1 : Int32)), .unset, .unset, .unset]) rfl k_) ?_
  refine own_step (T' := s₁) (g' := (mkF m 8 #[.val (.int p1), .val (.int (1 : Int32)), .unset, .unset, .unset] [(.int (1 : Int32))])) (fun t_ k_ => XS.iloadN X0.here hx rfl (hb hby at_7) rfl k_) ?_
  obtain ⟨_, _, ⟨T1, L1, k1, n1⟩, -, X1, ⟨Lc1, hQ1, l1, y1, z1⟩, st1⟩ := Jvm.LawKit.callS X0 hx (y := (⟨"com/example/hushed_flood/hushedflood/peer/StrategyLevelTwoPinLaw", "pick", "(I)Lcom/example/hushed_flood/hushedflood/peer/Strategy;"⟩ : MethodName)) hown (mvT hZ (hw _ (List.mem_of_getElem? (i := 1) rfl))) (mvT hZ (hw _ (List.mem_of_getElem? (i := 2) rfl))) (mvT hZ (hw _ (List.mem_of_getElem? (i := 3) rfl))) (mvT hZ (hw _ (List.mem_of_getElem? (i := 4) rfl))) (by decide) (backOf (W := 0) (rm1_1 l Z a0 hw [] A_RANDOM_WALK h0 n0 Z0 S_RANDOM_WALK) hZ (hw _ (List.mem_of_getElem? (i := 4) rfl)) (hw _ (List.mem_of_getElem? (i := 3) rfl)) (by decide) (by decide)) (g := (mkF m 8 #[.val (.int p1), .val (.int (1 : Int32)), .unset, .unset, .unset] [(.int (1 : Int32))])) rfl (by rw [hml]; rfl) (argsL := [(.int (1 : Int32))]) (rest := []) (lenOf (by decide +kernel : parseMethodDescriptor "(I)Lcom/example/hushed_flood/hushedflood/peer/Strategy;" = some ⟨[.int], some (.object "com/example/hushed_flood/hushedflood/peer/Strategy")⟩) rfl) rfl (by show 2 * 0 + _ ≤ _; exact Nat.le_of_eq rfl) (hb hby at_8) (fun _ _ => ⟨rfl, e0, (by decide : 0 + 0 ≤ _), (by decide : 0 + 0 ≤ _)⟩)
  dsimp only [Pt.U, Pt.locs, Pt.cells, Pt.slots] at X1 l1 y1 z1 st1 hQ1
  subst l1 y1 z1
  obtain ⟨rfl, Nq1, e1⟩ := hQ1
  have N1 := Fr.app N0 Nq1
  refine own_step (T' := T1) (g' := (mkF m 11 #[.val (.int p1), .val (.int (1 : Int32)), .unset, .unset, .unset] [(.ref A_RANDOM_WALK)])) st1 ?_
  refine own_step (T' := T1) (g' := (mkF m 12 #[.val (.int p1), .val (.int (1 : Int32)), .val (.ref A_RANDOM_WALK), .unset, .unset] [])) (fun t_ k_ => XS.astoreN X1.here hx rfl (hb hby at_11) rfl rfl (l' := #[.val (.int p1), .val (.int (1 : Int32)), .val (.ref A_RANDOM_WALK), .unset, .unset]) rfl k_) ?_
  refine own_step (T' := T1) (g' := (mkF m 13 #[.val (.int p1), .val (.int (1 : Int32)), .val (.ref A_RANDOM_WALK), .unset, .unset] [(.int (1 : Int32))])) (fun t_ k_ => XS.iloadN X1.here hx rfl (hb hby at_12) rfl k_) ?_
  refine own_step (T' := T1) (g' := (mkF m 14 #[.val (.int p1), .val (.int (1 : Int32)), .val (.ref A_RANDOM_WALK), .unset, .unset] [(.int (3 : Int32)), (.int (1 : Int32))])) (fun t_ k_ => XS.iconst X1.here hx rfl (hb hby at_13) k_) ?_
  refine own_step (T' := T1) (g' := (mkF m 21 #[.val (.int p1), .val (.int (1 : Int32)), .val (.ref A_RANDOM_WALK), .unset, .unset] [])) (fun t_ k_ => XS.icmpYes X1.here hx rfl (pc0 := 14) (pc' := 21) rfl (hb hby at_14) rfl (feq (by decide)).2 (by decide) (by decide) k_) ?_
  refine own_step (T' := T1) (g' := (mkF m 22 #[.val (.int p1), .val (.int (1 : Int32)), .val (.ref A_RANDOM_WALK), .unset, .unset] [(.int (0 : Int32))])) (fun t_ k_ => XS.iconst X1.here hx rfl (hb hby at_21) k_) ?_
  refine own_step (T' := T1) (g' := (mkF m 23 #[.val (.int p1), .val (.int (1 : Int32)), .val (.ref A_RANDOM_WALK), .val (.int (0 : Int32)), .unset] [])) (fun t_ k_ => XS.istoreN X1.here hx rfl (hb hby at_22) rfl (l' := #[.val (.int p1), .val (.int (1 : Int32)), .val (.ref A_RANDOM_WALK), .val (.int (0 : Int32)), .unset]) rfl k_) ?_
  refine own_step (T' := T1) (g' := (mkF m 24 #[.val (.int p1), .val (.int (1 : Int32)), .val (.ref A_RANDOM_WALK), .val (.int (0 : Int32)), .unset] [(.ref A_RANDOM_WALK)])) (fun t_ k_ => XS.aloadN X1.here hx rfl (hb hby at_23) rfl rfl k_) ?_
  obtain ⟨cq2, kq2, q2a, q2b, q2c⟩ := isOf hZ e1 E_RANDOM_WALK
  obtain ⟨_, _, ⟨T2, L2, k2, n2⟩, -, X2, ⟨Lc2, hQ2, l2, y2, z2⟩, st2⟩ := X1.virtualBack hx (y := (⟨"com/example/hushed_flood/hushedflood/peer/Strategy", "levelTwo", "()Z"⟩ : MethodName)) (z := (⟨"com/example/hushed_flood/hushedflood/peer/Strategy", "levelTwo", "()Z"⟩ : MethodName)) hown (mvT hZ (hw _ (List.mem_of_getElem? (i := 8) rfl))) (mvT hZ (hw _ (List.mem_of_getElem? (i := 9) rfl))) (notFace_of_selects (args := #[]) (mvT hZ (hw _ (List.mem_of_getElem? (i := 11) rfl)))) (mvT hZ (hw _ (List.mem_of_getElem? (i := 11) rfl))) (mvT hZ (hw _ (List.mem_of_getElem? (i := 10) rfl))) (by decide) (backOf (W := 0) (rm2 l Z a0 hw [] A_RANDOM_WALK (0 : Int32) (0 : Int32) h0 n0 Z0 F_RANDOM_WALK_levels (by decide)) hZ (hw _ (List.mem_of_getElem? (i := 12) rfl)) (hw _ (List.mem_of_getElem? (i := 6) rfl)) (by decide) (by decide)) q2a q2c (g := (mkF m 24 #[.val (.int p1), .val (.int (1 : Int32)), .val (.ref A_RANDOM_WALK), .val (.int (0 : Int32)), .unset] [(.ref A_RANDOM_WALK)])) rfl (by rw [hml]; rfl) (Steps.refl _) (argsL := []) (rest := []) (lenOf (by decide +kernel : parseMethodDescriptor "()Z" = some ⟨[], some .boolean⟩) rfl) rfl (by show 2 * 0 + _ ≤ _; exact Nat.le_of_eq rfl) (hb hby at_24) (fun _ _ => ⟨rfl, e1, (by decide : 0 + 0 ≤ _), (by decide : 0 + 0 ≤ _)⟩)
  dsimp only [Pt.U, Pt.locs, Pt.cells, Pt.slots] at X2 l2 y2 z2 st2 hQ2
  subst l2 y2 z2
  obtain ⟨rfl, Nq2, e2⟩ := hQ2
  have N2 := Fr.app N1 Nq2
  refine own_to (T' := T2) (g' := (mkF m 27 #[.val (.int p1), .val (.int (1 : Int32)), .val (.ref A_RANDOM_WALK), .val (.int (0 : Int32)), .unset] [(.int (0 : Int32))])) st2 ?_
  refine own_step (T' := T2) (g' := (mkF m 29 #[.val (.int p1), .val (.int (1 : Int32)), .val (.ref A_RANDOM_WALK), .val (.int (0 : Int32)), .val (.int (0 : Int32))] [])) (fun t_ k_ => XS.istore X2.here hx rfl (hb hby at_27) rfl (l' := #[.val (.int p1), .val (.int (1 : Int32)), .val (.ref A_RANDOM_WALK), .val (.int (0 : Int32)), .val (.int (0 : Int32))]) rfl k_) ?_
  refine own_step (T' := T2) (g' := (mkF m 31 #[.val (.int p1), .val (.int (1 : Int32)), .val (.ref A_RANDOM_WALK), .val (.int (0 : Int32)), .val (.int (0 : Int32))] [(.int (0 : Int32))])) (fun t_ k_ => XS.iload X2.here hx rfl (hb hby at_29) rfl k_) ?_
  refine own_step (T' := T2) (g' := (mkF m 32 #[.val (.int p1), .val (.int (1 : Int32)), .val (.ref A_RANDOM_WALK), .val (.int (0 : Int32)), .val (.int (0 : Int32))] [(.int (0 : Int32)), (.int (0 : Int32))])) (fun t_ k_ => XS.iloadN X2.here hx rfl (hb hby at_31) rfl k_) ?_
  refine own_step (T' := T2) (g' := (mkF m 37 #[.val (.int p1), .val (.int (1 : Int32)), .val (.ref A_RANDOM_WALK), .val (.int (0 : Int32)), .val (.int (0 : Int32))] [])) (fun t_ k_ => XS.icmpYes X2.here hx rfl (pc0 := 32) (pc' := 37) rfl (hb hby at_32) rfl (teq (by decide)).1 (by decide) (by decide) k_) ?_
  refine own_step (T' := T2) (g' := (mkF m 39 #[.val (.int p1), .val (.int (1 : Int32)), .val (.ref A_RANDOM_WALK), .val (.int (0 : Int32)), .val (.int (0 : Int32))] [(.int (0 : Int32))])) (fun t_ k_ => XS.iload X2.here hx rfl (hb hby at_37) rfl k_) ?_
  refine own_step (T' := T2) (g' := (mkF m 51 #[.val (.int p1), .val (.int (1 : Int32)), .val (.ref A_RANDOM_WALK), .val (.int (0 : Int32)), .val (.int (0 : Int32))] [])) (fun t_ k_ => XS.ifYes X2.here hx rfl (pc0 := 39) (pc' := 51) rfl (hb hby at_39) rfl ((if0 _ _).trans (teq (by decide)).1) (by decide) (by decide) k_) ?_
  refine own_step (T' := T2) (g' := (mkF m 52 #[.val (.int p1), .val (.int (1 : Int32)), .val (.ref A_RANDOM_WALK), .val (.int (0 : Int32)), .val (.int (0 : Int32))] [(.int (1 : Int32))])) (fun t_ k_ => XS.iconst X2.here hx rfl (hb hby at_51) k_) ?_
  obtain ⟨fs, hrR, hrun, hended, hWW, hsame⟩ := X2.leave (v := some (.int (1 : Int32))) (fun h => by rw [Bd.returns] at h; cases h)
  refine ⟨_, _, own_retZ X2 hx (t := .boolean) Bd.returns (by simp) (by decide) (hb hby at_52) hrR, hrun, hended, hPP _ _ ⟨_, _, rfl, ?_, ⟨_, rfl⟩, hWW, hsame.mono (by decide) (by decide)⟩⟩
  show Q0 n0 _ T2.heap _
  rw [e2]
  exact ⟨rfl, N2⟩
set_option maxRecDepth 65536 in
set_option maxHeartbeats 40000000 in
theorem rm0_2 (l : Launch) (Z : State) (a0 : Array Value) (hw : ∀ d ∈ tables_1, d.before a0 Z = true) (ws : List Jvm.Cond) (p1 : Int32) (A_BLOOM_L1 : Addr) (h0 : Heap) (n0 : Nat) (Z0 : n0 ≤ h0.size) (hk : (p1 &&& 2147483647) % 5 = 2) (E_BLOOM_L1 : Exa Z h0 A_BLOOM_L1 "com/example/hushed_flood/hushedflood/peer/Strategy") (S_BLOOM_L1 : Sta Z h0 "com/example/hushed_flood/hushedflood/peer/Strategy" "BLOOM_L1" "Lcom/example/hushed_flood/hushedflood/peer/Strategy;" (.ref A_BLOOM_L1)) (F_BLOOM_L1_levels : Fld Z h0 A_BLOOM_L1 "com/example/hushed_flood/hushedflood/peer/Strategy" "levels" "I" (.int (1 : Int32))) :
    MetFree l x (head1 (Jvm.Cond.code x code maxLocals ret :: ws) room_1) (fun a U => a = #[(.int p1)] ∧ Z.Warmed39 U.vm ∧ U.heap = h0) (fun _ _ _ _ _ => True) (fun _ U o U' => ∃ v L, o = .returned v ∧ Q0 n0 v U'.heap L ∧ FrameEnd U o U' L 0 0) := by
  refine MetFree.of_bodySF (plainFor_of_name (by first | (simp [plainName, overriddenIn]; done) | decide +kernel)) hisR ?_
  intro p e s m args below meth c s₁ Bd hml0 hP hK
  obtain ⟨rfl, hZ, hh⟩ := hP
  have hx := Bd.exec
  have hby := Bd.bytes
  have hml : c.maxLocals = 5 := hml0
  have hown : s.vm.findClass "com/example/hushed_flood/hushedflood/peer/StrategyLevelTwoPinLaw" = some m.cls := findClass_of_methodNamed Bd.named
  have hnm := (name_of_methodNamed Bd.named Bd.method).1
  have X0 : Stand p l e room_1 s m #[(.int p1)] below meth c s₁ [] 0 0 := Stand.of_body Bd
  have e0 : s₁.heap = h0 := by rw [← hh, Bd.state]; rfl
  have N0 := Fr.nil n0
  have ef : entryFrame m #[(.int p1)] maxLocals = (mkF m 0 #[.val (.int p1), .unset, .unset, .unset, .unset] []) := by first | (simp [entryFrame, mkF, argsToLocals, Value.category, maxLocals]; done) | rfl
  refine own_start (fun P hPP => ?_)
  refine own_step (T' := s₁) (g' := (mkF m 0 #[.val (.int p1), .unset, .unset, .unset, .unset] [])) (fun t_ k_ => castTop ef k_) ?_
  refine own_step (T' := s₁) (g' := (mkF m 1 #[.val (.int p1), .unset, .unset, .unset, .unset] [(.int p1)])) (fun t_ k_ => XS.iloadN X0.here hx rfl (hb hby at_0) rfl k_) ?_
  refine own_step (T' := s₁) (g' := (mkF m 3 #[.val (.int p1), .unset, .unset, .unset, .unset] [(.int (2147483647 : Int32)), (.int p1)])) (fun t_ k_ => X0.ldcInt hx hown (mvT hZ (hw _ (List.mem_of_getElem? (i := 0) rfl))) (g := (mkF m 1 #[.val (.int p1), .unset, .unset, .unset, .unset] [(.int p1)])) rfl (hb hby at_1) _ k_) ?_
  refine own_step (T' := s₁) (g' := (mkF m 4 #[.val (.int p1), .unset, .unset, .unset, .unset] [(.int (p1 &&& (2147483647 : Int32)))])) (fun t_ k_ => XS.iand X0.here hx rfl (hb hby at_3) rfl k_) ?_
  refine own_step (T' := s₁) (g' := (mkF m 5 #[.val (.int p1), .unset, .unset, .unset, .unset] [(.int (5 : Int32)), (.int (p1 &&& (2147483647 : Int32)))])) (fun t_ k_ => XS.iconst X0.here hx rfl (hb hby at_4) k_) ?_
  refine own_step (T' := s₁) (g' := (mkF m 6 #[.val (.int p1), .unset, .unset, .unset, .unset] [(.int ((p1 &&& (2147483647 : Int32)) % (5 : Int32)))])) (fun t_ k_ => iremM X0 hx rfl (hb hby at_5) rfl (by decide) k_) ?_
  rw [hk]
  refine own_step (T' := s₁) (g' := (mkF m 7 #[.val (.int p1), .val (.int (2 : Int32)), .unset, .unset, .unset] [])) (fun t_ k_ => XS.istoreN X0.here hx rfl (hb hby at_6) rfl (l' := #[.val (.int p1), .val (.int (2 : Int32)), .unset, .unset, .unset]) rfl k_) ?_
  refine own_step (T' := s₁) (g' := (mkF m 8 #[.val (.int p1), .val (.int (2 : Int32)), .unset, .unset, .unset] [(.int (2 : Int32))])) (fun t_ k_ => XS.iloadN X0.here hx rfl (hb hby at_7) rfl k_) ?_
  obtain ⟨_, _, ⟨T1, L1, k1, n1⟩, -, X1, ⟨Lc1, hQ1, l1, y1, z1⟩, st1⟩ := Jvm.LawKit.callS X0 hx (y := (⟨"com/example/hushed_flood/hushedflood/peer/StrategyLevelTwoPinLaw", "pick", "(I)Lcom/example/hushed_flood/hushedflood/peer/Strategy;"⟩ : MethodName)) hown (mvT hZ (hw _ (List.mem_of_getElem? (i := 1) rfl))) (mvT hZ (hw _ (List.mem_of_getElem? (i := 2) rfl))) (mvT hZ (hw _ (List.mem_of_getElem? (i := 3) rfl))) (mvT hZ (hw _ (List.mem_of_getElem? (i := 4) rfl))) (by decide) (backOf (W := 0) (rm1_2 l Z a0 hw [] A_BLOOM_L1 h0 n0 Z0 S_BLOOM_L1) hZ (hw _ (List.mem_of_getElem? (i := 4) rfl)) (hw _ (List.mem_of_getElem? (i := 3) rfl)) (by decide) (by decide)) (g := (mkF m 8 #[.val (.int p1), .val (.int (2 : Int32)), .unset, .unset, .unset] [(.int (2 : Int32))])) rfl (by rw [hml]; rfl) (argsL := [(.int (2 : Int32))]) (rest := []) (lenOf (by decide +kernel : parseMethodDescriptor "(I)Lcom/example/hushed_flood/hushedflood/peer/Strategy;" = some ⟨[.int], some (.object "com/example/hushed_flood/hushedflood/peer/Strategy")⟩) rfl) rfl (by show 2 * 0 + _ ≤ _; exact Nat.le_of_eq rfl) (hb hby at_8) (fun _ _ => ⟨rfl, e0, (by decide : 0 + 0 ≤ _), (by decide : 0 + 0 ≤ _)⟩)
  dsimp only [Pt.U, Pt.locs, Pt.cells, Pt.slots] at X1 l1 y1 z1 st1 hQ1
  subst l1 y1 z1
  obtain ⟨rfl, Nq1, e1⟩ := hQ1
  have N1 := Fr.app N0 Nq1
  refine own_step (T' := T1) (g' := (mkF m 11 #[.val (.int p1), .val (.int (2 : Int32)), .unset, .unset, .unset] [(.ref A_BLOOM_L1)])) st1 ?_
  refine own_step (T' := T1) (g' := (mkF m 12 #[.val (.int p1), .val (.int (2 : Int32)), .val (.ref A_BLOOM_L1), .unset, .unset] [])) (fun t_ k_ => XS.astoreN X1.here hx rfl (hb hby at_11) rfl rfl (l' := #[.val (.int p1), .val (.int (2 : Int32)), .val (.ref A_BLOOM_L1), .unset, .unset]) rfl k_) ?_
  refine own_step (T' := T1) (g' := (mkF m 13 #[.val (.int p1), .val (.int (2 : Int32)), .val (.ref A_BLOOM_L1), .unset, .unset] [(.int (2 : Int32))])) (fun t_ k_ => XS.iloadN X1.here hx rfl (hb hby at_12) rfl k_) ?_
  refine own_step (T' := T1) (g' := (mkF m 14 #[.val (.int p1), .val (.int (2 : Int32)), .val (.ref A_BLOOM_L1), .unset, .unset] [(.int (3 : Int32)), (.int (2 : Int32))])) (fun t_ k_ => XS.iconst X1.here hx rfl (hb hby at_13) k_) ?_
  refine own_step (T' := T1) (g' := (mkF m 21 #[.val (.int p1), .val (.int (2 : Int32)), .val (.ref A_BLOOM_L1), .unset, .unset] [])) (fun t_ k_ => XS.icmpYes X1.here hx rfl (pc0 := 14) (pc' := 21) rfl (hb hby at_14) rfl (feq (by decide)).2 (by decide) (by decide) k_) ?_
  refine own_step (T' := T1) (g' := (mkF m 22 #[.val (.int p1), .val (.int (2 : Int32)), .val (.ref A_BLOOM_L1), .unset, .unset] [(.int (0 : Int32))])) (fun t_ k_ => XS.iconst X1.here hx rfl (hb hby at_21) k_) ?_
  refine own_step (T' := T1) (g' := (mkF m 23 #[.val (.int p1), .val (.int (2 : Int32)), .val (.ref A_BLOOM_L1), .val (.int (0 : Int32)), .unset] [])) (fun t_ k_ => XS.istoreN X1.here hx rfl (hb hby at_22) rfl (l' := #[.val (.int p1), .val (.int (2 : Int32)), .val (.ref A_BLOOM_L1), .val (.int (0 : Int32)), .unset]) rfl k_) ?_
  refine own_step (T' := T1) (g' := (mkF m 24 #[.val (.int p1), .val (.int (2 : Int32)), .val (.ref A_BLOOM_L1), .val (.int (0 : Int32)), .unset] [(.ref A_BLOOM_L1)])) (fun t_ k_ => XS.aloadN X1.here hx rfl (hb hby at_23) rfl rfl k_) ?_
  obtain ⟨cq2, kq2, q2a, q2b, q2c⟩ := isOf hZ e1 E_BLOOM_L1
  obtain ⟨_, _, ⟨T2, L2, k2, n2⟩, -, X2, ⟨Lc2, hQ2, l2, y2, z2⟩, st2⟩ := X1.virtualBack hx (y := (⟨"com/example/hushed_flood/hushedflood/peer/Strategy", "levelTwo", "()Z"⟩ : MethodName)) (z := (⟨"com/example/hushed_flood/hushedflood/peer/Strategy", "levelTwo", "()Z"⟩ : MethodName)) hown (mvT hZ (hw _ (List.mem_of_getElem? (i := 8) rfl))) (mvT hZ (hw _ (List.mem_of_getElem? (i := 9) rfl))) (notFace_of_selects (args := #[]) (mvT hZ (hw _ (List.mem_of_getElem? (i := 11) rfl)))) (mvT hZ (hw _ (List.mem_of_getElem? (i := 11) rfl))) (mvT hZ (hw _ (List.mem_of_getElem? (i := 10) rfl))) (by decide) (backOf (W := 0) (rm2 l Z a0 hw [] A_BLOOM_L1 (1 : Int32) (0 : Int32) h0 n0 Z0 F_BLOOM_L1_levels (by decide)) hZ (hw _ (List.mem_of_getElem? (i := 12) rfl)) (hw _ (List.mem_of_getElem? (i := 6) rfl)) (by decide) (by decide)) q2a q2c (g := (mkF m 24 #[.val (.int p1), .val (.int (2 : Int32)), .val (.ref A_BLOOM_L1), .val (.int (0 : Int32)), .unset] [(.ref A_BLOOM_L1)])) rfl (by rw [hml]; rfl) (Steps.refl _) (argsL := []) (rest := []) (lenOf (by decide +kernel : parseMethodDescriptor "()Z" = some ⟨[], some .boolean⟩) rfl) rfl (by show 2 * 0 + _ ≤ _; exact Nat.le_of_eq rfl) (hb hby at_24) (fun _ _ => ⟨rfl, e1, (by decide : 0 + 0 ≤ _), (by decide : 0 + 0 ≤ _)⟩)
  dsimp only [Pt.U, Pt.locs, Pt.cells, Pt.slots] at X2 l2 y2 z2 st2 hQ2
  subst l2 y2 z2
  obtain ⟨rfl, Nq2, e2⟩ := hQ2
  have N2 := Fr.app N1 Nq2
  refine own_to (T' := T2) (g' := (mkF m 27 #[.val (.int p1), .val (.int (2 : Int32)), .val (.ref A_BLOOM_L1), .val (.int (0 : Int32)), .unset] [(.int (0 : Int32))])) st2 ?_
  refine own_step (T' := T2) (g' := (mkF m 29 #[.val (.int p1), .val (.int (2 : Int32)), .val (.ref A_BLOOM_L1), .val (.int (0 : Int32)), .val (.int (0 : Int32))] [])) (fun t_ k_ => XS.istore X2.here hx rfl (hb hby at_27) rfl (l' := #[.val (.int p1), .val (.int (2 : Int32)), .val (.ref A_BLOOM_L1), .val (.int (0 : Int32)), .val (.int (0 : Int32))]) rfl k_) ?_
  refine own_step (T' := T2) (g' := (mkF m 31 #[.val (.int p1), .val (.int (2 : Int32)), .val (.ref A_BLOOM_L1), .val (.int (0 : Int32)), .val (.int (0 : Int32))] [(.int (0 : Int32))])) (fun t_ k_ => XS.iload X2.here hx rfl (hb hby at_29) rfl k_) ?_
  refine own_step (T' := T2) (g' := (mkF m 32 #[.val (.int p1), .val (.int (2 : Int32)), .val (.ref A_BLOOM_L1), .val (.int (0 : Int32)), .val (.int (0 : Int32))] [(.int (0 : Int32)), (.int (0 : Int32))])) (fun t_ k_ => XS.iloadN X2.here hx rfl (hb hby at_31) rfl k_) ?_
  refine own_step (T' := T2) (g' := (mkF m 37 #[.val (.int p1), .val (.int (2 : Int32)), .val (.ref A_BLOOM_L1), .val (.int (0 : Int32)), .val (.int (0 : Int32))] [])) (fun t_ k_ => XS.icmpYes X2.here hx rfl (pc0 := 32) (pc' := 37) rfl (hb hby at_32) rfl (teq (by decide)).1 (by decide) (by decide) k_) ?_
  refine own_step (T' := T2) (g' := (mkF m 39 #[.val (.int p1), .val (.int (2 : Int32)), .val (.ref A_BLOOM_L1), .val (.int (0 : Int32)), .val (.int (0 : Int32))] [(.int (0 : Int32))])) (fun t_ k_ => XS.iload X2.here hx rfl (hb hby at_37) rfl k_) ?_
  refine own_step (T' := T2) (g' := (mkF m 51 #[.val (.int p1), .val (.int (2 : Int32)), .val (.ref A_BLOOM_L1), .val (.int (0 : Int32)), .val (.int (0 : Int32))] [])) (fun t_ k_ => XS.ifYes X2.here hx rfl (pc0 := 39) (pc' := 51) rfl (hb hby at_39) rfl ((if0 _ _).trans (teq (by decide)).1) (by decide) (by decide) k_) ?_
  refine own_step (T' := T2) (g' := (mkF m 52 #[.val (.int p1), .val (.int (2 : Int32)), .val (.ref A_BLOOM_L1), .val (.int (0 : Int32)), .val (.int (0 : Int32))] [(.int (1 : Int32))])) (fun t_ k_ => XS.iconst X2.here hx rfl (hb hby at_51) k_) ?_
  obtain ⟨fs, hrR, hrun, hended, hWW, hsame⟩ := X2.leave (v := some (.int (1 : Int32))) (fun h => by rw [Bd.returns] at h; cases h)
  refine ⟨_, _, own_retZ X2 hx (t := .boolean) Bd.returns (by simp) (by decide) (hb hby at_52) hrR, hrun, hended, hPP _ _ ⟨_, _, rfl, ?_, ⟨_, rfl⟩, hWW, hsame.mono (by decide) (by decide)⟩⟩
  show Q0 n0 _ T2.heap _
  rw [e2]
  exact ⟨rfl, N2⟩
set_option maxRecDepth 65536 in
set_option maxHeartbeats 40000000 in
theorem rm0_3 (l : Launch) (Z : State) (a0 : Array Value) (hw : ∀ d ∈ tables_1, d.before a0 Z = true) (ws : List Jvm.Cond) (p1 : Int32) (A_BLOOM : Addr) (h0 : Heap) (n0 : Nat) (Z0 : n0 ≤ h0.size) (hk : (p1 &&& 2147483647) % 5 = 3) (E_BLOOM : Exa Z h0 A_BLOOM "com/example/hushed_flood/hushedflood/peer/Strategy") (S_BLOOM : Sta Z h0 "com/example/hushed_flood/hushedflood/peer/Strategy" "BLOOM" "Lcom/example/hushed_flood/hushedflood/peer/Strategy;" (.ref A_BLOOM)) (F_BLOOM_levels : Fld Z h0 A_BLOOM "com/example/hushed_flood/hushedflood/peer/Strategy" "levels" "I" (.int (2 : Int32))) :
    MetFree l x (head1 (Jvm.Cond.code x code maxLocals ret :: ws) room_1) (fun a U => a = #[(.int p1)] ∧ Z.Warmed39 U.vm ∧ U.heap = h0) (fun _ _ _ _ _ => True) (fun _ U o U' => ∃ v L, o = .returned v ∧ Q0 n0 v U'.heap L ∧ FrameEnd U o U' L 0 0) := by
  refine MetFree.of_bodySF (plainFor_of_name (by first | (simp [plainName, overriddenIn]; done) | decide +kernel)) hisR ?_
  intro p e s m args below meth c s₁ Bd hml0 hP hK
  obtain ⟨rfl, hZ, hh⟩ := hP
  have hx := Bd.exec
  have hby := Bd.bytes
  have hml : c.maxLocals = 5 := hml0
  have hown : s.vm.findClass "com/example/hushed_flood/hushedflood/peer/StrategyLevelTwoPinLaw" = some m.cls := findClass_of_methodNamed Bd.named
  have hnm := (name_of_methodNamed Bd.named Bd.method).1
  have X0 : Stand p l e room_1 s m #[(.int p1)] below meth c s₁ [] 0 0 := Stand.of_body Bd
  have e0 : s₁.heap = h0 := by rw [← hh, Bd.state]; rfl
  have N0 := Fr.nil n0
  have ef : entryFrame m #[(.int p1)] maxLocals = (mkF m 0 #[.val (.int p1), .unset, .unset, .unset, .unset] []) := by first | (simp [entryFrame, mkF, argsToLocals, Value.category, maxLocals]; done) | rfl
  refine own_start (fun P hPP => ?_)
  refine own_step (T' := s₁) (g' := (mkF m 0 #[.val (.int p1), .unset, .unset, .unset, .unset] [])) (fun t_ k_ => castTop ef k_) ?_
  refine own_step (T' := s₁) (g' := (mkF m 1 #[.val (.int p1), .unset, .unset, .unset, .unset] [(.int p1)])) (fun t_ k_ => XS.iloadN X0.here hx rfl (hb hby at_0) rfl k_) ?_
  refine own_step (T' := s₁) (g' := (mkF m 3 #[.val (.int p1), .unset, .unset, .unset, .unset] [(.int (2147483647 : Int32)), (.int p1)])) (fun t_ k_ => X0.ldcInt hx hown (mvT hZ (hw _ (List.mem_of_getElem? (i := 0) rfl))) (g := (mkF m 1 #[.val (.int p1), .unset, .unset, .unset, .unset] [(.int p1)])) rfl (hb hby at_1) _ k_) ?_
  refine own_step (T' := s₁) (g' := (mkF m 4 #[.val (.int p1), .unset, .unset, .unset, .unset] [(.int (p1 &&& (2147483647 : Int32)))])) (fun t_ k_ => XS.iand X0.here hx rfl (hb hby at_3) rfl k_) ?_
  refine own_step (T' := s₁) (g' := (mkF m 5 #[.val (.int p1), .unset, .unset, .unset, .unset] [(.int (5 : Int32)), (.int (p1 &&& (2147483647 : Int32)))])) (fun t_ k_ => XS.iconst X0.here hx rfl (hb hby at_4) k_) ?_
  refine own_step (T' := s₁) (g' := (mkF m 6 #[.val (.int p1), .unset, .unset, .unset, .unset] [(.int ((p1 &&& (2147483647 : Int32)) % (5 : Int32)))])) (fun t_ k_ => iremM X0 hx rfl (hb hby at_5) rfl (by decide) k_) ?_
  rw [hk]
  refine own_step (T' := s₁) (g' := (mkF m 7 #[.val (.int p1), .val (.int (3 : Int32)), .unset, .unset, .unset] [])) (fun t_ k_ => XS.istoreN X0.here hx rfl (hb hby at_6) rfl (l' := #[.val (.int p1), .val (.int (3 : Int32)), .unset, .unset, .unset]) rfl k_) ?_
  refine own_step (T' := s₁) (g' := (mkF m 8 #[.val (.int p1), .val (.int (3 : Int32)), .unset, .unset, .unset] [(.int (3 : Int32))])) (fun t_ k_ => XS.iloadN X0.here hx rfl (hb hby at_7) rfl k_) ?_
  obtain ⟨_, _, ⟨T1, L1, k1, n1⟩, -, X1, ⟨Lc1, hQ1, l1, y1, z1⟩, st1⟩ := Jvm.LawKit.callS X0 hx (y := (⟨"com/example/hushed_flood/hushedflood/peer/StrategyLevelTwoPinLaw", "pick", "(I)Lcom/example/hushed_flood/hushedflood/peer/Strategy;"⟩ : MethodName)) hown (mvT hZ (hw _ (List.mem_of_getElem? (i := 1) rfl))) (mvT hZ (hw _ (List.mem_of_getElem? (i := 2) rfl))) (mvT hZ (hw _ (List.mem_of_getElem? (i := 3) rfl))) (mvT hZ (hw _ (List.mem_of_getElem? (i := 4) rfl))) (by decide) (backOf (W := 0) (rm1_3 l Z a0 hw [] A_BLOOM h0 n0 Z0 S_BLOOM) hZ (hw _ (List.mem_of_getElem? (i := 4) rfl)) (hw _ (List.mem_of_getElem? (i := 3) rfl)) (by decide) (by decide)) (g := (mkF m 8 #[.val (.int p1), .val (.int (3 : Int32)), .unset, .unset, .unset] [(.int (3 : Int32))])) rfl (by rw [hml]; rfl) (argsL := [(.int (3 : Int32))]) (rest := []) (lenOf (by decide +kernel : parseMethodDescriptor "(I)Lcom/example/hushed_flood/hushedflood/peer/Strategy;" = some ⟨[.int], some (.object "com/example/hushed_flood/hushedflood/peer/Strategy")⟩) rfl) rfl (by show 2 * 0 + _ ≤ _; exact Nat.le_of_eq rfl) (hb hby at_8) (fun _ _ => ⟨rfl, e0, (by decide : 0 + 0 ≤ _), (by decide : 0 + 0 ≤ _)⟩)
  dsimp only [Pt.U, Pt.locs, Pt.cells, Pt.slots] at X1 l1 y1 z1 st1 hQ1
  subst l1 y1 z1
  obtain ⟨rfl, Nq1, e1⟩ := hQ1
  have N1 := Fr.app N0 Nq1
  refine own_step (T' := T1) (g' := (mkF m 11 #[.val (.int p1), .val (.int (3 : Int32)), .unset, .unset, .unset] [(.ref A_BLOOM)])) st1 ?_
  refine own_step (T' := T1) (g' := (mkF m 12 #[.val (.int p1), .val (.int (3 : Int32)), .val (.ref A_BLOOM), .unset, .unset] [])) (fun t_ k_ => XS.astoreN X1.here hx rfl (hb hby at_11) rfl rfl (l' := #[.val (.int p1), .val (.int (3 : Int32)), .val (.ref A_BLOOM), .unset, .unset]) rfl k_) ?_
  refine own_step (T' := T1) (g' := (mkF m 13 #[.val (.int p1), .val (.int (3 : Int32)), .val (.ref A_BLOOM), .unset, .unset] [(.int (3 : Int32))])) (fun t_ k_ => XS.iloadN X1.here hx rfl (hb hby at_12) rfl k_) ?_
  refine own_step (T' := T1) (g' := (mkF m 14 #[.val (.int p1), .val (.int (3 : Int32)), .val (.ref A_BLOOM), .unset, .unset] [(.int (3 : Int32)), (.int (3 : Int32))])) (fun t_ k_ => XS.iconst X1.here hx rfl (hb hby at_13) k_) ?_
  refine own_step (T' := T1) (g' := (mkF m 17 #[.val (.int p1), .val (.int (3 : Int32)), .val (.ref A_BLOOM), .unset, .unset] [])) (fun t_ k_ => XS.icmpNo X1.here hx rfl (hb hby at_14) rfl (teq (by decide)).2 k_) ?_
  refine own_step (T' := T1) (g' := (mkF m 18 #[.val (.int p1), .val (.int (3 : Int32)), .val (.ref A_BLOOM), .unset, .unset] [(.int (1 : Int32))])) (fun t_ k_ => XS.iconst X1.here hx rfl (hb hby at_17) k_) ?_
  refine own_step (T' := T1) (g' := (mkF m 22 #[.val (.int p1), .val (.int (3 : Int32)), .val (.ref A_BLOOM), .unset, .unset] [(.int (1 : Int32))])) (fun t_ k_ => XS.goto X1.here hx rfl (pc0 := 18) (pc' := 22) rfl (hb hby at_18) (by decide) (by decide) k_) ?_
  refine own_step (T' := T1) (g' := (mkF m 23 #[.val (.int p1), .val (.int (3 : Int32)), .val (.ref A_BLOOM), .val (.int (1 : Int32)), .unset] [])) (fun t_ k_ => XS.istoreN X1.here hx rfl (hb hby at_22) rfl (l' := #[.val (.int p1), .val (.int (3 : Int32)), .val (.ref A_BLOOM), .val (.int (1 : Int32)), .unset]) rfl k_) ?_
  refine own_step (T' := T1) (g' := (mkF m 24 #[.val (.int p1), .val (.int (3 : Int32)), .val (.ref A_BLOOM), .val (.int (1 : Int32)), .unset] [(.ref A_BLOOM)])) (fun t_ k_ => XS.aloadN X1.here hx rfl (hb hby at_23) rfl rfl k_) ?_
  obtain ⟨cq2, kq2, q2a, q2b, q2c⟩ := isOf hZ e1 E_BLOOM
  obtain ⟨_, _, ⟨T2, L2, k2, n2⟩, -, X2, ⟨Lc2, hQ2, l2, y2, z2⟩, st2⟩ := X1.virtualBack hx (y := (⟨"com/example/hushed_flood/hushedflood/peer/Strategy", "levelTwo", "()Z"⟩ : MethodName)) (z := (⟨"com/example/hushed_flood/hushedflood/peer/Strategy", "levelTwo", "()Z"⟩ : MethodName)) hown (mvT hZ (hw _ (List.mem_of_getElem? (i := 8) rfl))) (mvT hZ (hw _ (List.mem_of_getElem? (i := 9) rfl))) (notFace_of_selects (args := #[]) (mvT hZ (hw _ (List.mem_of_getElem? (i := 11) rfl)))) (mvT hZ (hw _ (List.mem_of_getElem? (i := 11) rfl))) (mvT hZ (hw _ (List.mem_of_getElem? (i := 10) rfl))) (by decide) (backOf (W := 0) (rm2 l Z a0 hw [] A_BLOOM (2 : Int32) (1 : Int32) h0 n0 Z0 F_BLOOM_levels (by decide)) hZ (hw _ (List.mem_of_getElem? (i := 12) rfl)) (hw _ (List.mem_of_getElem? (i := 6) rfl)) (by decide) (by decide)) q2a q2c (g := (mkF m 24 #[.val (.int p1), .val (.int (3 : Int32)), .val (.ref A_BLOOM), .val (.int (1 : Int32)), .unset] [(.ref A_BLOOM)])) rfl (by rw [hml]; rfl) (Steps.refl _) (argsL := []) (rest := []) (lenOf (by decide +kernel : parseMethodDescriptor "()Z" = some ⟨[], some .boolean⟩) rfl) rfl (by show 2 * 0 + _ ≤ _; exact Nat.le_of_eq rfl) (hb hby at_24) (fun _ _ => ⟨rfl, e1, (by decide : 0 + 0 ≤ _), (by decide : 0 + 0 ≤ _)⟩)
  dsimp only [Pt.U, Pt.locs, Pt.cells, Pt.slots] at X2 l2 y2 z2 st2 hQ2
  subst l2 y2 z2
  obtain ⟨rfl, Nq2, e2⟩ := hQ2
  have N2 := Fr.app N1 Nq2
  refine own_to (T' := T2) (g' := (mkF m 27 #[.val (.int p1), .val (.int (3 : Int32)), .val (.ref A_BLOOM), .val (.int (1 : Int32)), .unset] [(.int (1 : Int32))])) st2 ?_
  refine own_step (T' := T2) (g' := (mkF m 29 #[.val (.int p1), .val (.int (3 : Int32)), .val (.ref A_BLOOM), .val (.int (1 : Int32)), .val (.int (1 : Int32))] [])) (fun t_ k_ => XS.istore X2.here hx rfl (hb hby at_27) rfl (l' := #[.val (.int p1), .val (.int (3 : Int32)), .val (.ref A_BLOOM), .val (.int (1 : Int32)), .val (.int (1 : Int32))]) rfl k_) ?_
  refine own_step (T' := T2) (g' := (mkF m 31 #[.val (.int p1), .val (.int (3 : Int32)), .val (.ref A_BLOOM), .val (.int (1 : Int32)), .val (.int (1 : Int32))] [(.int (1 : Int32))])) (fun t_ k_ => XS.iload X2.here hx rfl (hb hby at_29) rfl k_) ?_
  refine own_step (T' := T2) (g' := (mkF m 32 #[.val (.int p1), .val (.int (3 : Int32)), .val (.ref A_BLOOM), .val (.int (1 : Int32)), .val (.int (1 : Int32))] [(.int (1 : Int32)), (.int (1 : Int32))])) (fun t_ k_ => XS.iloadN X2.here hx rfl (hb hby at_31) rfl k_) ?_
  refine own_step (T' := T2) (g' := (mkF m 37 #[.val (.int p1), .val (.int (3 : Int32)), .val (.ref A_BLOOM), .val (.int (1 : Int32)), .val (.int (1 : Int32))] [])) (fun t_ k_ => XS.icmpYes X2.here hx rfl (pc0 := 32) (pc' := 37) rfl (hb hby at_32) rfl (teq (by decide)).1 (by decide) (by decide) k_) ?_
  refine own_step (T' := T2) (g' := (mkF m 39 #[.val (.int p1), .val (.int (3 : Int32)), .val (.ref A_BLOOM), .val (.int (1 : Int32)), .val (.int (1 : Int32))] [(.int (1 : Int32))])) (fun t_ k_ => XS.iload X2.here hx rfl (hb hby at_37) rfl k_) ?_
  refine own_step (T' := T2) (g' := (mkF m 42 #[.val (.int p1), .val (.int (3 : Int32)), .val (.ref A_BLOOM), .val (.int (1 : Int32)), .val (.int (1 : Int32))] [])) (fun t_ k_ => XS.ifNo X2.here hx rfl (hb hby at_39) rfl ((if0 _ _).trans (feq (by decide)).1) k_) ?_
  refine own_step (T' := T2) (g' := (mkF m 43 #[.val (.int p1), .val (.int (3 : Int32)), .val (.ref A_BLOOM), .val (.int (1 : Int32)), .val (.int (1 : Int32))] [(.ref A_BLOOM)])) (fun t_ k_ => XS.aloadN X2.here hx rfl (hb hby at_42) rfl rfl k_) ?_
  obtain ⟨cq3, kq3, q3a, q3b, q3c⟩ := isOf hZ e2 E_BLOOM
  obtain ⟨_, _, ⟨T3, L3, k3, n3⟩, -, X3, ⟨Lc3, hQ3, l3, y3, z3⟩, st3⟩ := X2.virtualBack hx (y := (⟨"com/example/hushed_flood/hushedflood/peer/Strategy", "bloom", "()Z"⟩ : MethodName)) (z := (⟨"com/example/hushed_flood/hushedflood/peer/Strategy", "bloom", "()Z"⟩ : MethodName)) hown (mvT hZ (hw _ (List.mem_of_getElem? (i := 17) rfl))) (mvT hZ (hw _ (List.mem_of_getElem? (i := 18) rfl))) (notFace_of_selects (args := #[]) (mvT hZ (hw _ (List.mem_of_getElem? (i := 20) rfl)))) (mvT hZ (hw _ (List.mem_of_getElem? (i := 20) rfl))) (mvT hZ (hw _ (List.mem_of_getElem? (i := 19) rfl))) (by decide) (backOf (W := 0) (rm3 l Z a0 hw [] A_BLOOM (2 : Int32) (1 : Int32) h0 n0 Z0 F_BLOOM_levels (by decide)) hZ (hw _ (List.mem_of_getElem? (i := 21) rfl)) (hw _ (List.mem_of_getElem? (i := 6) rfl)) (by decide) (by decide)) q3a q3c (g := (mkF m 43 #[.val (.int p1), .val (.int (3 : Int32)), .val (.ref A_BLOOM), .val (.int (1 : Int32)), .val (.int (1 : Int32))] [(.ref A_BLOOM)])) rfl (by rw [hml]; rfl) (Steps.refl _) (argsL := []) (rest := []) (lenOf (by decide +kernel : parseMethodDescriptor "()Z" = some ⟨[], some .boolean⟩) rfl) rfl (by show 2 * 0 + _ ≤ _; exact Nat.le_of_eq rfl) (hb hby at_43) (fun _ _ => ⟨rfl, e2, (by decide : 0 + 0 ≤ _), (by decide : 0 + 0 ≤ _)⟩)
  dsimp only [Pt.U, Pt.locs, Pt.cells, Pt.slots] at X3 l3 y3 z3 st3 hQ3
  subst l3 y3 z3
  obtain ⟨rfl, Nq3, e3⟩ := hQ3
  have N3 := Fr.app N2 Nq3
  refine own_to (T' := T3) (g' := (mkF m 46 #[.val (.int p1), .val (.int (3 : Int32)), .val (.ref A_BLOOM), .val (.int (1 : Int32)), .val (.int (1 : Int32))] [(.int (1 : Int32))])) st3 ?_
  refine own_step (T' := T3) (g' := (mkF m 51 #[.val (.int p1), .val (.int (3 : Int32)), .val (.ref A_BLOOM), .val (.int (1 : Int32)), .val (.int (1 : Int32))] [])) (fun t_ k_ => XS.ifYes X3.here hx rfl (pc0 := 46) (pc' := 51) rfl (hb hby at_46) rfl ((if0 _ _).trans (feq (by decide)).2) (by decide) (by decide) k_) ?_
  refine own_step (T' := T3) (g' := (mkF m 52 #[.val (.int p1), .val (.int (3 : Int32)), .val (.ref A_BLOOM), .val (.int (1 : Int32)), .val (.int (1 : Int32))] [(.int (1 : Int32))])) (fun t_ k_ => XS.iconst X3.here hx rfl (hb hby at_51) k_) ?_
  obtain ⟨fs, hrR, hrun, hended, hWW, hsame⟩ := X3.leave (v := some (.int (1 : Int32))) (fun h => by rw [Bd.returns] at h; cases h)
  refine ⟨_, _, own_retZ X3 hx (t := .boolean) Bd.returns (by simp) (by decide) (hb hby at_52) hrR, hrun, hended, hPP _ _ ⟨_, _, rfl, ?_, ⟨_, rfl⟩, hWW, hsame.mono (by decide) (by decide)⟩⟩
  show Q0 n0 _ T3.heap _
  rw [e3]
  exact ⟨rfl, N3⟩
set_option maxRecDepth 65536 in
set_option maxHeartbeats 40000000 in
theorem rm0_4 (l : Launch) (Z : State) (a0 : Array Value) (hw : ∀ d ∈ tables_1, d.before a0 Z = true) (ws : List Jvm.Cond) (p1 : Int32) (A_COUNT_INDEX : Addr) (h0 : Heap) (n0 : Nat) (Z0 : n0 ≤ h0.size) (hk : (p1 &&& 2147483647) % 5 = 4) (E_COUNT_INDEX : Exa Z h0 A_COUNT_INDEX "com/example/hushed_flood/hushedflood/peer/Strategy") (S_COUNT_INDEX : Sta Z h0 "com/example/hushed_flood/hushedflood/peer/Strategy" "COUNT_INDEX" "Lcom/example/hushed_flood/hushedflood/peer/Strategy;" (.ref A_COUNT_INDEX)) (F_COUNT_INDEX_levels : Fld Z h0 A_COUNT_INDEX "com/example/hushed_flood/hushedflood/peer/Strategy" "levels" "I" (.int (0 : Int32))) :
    MetFree l x (head1 (Jvm.Cond.code x code maxLocals ret :: ws) room_1) (fun a U => a = #[(.int p1)] ∧ Z.Warmed39 U.vm ∧ U.heap = h0) (fun _ _ _ _ _ => True) (fun _ U o U' => ∃ v L, o = .returned v ∧ Q0 n0 v U'.heap L ∧ FrameEnd U o U' L 0 0) := by
  refine MetFree.of_bodySF (plainFor_of_name (by first | (simp [plainName, overriddenIn]; done) | decide +kernel)) hisR ?_
  intro p e s m args below meth c s₁ Bd hml0 hP hK
  obtain ⟨rfl, hZ, hh⟩ := hP
  have hx := Bd.exec
  have hby := Bd.bytes
  have hml : c.maxLocals = 5 := hml0
  have hown : s.vm.findClass "com/example/hushed_flood/hushedflood/peer/StrategyLevelTwoPinLaw" = some m.cls := findClass_of_methodNamed Bd.named
  have hnm := (name_of_methodNamed Bd.named Bd.method).1
  have X0 : Stand p l e room_1 s m #[(.int p1)] below meth c s₁ [] 0 0 := Stand.of_body Bd
  have e0 : s₁.heap = h0 := by rw [← hh, Bd.state]; rfl
  have N0 := Fr.nil n0
  have ef : entryFrame m #[(.int p1)] maxLocals = (mkF m 0 #[.val (.int p1), .unset, .unset, .unset, .unset] []) := by first | (simp [entryFrame, mkF, argsToLocals, Value.category, maxLocals]; done) | rfl
  refine own_start (fun P hPP => ?_)
  refine own_step (T' := s₁) (g' := (mkF m 0 #[.val (.int p1), .unset, .unset, .unset, .unset] [])) (fun t_ k_ => castTop ef k_) ?_
  refine own_step (T' := s₁) (g' := (mkF m 1 #[.val (.int p1), .unset, .unset, .unset, .unset] [(.int p1)])) (fun t_ k_ => XS.iloadN X0.here hx rfl (hb hby at_0) rfl k_) ?_
  refine own_step (T' := s₁) (g' := (mkF m 3 #[.val (.int p1), .unset, .unset, .unset, .unset] [(.int (2147483647 : Int32)), (.int p1)])) (fun t_ k_ => X0.ldcInt hx hown (mvT hZ (hw _ (List.mem_of_getElem? (i := 0) rfl))) (g := (mkF m 1 #[.val (.int p1), .unset, .unset, .unset, .unset] [(.int p1)])) rfl (hb hby at_1) _ k_) ?_
  refine own_step (T' := s₁) (g' := (mkF m 4 #[.val (.int p1), .unset, .unset, .unset, .unset] [(.int (p1 &&& (2147483647 : Int32)))])) (fun t_ k_ => XS.iand X0.here hx rfl (hb hby at_3) rfl k_) ?_
  refine own_step (T' := s₁) (g' := (mkF m 5 #[.val (.int p1), .unset, .unset, .unset, .unset] [(.int (5 : Int32)), (.int (p1 &&& (2147483647 : Int32)))])) (fun t_ k_ => XS.iconst X0.here hx rfl (hb hby at_4) k_) ?_
  refine own_step (T' := s₁) (g' := (mkF m 6 #[.val (.int p1), .unset, .unset, .unset, .unset] [(.int ((p1 &&& (2147483647 : Int32)) % (5 : Int32)))])) (fun t_ k_ => iremM X0 hx rfl (hb hby at_5) rfl (by decide) k_) ?_
  rw [hk]
  refine own_step (T' := s₁) (g' := (mkF m 7 #[.val (.int p1), .val (.int (4 : Int32)), .unset, .unset, .unset] [])) (fun t_ k_ => XS.istoreN X0.here hx rfl (hb hby at_6) rfl (l' := #[.val (.int p1), .val (.int (4 : Int32)), .unset, .unset, .unset]) rfl k_) ?_
  refine own_step (T' := s₁) (g' := (mkF m 8 #[.val (.int p1), .val (.int (4 : Int32)), .unset, .unset, .unset] [(.int (4 : Int32))])) (fun t_ k_ => XS.iloadN X0.here hx rfl (hb hby at_7) rfl k_) ?_
  obtain ⟨_, _, ⟨T1, L1, k1, n1⟩, -, X1, ⟨Lc1, hQ1, l1, y1, z1⟩, st1⟩ := Jvm.LawKit.callS X0 hx (y := (⟨"com/example/hushed_flood/hushedflood/peer/StrategyLevelTwoPinLaw", "pick", "(I)Lcom/example/hushed_flood/hushedflood/peer/Strategy;"⟩ : MethodName)) hown (mvT hZ (hw _ (List.mem_of_getElem? (i := 1) rfl))) (mvT hZ (hw _ (List.mem_of_getElem? (i := 2) rfl))) (mvT hZ (hw _ (List.mem_of_getElem? (i := 3) rfl))) (mvT hZ (hw _ (List.mem_of_getElem? (i := 4) rfl))) (by decide) (backOf (W := 0) (rm1_4 l Z a0 hw [] A_COUNT_INDEX h0 n0 Z0 S_COUNT_INDEX) hZ (hw _ (List.mem_of_getElem? (i := 4) rfl)) (hw _ (List.mem_of_getElem? (i := 3) rfl)) (by decide) (by decide)) (g := (mkF m 8 #[.val (.int p1), .val (.int (4 : Int32)), .unset, .unset, .unset] [(.int (4 : Int32))])) rfl (by rw [hml]; rfl) (argsL := [(.int (4 : Int32))]) (rest := []) (lenOf (by decide +kernel : parseMethodDescriptor "(I)Lcom/example/hushed_flood/hushedflood/peer/Strategy;" = some ⟨[.int], some (.object "com/example/hushed_flood/hushedflood/peer/Strategy")⟩) rfl) rfl (by show 2 * 0 + _ ≤ _; exact Nat.le_of_eq rfl) (hb hby at_8) (fun _ _ => ⟨rfl, e0, (by decide : 0 + 0 ≤ _), (by decide : 0 + 0 ≤ _)⟩)
  dsimp only [Pt.U, Pt.locs, Pt.cells, Pt.slots] at X1 l1 y1 z1 st1 hQ1
  subst l1 y1 z1
  obtain ⟨rfl, Nq1, e1⟩ := hQ1
  have N1 := Fr.app N0 Nq1
  refine own_step (T' := T1) (g' := (mkF m 11 #[.val (.int p1), .val (.int (4 : Int32)), .unset, .unset, .unset] [(.ref A_COUNT_INDEX)])) st1 ?_
  refine own_step (T' := T1) (g' := (mkF m 12 #[.val (.int p1), .val (.int (4 : Int32)), .val (.ref A_COUNT_INDEX), .unset, .unset] [])) (fun t_ k_ => XS.astoreN X1.here hx rfl (hb hby at_11) rfl rfl (l' := #[.val (.int p1), .val (.int (4 : Int32)), .val (.ref A_COUNT_INDEX), .unset, .unset]) rfl k_) ?_
  refine own_step (T' := T1) (g' := (mkF m 13 #[.val (.int p1), .val (.int (4 : Int32)), .val (.ref A_COUNT_INDEX), .unset, .unset] [(.int (4 : Int32))])) (fun t_ k_ => XS.iloadN X1.here hx rfl (hb hby at_12) rfl k_) ?_
  refine own_step (T' := T1) (g' := (mkF m 14 #[.val (.int p1), .val (.int (4 : Int32)), .val (.ref A_COUNT_INDEX), .unset, .unset] [(.int (3 : Int32)), (.int (4 : Int32))])) (fun t_ k_ => XS.iconst X1.here hx rfl (hb hby at_13) k_) ?_
  refine own_step (T' := T1) (g' := (mkF m 21 #[.val (.int p1), .val (.int (4 : Int32)), .val (.ref A_COUNT_INDEX), .unset, .unset] [])) (fun t_ k_ => XS.icmpYes X1.here hx rfl (pc0 := 14) (pc' := 21) rfl (hb hby at_14) rfl (feq (by decide)).2 (by decide) (by decide) k_) ?_
  refine own_step (T' := T1) (g' := (mkF m 22 #[.val (.int p1), .val (.int (4 : Int32)), .val (.ref A_COUNT_INDEX), .unset, .unset] [(.int (0 : Int32))])) (fun t_ k_ => XS.iconst X1.here hx rfl (hb hby at_21) k_) ?_
  refine own_step (T' := T1) (g' := (mkF m 23 #[.val (.int p1), .val (.int (4 : Int32)), .val (.ref A_COUNT_INDEX), .val (.int (0 : Int32)), .unset] [])) (fun t_ k_ => XS.istoreN X1.here hx rfl (hb hby at_22) rfl (l' := #[.val (.int p1), .val (.int (4 : Int32)), .val (.ref A_COUNT_INDEX), .val (.int (0 : Int32)), .unset]) rfl k_) ?_
  refine own_step (T' := T1) (g' := (mkF m 24 #[.val (.int p1), .val (.int (4 : Int32)), .val (.ref A_COUNT_INDEX), .val (.int (0 : Int32)), .unset] [(.ref A_COUNT_INDEX)])) (fun t_ k_ => XS.aloadN X1.here hx rfl (hb hby at_23) rfl rfl k_) ?_
  obtain ⟨cq2, kq2, q2a, q2b, q2c⟩ := isOf hZ e1 E_COUNT_INDEX
  obtain ⟨_, _, ⟨T2, L2, k2, n2⟩, -, X2, ⟨Lc2, hQ2, l2, y2, z2⟩, st2⟩ := X1.virtualBack hx (y := (⟨"com/example/hushed_flood/hushedflood/peer/Strategy", "levelTwo", "()Z"⟩ : MethodName)) (z := (⟨"com/example/hushed_flood/hushedflood/peer/Strategy", "levelTwo", "()Z"⟩ : MethodName)) hown (mvT hZ (hw _ (List.mem_of_getElem? (i := 8) rfl))) (mvT hZ (hw _ (List.mem_of_getElem? (i := 9) rfl))) (notFace_of_selects (args := #[]) (mvT hZ (hw _ (List.mem_of_getElem? (i := 11) rfl)))) (mvT hZ (hw _ (List.mem_of_getElem? (i := 11) rfl))) (mvT hZ (hw _ (List.mem_of_getElem? (i := 10) rfl))) (by decide) (backOf (W := 0) (rm2 l Z a0 hw [] A_COUNT_INDEX (0 : Int32) (0 : Int32) h0 n0 Z0 F_COUNT_INDEX_levels (by decide)) hZ (hw _ (List.mem_of_getElem? (i := 12) rfl)) (hw _ (List.mem_of_getElem? (i := 6) rfl)) (by decide) (by decide)) q2a q2c (g := (mkF m 24 #[.val (.int p1), .val (.int (4 : Int32)), .val (.ref A_COUNT_INDEX), .val (.int (0 : Int32)), .unset] [(.ref A_COUNT_INDEX)])) rfl (by rw [hml]; rfl) (Steps.refl _) (argsL := []) (rest := []) (lenOf (by decide +kernel : parseMethodDescriptor "()Z" = some ⟨[], some .boolean⟩) rfl) rfl (by show 2 * 0 + _ ≤ _; exact Nat.le_of_eq rfl) (hb hby at_24) (fun _ _ => ⟨rfl, e1, (by decide : 0 + 0 ≤ _), (by decide : 0 + 0 ≤ _)⟩)
  dsimp only [Pt.U, Pt.locs, Pt.cells, Pt.slots] at X2 l2 y2 z2 st2 hQ2
  subst l2 y2 z2
  obtain ⟨rfl, Nq2, e2⟩ := hQ2
  have N2 := Fr.app N1 Nq2
  refine own_to (T' := T2) (g' := (mkF m 27 #[.val (.int p1), .val (.int (4 : Int32)), .val (.ref A_COUNT_INDEX), .val (.int (0 : Int32)), .unset] [(.int (0 : Int32))])) st2 ?_
  refine own_step (T' := T2) (g' := (mkF m 29 #[.val (.int p1), .val (.int (4 : Int32)), .val (.ref A_COUNT_INDEX), .val (.int (0 : Int32)), .val (.int (0 : Int32))] [])) (fun t_ k_ => XS.istore X2.here hx rfl (hb hby at_27) rfl (l' := #[.val (.int p1), .val (.int (4 : Int32)), .val (.ref A_COUNT_INDEX), .val (.int (0 : Int32)), .val (.int (0 : Int32))]) rfl k_) ?_
  refine own_step (T' := T2) (g' := (mkF m 31 #[.val (.int p1), .val (.int (4 : Int32)), .val (.ref A_COUNT_INDEX), .val (.int (0 : Int32)), .val (.int (0 : Int32))] [(.int (0 : Int32))])) (fun t_ k_ => XS.iload X2.here hx rfl (hb hby at_29) rfl k_) ?_
  refine own_step (T' := T2) (g' := (mkF m 32 #[.val (.int p1), .val (.int (4 : Int32)), .val (.ref A_COUNT_INDEX), .val (.int (0 : Int32)), .val (.int (0 : Int32))] [(.int (0 : Int32)), (.int (0 : Int32))])) (fun t_ k_ => XS.iloadN X2.here hx rfl (hb hby at_31) rfl k_) ?_
  refine own_step (T' := T2) (g' := (mkF m 37 #[.val (.int p1), .val (.int (4 : Int32)), .val (.ref A_COUNT_INDEX), .val (.int (0 : Int32)), .val (.int (0 : Int32))] [])) (fun t_ k_ => XS.icmpYes X2.here hx rfl (pc0 := 32) (pc' := 37) rfl (hb hby at_32) rfl (teq (by decide)).1 (by decide) (by decide) k_) ?_
  refine own_step (T' := T2) (g' := (mkF m 39 #[.val (.int p1), .val (.int (4 : Int32)), .val (.ref A_COUNT_INDEX), .val (.int (0 : Int32)), .val (.int (0 : Int32))] [(.int (0 : Int32))])) (fun t_ k_ => XS.iload X2.here hx rfl (hb hby at_37) rfl k_) ?_
  refine own_step (T' := T2) (g' := (mkF m 51 #[.val (.int p1), .val (.int (4 : Int32)), .val (.ref A_COUNT_INDEX), .val (.int (0 : Int32)), .val (.int (0 : Int32))] [])) (fun t_ k_ => XS.ifYes X2.here hx rfl (pc0 := 39) (pc' := 51) rfl (hb hby at_39) rfl ((if0 _ _).trans (teq (by decide)).1) (by decide) (by decide) k_) ?_
  refine own_step (T' := T2) (g' := (mkF m 52 #[.val (.int p1), .val (.int (4 : Int32)), .val (.ref A_COUNT_INDEX), .val (.int (0 : Int32)), .val (.int (0 : Int32))] [(.int (1 : Int32))])) (fun t_ k_ => XS.iconst X2.here hx rfl (hb hby at_51) k_) ?_
  obtain ⟨fs, hrR, hrun, hended, hWW, hsame⟩ := X2.leave (v := some (.int (1 : Int32))) (fun h => by rw [Bd.returns] at h; cases h)
  refine ⟨_, _, own_retZ X2 hx (t := .boolean) Bd.returns (by simp) (by decide) (hb hby at_52) hrR, hrun, hended, hPP _ _ ⟨_, _, rfl, ?_, ⟨_, rfl⟩, hWW, hsame.mono (by decide) (by decide)⟩⟩
  show Q0 n0 _ T2.heap _
  rw [e2]
  exact ⟨rfl, N2⟩
set_option maxRecDepth 65536 in
set_option maxHeartbeats 40000000 in
theorem comes_1 {Post : Tables → Env → Array Value → State → Outcome → State → Prop} (hpost : ∀ tb e args s v u, (limb_1_1.after args s (.returned v) u = true ∧ limb_1_2.after args s (.returned v) u = true ∧ True) → FrameEnd s (.returned v) u (Jvm.fieldLocs frame_1_writes args s ++ Jvm.arrayLocs frame_1_arrays args s ++ Jvm.staticLocs frame_1_statics s) 0 0 → Post tb e args s (.returned v) u) :
    ArmFor flags0 classFile x code maxLocals ret World_1 tables_1 room_1 Calls_1 rest_1 Pre_1 Post := by
  intro l hfl _ _ p e ha hc hk s m args below hf hA hF happ hP
  obtain ⟨hcalls, hrest, hpre⟩ := hP
  obtain ⟨-, -, -, hnamed, -, -, -, hat⟩ := (Spec.applies_iff hf).mp happ
  obtain ⟨hg, hn⟩ := and_e (Cond.before_iff.mp (show (Jvm.Cond.and given_1 narrow_1).before args s = true from hpre))
  obtain ⟨hcount, hq0⟩ := and_e hg
  obtain ⟨w0, rfl⟩ : ∃ w0 : Value, args = #[w0] := by
    have hs : args.size = 1 := by simpa [Cond.value, given_1] using hcount
    obtain ⟨L⟩ := args
    match L, hs with
    | [w0], _ => exact ⟨w0, rfl⟩
  have hw := fun d (hd : d ∈ tables_1) => atoms_spec (ws := Jvm.Cond.code x code maxLocals ret :: tables_1) hat d (List.mem_cons_of_mem _ hd)
  have hfit : Fit s := fun {y c} hc i hi => by
    obtain ⟨ha, rfl⟩ := Array.getElem?_eq_some_iff.mp hc
    have q := List.all_eq_true.mp ((Array.all_eq_true_iff_forall_mem.mp hF) _ (Array.getElem_mem ha)) i (List.mem_range.mpr hi)
    simpa [Array.getElem?_eq_getElem hi] using q
  obtain ⟨i0, ei0⟩ := is_v hq0
  obtain rfl : w0 = (.int i0) := Option.some.inj ei0
  obtain ⟨hn0, hm0⟩ := and_e hn
  obtain ⟨hn1, hm1⟩ := and_e hm0
  obtain ⟨hn2, hm2⟩ := and_e hm1
  obtain ⟨hn3, hm3⟩ := and_e hm2
  obtain ⟨hn4, hm4⟩ := and_e hm3
  obtain ⟨hn5, hm5⟩ := and_e hm4
  obtain ⟨hn6, hm6⟩ := and_e hm5
  obtain ⟨hn7, hm7⟩ := and_e hm6
  obtain ⟨hn8, hm8⟩ := and_e hm7
  have hn9 := hm8
  obtain ⟨A_FLOOD, ev_FLOOD⟩ := exa_v hn0
  have E_FLOOD : Exa s s.heap A_FLOOD "com/example/hushed_flood/hushedflood/peer/Strategy" := Exa.start ev_FLOOD hn0
  have S_FLOOD : Sta s s.heap "com/example/hushed_flood/hushedflood/peer/Strategy" "FLOOD" "Lcom/example/hushed_flood/hushedflood/peer/Strategy;" (.ref A_FLOOD) := Sta.start ev_FLOOD (Or.inr ⟨(hw _ (List.mem_of_getElem? (i := 6) rfl)), (hw _ (List.mem_of_getElem? (i := 7) rfl))⟩)
  have F_FLOOD_levels : Fld s s.heap A_FLOOD "com/example/hushed_flood/hushedflood/peer/Strategy" "levels" "I" (.int (0 : Int32)) := Fld.start ((fld_at ev_FLOOD).symm.trans (own_eqI hn1))
  obtain ⟨A_BLOOM, ev_BLOOM⟩ := exa_v hn2
  have E_BLOOM : Exa s s.heap A_BLOOM "com/example/hushed_flood/hushedflood/peer/Strategy" := Exa.start ev_BLOOM hn2
  have S_BLOOM : Sta s s.heap "com/example/hushed_flood/hushedflood/peer/Strategy" "BLOOM" "Lcom/example/hushed_flood/hushedflood/peer/Strategy;" (.ref A_BLOOM) := Sta.start ev_BLOOM (Or.inr ⟨(hw _ (List.mem_of_getElem? (i := 6) rfl)), (hw _ (List.mem_of_getElem? (i := 16) rfl))⟩)
  have F_BLOOM_levels : Fld s s.heap A_BLOOM "com/example/hushed_flood/hushedflood/peer/Strategy" "levels" "I" (.int (2 : Int32)) := Fld.start ((fld_at ev_BLOOM).symm.trans (own_eqI hn3))
  obtain ⟨A_RANDOM_WALK, ev_RANDOM_WALK⟩ := exa_v hn4
  have E_RANDOM_WALK : Exa s s.heap A_RANDOM_WALK "com/example/hushed_flood/hushedflood/peer/Strategy" := Exa.start ev_RANDOM_WALK hn4
  have S_RANDOM_WALK : Sta s s.heap "com/example/hushed_flood/hushedflood/peer/Strategy" "RANDOM_WALK" "Lcom/example/hushed_flood/hushedflood/peer/Strategy;" (.ref A_RANDOM_WALK) := Sta.start ev_RANDOM_WALK (Or.inr ⟨(hw _ (List.mem_of_getElem? (i := 6) rfl)), (hw _ (List.mem_of_getElem? (i := 23) rfl))⟩)
  have F_RANDOM_WALK_levels : Fld s s.heap A_RANDOM_WALK "com/example/hushed_flood/hushedflood/peer/Strategy" "levels" "I" (.int (0 : Int32)) := Fld.start ((fld_at ev_RANDOM_WALK).symm.trans (own_eqI hn5))
  obtain ⟨A_COUNT_INDEX, ev_COUNT_INDEX⟩ := exa_v hn6
  have E_COUNT_INDEX : Exa s s.heap A_COUNT_INDEX "com/example/hushed_flood/hushedflood/peer/Strategy" := Exa.start ev_COUNT_INDEX hn6
  have S_COUNT_INDEX : Sta s s.heap "com/example/hushed_flood/hushedflood/peer/Strategy" "COUNT_INDEX" "Lcom/example/hushed_flood/hushedflood/peer/Strategy;" (.ref A_COUNT_INDEX) := Sta.start ev_COUNT_INDEX (Or.inr ⟨(hw _ (List.mem_of_getElem? (i := 6) rfl)), (hw _ (List.mem_of_getElem? (i := 25) rfl))⟩)
  have F_COUNT_INDEX_levels : Fld s s.heap A_COUNT_INDEX "com/example/hushed_flood/hushedflood/peer/Strategy" "levels" "I" (.int (0 : Int32)) := Fld.start ((fld_at ev_COUNT_INDEX).symm.trans (own_eqI hn7))
  obtain ⟨A_BLOOM_L1, ev_BLOOM_L1⟩ := exa_v hn8
  have E_BLOOM_L1 : Exa s s.heap A_BLOOM_L1 "com/example/hushed_flood/hushedflood/peer/Strategy" := Exa.start ev_BLOOM_L1 hn8
  have S_BLOOM_L1 : Sta s s.heap "com/example/hushed_flood/hushedflood/peer/Strategy" "BLOOM_L1" "Lcom/example/hushed_flood/hushedflood/peer/Strategy;" (.ref A_BLOOM_L1) := Sta.start ev_BLOOM_L1 (Or.inr ⟨(hw _ (List.mem_of_getElem? (i := 6) rfl)), (hw _ (List.mem_of_getElem? (i := 27) rfl))⟩)
  have F_BLOOM_L1_levels : Fld s s.heap A_BLOOM_L1 "com/example/hushed_flood/hushedflood/peer/Strategy" "levels" "I" (.int (1 : Int32)) := Fld.start ((fld_at ev_BLOOM_L1).symm.trans (own_eqI hn9))
  have rmL : MetFree l x (head1 (Jvm.Cond.code x code maxLocals ret :: tables_1) room_1) (fun a U => a = #[(.int i0)] ∧ s.Warmed39 U.vm ∧ U.heap = s.heap) (fun _ _ _ _ _ => True) (fun _ U o U' => ∃ v L, o = .returned v ∧ Q0 s.heap.size v U'.heap L ∧ FrameEnd U o U' L 0 0) := by
    rcases own_mod5 i0 with h | h | h | h | h
    · exact rm0_0 l s _ hw tables_1 i0 A_FLOOD s.heap s.heap.size (Nat.le_refl _) h E_FLOOD S_FLOOD F_FLOOD_levels
    · exact rm0_1 l s _ hw tables_1 i0 A_RANDOM_WALK s.heap s.heap.size (Nat.le_refl _) h E_RANDOM_WALK S_RANDOM_WALK F_RANDOM_WALK_levels
    · exact rm0_2 l s _ hw tables_1 i0 A_BLOOM_L1 s.heap s.heap.size (Nat.le_refl _) h E_BLOOM_L1 S_BLOOM_L1 F_BLOOM_L1_levels
    · exact rm0_3 l s _ hw tables_1 i0 A_BLOOM s.heap s.heap.size (Nat.le_refl _) h E_BLOOM S_BLOOM F_BLOOM_levels
    · exact rm0_4 l s _ hw tables_1 i0 A_COUNT_INDEX s.heap s.heap.size (Nat.le_refl _) h E_COUNT_INDEX S_COUNT_INDEX F_COUNT_INDEX_levels
  obtain ⟨n, o, h1, h2, h3, _, L, rfl, ⟨rfl, N⟩, hq⟩ := rmL p e ha hc hk s m _ below hf ((Spec.applies_iff_loose hf).mp happ).1 ⟨rfl, State.Warmed39.refl s, rfl⟩ trivial
  exact ⟨n, _, h1, h2, h3, hpost _ _ _ _ _ _ ⟨Cond.after_iff.mpr rfl, Cond.after_iff.mpr (eq_i res_at (Term.int_eval (1)) rfl), trivial⟩ ⟨hq.1, hq.2.1, (hq.2.2.sift fun y hy => Or.inr (N y hy)).mono (by decide) (by decide)⟩⟩
theorem main_1_1 : Claimed_1_1 := comes_1 fun _ _ _ _ _ _ h hF => ⟨h.1, hF⟩
theorem main_1_2 : Claimed_1_2 := comes_1 fun _ _ _ _ _ _ h hF => ⟨h.2.1, hF⟩
end Jvm.Pilot.@@N@@
namespace Jvm.Pilot.@@N@@
open Jvm Jvm.ClassFile Sem Op Lib Jvm.Free Jvm.Stand Jvm.Pilot.@@N@@.Jvm.D
/-! MADE BY PROGRAM (witnessworld.py) out of the Statement's table words and the real class files: 12 classes; the members and pool entries that the words name. The judged class is class 1, her method 2. -/
namespace start1
open Jvm.ClassFile
def u (s : String) : CpInfo := .utf8 (stringToUtf16 s)
/-- a pool by its gaps: so many unusable entries, then the entry; so many at the end -/
def gap : Nat → List CpInfo → List CpInfo
  | 0, r => r
  | n + 1, r => .unusable :: gap n r
def poolList (es : List (Nat × CpInfo)) (last : Nat) : List CpInfo := es.foldr (fun e r => gap e.1 (e.2 :: r)) (gap last [])
def pool (es : List (Nat × CpInfo)) (last : Nat) : Array CpInfo := ⟨poolList es last⟩
def fileOf (pool : Array CpInfo) (this : Nat) (attrs : Array Attribute := #[]) (ms : Array MethodInfo := #[]) (fl : Nat := 33) (sup : Nat := 0) (ifs : Array Nat := #[]) (fds : Array FieldInfo := #[]) : ClassFile where
  minorVersion := 0
  majorVersion := 65
  constantPool := pool
  accessFlags := fl
  thisClass := this
  superClass := sup
  interfaces := ifs
  fields := fds
  methods := ms
  attributes := attrs
def plain (name : String) (sup : Option ClassId) : Class where
  name := name
  kind := .ordinary
  loader := none
  accessFlags := 33
  super := sup
  interfaces := #[]
  cf := none
  fields := #[]
  methods := #[]
  instanceTypes := #[]
  staticTypes := #[]
  resolved := #[]
  callSites := []
  init := .initialized
  statics := none
  mirror := none

def pool0 : Array CpInfo := pool [(5, u "<init>"), (0, u "()V"), (1, .class_ 10), (1, u "java/lang/Object")] 113

def k0m0 : Method := { name := "<init>", desc := "()V", sig := { parameters := [], returnType := none }, accessFlags := 1, code := none }
/-- java/lang/Object -/
def k0 : Class := { plain "java/lang/Object" none with
  accessFlags := 33
  interfaces := #[]
  cf := some (fileOf pool0 8 #[] #[{ accessFlags := 1, nameIndex := 5, descriptorIndex := 6, attributes := #[] }] 33 0 #[] #[])
  fields := #[]
  methods := #[k0m0]
  instanceTypes := #[]
  staticTypes := #[]
  resolved := Array.replicate 124 none
  statics := none }

def pool1 : Array CpInfo := pool [(2, .class_ 4), (1, u "java/lang/Object"), (0, u "<init>"), (0, u "()V"), (0, .fieldref 8 9), (0, .class_ 10), (0, .nameAndType 11 12), (0, u "com/example/hushed_flood/hushedflood/peer/Strategy"), (0, u "FLOOD"), (0, u "Lcom/example/hushed_flood/hushedflood/peer/Strategy;"), (0, .fieldref 8 14), (0, .nameAndType 15 12), (0, u "RANDOM_WALK"), (0, .fieldref 8 17), (0, .nameAndType 18 12), (0, u "BLOOM_L1"), (0, .fieldref 8 20), (0, .nameAndType 21 12), (0, u "BLOOM"), (0, .fieldref 8 23), (0, .nameAndType 24 12), (0, u "COUNT_INDEX"), (0, .integer 2147483647), (0, .methodref 27 28), (0, .class_ 29), (0, .nameAndType 30 31), (0, u "com/example/hushed_flood/hushedflood/peer/StrategyLevelTwoPinLaw"), (0, u "pick"), (0, u "(I)Lcom/example/hushed_flood/hushedflood/peer/Strategy;"), (0, .methodref 8 33), (0, .nameAndType 34 35), (0, u "levelTwo"), (0, u "()Z"), (0, .methodref 8 37), (0, .nameAndType 38 35), (0, u "bloom"), (3, u "law"), (0, u "(I)Z")] 2

def k1m0 : Method := { name := "<init>", desc := "()V", sig := { parameters := [], returnType := none }, accessFlags := 1, code := none }
def k1c1 : Code := { maxStack := 2, maxLocals := 1, code := method_2_code, exceptionTable := #[], attributes := #[] }
def k1m1 : Method := { name := "pick", desc := "(I)Lcom/example/hushed_flood/hushedflood/peer/Strategy;", sig := { parameters := [.int], returnType := some (.object "com/example/hushed_flood/hushedflood/peer/Strategy") }, accessFlags := 10, code := some k1c1 }
def k1c2 : Code := { maxStack := 2, maxLocals := 5, code := code, exceptionTable := #[], attributes := #[] }
def k1m2 : Method := { name := "law", desc := "(I)Z", sig := { parameters := [.int], returnType := some .boolean }, accessFlags := 9, code := some k1c2 }
/-- com/example/hushed_flood/hushedflood/peer/StrategyLevelTwoPinLaw -/
def k1 : Class := { plain "com/example/hushed_flood/hushedflood/peer/StrategyLevelTwoPinLaw" (some 0) with
  accessFlags := 49
  interfaces := #[]
  cf := some (fileOf pool1 27 #[] #[{ accessFlags := 1, nameIndex := 5, descriptorIndex := 6, attributes := #[] }, { accessFlags := 10, nameIndex := 30, descriptorIndex := 31, attributes := #[] }, { accessFlags := 9, nameIndex := 42, descriptorIndex := 43, attributes := #[] }] 49 2 #[] #[])
  fields := #[]
  methods := #[k1m0, k1m1, k1m2]
  instanceTypes := #[]
  staticTypes := #[]
  resolved := Array.replicate 46 none
  statics := none }

def pool2 : Array CpInfo := pool [(1, .class_ 2), (0, u "java/lang/constant/Constable"), (0, .class_ 4), (0, u "java/lang/Object")] 6

/-- java/lang/constant/Constable -/
def k2 : Class := { plain "java/lang/constant/Constable" (some 0) with
  accessFlags := 1537
  interfaces := #[]
  cf := some (fileOf pool2 1 #[] #[] 1537 3 #[] #[])
  fields := #[]
  methods := #[]
  instanceTypes := #[]
  staticTypes := #[]
  resolved := Array.replicate 11 none
  statics := none }

def pool3 : Array CpInfo := pool [(1, .class_ 2), (0, u "java/lang/Comparable"), (0, .class_ 4), (0, u "java/lang/Object")] 7

/-- java/lang/Comparable -/
def k3 : Class := { plain "java/lang/Comparable" (some 0) with
  accessFlags := 1537
  interfaces := #[]
  cf := some (fileOf pool3 1 #[] #[] 1537 3 #[] #[])
  fields := #[]
  methods := #[]
  instanceTypes := #[]
  staticTypes := #[]
  resolved := Array.replicate 12 none
  statics := none }

def pool4 : Array CpInfo := pool [(1, .class_ 2), (0, u "java/io/Serializable"), (0, .class_ 4), (0, u "java/lang/Object")] 2

/-- java/io/Serializable -/
def k4 : Class := { plain "java/io/Serializable" (some 0) with
  accessFlags := 1537
  interfaces := #[]
  cf := some (fileOf pool4 1 #[] #[] 1537 3 #[] #[])
  fields := #[]
  methods := #[]
  instanceTypes := #[]
  staticTypes := #[]
  resolved := Array.replicate 7 none
  statics := none }

def pool5 : Array CpInfo := pool [(2, .class_ 4), (1, u "java/lang/Enum"), (0, u "name"), (0, u "Ljava/lang/String;"), (2, u "ordinal"), (0, u "I"), (1, .class_ 14), (1, u "java/lang/Object"), (4, u "hash"), (86, .class_ 108), (1, u "java/lang/Enum$EnumDesc"), (2, .class_ 112), (0, u "java/lang/constant/Constable"), (0, .class_ 114), (0, u "java/lang/Comparable"), (0, .class_ 116), (0, u "java/io/Serializable")] 87

/-- java/lang/Enum -/
def k5 : Class := { plain "java/lang/Enum" (some 0) with
  accessFlags := 1057
  interfaces := #[2, 3, 4]
  cf := some (fileOf pool5 2 #[.nestMembers #[106]] #[] 1057 12 #[111, 113, 115] #[{ accessFlags := 18, nameIndex := 5, descriptorIndex := 6, attributes := #[] }, { accessFlags := 18, nameIndex := 9, descriptorIndex := 10, attributes := #[] }, { accessFlags := 2, nameIndex := 19, descriptorIndex := 10, attributes := #[] }])
  fields := #[{ name := "name", type := (.object "java/lang/String"), accessFlags := 18, slot := 0, constantValue := 0 }, { name := "ordinal", type := .int, accessFlags := 18, slot := 1, constantValue := 0 }, { name := "hash", type := .int, accessFlags := 2, slot := 2, constantValue := 0 }]
  methods := #[]
  instanceTypes := #[(.object "java/lang/String"), .int, .int]
  staticTypes := #[]
  resolved := Array.replicate 204 none
  statics := none }

def pool6 : Array CpInfo := pool [(1, .class_ 2), (0, u "com/example/hushed_flood/hushedflood/peer/Strategy"), (2, u "FLOOD"), (0, u "Lcom/example/hushed_flood/hushedflood/peer/Strategy;"), (2, u "RANDOM_WALK"), (2, u "BLOOM_L1"), (2, u "BLOOM"), (2, u "COUNT_INDEX"), (2, u "$VALUES"), (0, u "[Lcom/example/hushed_flood/hushedflood/peer/Strategy;"), (6, .class_ 31), (1, u "java/lang/Enum"), (8, u "label"), (0, u "Ljava/lang/String;"), (2, u "code"), (0, u "I"), (2, u "walks"), (0, u "Z"), (0, .fieldref 1 51), (0, .nameAndType 52 45), (0, u "levels"), (2, u "counts"), (34, u "bloom"), (14, u "()Z"), (1, u "levelTwo")] 11

def k6c0 : Code := { maxStack := 2, maxLocals := 1, code := prog_41_method_7_code, exceptionTable := #[], attributes := #[] }
def k6m0 : Method := { name := "bloom", desc := "()Z", sig := { parameters := [], returnType := some .boolean }, accessFlags := 1, code := some k6c0 }
def k6c1 : Code := { maxStack := 2, maxLocals := 1, code := prog_41_method_8_code, exceptionTable := #[], attributes := #[] }
def k6m1 : Method := { name := "levelTwo", desc := "()Z", sig := { parameters := [], returnType := some .boolean }, accessFlags := 1, code := some k6c1 }
/-- com/example/hushed_flood/hushedflood/peer/Strategy -/
def k6 : Class := { plain "com/example/hushed_flood/hushedflood/peer/Strategy" (some 5) with
  accessFlags := 16433
  interfaces := #[]
  cf := some (fileOf pool6 1 #[] #[{ accessFlags := 1, nameIndex := 90, descriptorIndex := 105, attributes := #[] }, { accessFlags := 1, nameIndex := 107, descriptorIndex := 105, attributes := #[] }] 16433 29 #[] #[{ accessFlags := 16409, nameIndex := 5, descriptorIndex := 6, attributes := #[] }, { accessFlags := 16409, nameIndex := 9, descriptorIndex := 6, attributes := #[] }, { accessFlags := 16409, nameIndex := 12, descriptorIndex := 6, attributes := #[] }, { accessFlags := 16409, nameIndex := 15, descriptorIndex := 6, attributes := #[] }, { accessFlags := 16409, nameIndex := 18, descriptorIndex := 6, attributes := #[] }, { accessFlags := 18, nameIndex := 40, descriptorIndex := 41, attributes := #[] }, { accessFlags := 18, nameIndex := 44, descriptorIndex := 45, attributes := #[] }, { accessFlags := 18, nameIndex := 48, descriptorIndex := 49, attributes := #[] }, { accessFlags := 18, nameIndex := 52, descriptorIndex := 45, attributes := #[] }, { accessFlags := 18, nameIndex := 55, descriptorIndex := 49, attributes := #[] }, { accessFlags := 4122, nameIndex := 21, descriptorIndex := 22, attributes := #[] }])
  fields := #[{ name := "FLOOD", type := (.object "com/example/hushed_flood/hushedflood/peer/Strategy"), accessFlags := 16409, slot := 0, constantValue := 0 }, { name := "RANDOM_WALK", type := (.object "com/example/hushed_flood/hushedflood/peer/Strategy"), accessFlags := 16409, slot := 1, constantValue := 0 }, { name := "BLOOM_L1", type := (.object "com/example/hushed_flood/hushedflood/peer/Strategy"), accessFlags := 16409, slot := 2, constantValue := 0 }, { name := "BLOOM", type := (.object "com/example/hushed_flood/hushedflood/peer/Strategy"), accessFlags := 16409, slot := 3, constantValue := 0 }, { name := "COUNT_INDEX", type := (.object "com/example/hushed_flood/hushedflood/peer/Strategy"), accessFlags := 16409, slot := 4, constantValue := 0 }, { name := "label", type := (.object "java/lang/String"), accessFlags := 18, slot := 3, constantValue := 0 }, { name := "code", type := .int, accessFlags := 18, slot := 4, constantValue := 0 }, { name := "walks", type := .boolean, accessFlags := 18, slot := 5, constantValue := 0 }, { name := "levels", type := .int, accessFlags := 18, slot := 6, constantValue := 0 }, { name := "counts", type := .boolean, accessFlags := 18, slot := 7, constantValue := 0 }, { name := "$VALUES", type := (.array (.object "com/example/hushed_flood/hushedflood/peer/Strategy")), accessFlags := 4122, slot := 5, constantValue := 0 }]
  methods := #[k6m0, k6m1]
  instanceTypes := #[(.object "java/lang/String"), .int, .int, (.object "java/lang/String"), .int, .boolean, .int, .boolean]
  staticTypes := #[(.object "com/example/hushed_flood/hushedflood/peer/Strategy"), (.object "com/example/hushed_flood/hushedflood/peer/Strategy"), (.object "com/example/hushed_flood/hushedflood/peer/Strategy"), (.object "com/example/hushed_flood/hushedflood/peer/Strategy"), (.object "com/example/hushed_flood/hushedflood/peer/Strategy"), (.array (.object "com/example/hushed_flood/hushedflood/peer/Strategy"))]
  resolved := Array.replicate 119 none
  statics := some 0 }

def pool7 : Array CpInfo := pool [(1, u "java/lang/Cloneable"), (0, .class_ 1), (0, u "java/lang/Object"), (0, .class_ 3)] 3

/-- java/lang/Cloneable -/
def k7 : Class := { plain "java/lang/Cloneable" (some 0) with
  accessFlags := 1537
  interfaces := #[]
  cf := some (fileOf pool7 2 #[] #[] 1537 4 #[] #[])
  fields := #[]
  methods := #[]
  instanceTypes := #[]
  staticTypes := #[]
  resolved := Array.replicate 8 none
  statics := none }

/-- the primitive byte -/
def k8 : Class := { plain "byte" none with kind := .primitive 'B', accessFlags := 0x411 }
/-- [B -/
def k9 : Class := { plain "[B" (some 0) with kind := .array 8 .byte, interfaces := #[7, 4], accessFlags := 1041 }

/-- the primitive int -/
def k10 : Class := { plain "int" none with kind := .primitive 'I', accessFlags := 0x411 }
/-- [I -/
def k11 : Class := { plain "[I" (some 0) with kind := .array 10 .int, interfaces := #[7, 4], accessFlags := 1041 }

def heap : Heap := #[{ cls := 6, slots := #[.ref 1, .ref 3, .ref 5, .ref 2, .ref 4, .null], vm := .statics 6 },
  { cls := 6, slots := #[.null, .int 0, .int 0, .null, .int 0, .int 0, .int 0, .int 0], vm := .none },
  { cls := 6, slots := #[.null, .int 0, .int 0, .null, .int 0, .int 0, .int 2, .int 0], vm := .none },
  { cls := 6, slots := #[.null, .int 0, .int 0, .null, .int 0, .int 0, .int 0, .int 0], vm := .none },
  { cls := 6, slots := #[.null, .int 0, .int 0, .null, .int 0, .int 0, .int 0, .int 0], vm := .none },
  { cls := 6, slots := #[.null, .int 0, .int 0, .null, .int 0, .int 0, .int 1, .int 0], vm := .none }]
def classes : Array Class := #[k0, k1, k2, k3, k4, k5, k6, k7, k8, k9, k10, k11]
def interned : List (Array UInt16 × Addr) := []
def slotsUsed : Nat := 46
def theMethod : MethodId := ⟨1, 2⟩
def args0 : Array Value := #[.int 5]
def aboutOver (below : List Frame) : State where
  vm := { classes := classes, interned := interned.toArray }
  heap := heap
  slotsUsed := slotsUsed
  threads := #[{ frames := .invoking theMethod args0 :: below }]
def below0 : List Frame := [.native { method := ⟨0, 0⟩, args := #[] }]
def about1 : State := aboutOver below0
def p0 : Program := .bare "" "" ""
def e0 : Env := launch0.env 0 0 0
theorem w_frames : about1.frames = Frame.invoking theMethod args0 :: below0 := rfl
set_option maxRecDepth 65536 in
theorem w_args : argsFit about1.vm theMethod args0 = true := by decide +kernel
set_option maxRecDepth 65536 in
theorem w_heap : heapFits about1 = true := by decide +kernel
set_option maxRecDepth 65536 in
theorem w_runnable : about1.curStatus? = some .runnable := by decide +kernel
set_option maxRecDepth 65536 in
theorem w_alone : about1.alone = true := by decide +kernel
set_option maxRecDepth 65536 in
theorem w_named : about1.methodNamed? x = some theMethod := by decide +kernel
set_option maxRecDepth 65536 in
theorem w_hears : about1.hears theMethod below0 = true := by decide +kernel
set_option maxRecDepth 65536 in
theorem w_ripe : about1.ripe theMethod args0 below0 = true := by decide +kernel
theorem w_running : about1.status = .running := rfl
set_option maxRecDepth 65536 in
theorem w_room : about1.hasRoom e0.platform room_1 = true :=
  launch0.hasRoom_least _ room_1 (by decide +kernel) (by decide +kernel) (by decide +kernel) (by decide +kernel) (by decide +kernel) (by decide +kernel)
theorem allAtoms_all (ts : List Jvm.Cond) (a : Array Jvm.Value) (st : Jvm.State) : (allAtoms ts).before a st = ts.all (fun c => c.before a st) := by
  induction ts with
  | nil => rfl
  | cons c t ih =>
    show (Jvm.Cond.and c (allAtoms t)).before a st = _
    rw [Jvm.Cond.before_and, ih, List.all_cons]
def words1 : List Jvm.Cond := Jvm.Cond.code x code maxLocals ret :: tables_1
/-- a 'code' word, met by the world's own term for the bytes: nothing is compared byte by byte -/
theorem code_word {y : MethodName} {bytes : ByteArray} {mx : Nat} {rt : Option FieldType} {a : Array Value} {s : State} {m : MethodId} {meth : Method} {c : Code} (h1 : s.methodNamed? y = some m) (h2 : s.vm.method? m = some meth) (h3 : meth.code = some c) (h4 : c.code = bytes)
    (h5 : (c.maxLocals == mx && c.exceptionTable.isEmpty && decide (c.maxStack ≤ mostOperands) && decide (meth.sig.returnType = rt) && !meth.locks && decide (parseMethodDescriptor y.desc = some meth.sig)) = true) : (Jvm.Cond.code y bytes mx rt).before a s = true := by
  simp only [Bool.and_eq_true, beq_iff_eq, Bool.not_eq_true', decide_eq_true_eq] at h5
  obtain ⟨⟨⟨⟨⟨g1, g2⟩, g3⟩, g4⟩, g5⟩, g6⟩ := h5
  simp [Cond.before, Cond.holds, Cond.value, h1, h2, h3, h4, g1, g2, g3, g4, g5, g6]
def isCode : Jvm.Cond → Bool
  | .code _ _ _ _ => true
  | _ => false
theorem all_split {L : List Jvm.Cond} {P : Jvm.Cond → Bool} (h1 : L.all (fun c => isCode c || P c) = true) (h2 : ∀ c ∈ L.filter isCode, P c = true) : L.all P = true := by
  refine List.all_eq_true.mpr fun c hc => ?_
  have h := List.all_eq_true.mp h1 c hc
  rcases Bool.eq_false_or_eq_true (isCode c) with hi | hi
  · exact h2 c (List.mem_filter.mpr ⟨hc, hi⟩)
  · simpa [hi] using h
set_option maxRecDepth 65536 in
theorem w_c0 : (Jvm.Cond.code x code maxLocals ret).before args0 about1 = true := code_word (m := ⟨1, 2⟩) (meth := k1m2) (c := k1c2) (by decide +kernel) rfl rfl rfl (by decide +kernel)
set_option maxRecDepth 65536 in
theorem w_c1 : (Jvm.Cond.code ({ cls := "com/example/hushed_flood/hushedflood/peer/StrategyLevelTwoPinLaw", name := "pick", desc := "(I)Lcom/example/hushed_flood/hushedflood/peer/Strategy;" } : Jvm.MethodName) method_2_code (1 : Nat) (Option.some (Jvm.ClassFile.FieldType.object "com/example/hushed_flood/hushedflood/peer/Strategy"))).before args0 about1 = true := code_word (m := ⟨1, 1⟩) (meth := k1m1) (c := k1c1) (by decide +kernel) rfl rfl rfl (by decide +kernel)
set_option maxRecDepth 65536 in
theorem w_c2 : (Jvm.Cond.code ({ cls := "com/example/hushed_flood/hushedflood/peer/Strategy", name := "levelTwo", desc := "()Z" } : Jvm.MethodName) prog_41_method_8_code (1 : Nat) (Option.some Jvm.ClassFile.FieldType.boolean)).before args0 about1 = true := code_word (m := ⟨6, 1⟩) (meth := k6m1) (c := k6c1) (by decide +kernel) rfl rfl rfl (by decide +kernel)
set_option maxRecDepth 65536 in
theorem w_c3 : (Jvm.Cond.code ({ cls := "com/example/hushed_flood/hushedflood/peer/Strategy", name := "bloom", desc := "()Z" } : Jvm.MethodName) prog_41_method_7_code (1 : Nat) (Option.some Jvm.ClassFile.FieldType.boolean)).before args0 about1 = true := code_word (m := ⟨6, 0⟩) (meth := k6m0) (c := k6c0) (by decide +kernel) rfl rfl rfl (by decide +kernel)
def codes1 : List Jvm.Cond := [Jvm.Cond.code x code maxLocals ret, Jvm.Cond.code ({ cls := "com/example/hushed_flood/hushedflood/peer/StrategyLevelTwoPinLaw", name := "pick", desc := "(I)Lcom/example/hushed_flood/hushedflood/peer/Strategy;" } : Jvm.MethodName) method_2_code (1 : Nat) (Option.some (Jvm.ClassFile.FieldType.object "com/example/hushed_flood/hushedflood/peer/Strategy")), Jvm.Cond.code ({ cls := "com/example/hushed_flood/hushedflood/peer/Strategy", name := "levelTwo", desc := "()Z" } : Jvm.MethodName) prog_41_method_8_code (1 : Nat) (Option.some Jvm.ClassFile.FieldType.boolean), Jvm.Cond.code ({ cls := "com/example/hushed_flood/hushedflood/peer/Strategy", name := "bloom", desc := "()Z" } : Jvm.MethodName) prog_41_method_7_code (1 : Nat) (Option.some Jvm.ClassFile.FieldType.boolean)]
set_option maxRecDepth 65536 in
theorem codes_eq : words1.filter isCode = codes1 := rfl
theorem w_codes : ∀ c ∈ words1.filter isCode, c.before args0 about1 = true := by
  rw [codes_eq]
  intro c hc
  simp only [codes1, List.mem_cons, List.not_mem_nil, or_false] at hc
  rcases hc with rfl | rfl | rfl | rfl
  · exact w_c0
  · exact w_c1
  · exact w_c2
  · exact w_c3
set_option maxRecDepth 65536 in
theorem w_t1 : (words1.take 24).all (fun c => isCode c || c.before args0 about1) = true := by decide +kernel
set_option maxRecDepth 65536 in
theorem w_t2 : (words1.drop 24).all (fun c => isCode c || c.before args0 about1) = true := by decide +kernel
theorem w_tables : (allAtoms (Jvm.Cond.code x code maxLocals ret :: tables_1)).before args0 about1 = true := by
  rw [allAtoms_all]
  show words1.all (fun c => c.before args0 about1) = true
  refine all_split ?_ w_codes
  rw [← List.take_append_drop 24 words1, List.all_append, w_t1, w_t2]
  rfl
set_option maxRecDepth 65536 in
theorem w_case : (Jvm.Cond.and given_1 narrow_1).before args0 about1 = true := by decide +kernel
theorem w_applies : (headSpec (Jvm.Cond.code x code maxLocals ret :: tables_1) room_1).applies x e0.platform about1 = true :=
  (Spec.applies_iff w_frames).mpr ⟨w_running, w_runnable, w_alone, w_named, w_hears, w_ripe, w_room, w_tables⟩
theorem atStart : AtStart classFile x code maxLocals ret World_1 tables_1 room_1 Calls_1 rest_1 Pre_1 launch0 p0 e0 about1 theMethod args0 below0 :=
  ⟨lists_1, trivial, launch0.admits_env _ _ _, launch0.least_env, fairChoices_fair.cas, fairChoices_fair.clock, w_frames, w_args, w_heap, w_applies, trivial, trivial, w_case⟩
end start1
theorem witness_1 : WitnessClaimed_1 := ⟨start1.p0, start1.e0, start1.about1, start1.theMethod, start1.args0, start1.below0, start1.atStart⟩
end Jvm.Pilot.@@N@@
