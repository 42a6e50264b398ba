import JvmDerived
import JvmDerived.Pilot.@@N@@Statement
import JvmDerived.Pilot.@@N@@Code
set_option linter.unusedVariables false
set_option linter.unusedSimpArgs false
@@BLOCK:NumsL.lean.txt@@
namespace Jvm.Pilot.@@N@@
open Jvm Jvm.ClassFile Sem Op Lib Jvm.Free Jvm.Stand Jvm.LawKit Jvm.RoadKit Bundle Jvm.Pilot.@@N@@.Jvm.D
/-- the run from here comes to an end of which P speaks -/
def own_Run (tb : Tables) (e : Env) (below : List Frame) (T : State) (g : JFrame) (P : Outcome → State → Prop) : Prop :=
  ∃ s₂ o, Steps tb e below (T.setTop g) s₂ ∧ s₂.status = .running ∧ Ended s₂ below o ∧ P o s₂
theorem own_start {tb : Tables} {e : Env} {below : List Frame} {T : State} {g : JFrame} {Pd : Outcome → State → Prop} (h : ∀ P : Outcome → State → Prop, (∀ o U, Pd o U → P o U) → own_Run tb e below T g P) : ∃ s₂ o, Steps tb e below (T.setTop g) s₂ ∧ s₂.status = .running ∧ Ended s₂ below o ∧ Pd o s₂ := h Pd fun _ _ q => q
theorem own_step {tb : Tables} {e : Env} {below : List Frame} {T T' : State} {g g' : JFrame} {P : Outcome → State → Prop} (h : ∀ t, Steps tb e below (T'.setTop g') t → Steps tb e below (T.setTop g) t) (k : own_Run tb e below T' g' P) : own_Run tb e below T g P := by
  obtain ⟨a, b, h1, h2⟩ := k
  exact ⟨a, b, h _ h1, h2⟩
theorem own_to {tb : Tables} {e : Env} {below : List Frame} {T T' : State} {g g' : JFrame} {P : Outcome → State → Prop} (h : Steps tb e below (T.setTop g) (T'.setTop g')) (k : own_Run tb e below T' g' P) : own_Run tb e below T g P := by
  obtain ⟨a, b, h1, h2⟩ := k
  exact ⟨a, b, h.trans h1, h2⟩
section Ret
variable {p : Program} {l : Launch} {e : Env} {R : Room} {s : State} {m : MethodId} {args : Array Value} {below : List Frame} {meth : Method} {c : Code} {T : State} {locs : List Loc} {cells slots : Nat}
theorem own_retI (X : Stand p l e R s m args below meth c T locs cells slots) (hx : p.tables.exec = Jvm.exec) {pc : Nat} {Ls : Array Slot} {z : Int32} {rest : List Value} (hret : meth.sig.returnType = some .int) (hd : decode c.code pc = .ok (.ireturn, 1)) {fs : List Frame}
    (hl : ∀ (f : JFrame) (acts : List Action), f.method = m → f.locked = none → f.entered = [] → (doReturn e (T.setTop f) acts (some (.int z))).1 = T.setFrames fs) : Steps p.tables e below (T.setTop (mkF m pc Ls (.int z :: rest))) (T.setFrames fs) :=
  retOut X hx hret rfl (Or.inl ⟨rfl, Or.inl rfl, _, rfl⟩) hd hl
theorem own_retJ (X : Stand p l e R s m args below meth c T locs cells slots) (hx : p.tables.exec = Jvm.exec) {pc : Nat} {Ls : Array Slot} {z : Int64} {rest : List Value} (hret : meth.sig.returnType = some .long) (hd : decode c.code pc = .ok (.lreturn, 1)) {fs : List Frame}
    (hl : ∀ (f : JFrame) (acts : List Action), f.method = m → f.locked = none → f.entered = [] → (doReturn e (T.setTop f) acts (some (.long z))).1 = T.setFrames fs) : Steps p.tables e below (T.setTop (mkF m pc Ls (.long z :: rest))) (T.setFrames fs) :=
  retOut X hx hret rfl (Or.inr (Or.inl ⟨rfl, rfl, _, rfl⟩)) hd hl
theorem own_retR (X : Stand p l e R s m args below meth c T locs cells slots) (hx : p.tables.exec = Jvm.exec) {pc : Nat} {Ls : Array Slot} {w : Value} {t : FieldType} {rest : List Value} (hret : meth.sig.returnType = some t) (ht : t.isReference = true) (hw : w.isRef = true) (hn : narrow t w = w) (hd : decode c.code pc = .ok (.areturn, 1)) {fs : List Frame}
    (hl : ∀ (f : JFrame) (acts : List Action), f.method = m → f.locked = none → f.entered = [] → (doReturn e (T.setTop f) acts (some w)).1 = T.setFrames fs) : Steps p.tables e below (T.setTop (mkF m pc Ls (w :: rest))) (T.setFrames fs) :=
  retOut X hx hret hn (Or.inr (Or.inr (Or.inr (Or.inr ⟨rfl, ht, hw⟩)))) hd hl
theorem own_retZ (X : Stand p l e R s m args below meth c T locs cells slots) (hx : p.tables.exec = Jvm.exec) {pc : Nat} {Ls : Array Slot} {z z' : Int32} {t : FieldType} {rest : List Value} (hret : meth.sig.returnType = some t) (ht : t = .boolean ∨ t = .byte ∨ t = .char ∨ t = .short) (hz : nar t z = z') (hd : decode c.code pc = .ok (.ireturn, 1)) {fs : List Frame}
    (hl : ∀ (f : JFrame) (acts : List Action), f.method = m → f.locked = none → f.entered = [] → (doReturn e (T.setTop f) acts (some (.int z'))).1 = T.setFrames fs) : Steps p.tables e below (T.setTop (mkF m pc Ls (.int z :: rest))) (T.setFrames fs) :=
  retN X hx hret ht hd (by rw [hz]; exact hl)
end Ret
/-- what isControl answers: z the length, w the sixth byte -/
def own_ctl (z w : Int32) : Int32 := if 5 < z then (if w &&& 255 < 16 then 0 else 1) else 0
theorem own_byte (x : Int32) : (nar .byte (x.toInt8.toInt32)) &&& 255 = x &&& 255 := by
  show (x.toInt8.toInt32).toInt8.toInt32 &&& 255 = x &&& 255
  apply Int32.toBitVec_inj.mp
  apply BitVec.eq_of_getLsbD_eq
  intro i hi
  have h255 : (255 : Int32).toBitVec = 255#32 := rfl
  simp only [Int32.toBitVec_and, h255, BitVec.getLsbD_and]
  by_cases h8 : i < 8
  · simp [Int8.toBitVec_toInt32, Int32.toBitVec_toInt8, BitVec.getLsbD_signExtend, BitVec.getElem_signExtend, h8, hi]
  · have : (255#32).getLsbD i = false := by
      have : i = 8 ∨ i = 9 ∨ i = 10 ∨ i = 11 ∨ i = 12 ∨ i = 13 ∨ i = 14 ∨ i = 15 ∨ i = 16 ∨ i = 17 ∨ i = 18 ∨ i = 19 ∨ i = 20 ∨ i = 21 ∨ i = 22 ∨ i = 23 ∨ i = 24 ∨ i = 25 ∨ i = 26 ∨ i = 27 ∨ i = 28 ∨ i = 29 ∨ i = 30 ∨ i = 31 := by omega
      rcases this with h | h | h | h | h | h | h | h | h | h | h | h | h | h | h | h | h | h | h | h | h | h | h | h <;> subst h <;> decide
    simp [this]
theorem own_and7 (x : Int32) : x &&& 7 = 0 ∨ x &&& 7 = 1 ∨ x &&& 7 = 2 ∨ x &&& 7 = 3 ∨ x &&& 7 = 4 ∨ x &&& 7 = 5 ∨ x &&& 7 = 6 ∨ x &&& 7 = 7 := by
  have hb : 0 ≤ (x &&& 7).toInt ∧ (x &&& 7).toInt < 8 := by
    have h1 : (x &&& 7).toInt = x.toInt % 2 ^ 3 := Jvm.Kit.i32_mask x 7 (k := 3) (by decide) (by decide)
    rw [h1]
    omega
  have hd : (x &&& 7).toInt = 0 ∨ (x &&& 7).toInt = 1 ∨ (x &&& 7).toInt = 2 ∨ (x &&& 7).toInt = 3 ∨ (x &&& 7).toInt = 4 ∨ (x &&& 7).toInt = 5 ∨ (x &&& 7).toInt = 6 ∨ (x &&& 7).toInt = 7 := by omega
  rcases hd with h | h | h | h | h | h | h | h
  · exact (Or.inl (Int32.toInt_inj.mp (h.trans rfl)))
  · exact (Or.inr (Or.inl (Int32.toInt_inj.mp (h.trans rfl))))
  · exact (Or.inr (Or.inr (Or.inl (Int32.toInt_inj.mp (h.trans rfl)))))
  · exact (Or.inr (Or.inr (Or.inr (Or.inl (Int32.toInt_inj.mp (h.trans rfl))))))
  · exact (Or.inr (Or.inr (Or.inr (Or.inr (Or.inl (Int32.toInt_inj.mp (h.trans rfl)))))))
  · exact (Or.inr (Or.inr (Or.inr (Or.inr (Or.inr (Or.inl (Int32.toInt_inj.mp (h.trans rfl))))))))
  · exact (Or.inr (Or.inr (Or.inr (Or.inr (Or.inr (Or.inr (Or.inl (Int32.toInt_inj.mp (h.trans rfl)))))))))
  · exact (Or.inr (Or.inr (Or.inr (Or.inr (Or.inr (Or.inr (Or.inr (Int32.toInt_inj.mp (h.trans rfl)))))))))
def Q1 (z w : Int32) (h0 : Heap) (n0 : Nat) (v : Option Value) (h : Heap) (L : List Loc) : Prop := v = some (.int (own_ctl z w)) ∧ Fr n0 L ∧ h = h0
theorem d1_0 : decode prog_76_method_1_code 0 = .ok (.iconst 5, 1) := by decide +kernel
theorem d1_1 : decode prog_76_method_1_code 1 = .ok (.istore_n 1, 1) := by decide +kernel
theorem d1_2 : decode prog_76_method_1_code 2 = .ok (.aload_n 0, 1) := by decide +kernel
theorem d1_3 : decode prog_76_method_1_code 3 = .ok (.arraylength, 1) := by decide +kernel
theorem d1_4 : decode prog_76_method_1_code 4 = .ok (.iload_n 1, 1) := by decide +kernel
theorem d1_5 : decode prog_76_method_1_code 5 = .ok (.if_icmp .le 19, 3) := by decide +kernel
theorem d1_8 : decode prog_76_method_1_code 8 = .ok (.aload_n 0, 1) := by decide +kernel
theorem d1_9 : decode prog_76_method_1_code 9 = .ok (.iload_n 1, 1) := by decide +kernel
theorem d1_10 : decode prog_76_method_1_code 10 = .ok (.baload, 1) := by decide +kernel
theorem d1_11 : decode prog_76_method_1_code 11 = .ok (.sipush 255, 3) := by decide +kernel
theorem d1_14 : decode prog_76_method_1_code 14 = .ok (.iand, 1) := by decide +kernel
theorem d1_15 : decode prog_76_method_1_code 15 = .ok (.bipush 16, 2) := by decide +kernel
theorem d1_17 : decode prog_76_method_1_code 17 = .ok (.if_icmp .lt 7, 3) := by decide +kernel
theorem d1_20 : decode prog_76_method_1_code 20 = .ok (.iconst 1, 1) := by decide +kernel
theorem d1_21 : decode prog_76_method_1_code 21 = .ok (.goto 4, 3) := by decide +kernel
theorem d1_24 : decode prog_76_method_1_code 24 = .ok (.iconst 0, 1) := by decide +kernel
theorem d1_25 : decode prog_76_method_1_code 25 = .ok (.ireturn, 1) := by decide +kernel
set_option maxRecDepth 65536 in
set_option maxHeartbeats 40000000 in
theorem rm1 (l : Launch) (Z : State) (a0 : Array Value) (hw : ∀ d ∈ tables_1, d.before a0 Z = true) (ws : List Jvm.Cond) (a1 : Addr) (cl1 : Cell) (z w : Int32) (h0 : Heap) (n0 : Nat) (Z0 : n0 ≤ h0.size) (Ar : Arr Z h0 a1 cl1 .byte) (Sz : cl1.slots.size = z.toNatClampNeg) (Nz : ¬ z < 0) (hat : 5 < z → cl1.slots[(5 : Int32).toNatClampNeg]? = some (.int w)) :
    MetFree l (⟨"com/example/hushed_flood/hushedflood/tcp/Control", "isControl", "([B)Z"⟩ : MethodName) (head1 (Jvm.Cond.code (⟨"com/example/hushed_flood/hushedflood/tcp/Control", "isControl", "([B)Z"⟩ : MethodName) prog_76_method_1_code 2 (some .boolean) :: ws) ({ frames := 0, cells := 0, slots := 0, locals := 0 } : Room)) (fun a U => a = #[(.ref a1)] ∧ Z.Warmed39 U.vm ∧ U.heap = h0) (fun _ _ _ _ _ => True) (fun _ U o U' => ∃ v L, o = .returned v ∧ Q1 z w h0 n0 v U'.heap L ∧ FrameEnd U o U' L 0 0) := by
  refine MetFree.of_bodySF (plainFor_of_name (by first | (simp [plainName, overriddenIn]; done) | decide +kernel)) hisR ?_
  intro p e s m args below meth c s₁ Bd hml0 hP hK
  obtain ⟨rfl, hZ, hh⟩ := hP
  have hx := Bd.exec
  have hby := Bd.bytes
  have hml : c.maxLocals = 2 := hml0
  have hown : s.vm.findClass "com/example/hushed_flood/hushedflood/tcp/Control" = some m.cls := findClass_of_methodNamed Bd.named
  have hnm := (name_of_methodNamed Bd.named Bd.method).1
  have X0 : Stand p l e ({ frames := 0, cells := 0, slots := 0, locals := 0 } : Room) s m #[(.ref a1)] below meth c s₁ [] 0 0 := Stand.of_body Bd
  have e0 : s₁.heap = h0 := by rw [← hh, Bd.state]; rfl
  have N0 := Fr.nil n0
  have ef : entryFrame m #[(.ref a1)] 2 = (mkF m 0 #[.val (.ref a1), .unset] []) := by first | (simp [entryFrame, mkF, argsToLocals, Value.category]; done) | rfl
  refine own_start (fun P hPP => ?_)
  refine own_step (T' := s₁) (g' := (mkF m 0 #[.val (.ref a1), .unset] [])) (fun t_ k_ => castTop ef k_) ?_
  refine own_step (T' := s₁) (g' := (mkF m 1 #[.val (.ref a1), .unset] [(.int (5 : Int32))])) (fun t_ k_ => XS.iconst X0.here hx rfl (hb hby d1_0) k_) ?_
  refine own_step (T' := s₁) (g' := (mkF m 2 #[.val (.ref a1), .val (.int (5 : Int32))] [])) (fun t_ k_ => XS.istoreN X0.here hx rfl (hb hby d1_1) rfl (l' := #[.val (.ref a1), .val (.int (5 : Int32))]) rfl k_) ?_
  refine own_step (T' := s₁) (g' := (mkF m 3 #[.val (.ref a1), .val (.int (5 : Int32))] [(.ref a1)])) (fun t_ k_ => XS.aloadN X0.here hx rfl (hb hby d1_2) rfl rfl k_) ?_
  refine own_step (T' := s₁) (g' := (mkF m 4 #[.val (.ref a1), .val (.int (5 : Int32))] [(.int z)])) (fun t_ k_ => X0.arraylength hx (by rw [e0]; exact Ar.1) (State.isArrayOf_alike hZ.alike Ar.2.1) (g := (mkF m 3 #[.val (.ref a1), .val (.int (5 : Int32))] [(.ref a1)])) rfl rfl (hb hby d1_3) _ (by rw [len_of Sz Nz]; exact k_)) ?_
  refine own_step (T' := s₁) (g' := (mkF m 5 #[.val (.ref a1), .val (.int (5 : Int32))] [(.int (5 : Int32)), (.int z)])) (fun t_ k_ => XS.iloadN X0.here hx rfl (hb hby d1_4) rfl k_) ?_
  by_cases hc5_1 : (5 : Int32) < z
  · refine own_step (T' := s₁) (g' := (mkF m 8 #[.val (.ref a1), .val (.int (5 : Int32))] [])) (fun t_ k_ => XS.icmpNo X0.here hx rfl (hb hby d1_5) rfl (tlt hc5_1).2.2.2 k_) ?_
    refine own_step (T' := s₁) (g' := (mkF m 9 #[.val (.ref a1), .val (.int (5 : Int32))] [(.ref a1)])) (fun t_ k_ => XS.aloadN X0.here hx rfl (hb hby d1_8) rfl rfl k_) ?_
    refine own_step (T' := s₁) (g' := (mkF m 10 #[.val (.ref a1), .val (.int (5 : Int32))] [(.int (5 : Int32)), (.ref a1)])) (fun t_ k_ => XS.iloadN X0.here hx rfl (hb hby d1_9) rfl k_) ?_
    refine own_step (T' := s₁) (g' := (mkF m 11 #[.val (.ref a1), .val (.int (5 : Int32))] [(.int w)])) (fun t_ k_ => X0.baloadBytes hx (j := (5 : Int32)) (v := (.int w)) (by rw [e0]; exact Ar.1) (State.isArrayOf_alike hZ.alike Ar.2.1) Ar.2.2 (inb_of Sz ⟨by decide, hc5_1⟩) (hat hc5_1) (g := (mkF m 10 #[.val (.ref a1), .val (.int (5 : Int32))] [(.int (5 : Int32)), (.ref a1)])) rfl rfl (hb hby d1_10) _ k_) ?_
    refine own_step (T' := s₁) (g' := (mkF m 14 #[.val (.ref a1), .val (.int (5 : Int32))] [(.int (255 : Int32)), (.int w)])) (fun t_ k_ => XS.sipush X0.here hx rfl (hb hby d1_11) k_) ?_
    refine own_step (T' := s₁) (g' := (mkF m 15 #[.val (.ref a1), .val (.int (5 : Int32))] [(.int (w &&& (255 : Int32)))])) (fun t_ k_ => XS.iand X0.here hx rfl (hb hby d1_14) rfl k_) ?_
    refine own_step (T' := s₁) (g' := (mkF m 17 #[.val (.ref a1), .val (.int (5 : Int32))] [(.int (16 : Int32)), (.int (w &&& (255 : Int32)))])) (fun t_ k_ => XS.bipush X0.here hx rfl (hb hby d1_15) k_) ?_
    by_cases hc17_2 : (w &&& (255 : Int32)) < (16 : Int32)
    · refine own_step (T' := s₁) (g' := (mkF m 24 #[.val (.ref a1), .val (.int (5 : Int32))] [])) (fun t_ k_ => XS.icmpYes X0.here hx rfl (pc0 := 17) (pc' := 24) rfl (hb hby d1_17) rfl (tlt hc17_2).1 (by decide) (by decide) k_) ?_
      refine own_step (T' := s₁) (g' := (mkF m 25 #[.val (.ref a1), .val (.int (5 : Int32))] [(.int (0 : Int32))])) (fun t_ k_ => XS.iconst X0.here hx rfl (hb hby d1_24) k_) ?_
      obtain ⟨fs, hrR, hrun, hended, hWW, hsame⟩ := X0.leave (v := some (.int (0 : Int32))) (fun h => by rw [Bd.returns] at h; cases h)
      refine ⟨_, _, own_retZ X0 hx (t := .boolean) Bd.returns (by simp) (by decide) (hb hby d1_25) hrR, hrun, hended, hPP _ _ ⟨_, _, rfl, ?_, ⟨_, rfl⟩, hWW, hsame.mono (by decide) (by decide)⟩⟩
      show Q1 z w h0 n0 _ s₁.heap _
      rw [e0]
      exact ⟨by simp [own_ctl, hc5_1, hc17_2], N0, rfl⟩
    · refine own_step (T' := s₁) (g' := (mkF m 20 #[.val (.ref a1), .val (.int (5 : Int32))] [])) (fun t_ k_ => XS.icmpNo X0.here hx rfl (hb hby d1_17) rfl (flt hc17_2).1 k_) ?_
      refine own_step (T' := s₁) (g' := (mkF m 21 #[.val (.ref a1), .val (.int (5 : Int32))] [(.int (1 : Int32))])) (fun t_ k_ => XS.iconst X0.here hx rfl (hb hby d1_20) k_) ?_
      refine own_step (T' := s₁) (g' := (mkF m 25 #[.val (.ref a1), .val (.int (5 : Int32))] [(.int (1 : Int32))])) (fun t_ k_ => XS.goto X0.here hx rfl (pc0 := 21) (pc' := 25) rfl (hb hby d1_21) (by decide) (by decide) k_) ?_
      obtain ⟨fs, hrR, hrun, hended, hWW, hsame⟩ := X0.leave (v := some (.int (1 : Int32))) (fun h => by rw [Bd.returns] at h; cases h)
      refine ⟨_, _, own_retZ X0 hx (t := .boolean) Bd.returns (by simp) (by decide) (hb hby d1_25) hrR, hrun, hended, hPP _ _ ⟨_, _, rfl, ?_, ⟨_, rfl⟩, hWW, hsame.mono (by decide) (by decide)⟩⟩
      show Q1 z w h0 n0 _ s₁.heap _
      rw [e0]
      exact ⟨by simp [own_ctl, hc5_1, hc17_2], N0, rfl⟩
  · refine own_step (T' := s₁) (g' := (mkF m 24 #[.val (.ref a1), .val (.int (5 : Int32))] [])) (fun t_ k_ => XS.icmpYes X0.here hx rfl (pc0 := 5) (pc' := 24) rfl (hb hby d1_5) rfl (flt hc5_1).2.2.2 (by decide) (by decide) k_) ?_
    refine own_step (T' := s₁) (g' := (mkF m 25 #[.val (.ref a1), .val (.int (5 : Int32))] [(.int (0 : Int32))])) (fun t_ k_ => XS.iconst X0.here hx rfl (hb hby d1_24) k_) ?_
    obtain ⟨fs, hrR, hrun, hended, hWW, hsame⟩ := X0.leave (v := some (.int (0 : Int32))) (fun h => by rw [Bd.returns] at h; cases h)
    refine ⟨_, _, own_retZ X0 hx (t := .boolean) Bd.returns (by simp) (by decide) (hb hby d1_25) hrR, hrun, hended, hPP _ _ ⟨_, _, rfl, ?_, ⟨_, rfl⟩, hWW, hsame.mono (by decide) (by decide)⟩⟩
    show Q1 z w h0 n0 _ s₁.heap _
    rw [e0]
    exact ⟨by simp [own_ctl, hc5_1], N0, rfl⟩
def Q0 (n0 : Nat) (v : Option Value) (h : Heap) (L : List Loc) : Prop := v = some (.int 1) ∧ Fr n0 L
set_option maxRecDepth 65536 in
set_option maxHeartbeats 40000000 in
theorem rm0_0 (l : Launch) (Z : State) (a0 : Array Value) (hw : ∀ d ∈ tables_1, d.before a0 Z = true) (ws : List Jvm.Cond) (p1 p2 : Int32) (p3 : Int64) (h0 : Heap) (n0 : Nat) (Z0 : n0 ≤ h0.size) (hk : p1 &&& 7 = 0) :
    MetFree l x (head1 (Jvm.Cond.code x code maxLocals ret :: ws) room_1) (fun a U => a = #[(.int p1), (.int p2), (.long p3)] ∧ Z.Warmed39 U.vm ∧ U.heap = h0) (fun _ _ _ _ _ => True) (fun _ U o U' => ∃ v L, o = .returned v ∧ Q0 n0 v U'.heap L ∧ FrameEnd U o U' L 16 128) := by
  refine MetFree.of_bodySF (plainFor_of_name (by first | (simp [plainName, overriddenIn]; done) | decide +kernel)) hisR ?_
  intro p e s m args below meth c s₁ Bd hml0 hP hK
  obtain ⟨rfl, hZ, hh⟩ := hP
  have hx := Bd.exec
  have hby := Bd.bytes
  have hml : c.maxLocals = 7 := hml0
  have hown : s.vm.findClass "com/example/hushed_flood/hushedflood/tcp/ControlIsControlPinLaw" = some m.cls := findClass_of_methodNamed Bd.named
  have hnm := (name_of_methodNamed Bd.named Bd.method).1
  have X0 : Stand p l e room_1 s m #[(.int p1), (.int p2), (.long p3)] below meth c s₁ [] 0 0 := Stand.of_body Bd
  have e0 : s₁.heap = h0 := by rw [← hh, Bd.state]; rfl
  have N0 := Fr.nil n0
  have ef : entryFrame m #[(.int p1), (.int p2), (.long p3)] maxLocals = (mkF m 0 #[.val (.int p1), .val (.int p2), .val (.long p3), .second, .unset, .unset, .unset] []) := by first | (simp [entryFrame, mkF, argsToLocals, Value.category, maxLocals]; done) | rfl
  refine own_start (fun P hPP => ?_)
  refine own_step (T' := s₁) (g' := (mkF m 0 #[.val (.int p1), .val (.int p2), .val (.long p3), .second, .unset, .unset, .unset] [])) (fun t_ k_ => castTop ef k_) ?_
  refine own_step (T' := s₁) (g' := (mkF m 1 #[.val (.int p1), .val (.int p2), .val (.long p3), .second, .unset, .unset, .unset] [(.int p1)])) (fun t_ k_ => XS.iloadN X0.here hx rfl (hb hby at_0) rfl k_) ?_
  refine own_step (T' := s₁) (g' := (mkF m 3 #[.val (.int p1), .val (.int p2), .val (.long p3), .second, .unset, .unset, .unset] [(.int (7 : Int32)), (.int p1)])) (fun t_ k_ => XS.bipush X0.here hx rfl (hb hby at_1) k_) ?_
  refine own_step (T' := s₁) (g' := (mkF m 4 #[.val (.int p1), .val (.int p2), .val (.long p3), .second, .unset, .unset, .unset] [(.int (p1 &&& (7 : Int32)))])) (fun t_ k_ => XS.iand X0.here hx rfl (hb hby at_3) rfl k_) ?_
  rw [hk]
  refine own_step (T' := s₁) (g' := (mkF m 6 #[.val (.int p1), .val (.int p2), .val (.long p3), .second, .val (.int (0 : Int32)), .unset, .unset] [])) (fun t_ k_ => XS.istore X0.here hx rfl (hb hby at_4) rfl (l' := #[.val (.int p1), .val (.int p2), .val (.long p3), .second, .val (.int (0 : Int32)), .unset, .unset]) rfl k_) ?_
  refine own_step (T' := s₁) (g' := (mkF m 8 #[.val (.int p1), .val (.int p2), .val (.long p3), .second, .val (.int (0 : Int32)), .unset, .unset] [(.int (0 : Int32))])) (fun t_ k_ => XS.iload X0.here hx rfl (hb hby at_6) rfl k_) ?_
  obtain ⟨T1, h1, k1, X1, e1, E1, A1, st1⟩ := newP X0 hx hZ (hw _ (List.mem_of_getElem? (i := 0) rfl)) e0 (g := (mkF m 8 #[.val (.int p1), .val (.int p2), .val (.long p3), .second, .val (.int (0 : Int32)), .unset, .unset] [(.int (0 : Int32))])) rfl (hb hby at_8) rfl (by decide) (cap := 0) (by decide) (by decide) (by decide) (by decide)
  obtain ⟨b1, g1⟩ : ∃ z, z = h0.size := ⟨_, rfl⟩
  rw [← g1] at A1 st1
  have ge_b1 : n0 ≤ b1 := Nat.le_trans Z0 (Nat.le_of_eq g1.symm)
  have z2 : n0 ≤ h1.size := Nat.le_trans Z0 E1.1
  have V1 : Arv Z h1 b1 k1 .byte (0 : Int32) [] (.int (0 : Int32)) := Arv.new A1 (by decide)
  refine own_step (T' := T1) (g' := (mkF m 10 #[.val (.int p1), .val (.int p2), .val (.long p3), .second, .val (.int (0 : Int32)), .unset, .unset] [(.ref b1)])) st1 ?_
  refine own_step (T' := T1) (g' := (mkF m 12 #[.val (.int p1), .val (.int p2), .val (.long p3), .second, .val (.int (0 : Int32)), .val (.ref b1), .unset] [])) (fun t_ k_ => XS.astore X1.here hx rfl (hb hby at_10) rfl rfl (l' := #[.val (.int p1), .val (.int p2), .val (.long p3), .second, .val (.int (0 : Int32)), .val (.ref b1), .unset]) rfl k_) ?_
  refine own_step (T' := T1) (g' := (mkF m 14 #[.val (.int p1), .val (.int p2), .val (.long p3), .second, .val (.int (0 : Int32)), .val (.ref b1), .unset] [(.int (0 : Int32))])) (fun t_ k_ => XS.iload X1.here hx rfl (hb hby at_12) rfl k_) ?_
  refine own_step (T' := T1) (g' := (mkF m 24 #[.val (.int p1), .val (.int p2), .val (.long p3), .second, .val (.int (0 : Int32)), .val (.ref b1), .unset] [])) (fun t_ k_ => XS.ifYes X1.here hx rfl (pc0 := 14) (pc' := 24) rfl (hb hby at_14) rfl ((if0 _ _).trans (flt (by decide)).2.2.2) (by decide) (by decide) k_) ?_
  refine own_step (T' := T1) (g' := (mkF m 26 #[.val (.int p1), .val (.int p2), .val (.long p3), .second, .val (.int (0 : Int32)), .val (.ref b1), .unset] [(.int (0 : Int32))])) (fun t_ k_ => XS.iload X1.here hx rfl (hb hby at_24) rfl k_) ?_
  refine own_step (T' := T1) (g' := (mkF m 27 #[.val (.int p1), .val (.int p2), .val (.long p3), .second, .val (.int (0 : Int32)), .val (.ref b1), .unset] [(.int (1 : Int32)), (.int (0 : Int32))])) (fun t_ k_ => XS.iconst X1.here hx rfl (hb hby at_26) k_) ?_
  refine own_step (T' := T1) (g' := (mkF m 40 #[.val (.int p1), .val (.int p2), .val (.long p3), .second, .val (.int (0 : Int32)), .val (.ref b1), .unset] [])) (fun t_ k_ => XS.icmpYes X1.here hx rfl (pc0 := 27) (pc' := 40) rfl (hb hby at_27) rfl (flt (by decide)).2.2.2 (by decide) (by decide) k_) ?_
  refine own_step (T' := T1) (g' := (mkF m 42 #[.val (.int p1), .val (.int p2), .val (.long p3), .second, .val (.int (0 : Int32)), .val (.ref b1), .unset] [(.int (0 : Int32))])) (fun t_ k_ => XS.iload X1.here hx rfl (hb hby at_40) rfl k_) ?_
  refine own_step (T' := T1) (g' := (mkF m 43 #[.val (.int p1), .val (.int p2), .val (.long p3), .second, .val (.int (0 : Int32)), .val (.ref b1), .unset] [(.int (2 : Int32)), (.int (0 : Int32))])) (fun t_ k_ => XS.iconst X1.here hx rfl (hb hby at_42) k_) ?_
  refine own_step (T' := T1) (g' := (mkF m 56 #[.val (.int p1), .val (.int p2), .val (.long p3), .second, .val (.int (0 : Int32)), .val (.ref b1), .unset] [])) (fun t_ k_ => XS.icmpYes X1.here hx rfl (pc0 := 43) (pc' := 56) rfl (hb hby at_43) rfl (flt (by decide)).2.2.2 (by decide) (by decide) k_) ?_
  refine own_step (T' := T1) (g' := (mkF m 58 #[.val (.int p1), .val (.int p2), .val (.long p3), .second, .val (.int (0 : Int32)), .val (.ref b1), .unset] [(.int (0 : Int32))])) (fun t_ k_ => XS.iload X1.here hx rfl (hb hby at_56) rfl k_) ?_
  refine own_step (T' := T1) (g' := (mkF m 59 #[.val (.int p1), .val (.int p2), .val (.long p3), .second, .val (.int (0 : Int32)), .val (.ref b1), .unset] [(.int (3 : Int32)), (.int (0 : Int32))])) (fun t_ k_ => XS.iconst X1.here hx rfl (hb hby at_58) k_) ?_
  refine own_step (T' := T1) (g' := (mkF m 72 #[.val (.int p1), .val (.int p2), .val (.long p3), .second, .val (.int (0 : Int32)), .val (.ref b1), .unset] [])) (fun t_ k_ => XS.icmpYes X1.here hx rfl (pc0 := 59) (pc' := 72) rfl (hb hby at_59) rfl (flt (by decide)).2.2.2 (by decide) (by decide) k_) ?_
  refine own_step (T' := T1) (g' := (mkF m 74 #[.val (.int p1), .val (.int p2), .val (.long p3), .second, .val (.int (0 : Int32)), .val (.ref b1), .unset] [(.int (0 : Int32))])) (fun t_ k_ => XS.iload X1.here hx rfl (hb hby at_72) rfl k_) ?_
  refine own_step (T' := T1) (g' := (mkF m 75 #[.val (.int p1), .val (.int p2), .val (.long p3), .second, .val (.int (0 : Int32)), .val (.ref b1), .unset] [(.int (4 : Int32)), (.int (0 : Int32))])) (fun t_ k_ => XS.iconst X1.here hx rfl (hb hby at_74) k_) ?_
  refine own_step (T' := T1) (g' := (mkF m 88 #[.val (.int p1), .val (.int p2), .val (.long p3), .second, .val (.int (0 : Int32)), .val (.ref b1), .unset] [])) (fun t_ k_ => XS.icmpYes X1.here hx rfl (pc0 := 75) (pc' := 88) rfl (hb hby at_75) rfl (flt (by decide)).2.2.2 (by decide) (by decide) k_) ?_
  refine own_step (T' := T1) (g' := (mkF m 90 #[.val (.int p1), .val (.int p2), .val (.long p3), .second, .val (.int (0 : Int32)), .val (.ref b1), .unset] [(.int (0 : Int32))])) (fun t_ k_ => XS.iload X1.here hx rfl (hb hby at_88) rfl k_) ?_
  refine own_step (T' := T1) (g' := (mkF m 91 #[.val (.int p1), .val (.int p2), .val (.long p3), .second, .val (.int (0 : Int32)), .val (.ref b1), .unset] [(.int (5 : Int32)), (.int (0 : Int32))])) (fun t_ k_ => XS.iconst X1.here hx rfl (hb hby at_90) k_) ?_
  refine own_step (T' := T1) (g' := (mkF m 100 #[.val (.int p1), .val (.int p2), .val (.long p3), .second, .val (.int (0 : Int32)), .val (.ref b1), .unset] [])) (fun t_ k_ => XS.icmpYes X1.here hx rfl (pc0 := 91) (pc' := 100) rfl (hb hby at_91) rfl (flt (by decide)).2.2.2 (by decide) (by decide) k_) ?_
  refine own_step (T' := T1) (g' := (mkF m 102 #[.val (.int p1), .val (.int p2), .val (.long p3), .second, .val (.int (0 : Int32)), .val (.ref b1), .unset] [(.int (0 : Int32))])) (fun t_ k_ => XS.iload X1.here hx rfl (hb hby at_100) rfl k_) ?_
  refine own_step (T' := T1) (g' := (mkF m 104 #[.val (.int p1), .val (.int p2), .val (.long p3), .second, .val (.int (0 : Int32)), .val (.ref b1), .unset] [(.int (6 : Int32)), (.int (0 : Int32))])) (fun t_ k_ => XS.bipush X1.here hx rfl (hb hby at_102) k_) ?_
  refine own_step (T' := T1) (g' := (mkF m 118 #[.val (.int p1), .val (.int p2), .val (.long p3), .second, .val (.int (0 : Int32)), .val (.ref b1), .unset] [])) (fun t_ k_ => XS.icmpYes X1.here hx rfl (pc0 := 104) (pc' := 118) rfl (hb hby at_104) rfl (flt (by decide)).2.2.2 (by decide) (by decide) k_) ?_
  refine own_step (T' := T1) (g' := (mkF m 120 #[.val (.int p1), .val (.int p2), .val (.long p3), .second, .val (.int (0 : Int32)), .val (.ref b1), .unset] [(.int (0 : Int32))])) (fun t_ k_ => XS.iload X1.here hx rfl (hb hby at_118) rfl k_) ?_
  refine own_step (T' := T1) (g' := (mkF m 122 #[.val (.int p1), .val (.int p2), .val (.long p3), .second, .val (.int (0 : Int32)), .val (.ref b1), .unset] [(.int (6 : Int32)), (.int (0 : Int32))])) (fun t_ k_ => XS.bipush X1.here hx rfl (hb hby at_120) k_) ?_
  refine own_step (T' := T1) (g' := (mkF m 139 #[.val (.int p1), .val (.int p2), .val (.long p3), .second, .val (.int (0 : Int32)), .val (.ref b1), .unset] [])) (fun t_ k_ => XS.icmpYes X1.here hx rfl (pc0 := 122) (pc' := 139) rfl (hb hby at_122) rfl (tlt (by decide)).1 (by decide) (by decide) k_) ?_
  refine own_step (T' := T1) (g' := (mkF m 140 #[.val (.int p1), .val (.int p2), .val (.long p3), .second, .val (.int (0 : Int32)), .val (.ref b1), .unset] [(.int (0 : Int32))])) (fun t_ k_ => XS.iconst X1.here hx rfl (hb hby at_139) k_) ?_
  refine own_step (T' := T1) (g' := (mkF m 142 #[.val (.int p1), .val (.int p2), .val (.long p3), .second, .val (.int (0 : Int32)), .val (.ref b1), .val (.int (0 : Int32))] [])) (fun t_ k_ => XS.istore X1.here hx rfl (hb hby at_140) rfl (l' := #[.val (.int p1), .val (.int p2), .val (.long p3), .second, .val (.int (0 : Int32)), .val (.ref b1), .val (.int (0 : Int32))]) rfl k_) ?_
  refine own_step (T' := T1) (g' := (mkF m 144 #[.val (.int p1), .val (.int p2), .val (.long p3), .second, .val (.int (0 : Int32)), .val (.ref b1), .val (.int (0 : Int32))] [(.ref b1)])) (fun t_ k_ => XS.aload X1.here hx rfl (hb hby at_142) rfl rfl k_) ?_
  obtain ⟨cl4, Ar4, qk4, Sz4, Nz4, Hs4, Gs4⟩ := V1
  obtain ⟨_, _, ⟨T3, L3, k3, n3⟩, -, X3, ⟨Lc3, hQ3, l3, y3, z3⟩, st3⟩ := Jvm.LawKit.callS X1 hx (y := (⟨"com/example/hushed_flood/hushedflood/tcp/Control", "isControl", "([B)Z"⟩ : MethodName)) hown (mvT hZ (hw _ (List.mem_of_getElem? (i := 1) rfl))) (mvT hZ (hw _ (List.mem_of_getElem? (i := 2) rfl))) (mvT hZ (hw _ (List.mem_of_getElem? (i := 3) rfl))) (mvT hZ (hw _ (List.mem_of_getElem? (i := 4) rfl))) (by decide) (backOf (W := 0) (rm1 l Z a0 hw [] b1 cl4 (0 : Int32) (0 : Int32) h1 n0 z2 Ar4 Sz4 Nz4 (fun h => absurd h (by decide))) hZ (hw _ (List.mem_of_getElem? (i := 4) rfl)) (hw _ (List.mem_of_getElem? (i := 3) rfl)) (by decide) (by decide)) (g := (mkF m 144 #[.val (.int p1), .val (.int p2), .val (.long p3), .second, .val (.int (0 : Int32)), .val (.ref b1), .val (.int (0 : Int32))] [(.ref b1)])) rfl (by rw [hml]; rfl) (argsL := [(.ref b1)]) (rest := []) (lenOf (by decide +kernel : parseMethodDescriptor "([B)Z" = some ⟨[(.array .byte)], some .boolean⟩) rfl) rfl (by show 2 * 0 + _ ≤ _; exact Nat.le_of_eq rfl) (hb hby at_144) (fun _ _ => ⟨rfl, e1, (by decide : 1 + 0 ≤ _), (by decide : 0 + 0 ≤ _)⟩)
  dsimp only [Pt.U, Pt.locs, Pt.cells, Pt.slots] at X3 l3 y3 z3 st3 hQ3
  subst l3 y3 z3
  obtain ⟨rfl, Nq3, e3⟩ := hQ3
  have N3 := Fr.app N0 Nq3
  refine own_step (T' := T3) (g' := (mkF m 147 #[.val (.int p1), .val (.int p2), .val (.long p3), .second, .val (.int (0 : Int32)), .val (.ref b1), .val (.int (0 : Int32))] [(.int (own_ctl (0 : Int32) (0 : Int32)))])) st3 ?_
  refine own_step (T' := T3) (g' := (mkF m 149 #[.val (.int p1), .val (.int p2), .val (.long p3), .second, .val (.int (0 : Int32)), .val (.ref b1), .val (.int (0 : Int32))] [(.int (0 : Int32)), (.int (own_ctl (0 : Int32) (0 : Int32)))])) (fun t_ k_ => XS.iload X3.here hx rfl (hb hby at_147) rfl k_) ?_
  refine own_step (T' := T3) (g' := (mkF m 152 #[.val (.int p1), .val (.int p2), .val (.long p3), .second, .val (.int (0 : Int32)), .val (.ref b1), .val (.int (0 : Int32))] [])) (fun t_ k_ => XS.icmpNo X3.here hx rfl (hb hby at_149) rfl (teq (by simp [own_ctl])).2 k_) ?_
  refine own_step (T' := T3) (g' := (mkF m 153 #[.val (.int p1), .val (.int p2), .val (.long p3), .second, .val (.int (0 : Int32)), .val (.ref b1), .val (.int (0 : Int32))] [(.int (1 : Int32))])) (fun t_ k_ => XS.iconst X3.here hx rfl (hb hby at_152) k_) ?_
  refine own_step (T' := T3) (g' := (mkF m 157 #[.val (.int p1), .val (.int p2), .val (.long p3), .second, .val (.int (0 : Int32)), .val (.ref b1), .val (.int (0 : Int32))] [(.int (1 : Int32))])) (fun t_ k_ => XS.goto X3.here hx rfl (pc0 := 153) (pc' := 157) rfl (hb hby at_153) (by decide) (by decide) k_) ?_
  obtain ⟨fs, hrR, hrun, hended, hWW, hsame⟩ := X3.leave (v := some (.int (1 : Int32))) (fun h => by rw [Bd.returns] at h; cases h)
  refine ⟨_, _, own_retZ X3 hx (t := .boolean) Bd.returns (by simp) (by decide) (hb hby at_157) hrR, hrun, hended, hPP _ _ ⟨_, _, rfl, ?_, ⟨_, rfl⟩, hWW, hsame.mono (by decide) (by decide)⟩⟩
  show Q0 n0 _ T3.heap _
  rw [e3]
  exact ⟨rfl, N3⟩
set_option maxRecDepth 65536 in
set_option maxHeartbeats 40000000 in
theorem rm0_1 (l : Launch) (Z : State) (a0 : Array Value) (hw : ∀ d ∈ tables_1, d.before a0 Z = true) (ws : List Jvm.Cond) (p1 p2 : Int32) (p3 : Int64) (h0 : Heap) (n0 : Nat) (Z0 : n0 ≤ h0.size) (hk : p1 &&& 7 = 1) :
    MetFree l x (head1 (Jvm.Cond.code x code maxLocals ret :: ws) room_1) (fun a U => a = #[(.int p1), (.int p2), (.long p3)] ∧ Z.Warmed39 U.vm ∧ U.heap = h0) (fun _ _ _ _ _ => True) (fun _ U o U' => ∃ v L, o = .returned v ∧ Q0 n0 v U'.heap L ∧ FrameEnd U o U' L 16 128) := by
  refine MetFree.of_bodySF (plainFor_of_name (by first | (simp [plainName, overriddenIn]; done) | decide +kernel)) hisR ?_
  intro p e s m args below meth c s₁ Bd hml0 hP hK
  obtain ⟨rfl, hZ, hh⟩ := hP
  have hx := Bd.exec
  have hby := Bd.bytes
  have hml : c.maxLocals = 7 := hml0
  have hown : s.vm.findClass "com/example/hushed_flood/hushedflood/tcp/ControlIsControlPinLaw" = some m.cls := findClass_of_methodNamed Bd.named
  have hnm := (name_of_methodNamed Bd.named Bd.method).1
  have X0 : Stand p l e room_1 s m #[(.int p1), (.int p2), (.long p3)] below meth c s₁ [] 0 0 := Stand.of_body Bd
  have e0 : s₁.heap = h0 := by rw [← hh, Bd.state]; rfl
  have N0 := Fr.nil n0
  have ef : entryFrame m #[(.int p1), (.int p2), (.long p3)] maxLocals = (mkF m 0 #[.val (.int p1), .val (.int p2), .val (.long p3), .second, .unset, .unset, .unset] []) := by first | (simp [entryFrame, mkF, argsToLocals, Value.category, maxLocals]; done) | rfl
  refine own_start (fun P hPP => ?_)
  refine own_step (T' := s₁) (g' := (mkF m 0 #[.val (.int p1), .val (.int p2), .val (.long p3), .second, .unset, .unset, .unset] [])) (fun t_ k_ => castTop ef k_) ?_
  refine own_step (T' := s₁) (g' := (mkF m 1 #[.val (.int p1), .val (.int p2), .val (.long p3), .second, .unset, .unset, .unset] [(.int p1)])) (fun t_ k_ => XS.iloadN X0.here hx rfl (hb hby at_0) rfl k_) ?_
  refine own_step (T' := s₁) (g' := (mkF m 3 #[.val (.int p1), .val (.int p2), .val (.long p3), .second, .unset, .unset, .unset] [(.int (7 : Int32)), (.int p1)])) (fun t_ k_ => XS.bipush X0.here hx rfl (hb hby at_1) k_) ?_
  refine own_step (T' := s₁) (g' := (mkF m 4 #[.val (.int p1), .val (.int p2), .val (.long p3), .second, .unset, .unset, .unset] [(.int (p1 &&& (7 : Int32)))])) (fun t_ k_ => XS.iand X0.here hx rfl (hb hby at_3) rfl k_) ?_
  rw [hk]
  refine own_step (T' := s₁) (g' := (mkF m 6 #[.val (.int p1), .val (.int p2), .val (.long p3), .second, .val (.int (1 : Int32)), .unset, .unset] [])) (fun t_ k_ => XS.istore X0.here hx rfl (hb hby at_4) rfl (l' := #[.val (.int p1), .val (.int p2), .val (.long p3), .second, .val (.int (1 : Int32)), .unset, .unset]) rfl k_) ?_
  refine own_step (T' := s₁) (g' := (mkF m 8 #[.val (.int p1), .val (.int p2), .val (.long p3), .second, .val (.int (1 : Int32)), .unset, .unset] [(.int (1 : Int32))])) (fun t_ k_ => XS.iload X0.here hx rfl (hb hby at_6) rfl k_) ?_
  obtain ⟨T1, h1, k1, X1, e1, E1, A1, st1⟩ := newP X0 hx hZ (hw _ (List.mem_of_getElem? (i := 0) rfl)) e0 (g := (mkF m 8 #[.val (.int p1), .val (.int p2), .val (.long p3), .second, .val (.int (1 : Int32)), .unset, .unset] [(.int (1 : Int32))])) rfl (hb hby at_8) rfl (by decide) (cap := 1) (by decide) (by decide) (by decide) (by decide)
  obtain ⟨b1, g1⟩ : ∃ z, z = h0.size := ⟨_, rfl⟩
  rw [← g1] at A1 st1
  have ge_b1 : n0 ≤ b1 := Nat.le_trans Z0 (Nat.le_of_eq g1.symm)
  have z2 : n0 ≤ h1.size := Nat.le_trans Z0 E1.1
  have V1 : Arv Z h1 b1 k1 .byte (1 : Int32) [(.int (0 : Int32))] (.int (0 : Int32)) := (Arv.new A1 (by decide)).pad (pad_rep [] (.int (0 : Int32)) 1)
  refine own_step (T' := T1) (g' := (mkF m 10 #[.val (.int p1), .val (.int p2), .val (.long p3), .second, .val (.int (1 : Int32)), .unset, .unset] [(.ref b1)])) st1 ?_
  refine own_step (T' := T1) (g' := (mkF m 12 #[.val (.int p1), .val (.int p2), .val (.long p3), .second, .val (.int (1 : Int32)), .val (.ref b1), .unset] [])) (fun t_ k_ => XS.astore X1.here hx rfl (hb hby at_10) rfl rfl (l' := #[.val (.int p1), .val (.int p2), .val (.long p3), .second, .val (.int (1 : Int32)), .val (.ref b1), .unset]) rfl k_) ?_
  refine own_step (T' := T1) (g' := (mkF m 14 #[.val (.int p1), .val (.int p2), .val (.long p3), .second, .val (.int (1 : Int32)), .val (.ref b1), .unset] [(.int (1 : Int32))])) (fun t_ k_ => XS.iload X1.here hx rfl (hb hby at_12) rfl k_) ?_
  refine own_step (T' := T1) (g' := (mkF m 17 #[.val (.int p1), .val (.int p2), .val (.long p3), .second, .val (.int (1 : Int32)), .val (.ref b1), .unset] [])) (fun t_ k_ => XS.ifNo X1.here hx rfl (hb hby at_14) rfl ((if0 _ _).trans (tlt (by decide)).2.2.2) k_) ?_
  refine own_step (T' := T1) (g' := (mkF m 19 #[.val (.int p1), .val (.int p2), .val (.long p3), .second, .val (.int (1 : Int32)), .val (.ref b1), .unset] [(.ref b1)])) (fun t_ k_ => XS.aload X1.here hx rfl (hb hby at_17) rfl rfl k_) ?_
  refine own_step (T' := T1) (g' := (mkF m 20 #[.val (.int p1), .val (.int p2), .val (.long p3), .second, .val (.int (1 : Int32)), .val (.ref b1), .unset] [(.int (0 : Int32)), (.ref b1)])) (fun t_ k_ => XS.iconst X1.here hx rfl (hb hby at_19) k_) ?_
  refine own_step (T' := T1) (g' := (mkF m 21 #[.val (.int p1), .val (.int p2), .val (.long p3), .second, .val (.int (1 : Int32)), .val (.ref b1), .unset] [(.long p3), (.int (0 : Int32)), (.ref b1)])) (fun t_ k_ => XS.lloadN X1.here hx rfl (hb hby at_20) rfl k_) ?_
  refine own_step (T' := T1) (g' := (mkF m 22 #[.val (.int p1), .val (.int p2), .val (.long p3), .second, .val (.int (1 : Int32)), .val (.ref b1), .unset] [(.int (p3.toInt32)), (.int (0 : Int32)), (.ref b1)])) (fun t_ k_ => XS.l2i X1.here hx rfl (hb hby at_21) rfl k_) ?_
  refine own_step (T' := T1) (g' := (mkF m 23 #[.val (.int p1), .val (.int p2), .val (.long p3), .second, .val (.int (1 : Int32)), .val (.ref b1), .unset] [(.int ((p3.toInt32).toInt8.toInt32)), (.int (0 : Int32)), (.ref b1)])) (fun t_ k_ => XS.i2b X1.here hx rfl (hb hby at_22) rfl k_) ?_
  obtain ⟨cl3, Ar3, qk3, Sz3, Nz3, Hs3, Gs3⟩ := V1
  have hin3 := inb_of (j := (0 : Int32)) Sz3 ⟨by decide, by decide⟩
  obtain ⟨T3, h3, X3, e3, W3, st3⟩ := stB X1 hx hZ e1 Ar3 (j := (0 : Int32)) hin3 (g := (mkF m 23 #[.val (.int p1), .val (.int p2), .val (.long p3), .second, .val (.int (1 : Int32)), .val (.ref b1), .unset] [(.int ((p3.toInt32).toInt8.toInt32)), (.int (0 : Int32)), (.ref b1)])) rfl rfl (hb hby at_23)
  have V3 : Arv Z h3 b1 k1 .byte (1 : Int32) [(.int (nar .byte ((p3.toInt32).toInt8.toInt32)))] (.int (0 : Int32)) := Arv.set Ar3 qk3 Sz3 Nz3 Hs3 Gs3 (fits_nar_byte _) W3 0 rfl (Nat.le_of_ble_eq_true rfl)
  have N3 := Fr.snoc X3 N0 ge_b1
  have z5 : n0 ≤ h3.size := Nat.le_trans z2 (Keep.of_wr W3).1
  refine own_step (T' := T3) (g' := (mkF m 24 #[.val (.int p1), .val (.int p2), .val (.long p3), .second, .val (.int (1 : Int32)), .val (.ref b1), .unset] [])) st3 ?_
  refine own_step (T' := T3) (g' := (mkF m 26 #[.val (.int p1), .val (.int p2), .val (.long p3), .second, .val (.int (1 : Int32)), .val (.ref b1), .unset] [(.int (1 : Int32))])) (fun t_ k_ => XS.iload X3.here hx rfl (hb hby at_24) rfl k_) ?_
  refine own_step (T' := T3) (g' := (mkF m 27 #[.val (.int p1), .val (.int p2), .val (.long p3), .second, .val (.int (1 : Int32)), .val (.ref b1), .unset] [(.int (1 : Int32)), (.int (1 : Int32))])) (fun t_ k_ => XS.iconst X3.here hx rfl (hb hby at_26) k_) ?_
  refine own_step (T' := T3) (g' := (mkF m 40 #[.val (.int p1), .val (.int p2), .val (.long p3), .second, .val (.int (1 : Int32)), .val (.ref b1), .unset] [])) (fun t_ k_ => XS.icmpYes X3.here hx rfl (pc0 := 27) (pc' := 40) rfl (hb hby at_27) rfl (flt (by decide)).2.2.2 (by decide) (by decide) k_) ?_
  refine own_step (T' := T3) (g' := (mkF m 42 #[.val (.int p1), .val (.int p2), .val (.long p3), .second, .val (.int (1 : Int32)), .val (.ref b1), .unset] [(.int (1 : Int32))])) (fun t_ k_ => XS.iload X3.here hx rfl (hb hby at_40) rfl k_) ?_
  refine own_step (T' := T3) (g' := (mkF m 43 #[.val (.int p1), .val (.int p2), .val (.long p3), .second, .val (.int (1 : Int32)), .val (.ref b1), .unset] [(.int (2 : Int32)), (.int (1 : Int32))])) (fun t_ k_ => XS.iconst X3.here hx rfl (hb hby at_42) k_) ?_
  refine own_step (T' := T3) (g' := (mkF m 56 #[.val (.int p1), .val (.int p2), .val (.long p3), .second, .val (.int (1 : Int32)), .val (.ref b1), .unset] [])) (fun t_ k_ => XS.icmpYes X3.here hx rfl (pc0 := 43) (pc' := 56) rfl (hb hby at_43) rfl (flt (by decide)).2.2.2 (by decide) (by decide) k_) ?_
  refine own_step (T' := T3) (g' := (mkF m 58 #[.val (.int p1), .val (.int p2), .val (.long p3), .second, .val (.int (1 : Int32)), .val (.ref b1), .unset] [(.int (1 : Int32))])) (fun t_ k_ => XS.iload X3.here hx rfl (hb hby at_56) rfl k_) ?_
  refine own_step (T' := T3) (g' := (mkF m 59 #[.val (.int p1), .val (.int p2), .val (.long p3), .second, .val (.int (1 : Int32)), .val (.ref b1), .unset] [(.int (3 : Int32)), (.int (1 : Int32))])) (fun t_ k_ => XS.iconst X3.here hx rfl (hb hby at_58) k_) ?_
  refine own_step (T' := T3) (g' := (mkF m 72 #[.val (.int p1), .val (.int p2), .val (.long p3), .second, .val (.int (1 : Int32)), .val (.ref b1), .unset] [])) (fun t_ k_ => XS.icmpYes X3.here hx rfl (pc0 := 59) (pc' := 72) rfl (hb hby at_59) rfl (flt (by decide)).2.2.2 (by decide) (by decide) k_) ?_
  refine own_step (T' := T3) (g' := (mkF m 74 #[.val (.int p1), .val (.int p2), .val (.long p3), .second, .val (.int (1 : Int32)), .val (.ref b1), .unset] [(.int (1 : Int32))])) (fun t_ k_ => XS.iload X3.here hx rfl (hb hby at_72) rfl k_) ?_
  refine own_step (T' := T3) (g' := (mkF m 75 #[.val (.int p1), .val (.int p2), .val (.long p3), .second, .val (.int (1 : Int32)), .val (.ref b1), .unset] [(.int (4 : Int32)), (.int (1 : Int32))])) (fun t_ k_ => XS.iconst X3.here hx rfl (hb hby at_74) k_) ?_
  refine own_step (T' := T3) (g' := (mkF m 88 #[.val (.int p1), .val (.int p2), .val (.long p3), .second, .val (.int (1 : Int32)), .val (.ref b1), .unset] [])) (fun t_ k_ => XS.icmpYes X3.here hx rfl (pc0 := 75) (pc' := 88) rfl (hb hby at_75) rfl (flt (by decide)).2.2.2 (by decide) (by decide) k_) ?_
  refine own_step (T' := T3) (g' := (mkF m 90 #[.val (.int p1), .val (.int p2), .val (.long p3), .second, .val (.int (1 : Int32)), .val (.ref b1), .unset] [(.int (1 : Int32))])) (fun t_ k_ => XS.iload X3.here hx rfl (hb hby at_88) rfl k_) ?_
  refine own_step (T' := T3) (g' := (mkF m 91 #[.val (.int p1), .val (.int p2), .val (.long p3), .second, .val (.int (1 : Int32)), .val (.ref b1), .unset] [(.int (5 : Int32)), (.int (1 : Int32))])) (fun t_ k_ => XS.iconst X3.here hx rfl (hb hby at_90) k_) ?_
  refine own_step (T' := T3) (g' := (mkF m 100 #[.val (.int p1), .val (.int p2), .val (.long p3), .second, .val (.int (1 : Int32)), .val (.ref b1), .unset] [])) (fun t_ k_ => XS.icmpYes X3.here hx rfl (pc0 := 91) (pc' := 100) rfl (hb hby at_91) rfl (flt (by decide)).2.2.2 (by decide) (by decide) k_) ?_
  refine own_step (T' := T3) (g' := (mkF m 102 #[.val (.int p1), .val (.int p2), .val (.long p3), .second, .val (.int (1 : Int32)), .val (.ref b1), .unset] [(.int (1 : Int32))])) (fun t_ k_ => XS.iload X3.here hx rfl (hb hby at_100) rfl k_) ?_
  refine own_step (T' := T3) (g' := (mkF m 104 #[.val (.int p1), .val (.int p2), .val (.long p3), .second, .val (.int (1 : Int32)), .val (.ref b1), .unset] [(.int (6 : Int32)), (.int (1 : Int32))])) (fun t_ k_ => XS.bipush X3.here hx rfl (hb hby at_102) k_) ?_
  refine own_step (T' := T3) (g' := (mkF m 118 #[.val (.int p1), .val (.int p2), .val (.long p3), .second, .val (.int (1 : Int32)), .val (.ref b1), .unset] [])) (fun t_ k_ => XS.icmpYes X3.here hx rfl (pc0 := 104) (pc' := 118) rfl (hb hby at_104) rfl (flt (by decide)).2.2.2 (by decide) (by decide) k_) ?_
  refine own_step (T' := T3) (g' := (mkF m 120 #[.val (.int p1), .val (.int p2), .val (.long p3), .second, .val (.int (1 : Int32)), .val (.ref b1), .unset] [(.int (1 : Int32))])) (fun t_ k_ => XS.iload X3.here hx rfl (hb hby at_118) rfl k_) ?_
  refine own_step (T' := T3) (g' := (mkF m 122 #[.val (.int p1), .val (.int p2), .val (.long p3), .second, .val (.int (1 : Int32)), .val (.ref b1), .unset] [(.int (6 : Int32)), (.int (1 : Int32))])) (fun t_ k_ => XS.bipush X3.here hx rfl (hb hby at_120) k_) ?_
  refine own_step (T' := T3) (g' := (mkF m 139 #[.val (.int p1), .val (.int p2), .val (.long p3), .second, .val (.int (1 : Int32)), .val (.ref b1), .unset] [])) (fun t_ k_ => XS.icmpYes X3.here hx rfl (pc0 := 122) (pc' := 139) rfl (hb hby at_122) rfl (tlt (by decide)).1 (by decide) (by decide) k_) ?_
  refine own_step (T' := T3) (g' := (mkF m 140 #[.val (.int p1), .val (.int p2), .val (.long p3), .second, .val (.int (1 : Int32)), .val (.ref b1), .unset] [(.int (0 : Int32))])) (fun t_ k_ => XS.iconst X3.here hx rfl (hb hby at_139) k_) ?_
  refine own_step (T' := T3) (g' := (mkF m 142 #[.val (.int p1), .val (.int p2), .val (.long p3), .second, .val (.int (1 : Int32)), .val (.ref b1), .val (.int (0 : Int32))] [])) (fun t_ k_ => XS.istore X3.here hx rfl (hb hby at_140) rfl (l' := #[.val (.int p1), .val (.int p2), .val (.long p3), .second, .val (.int (1 : Int32)), .val (.ref b1), .val (.int (0 : Int32))]) rfl k_) ?_
  refine own_step (T' := T3) (g' := (mkF m 144 #[.val (.int p1), .val (.int p2), .val (.long p3), .second, .val (.int (1 : Int32)), .val (.ref b1), .val (.int (0 : Int32))] [(.ref b1)])) (fun t_ k_ => XS.aload X3.here hx rfl (hb hby at_142) rfl rfl k_) ?_
  obtain ⟨cl7, Ar7, qk7, Sz7, Nz7, Hs7, Gs7⟩ := V3
  obtain ⟨_, _, ⟨T6, L6, k6, n6⟩, -, X6, ⟨Lc6, hQ6, l6, y6, z6⟩, st6⟩ := Jvm.LawKit.callS X3 hx (y := (⟨"com/example/hushed_flood/hushedflood/tcp/Control", "isControl", "([B)Z"⟩ : MethodName)) hown (mvT hZ (hw _ (List.mem_of_getElem? (i := 1) rfl))) (mvT hZ (hw _ (List.mem_of_getElem? (i := 2) rfl))) (mvT hZ (hw _ (List.mem_of_getElem? (i := 3) rfl))) (mvT hZ (hw _ (List.mem_of_getElem? (i := 4) rfl))) (by decide) (backOf (W := 0) (rm1 l Z a0 hw [] b1 cl7 (1 : Int32) (0 : Int32) h3 n0 z5 Ar7 Sz7 Nz7 (fun h => absurd h (by decide))) hZ (hw _ (List.mem_of_getElem? (i := 4) rfl)) (hw _ (List.mem_of_getElem? (i := 3) rfl)) (by decide) (by decide)) (g := (mkF m 144 #[.val (.int p1), .val (.int p2), .val (.long p3), .second, .val (.int (1 : Int32)), .val (.ref b1), .val (.int (0 : Int32))] [(.ref b1)])) rfl (by rw [hml]; rfl) (argsL := [(.ref b1)]) (rest := []) (lenOf (by decide +kernel : parseMethodDescriptor "([B)Z" = some ⟨[(.array .byte)], some .boolean⟩) rfl) rfl (by show 2 * 0 + _ ≤ _; exact Nat.le_of_eq rfl) (hb hby at_144) (fun _ _ => ⟨rfl, e3, (by decide : 1 + 0 ≤ _), (by decide : 1 + 0 ≤ _)⟩)
  dsimp only [Pt.U, Pt.locs, Pt.cells, Pt.slots] at X6 l6 y6 z6 st6 hQ6
  subst l6 y6 z6
  obtain ⟨rfl, Nq6, e6⟩ := hQ6
  have N6 := Fr.app N3 Nq6
  refine own_step (T' := T6) (g' := (mkF m 147 #[.val (.int p1), .val (.int p2), .val (.long p3), .second, .val (.int (1 : Int32)), .val (.ref b1), .val (.int (0 : Int32))] [(.int (own_ctl (1 : Int32) (0 : Int32)))])) st6 ?_
  refine own_step (T' := T6) (g' := (mkF m 149 #[.val (.int p1), .val (.int p2), .val (.long p3), .second, .val (.int (1 : Int32)), .val (.ref b1), .val (.int (0 : Int32))] [(.int (0 : Int32)), (.int (own_ctl (1 : Int32) (0 : Int32)))])) (fun t_ k_ => XS.iload X6.here hx rfl (hb hby at_147) rfl k_) ?_
  refine own_step (T' := T6) (g' := (mkF m 152 #[.val (.int p1), .val (.int p2), .val (.long p3), .second, .val (.int (1 : Int32)), .val (.ref b1), .val (.int (0 : Int32))] [])) (fun t_ k_ => XS.icmpNo X6.here hx rfl (hb hby at_149) rfl (teq (by simp [own_ctl])).2 k_) ?_
  refine own_step (T' := T6) (g' := (mkF m 153 #[.val (.int p1), .val (.int p2), .val (.long p3), .second, .val (.int (1 : Int32)), .val (.ref b1), .val (.int (0 : Int32))] [(.int (1 : Int32))])) (fun t_ k_ => XS.iconst X6.here hx rfl (hb hby at_152) k_) ?_
  refine own_step (T' := T6) (g' := (mkF m 157 #[.val (.int p1), .val (.int p2), .val (.long p3), .second, .val (.int (1 : Int32)), .val (.ref b1), .val (.int (0 : Int32))] [(.int (1 : Int32))])) (fun t_ k_ => XS.goto X6.here hx rfl (pc0 := 153) (pc' := 157) rfl (hb hby at_153) (by decide) (by decide) k_) ?_
  obtain ⟨fs, hrR, hrun, hended, hWW, hsame⟩ := X6.leave (v := some (.int (1 : Int32))) (fun h => by rw [Bd.returns] at h; cases h)
  refine ⟨_, _, own_retZ X6 hx (t := .boolean) Bd.returns (by simp) (by decide) (hb hby at_157) hrR, hrun, hended, hPP _ _ ⟨_, _, rfl, ?_, ⟨_, rfl⟩, hWW, hsame.mono (by decide) (by decide)⟩⟩
  show Q0 n0 _ T6.heap _
  rw [e6]
  exact ⟨rfl, N6⟩
set_option maxRecDepth 65536 in
set_option maxHeartbeats 40000000 in
theorem rm0_2 (l : Launch) (Z : State) (a0 : Array Value) (hw : ∀ d ∈ tables_1, d.before a0 Z = true) (ws : List Jvm.Cond) (p1 p2 : Int32) (p3 : Int64) (h0 : Heap) (n0 : Nat) (Z0 : n0 ≤ h0.size) (hk : p1 &&& 7 = 2) :
    MetFree l x (head1 (Jvm.Cond.code x code maxLocals ret :: ws) room_1) (fun a U => a = #[(.int p1), (.int p2), (.long p3)] ∧ Z.Warmed39 U.vm ∧ U.heap = h0) (fun _ _ _ _ _ => True) (fun _ U o U' => ∃ v L, o = .returned v ∧ Q0 n0 v U'.heap L ∧ FrameEnd U o U' L 16 128) := by
  refine MetFree.of_bodySF (plainFor_of_name (by first | (simp [plainName, overriddenIn]; done) | decide +kernel)) hisR ?_
  intro p e s m args below meth c s₁ Bd hml0 hP hK
  obtain ⟨rfl, hZ, hh⟩ := hP
  have hx := Bd.exec
  have hby := Bd.bytes
  have hml : c.maxLocals = 7 := hml0
  have hown : s.vm.findClass "com/example/hushed_flood/hushedflood/tcp/ControlIsControlPinLaw" = some m.cls := findClass_of_methodNamed Bd.named
  have hnm := (name_of_methodNamed Bd.named Bd.method).1
  have X0 : Stand p l e room_1 s m #[(.int p1), (.int p2), (.long p3)] below meth c s₁ [] 0 0 := Stand.of_body Bd
  have e0 : s₁.heap = h0 := by rw [← hh, Bd.state]; rfl
  have N0 := Fr.nil n0
  have ef : entryFrame m #[(.int p1), (.int p2), (.long p3)] maxLocals = (mkF m 0 #[.val (.int p1), .val (.int p2), .val (.long p3), .second, .unset, .unset, .unset] []) := by first | (simp [entryFrame, mkF, argsToLocals, Value.category, maxLocals]; done) | rfl
  refine own_start (fun P hPP => ?_)
  refine own_step (T' := s₁) (g' := (mkF m 0 #[.val (.int p1), .val (.int p2), .val (.long p3), .second, .unset, .unset, .unset] [])) (fun t_ k_ => castTop ef k_) ?_
  refine own_step (T' := s₁) (g' := (mkF m 1 #[.val (.int p1), .val (.int p2), .val (.long p3), .second, .unset, .unset, .unset] [(.int p1)])) (fun t_ k_ => XS.iloadN X0.here hx rfl (hb hby at_0) rfl k_) ?_
  refine own_step (T' := s₁) (g' := (mkF m 3 #[.val (.int p1), .val (.int p2), .val (.long p3), .second, .unset, .unset, .unset] [(.int (7 : Int32)), (.int p1)])) (fun t_ k_ => XS.bipush X0.here hx rfl (hb hby at_1) k_) ?_
  refine own_step (T' := s₁) (g' := (mkF m 4 #[.val (.int p1), .val (.int p2), .val (.long p3), .second, .unset, .unset, .unset] [(.int (p1 &&& (7 : Int32)))])) (fun t_ k_ => XS.iand X0.here hx rfl (hb hby at_3) rfl k_) ?_
  rw [hk]
  refine own_step (T' := s₁) (g' := (mkF m 6 #[.val (.int p1), .val (.int p2), .val (.long p3), .second, .val (.int (2 : Int32)), .unset, .unset] [])) (fun t_ k_ => XS.istore X0.here hx rfl (hb hby at_4) rfl (l' := #[.val (.int p1), .val (.int p2), .val (.long p3), .second, .val (.int (2 : Int32)), .unset, .unset]) rfl k_) ?_
  refine own_step (T' := s₁) (g' := (mkF m 8 #[.val (.int p1), .val (.int p2), .val (.long p3), .second, .val (.int (2 : Int32)), .unset, .unset] [(.int (2 : Int32))])) (fun t_ k_ => XS.iload X0.here hx rfl (hb hby at_6) rfl k_) ?_
  obtain ⟨T1, h1, k1, X1, e1, E1, A1, st1⟩ := newP X0 hx hZ (hw _ (List.mem_of_getElem? (i := 0) rfl)) e0 (g := (mkF m 8 #[.val (.int p1), .val (.int p2), .val (.long p3), .second, .val (.int (2 : Int32)), .unset, .unset] [(.int (2 : Int32))])) rfl (hb hby at_8) rfl (by decide) (cap := 2) (by decide) (by decide) (by decide) (by decide)
  obtain ⟨b1, g1⟩ : ∃ z, z = h0.size := ⟨_, rfl⟩
  rw [← g1] at A1 st1
  have ge_b1 : n0 ≤ b1 := Nat.le_trans Z0 (Nat.le_of_eq g1.symm)
  have z2 : n0 ≤ h1.size := Nat.le_trans Z0 E1.1
  have V1 : Arv Z h1 b1 k1 .byte (2 : Int32) [(.int (0 : Int32)), (.int (0 : Int32))] (.int (0 : Int32)) := (Arv.new A1 (by decide)).pad (pad_rep [] (.int (0 : Int32)) 2)
  refine own_step (T' := T1) (g' := (mkF m 10 #[.val (.int p1), .val (.int p2), .val (.long p3), .second, .val (.int (2 : Int32)), .unset, .unset] [(.ref b1)])) st1 ?_
  refine own_step (T' := T1) (g' := (mkF m 12 #[.val (.int p1), .val (.int p2), .val (.long p3), .second, .val (.int (2 : Int32)), .val (.ref b1), .unset] [])) (fun t_ k_ => XS.astore X1.here hx rfl (hb hby at_10) rfl rfl (l' := #[.val (.int p1), .val (.int p2), .val (.long p3), .second, .val (.int (2 : Int32)), .val (.ref b1), .unset]) rfl k_) ?_
  refine own_step (T' := T1) (g' := (mkF m 14 #[.val (.int p1), .val (.int p2), .val (.long p3), .second, .val (.int (2 : Int32)), .val (.ref b1), .unset] [(.int (2 : Int32))])) (fun t_ k_ => XS.iload X1.here hx rfl (hb hby at_12) rfl k_) ?_
  refine own_step (T' := T1) (g' := (mkF m 17 #[.val (.int p1), .val (.int p2), .val (.long p3), .second, .val (.int (2 : Int32)), .val (.ref b1), .unset] [])) (fun t_ k_ => XS.ifNo X1.here hx rfl (hb hby at_14) rfl ((if0 _ _).trans (tlt (by decide)).2.2.2) k_) ?_
  refine own_step (T' := T1) (g' := (mkF m 19 #[.val (.int p1), .val (.int p2), .val (.long p3), .second, .val (.int (2 : Int32)), .val (.ref b1), .unset] [(.ref b1)])) (fun t_ k_ => XS.aload X1.here hx rfl (hb hby at_17) rfl rfl k_) ?_
  refine own_step (T' := T1) (g' := (mkF m 20 #[.val (.int p1), .val (.int p2), .val (.long p3), .second, .val (.int (2 : Int32)), .val (.ref b1), .unset] [(.int (0 : Int32)), (.ref b1)])) (fun t_ k_ => XS.iconst X1.here hx rfl (hb hby at_19) k_) ?_
  refine own_step (T' := T1) (g' := (mkF m 21 #[.val (.int p1), .val (.int p2), .val (.long p3), .second, .val (.int (2 : Int32)), .val (.ref b1), .unset] [(.long p3), (.int (0 : Int32)), (.ref b1)])) (fun t_ k_ => XS.lloadN X1.here hx rfl (hb hby at_20) rfl k_) ?_
  refine own_step (T' := T1) (g' := (mkF m 22 #[.val (.int p1), .val (.int p2), .val (.long p3), .second, .val (.int (2 : Int32)), .val (.ref b1), .unset] [(.int (p3.toInt32)), (.int (0 : Int32)), (.ref b1)])) (fun t_ k_ => XS.l2i X1.here hx rfl (hb hby at_21) rfl k_) ?_
  refine own_step (T' := T1) (g' := (mkF m 23 #[.val (.int p1), .val (.int p2), .val (.long p3), .second, .val (.int (2 : Int32)), .val (.ref b1), .unset] [(.int ((p3.toInt32).toInt8.toInt32)), (.int (0 : Int32)), (.ref b1)])) (fun t_ k_ => XS.i2b X1.here hx rfl (hb hby at_22) rfl k_) ?_
  obtain ⟨cl3, Ar3, qk3, Sz3, Nz3, Hs3, Gs3⟩ := V1
  have hin3 := inb_of (j := (0 : Int32)) Sz3 ⟨by decide, by decide⟩
  obtain ⟨T3, h3, X3, e3, W3, st3⟩ := stB X1 hx hZ e1 Ar3 (j := (0 : Int32)) hin3 (g := (mkF m 23 #[.val (.int p1), .val (.int p2), .val (.long p3), .second, .val (.int (2 : Int32)), .val (.ref b1), .unset] [(.int ((p3.toInt32).toInt8.toInt32)), (.int (0 : Int32)), (.ref b1)])) rfl rfl (hb hby at_23)
  have V3 : Arv Z h3 b1 k1 .byte (2 : Int32) [(.int (nar .byte ((p3.toInt32).toInt8.toInt32))), (.int (0 : Int32))] (.int (0 : Int32)) := Arv.set Ar3 qk3 Sz3 Nz3 Hs3 Gs3 (fits_nar_byte _) W3 0 rfl (Nat.le_of_ble_eq_true rfl)
  have N3 := Fr.snoc X3 N0 ge_b1
  have z5 : n0 ≤ h3.size := Nat.le_trans z2 (Keep.of_wr W3).1
  refine own_step (T' := T3) (g' := (mkF m 24 #[.val (.int p1), .val (.int p2), .val (.long p3), .second, .val (.int (2 : Int32)), .val (.ref b1), .unset] [])) st3 ?_
  refine own_step (T' := T3) (g' := (mkF m 26 #[.val (.int p1), .val (.int p2), .val (.long p3), .second, .val (.int (2 : Int32)), .val (.ref b1), .unset] [(.int (2 : Int32))])) (fun t_ k_ => XS.iload X3.here hx rfl (hb hby at_24) rfl k_) ?_
  refine own_step (T' := T3) (g' := (mkF m 27 #[.val (.int p1), .val (.int p2), .val (.long p3), .second, .val (.int (2 : Int32)), .val (.ref b1), .unset] [(.int (1 : Int32)), (.int (2 : Int32))])) (fun t_ k_ => XS.iconst X3.here hx rfl (hb hby at_26) k_) ?_
  refine own_step (T' := T3) (g' := (mkF m 30 #[.val (.int p1), .val (.int p2), .val (.long p3), .second, .val (.int (2 : Int32)), .val (.ref b1), .unset] [])) (fun t_ k_ => XS.icmpNo X3.here hx rfl (hb hby at_27) rfl (tlt (by decide)).2.2.2 k_) ?_
  refine own_step (T' := T3) (g' := (mkF m 32 #[.val (.int p1), .val (.int p2), .val (.long p3), .second, .val (.int (2 : Int32)), .val (.ref b1), .unset] [(.ref b1)])) (fun t_ k_ => XS.aload X3.here hx rfl (hb hby at_30) rfl rfl k_) ?_
  refine own_step (T' := T3) (g' := (mkF m 33 #[.val (.int p1), .val (.int p2), .val (.long p3), .second, .val (.int (2 : Int32)), .val (.ref b1), .unset] [(.int (1 : Int32)), (.ref b1)])) (fun t_ k_ => XS.iconst X3.here hx rfl (hb hby at_32) k_) ?_
  refine own_step (T' := T3) (g' := (mkF m 34 #[.val (.int p1), .val (.int p2), .val (.long p3), .second, .val (.int (2 : Int32)), .val (.ref b1), .unset] [(.long p3), (.int (1 : Int32)), (.ref b1)])) (fun t_ k_ => XS.lloadN X3.here hx rfl (hb hby at_33) rfl k_) ?_
  refine own_step (T' := T3) (g' := (mkF m 36 #[.val (.int p1), .val (.int p2), .val (.long p3), .second, .val (.int (2 : Int32)), .val (.ref b1), .unset] [(.int (8 : Int32)), (.long p3), (.int (1 : Int32)), (.ref b1)])) (fun t_ k_ => XS.bipush X3.here hx rfl (hb hby at_34) k_) ?_
  refine own_step (T' := T3) (g' := (mkF m 37 #[.val (.int p1), .val (.int p2), .val (.long p3), .second, .val (.int (2 : Int32)), .val (.ref b1), .unset] [(.long (Jvm.Free.XT.ushrL p3 (8 : Int32))), (.int (1 : Int32)), (.ref b1)])) (fun t_ k_ => XT.lushr X3.here hx rfl (hb hby at_36) rfl k_) ?_
  refine own_step (T' := T3) (g' := (mkF m 38 #[.val (.int p1), .val (.int p2), .val (.long p3), .second, .val (.int (2 : Int32)), .val (.ref b1), .unset] [(.int ((Jvm.Free.XT.ushrL p3 (8 : Int32)).toInt32)), (.int (1 : Int32)), (.ref b1)])) (fun t_ k_ => XS.l2i X3.here hx rfl (hb hby at_37) rfl k_) ?_
  refine own_step (T' := T3) (g' := (mkF m 39 #[.val (.int p1), .val (.int p2), .val (.long p3), .second, .val (.int (2 : Int32)), .val (.ref b1), .unset] [(.int (((Jvm.Free.XT.ushrL p3 (8 : Int32)).toInt32).toInt8.toInt32)), (.int (1 : Int32)), (.ref b1)])) (fun t_ k_ => XS.i2b X3.here hx rfl (hb hby at_38) rfl k_) ?_
  obtain ⟨cl6, Ar6, qk6, Sz6, Nz6, Hs6, Gs6⟩ := V3
  have hin6 := inb_of (j := (1 : Int32)) Sz6 ⟨by decide, by decide⟩
  obtain ⟨T6, h6, X6, e6, W6, st6⟩ := stB X3 hx hZ e3 Ar6 (j := (1 : Int32)) hin6 (g := (mkF m 39 #[.val (.int p1), .val (.int p2), .val (.long p3), .second, .val (.int (2 : Int32)), .val (.ref b1), .unset] [(.int (((Jvm.Free.XT.ushrL p3 (8 : Int32)).toInt32).toInt8.toInt32)), (.int (1 : Int32)), (.ref b1)])) rfl rfl (hb hby at_39)
  have V6 : Arv Z h6 b1 k1 .byte (2 : Int32) [(.int (nar .byte ((p3.toInt32).toInt8.toInt32))), (.int (nar .byte (((Jvm.Free.XT.ushrL p3 (8 : Int32)).toInt32).toInt8.toInt32)))] (.int (0 : Int32)) := Arv.set Ar6 qk6 Sz6 Nz6 Hs6 Gs6 (fits_nar_byte _) W6 1 rfl (Nat.le_of_ble_eq_true rfl)
  have N6 := Fr.snoc X6 N3 ge_b1
  have z8 : n0 ≤ h6.size := Nat.le_trans z5 (Keep.of_wr W6).1
  refine own_step (T' := T6) (g' := (mkF m 40 #[.val (.int p1), .val (.int p2), .val (.long p3), .second, .val (.int (2 : Int32)), .val (.ref b1), .unset] [])) st6 ?_
  refine own_step (T' := T6) (g' := (mkF m 42 #[.val (.int p1), .val (.int p2), .val (.long p3), .second, .val (.int (2 : Int32)), .val (.ref b1), .unset] [(.int (2 : Int32))])) (fun t_ k_ => XS.iload X6.here hx rfl (hb hby at_40) rfl k_) ?_
  refine own_step (T' := T6) (g' := (mkF m 43 #[.val (.int p1), .val (.int p2), .val (.long p3), .second, .val (.int (2 : Int32)), .val (.ref b1), .unset] [(.int (2 : Int32)), (.int (2 : Int32))])) (fun t_ k_ => XS.iconst X6.here hx rfl (hb hby at_42) k_) ?_
  refine own_step (T' := T6) (g' := (mkF m 56 #[.val (.int p1), .val (.int p2), .val (.long p3), .second, .val (.int (2 : Int32)), .val (.ref b1), .unset] [])) (fun t_ k_ => XS.icmpYes X6.here hx rfl (pc0 := 43) (pc' := 56) rfl (hb hby at_43) rfl (flt (by decide)).2.2.2 (by decide) (by decide) k_) ?_
  refine own_step (T' := T6) (g' := (mkF m 58 #[.val (.int p1), .val (.int p2), .val (.long p3), .second, .val (.int (2 : Int32)), .val (.ref b1), .unset] [(.int (2 : Int32))])) (fun t_ k_ => XS.iload X6.here hx rfl (hb hby at_56) rfl k_) ?_
  refine own_step (T' := T6) (g' := (mkF m 59 #[.val (.int p1), .val (.int p2), .val (.long p3), .second, .val (.int (2 : Int32)), .val (.ref b1), .unset] [(.int (3 : Int32)), (.int (2 : Int32))])) (fun t_ k_ => XS.iconst X6.here hx rfl (hb hby at_58) k_) ?_
  refine own_step (T' := T6) (g' := (mkF m 72 #[.val (.int p1), .val (.int p2), .val (.long p3), .second, .val (.int (2 : Int32)), .val (.ref b1), .unset] [])) (fun t_ k_ => XS.icmpYes X6.here hx rfl (pc0 := 59) (pc' := 72) rfl (hb hby at_59) rfl (flt (by decide)).2.2.2 (by decide) (by decide) k_) ?_
  refine own_step (T' := T6) (g' := (mkF m 74 #[.val (.int p1), .val (.int p2), .val (.long p3), .second, .val (.int (2 : Int32)), .val (.ref b1), .unset] [(.int (2 : Int32))])) (fun t_ k_ => XS.iload X6.here hx rfl (hb hby at_72) rfl k_) ?_
  refine own_step (T' := T6) (g' := (mkF m 75 #[.val (.int p1), .val (.int p2), .val (.long p3), .second, .val (.int (2 : Int32)), .val (.ref b1), .unset] [(.int (4 : Int32)), (.int (2 : Int32))])) (fun t_ k_ => XS.iconst X6.here hx rfl (hb hby at_74) k_) ?_
  refine own_step (T' := T6) (g' := (mkF m 88 #[.val (.int p1), .val (.int p2), .val (.long p3), .second, .val (.int (2 : Int32)), .val (.ref b1), .unset] [])) (fun t_ k_ => XS.icmpYes X6.here hx rfl (pc0 := 75) (pc' := 88) rfl (hb hby at_75) rfl (flt (by decide)).2.2.2 (by decide) (by decide) k_) ?_
  refine own_step (T' := T6) (g' := (mkF m 90 #[.val (.int p1), .val (.int p2), .val (.long p3), .second, .val (.int (2 : Int32)), .val (.ref b1), .unset] [(.int (2 : Int32))])) (fun t_ k_ => XS.iload X6.here hx rfl (hb hby at_88) rfl k_) ?_
  refine own_step (T' := T6) (g' := (mkF m 91 #[.val (.int p1), .val (.int p2), .val (.long p3), .second, .val (.int (2 : Int32)), .val (.ref b1), .unset] [(.int (5 : Int32)), (.int (2 : Int32))])) (fun t_ k_ => XS.iconst X6.here hx rfl (hb hby at_90) k_) ?_
  refine own_step (T' := T6) (g' := (mkF m 100 #[.val (.int p1), .val (.int p2), .val (.long p3), .second, .val (.int (2 : Int32)), .val (.ref b1), .unset] [])) (fun t_ k_ => XS.icmpYes X6.here hx rfl (pc0 := 91) (pc' := 100) rfl (hb hby at_91) rfl (flt (by decide)).2.2.2 (by decide) (by decide) k_) ?_
  refine own_step (T' := T6) (g' := (mkF m 102 #[.val (.int p1), .val (.int p2), .val (.long p3), .second, .val (.int (2 : Int32)), .val (.ref b1), .unset] [(.int (2 : Int32))])) (fun t_ k_ => XS.iload X6.here hx rfl (hb hby at_100) rfl k_) ?_
  refine own_step (T' := T6) (g' := (mkF m 104 #[.val (.int p1), .val (.int p2), .val (.long p3), .second, .val (.int (2 : Int32)), .val (.ref b1), .unset] [(.int (6 : Int32)), (.int (2 : Int32))])) (fun t_ k_ => XS.bipush X6.here hx rfl (hb hby at_102) k_) ?_
  refine own_step (T' := T6) (g' := (mkF m 118 #[.val (.int p1), .val (.int p2), .val (.long p3), .second, .val (.int (2 : Int32)), .val (.ref b1), .unset] [])) (fun t_ k_ => XS.icmpYes X6.here hx rfl (pc0 := 104) (pc' := 118) rfl (hb hby at_104) rfl (flt (by decide)).2.2.2 (by decide) (by decide) k_) ?_
  refine own_step (T' := T6) (g' := (mkF m 120 #[.val (.int p1), .val (.int p2), .val (.long p3), .second, .val (.int (2 : Int32)), .val (.ref b1), .unset] [(.int (2 : Int32))])) (fun t_ k_ => XS.iload X6.here hx rfl (hb hby at_118) rfl k_) ?_
  refine own_step (T' := T6) (g' := (mkF m 122 #[.val (.int p1), .val (.int p2), .val (.long p3), .second, .val (.int (2 : Int32)), .val (.ref b1), .unset] [(.int (6 : Int32)), (.int (2 : Int32))])) (fun t_ k_ => XS.bipush X6.here hx rfl (hb hby at_120) k_) ?_
  refine own_step (T' := T6) (g' := (mkF m 139 #[.val (.int p1), .val (.int p2), .val (.long p3), .second, .val (.int (2 : Int32)), .val (.ref b1), .unset] [])) (fun t_ k_ => XS.icmpYes X6.here hx rfl (pc0 := 122) (pc' := 139) rfl (hb hby at_122) rfl (tlt (by decide)).1 (by decide) (by decide) k_) ?_
  refine own_step (T' := T6) (g' := (mkF m 140 #[.val (.int p1), .val (.int p2), .val (.long p3), .second, .val (.int (2 : Int32)), .val (.ref b1), .unset] [(.int (0 : Int32))])) (fun t_ k_ => XS.iconst X6.here hx rfl (hb hby at_139) k_) ?_
  refine own_step (T' := T6) (g' := (mkF m 142 #[.val (.int p1), .val (.int p2), .val (.long p3), .second, .val (.int (2 : Int32)), .val (.ref b1), .val (.int (0 : Int32))] [])) (fun t_ k_ => XS.istore X6.here hx rfl (hb hby at_140) rfl (l' := #[.val (.int p1), .val (.int p2), .val (.long p3), .second, .val (.int (2 : Int32)), .val (.ref b1), .val (.int (0 : Int32))]) rfl k_) ?_
  refine own_step (T' := T6) (g' := (mkF m 144 #[.val (.int p1), .val (.int p2), .val (.long p3), .second, .val (.int (2 : Int32)), .val (.ref b1), .val (.int (0 : Int32))] [(.ref b1)])) (fun t_ k_ => XS.aload X6.here hx rfl (hb hby at_142) rfl rfl k_) ?_
  obtain ⟨cl10, Ar10, qk10, Sz10, Nz10, Hs10, Gs10⟩ := V6
  obtain ⟨_, _, ⟨T9, L9, k9, n9⟩, -, X9, ⟨Lc9, hQ9, l9, y9, z9⟩, st9⟩ := Jvm.LawKit.callS X6 hx (y := (⟨"com/example/hushed_flood/hushedflood/tcp/Control", "isControl", "([B)Z"⟩ : MethodName)) hown (mvT hZ (hw _ (List.mem_of_getElem? (i := 1) rfl))) (mvT hZ (hw _ (List.mem_of_getElem? (i := 2) rfl))) (mvT hZ (hw _ (List.mem_of_getElem? (i := 3) rfl))) (mvT hZ (hw _ (List.mem_of_getElem? (i := 4) rfl))) (by decide) (backOf (W := 0) (rm1 l Z a0 hw [] b1 cl10 (2 : Int32) (0 : Int32) h6 n0 z8 Ar10 Sz10 Nz10 (fun h => absurd h (by decide))) hZ (hw _ (List.mem_of_getElem? (i := 4) rfl)) (hw _ (List.mem_of_getElem? (i := 3) rfl)) (by decide) (by decide)) (g := (mkF m 144 #[.val (.int p1), .val (.int p2), .val (.long p3), .second, .val (.int (2 : Int32)), .val (.ref b1), .val (.int (0 : Int32))] [(.ref b1)])) rfl (by rw [hml]; rfl) (argsL := [(.ref b1)]) (rest := []) (lenOf (by decide +kernel : parseMethodDescriptor "([B)Z" = some ⟨[(.array .byte)], some .boolean⟩) rfl) rfl (by show 2 * 0 + _ ≤ _; exact Nat.le_of_eq rfl) (hb hby at_144) (fun _ _ => ⟨rfl, e6, (by decide : 1 + 0 ≤ _), (by decide : 2 + 0 ≤ _)⟩)
  dsimp only [Pt.U, Pt.locs, Pt.cells, Pt.slots] at X9 l9 y9 z9 st9 hQ9
  subst l9 y9 z9
  obtain ⟨rfl, Nq9, e9⟩ := hQ9
  have N9 := Fr.app N6 Nq9
  refine own_step (T' := T9) (g' := (mkF m 147 #[.val (.int p1), .val (.int p2), .val (.long p3), .second, .val (.int (2 : Int32)), .val (.ref b1), .val (.int (0 : Int32))] [(.int (own_ctl (2 : Int32) (0 : Int32)))])) st9 ?_
  refine own_step (T' := T9) (g' := (mkF m 149 #[.val (.int p1), .val (.int p2), .val (.long p3), .second, .val (.int (2 : Int32)), .val (.ref b1), .val (.int (0 : Int32))] [(.int (0 : Int32)), (.int (own_ctl (2 : Int32) (0 : Int32)))])) (fun t_ k_ => XS.iload X9.here hx rfl (hb hby at_147) rfl k_) ?_
  refine own_step (T' := T9) (g' := (mkF m 152 #[.val (.int p1), .val (.int p2), .val (.long p3), .second, .val (.int (2 : Int32)), .val (.ref b1), .val (.int (0 : Int32))] [])) (fun t_ k_ => XS.icmpNo X9.here hx rfl (hb hby at_149) rfl (teq (by simp [own_ctl])).2 k_) ?_
  refine own_step (T' := T9) (g' := (mkF m 153 #[.val (.int p1), .val (.int p2), .val (.long p3), .second, .val (.int (2 : Int32)), .val (.ref b1), .val (.int (0 : Int32))] [(.int (1 : Int32))])) (fun t_ k_ => XS.iconst X9.here hx rfl (hb hby at_152) k_) ?_
  refine own_step (T' := T9) (g' := (mkF m 157 #[.val (.int p1), .val (.int p2), .val (.long p3), .second, .val (.int (2 : Int32)), .val (.ref b1), .val (.int (0 : Int32))] [(.int (1 : Int32))])) (fun t_ k_ => XS.goto X9.here hx rfl (pc0 := 153) (pc' := 157) rfl (hb hby at_153) (by decide) (by decide) k_) ?_
  obtain ⟨fs, hrR, hrun, hended, hWW, hsame⟩ := X9.leave (v := some (.int (1 : Int32))) (fun h => by rw [Bd.returns] at h; cases h)
  refine ⟨_, _, own_retZ X9 hx (t := .boolean) Bd.returns (by simp) (by decide) (hb hby at_157) hrR, hrun, hended, hPP _ _ ⟨_, _, rfl, ?_, ⟨_, rfl⟩, hWW, hsame.mono (by decide) (by decide)⟩⟩
  show Q0 n0 _ T9.heap _
  rw [e9]
  exact ⟨rfl, N9⟩
set_option maxRecDepth 65536 in
set_option maxHeartbeats 40000000 in
theorem rm0_3 (l : Launch) (Z : State) (a0 : Array Value) (hw : ∀ d ∈ tables_1, d.before a0 Z = true) (ws : List Jvm.Cond) (p1 p2 : Int32) (p3 : Int64) (h0 : Heap) (n0 : Nat) (Z0 : n0 ≤ h0.size) (hk : p1 &&& 7 = 3) :
    MetFree l x (head1 (Jvm.Cond.code x code maxLocals ret :: ws) room_1) (fun a U => a = #[(.int p1), (.int p2), (.long p3)] ∧ Z.Warmed39 U.vm ∧ U.heap = h0) (fun _ _ _ _ _ => True) (fun _ U o U' => ∃ v L, o = .returned v ∧ Q0 n0 v U'.heap L ∧ FrameEnd U o U' L 16 128) := by
  refine MetFree.of_bodySF (plainFor_of_name (by first | (simp [plainName, overriddenIn]; done) | decide +kernel)) hisR ?_
  intro p e s m args below meth c s₁ Bd hml0 hP hK
  obtain ⟨rfl, hZ, hh⟩ := hP
  have hx := Bd.exec
  have hby := Bd.bytes
  have hml : c.maxLocals = 7 := hml0
  have hown : s.vm.findClass "com/example/hushed_flood/hushedflood/tcp/ControlIsControlPinLaw" = some m.cls := findClass_of_methodNamed Bd.named
  have hnm := (name_of_methodNamed Bd.named Bd.method).1
  have X0 : Stand p l e room_1 s m #[(.int p1), (.int p2), (.long p3)] below meth c s₁ [] 0 0 := Stand.of_body Bd
  have e0 : s₁.heap = h0 := by rw [← hh, Bd.state]; rfl
  have N0 := Fr.nil n0
  have ef : entryFrame m #[(.int p1), (.int p2), (.long p3)] maxLocals = (mkF m 0 #[.val (.int p1), .val (.int p2), .val (.long p3), .second, .unset, .unset, .unset] []) := by first | (simp [entryFrame, mkF, argsToLocals, Value.category, maxLocals]; done) | rfl
  refine own_start (fun P hPP => ?_)
  refine own_step (T' := s₁) (g' := (mkF m 0 #[.val (.int p1), .val (.int p2), .val (.long p3), .second, .unset, .unset, .unset] [])) (fun t_ k_ => castTop ef k_) ?_
  refine own_step (T' := s₁) (g' := (mkF m 1 #[.val (.int p1), .val (.int p2), .val (.long p3), .second, .unset, .unset, .unset] [(.int p1)])) (fun t_ k_ => XS.iloadN X0.here hx rfl (hb hby at_0) rfl k_) ?_
  refine own_step (T' := s₁) (g' := (mkF m 3 #[.val (.int p1), .val (.int p2), .val (.long p3), .second, .unset, .unset, .unset] [(.int (7 : Int32)), (.int p1)])) (fun t_ k_ => XS.bipush X0.here hx rfl (hb hby at_1) k_) ?_
  refine own_step (T' := s₁) (g' := (mkF m 4 #[.val (.int p1), .val (.int p2), .val (.long p3), .second, .unset, .unset, .unset] [(.int (p1 &&& (7 : Int32)))])) (fun t_ k_ => XS.iand X0.here hx rfl (hb hby at_3) rfl k_) ?_
  rw [hk]
  refine own_step (T' := s₁) (g' := (mkF m 6 #[.val (.int p1), .val (.int p2), .val (.long p3), .second, .val (.int (3 : Int32)), .unset, .unset] [])) (fun t_ k_ => XS.istore X0.here hx rfl (hb hby at_4) rfl (l' := #[.val (.int p1), .val (.int p2), .val (.long p3), .second, .val (.int (3 : Int32)), .unset, .unset]) rfl k_) ?_
  refine own_step (T' := s₁) (g' := (mkF m 8 #[.val (.int p1), .val (.int p2), .val (.long p3), .second, .val (.int (3 : Int32)), .unset, .unset] [(.int (3 : Int32))])) (fun t_ k_ => XS.iload X0.here hx rfl (hb hby at_6) rfl k_) ?_
  obtain ⟨T1, h1, k1, X1, e1, E1, A1, st1⟩ := newP X0 hx hZ (hw _ (List.mem_of_getElem? (i := 0) rfl)) e0 (g := (mkF m 8 #[.val (.int p1), .val (.int p2), .val (.long p3), .second, .val (.int (3 : Int32)), .unset, .unset] [(.int (3 : Int32))])) rfl (hb hby at_8) rfl (by decide) (cap := 3) (by decide) (by decide) (by decide) (by decide)
  obtain ⟨b1, g1⟩ : ∃ z, z = h0.size := ⟨_, rfl⟩
  rw [← g1] at A1 st1
  have ge_b1 : n0 ≤ b1 := Nat.le_trans Z0 (Nat.le_of_eq g1.symm)
  have z2 : n0 ≤ h1.size := Nat.le_trans Z0 E1.1
  have V1 : Arv Z h1 b1 k1 .byte (3 : Int32) [(.int (0 : Int32)), (.int (0 : Int32)), (.int (0 : Int32))] (.int (0 : Int32)) := (Arv.new A1 (by decide)).pad (pad_rep [] (.int (0 : Int32)) 3)
  refine own_step (T' := T1) (g' := (mkF m 10 #[.val (.int p1), .val (.int p2), .val (.long p3), .second, .val (.int (3 : Int32)), .unset, .unset] [(.ref b1)])) st1 ?_
  refine own_step (T' := T1) (g' := (mkF m 12 #[.val (.int p1), .val (.int p2), .val (.long p3), .second, .val (.int (3 : Int32)), .val (.ref b1), .unset] [])) (fun t_ k_ => XS.astore X1.here hx rfl (hb hby at_10) rfl rfl (l' := #[.val (.int p1), .val (.int p2), .val (.long p3), .second, .val (.int (3 : Int32)), .val (.ref b1), .unset]) rfl k_) ?_
  refine own_step (T' := T1) (g' := (mkF m 14 #[.val (.int p1), .val (.int p2), .val (.long p3), .second, .val (.int (3 : Int32)), .val (.ref b1), .unset] [(.int (3 : Int32))])) (fun t_ k_ => XS.iload X1.here hx rfl (hb hby at_12) rfl k_) ?_
  refine own_step (T' := T1) (g' := (mkF m 17 #[.val (.int p1), .val (.int p2), .val (.long p3), .second, .val (.int (3 : Int32)), .val (.ref b1), .unset] [])) (fun t_ k_ => XS.ifNo X1.here hx rfl (hb hby at_14) rfl ((if0 _ _).trans (tlt (by decide)).2.2.2) k_) ?_
  refine own_step (T' := T1) (g' := (mkF m 19 #[.val (.int p1), .val (.int p2), .val (.long p3), .second, .val (.int (3 : Int32)), .val (.ref b1), .unset] [(.ref b1)])) (fun t_ k_ => XS.aload X1.here hx rfl (hb hby at_17) rfl rfl k_) ?_
  refine own_step (T' := T1) (g' := (mkF m 20 #[.val (.int p1), .val (.int p2), .val (.long p3), .second, .val (.int (3 : Int32)), .val (.ref b1), .unset] [(.int (0 : Int32)), (.ref b1)])) (fun t_ k_ => XS.iconst X1.here hx rfl (hb hby at_19) k_) ?_
  refine own_step (T' := T1) (g' := (mkF m 21 #[.val (.int p1), .val (.int p2), .val (.long p3), .second, .val (.int (3 : Int32)), .val (.ref b1), .unset] [(.long p3), (.int (0 : Int32)), (.ref b1)])) (fun t_ k_ => XS.lloadN X1.here hx rfl (hb hby at_20) rfl k_) ?_
  refine own_step (T' := T1) (g' := (mkF m 22 #[.val (.int p1), .val (.int p2), .val (.long p3), .second, .val (.int (3 : Int32)), .val (.ref b1), .unset] [(.int (p3.toInt32)), (.int (0 : Int32)), (.ref b1)])) (fun t_ k_ => XS.l2i X1.here hx rfl (hb hby at_21) rfl k_) ?_
  refine own_step (T' := T1) (g' := (mkF m 23 #[.val (.int p1), .val (.int p2), .val (.long p3), .second, .val (.int (3 : Int32)), .val (.ref b1), .unset] [(.int ((p3.toInt32).toInt8.toInt32)), (.int (0 : Int32)), (.ref b1)])) (fun t_ k_ => XS.i2b X1.here hx rfl (hb hby at_22) rfl k_) ?_
  obtain ⟨cl3, Ar3, qk3, Sz3, Nz3, Hs3, Gs3⟩ := V1
  have hin3 := inb_of (j := (0 : Int32)) Sz3 ⟨by decide, by decide⟩
  obtain ⟨T3, h3, X3, e3, W3, st3⟩ := stB X1 hx hZ e1 Ar3 (j := (0 : Int32)) hin3 (g := (mkF m 23 #[.val (.int p1), .val (.int p2), .val (.long p3), .second, .val (.int (3 : Int32)), .val (.ref b1), .unset] [(.int ((p3.toInt32).toInt8.toInt32)), (.int (0 : Int32)), (.ref b1)])) rfl rfl (hb hby at_23)
  have V3 : Arv Z h3 b1 k1 .byte (3 : Int32) [(.int (nar .byte ((p3.toInt32).toInt8.toInt32))), (.int (0 : Int32)), (.int (0 : Int32))] (.int (0 : Int32)) := Arv.set Ar3 qk3 Sz3 Nz3 Hs3 Gs3 (fits_nar_byte _) W3 0 rfl (Nat.le_of_ble_eq_true rfl)
  have N3 := Fr.snoc X3 N0 ge_b1
  have z5 : n0 ≤ h3.size := Nat.le_trans z2 (Keep.of_wr W3).1
  refine own_step (T' := T3) (g' := (mkF m 24 #[.val (.int p1), .val (.int p2), .val (.long p3), .second, .val (.int (3 : Int32)), .val (.ref b1), .unset] [])) st3 ?_
  refine own_step (T' := T3) (g' := (mkF m 26 #[.val (.int p1), .val (.int p2), .val (.long p3), .second, .val (.int (3 : Int32)), .val (.ref b1), .unset] [(.int (3 : Int32))])) (fun t_ k_ => XS.iload X3.here hx rfl (hb hby at_24) rfl k_) ?_
  refine own_step (T' := T3) (g' := (mkF m 27 #[.val (.int p1), .val (.int p2), .val (.long p3), .second, .val (.int (3 : Int32)), .val (.ref b1), .unset] [(.int (1 : Int32)), (.int (3 : Int32))])) (fun t_ k_ => XS.iconst X3.here hx rfl (hb hby at_26) k_) ?_
  refine own_step (T' := T3) (g' := (mkF m 30 #[.val (.int p1), .val (.int p2), .val (.long p3), .second, .val (.int (3 : Int32)), .val (.ref b1), .unset] [])) (fun t_ k_ => XS.icmpNo X3.here hx rfl (hb hby at_27) rfl (tlt (by decide)).2.2.2 k_) ?_
  refine own_step (T' := T3) (g' := (mkF m 32 #[.val (.int p1), .val (.int p2), .val (.long p3), .second, .val (.int (3 : Int32)), .val (.ref b1), .unset] [(.ref b1)])) (fun t_ k_ => XS.aload X3.here hx rfl (hb hby at_30) rfl rfl k_) ?_
  refine own_step (T' := T3) (g' := (mkF m 33 #[.val (.int p1), .val (.int p2), .val (.long p3), .second, .val (.int (3 : Int32)), .val (.ref b1), .unset] [(.int (1 : Int32)), (.ref b1)])) (fun t_ k_ => XS.iconst X3.here hx rfl (hb hby at_32) k_) ?_
  refine own_step (T' := T3) (g' := (mkF m 34 #[.val (.int p1), .val (.int p2), .val (.long p3), .second, .val (.int (3 : Int32)), .val (.ref b1), .unset] [(.long p3), (.int (1 : Int32)), (.ref b1)])) (fun t_ k_ => XS.lloadN X3.here hx rfl (hb hby at_33) rfl k_) ?_
  refine own_step (T' := T3) (g' := (mkF m 36 #[.val (.int p1), .val (.int p2), .val (.long p3), .second, .val (.int (3 : Int32)), .val (.ref b1), .unset] [(.int (8 : Int32)), (.long p3), (.int (1 : Int32)), (.ref b1)])) (fun t_ k_ => XS.bipush X3.here hx rfl (hb hby at_34) k_) ?_
  refine own_step (T' := T3) (g' := (mkF m 37 #[.val (.int p1), .val (.int p2), .val (.long p3), .second, .val (.int (3 : Int32)), .val (.ref b1), .unset] [(.long (Jvm.Free.XT.ushrL p3 (8 : Int32))), (.int (1 : Int32)), (.ref b1)])) (fun t_ k_ => XT.lushr X3.here hx rfl (hb hby at_36) rfl k_) ?_
  refine own_step (T' := T3) (g' := (mkF m 38 #[.val (.int p1), .val (.int p2), .val (.long p3), .second, .val (.int (3 : Int32)), .val (.ref b1), .unset] [(.int ((Jvm.Free.XT.ushrL p3 (8 : Int32)).toInt32)), (.int (1 : Int32)), (.ref b1)])) (fun t_ k_ => XS.l2i X3.here hx rfl (hb hby at_37) rfl k_) ?_
  refine own_step (T' := T3) (g' := (mkF m 39 #[.val (.int p1), .val (.int p2), .val (.long p3), .second, .val (.int (3 : Int32)), .val (.ref b1), .unset] [(.int (((Jvm.Free.XT.ushrL p3 (8 : Int32)).toInt32).toInt8.toInt32)), (.int (1 : Int32)), (.ref b1)])) (fun t_ k_ => XS.i2b X3.here hx rfl (hb hby at_38) rfl k_) ?_
  obtain ⟨cl6, Ar6, qk6, Sz6, Nz6, Hs6, Gs6⟩ := V3
  have hin6 := inb_of (j := (1 : Int32)) Sz6 ⟨by decide, by decide⟩
  obtain ⟨T6, h6, X6, e6, W6, st6⟩ := stB X3 hx hZ e3 Ar6 (j := (1 : Int32)) hin6 (g := (mkF m 39 #[.val (.int p1), .val (.int p2), .val (.long p3), .second, .val (.int (3 : Int32)), .val (.ref b1), .unset] [(.int (((Jvm.Free.XT.ushrL p3 (8 : Int32)).toInt32).toInt8.toInt32)), (.int (1 : Int32)), (.ref b1)])) rfl rfl (hb hby at_39)
  have V6 : Arv Z h6 b1 k1 .byte (3 : Int32) [(.int (nar .byte ((p3.toInt32).toInt8.toInt32))), (.int (nar .byte (((Jvm.Free.XT.ushrL p3 (8 : Int32)).toInt32).toInt8.toInt32))), (.int (0 : Int32))] (.int (0 : Int32)) := Arv.set Ar6 qk6 Sz6 Nz6 Hs6 Gs6 (fits_nar_byte _) W6 1 rfl (Nat.le_of_ble_eq_true rfl)
  have N6 := Fr.snoc X6 N3 ge_b1
  have z8 : n0 ≤ h6.size := Nat.le_trans z5 (Keep.of_wr W6).1
  refine own_step (T' := T6) (g' := (mkF m 40 #[.val (.int p1), .val (.int p2), .val (.long p3), .second, .val (.int (3 : Int32)), .val (.ref b1), .unset] [])) st6 ?_
  refine own_step (T' := T6) (g' := (mkF m 42 #[.val (.int p1), .val (.int p2), .val (.long p3), .second, .val (.int (3 : Int32)), .val (.ref b1), .unset] [(.int (3 : Int32))])) (fun t_ k_ => XS.iload X6.here hx rfl (hb hby at_40) rfl k_) ?_
  refine own_step (T' := T6) (g' := (mkF m 43 #[.val (.int p1), .val (.int p2), .val (.long p3), .second, .val (.int (3 : Int32)), .val (.ref b1), .unset] [(.int (2 : Int32)), (.int (3 : Int32))])) (fun t_ k_ => XS.iconst X6.here hx rfl (hb hby at_42) k_) ?_
  refine own_step (T' := T6) (g' := (mkF m 46 #[.val (.int p1), .val (.int p2), .val (.long p3), .second, .val (.int (3 : Int32)), .val (.ref b1), .unset] [])) (fun t_ k_ => XS.icmpNo X6.here hx rfl (hb hby at_43) rfl (tlt (by decide)).2.2.2 k_) ?_
  refine own_step (T' := T6) (g' := (mkF m 48 #[.val (.int p1), .val (.int p2), .val (.long p3), .second, .val (.int (3 : Int32)), .val (.ref b1), .unset] [(.ref b1)])) (fun t_ k_ => XS.aload X6.here hx rfl (hb hby at_46) rfl rfl k_) ?_
  refine own_step (T' := T6) (g' := (mkF m 49 #[.val (.int p1), .val (.int p2), .val (.long p3), .second, .val (.int (3 : Int32)), .val (.ref b1), .unset] [(.int (2 : Int32)), (.ref b1)])) (fun t_ k_ => XS.iconst X6.here hx rfl (hb hby at_48) k_) ?_
  refine own_step (T' := T6) (g' := (mkF m 50 #[.val (.int p1), .val (.int p2), .val (.long p3), .second, .val (.int (3 : Int32)), .val (.ref b1), .unset] [(.long p3), (.int (2 : Int32)), (.ref b1)])) (fun t_ k_ => XS.lloadN X6.here hx rfl (hb hby at_49) rfl k_) ?_
  refine own_step (T' := T6) (g' := (mkF m 52 #[.val (.int p1), .val (.int p2), .val (.long p3), .second, .val (.int (3 : Int32)), .val (.ref b1), .unset] [(.int (16 : Int32)), (.long p3), (.int (2 : Int32)), (.ref b1)])) (fun t_ k_ => XS.bipush X6.here hx rfl (hb hby at_50) k_) ?_
  refine own_step (T' := T6) (g' := (mkF m 53 #[.val (.int p1), .val (.int p2), .val (.long p3), .second, .val (.int (3 : Int32)), .val (.ref b1), .unset] [(.long (Jvm.Free.XT.ushrL p3 (16 : Int32))), (.int (2 : Int32)), (.ref b1)])) (fun t_ k_ => XT.lushr X6.here hx rfl (hb hby at_52) rfl k_) ?_
  refine own_step (T' := T6) (g' := (mkF m 54 #[.val (.int p1), .val (.int p2), .val (.long p3), .second, .val (.int (3 : Int32)), .val (.ref b1), .unset] [(.int ((Jvm.Free.XT.ushrL p3 (16 : Int32)).toInt32)), (.int (2 : Int32)), (.ref b1)])) (fun t_ k_ => XS.l2i X6.here hx rfl (hb hby at_53) rfl k_) ?_
  refine own_step (T' := T6) (g' := (mkF m 55 #[.val (.int p1), .val (.int p2), .val (.long p3), .second, .val (.int (3 : Int32)), .val (.ref b1), .unset] [(.int (((Jvm.Free.XT.ushrL p3 (16 : Int32)).toInt32).toInt8.toInt32)), (.int (2 : Int32)), (.ref b1)])) (fun t_ k_ => XS.i2b X6.here hx rfl (hb hby at_54) rfl k_) ?_
  obtain ⟨cl9, Ar9, qk9, Sz9, Nz9, Hs9, Gs9⟩ := V6
  have hin9 := inb_of (j := (2 : Int32)) Sz9 ⟨by decide, by decide⟩
  obtain ⟨T9, h9, X9, e9, W9, st9⟩ := stB X6 hx hZ e6 Ar9 (j := (2 : Int32)) hin9 (g := (mkF m 55 #[.val (.int p1), .val (.int p2), .val (.long p3), .second, .val (.int (3 : Int32)), .val (.ref b1), .unset] [(.int (((Jvm.Free.XT.ushrL p3 (16 : Int32)).toInt32).toInt8.toInt32)), (.int (2 : Int32)), (.ref b1)])) rfl rfl (hb hby at_55)
  have V9 : Arv Z h9 b1 k1 .byte (3 : Int32) [(.int (nar .byte ((p3.toInt32).toInt8.toInt32))), (.int (nar .byte (((Jvm.Free.XT.ushrL p3 (8 : Int32)).toInt32).toInt8.toInt32))), (.int (nar .byte (((Jvm.Free.XT.ushrL p3 (16 : Int32)).toInt32).toInt8.toInt32)))] (.int (0 : Int32)) := Arv.set Ar9 qk9 Sz9 Nz9 Hs9 Gs9 (fits_nar_byte _) W9 2 rfl (Nat.le_of_ble_eq_true rfl)
  have N9 := Fr.snoc X9 N6 ge_b1
  have z11 : n0 ≤ h9.size := Nat.le_trans z8 (Keep.of_wr W9).1
  refine own_step (T' := T9) (g' := (mkF m 56 #[.val (.int p1), .val (.int p2), .val (.long p3), .second, .val (.int (3 : Int32)), .val (.ref b1), .unset] [])) st9 ?_
  refine own_step (T' := T9) (g' := (mkF m 58 #[.val (.int p1), .val (.int p2), .val (.long p3), .second, .val (.int (3 : Int32)), .val (.ref b1), .unset] [(.int (3 : Int32))])) (fun t_ k_ => XS.iload X9.here hx rfl (hb hby at_56) rfl k_) ?_
  refine own_step (T' := T9) (g' := (mkF m 59 #[.val (.int p1), .val (.int p2), .val (.long p3), .second, .val (.int (3 : Int32)), .val (.ref b1), .unset] [(.int (3 : Int32)), (.int (3 : Int32))])) (fun t_ k_ => XS.iconst X9.here hx rfl (hb hby at_58) k_) ?_
  refine own_step (T' := T9) (g' := (mkF m 72 #[.val (.int p1), .val (.int p2), .val (.long p3), .second, .val (.int (3 : Int32)), .val (.ref b1), .unset] [])) (fun t_ k_ => XS.icmpYes X9.here hx rfl (pc0 := 59) (pc' := 72) rfl (hb hby at_59) rfl (flt (by decide)).2.2.2 (by decide) (by decide) k_) ?_
  refine own_step (T' := T9) (g' := (mkF m 74 #[.val (.int p1), .val (.int p2), .val (.long p3), .second, .val (.int (3 : Int32)), .val (.ref b1), .unset] [(.int (3 : Int32))])) (fun t_ k_ => XS.iload X9.here hx rfl (hb hby at_72) rfl k_) ?_
  refine own_step (T' := T9) (g' := (mkF m 75 #[.val (.int p1), .val (.int p2), .val (.long p3), .second, .val (.int (3 : Int32)), .val (.ref b1), .unset] [(.int (4 : Int32)), (.int (3 : Int32))])) (fun t_ k_ => XS.iconst X9.here hx rfl (hb hby at_74) k_) ?_
  refine own_step (T' := T9) (g' := (mkF m 88 #[.val (.int p1), .val (.int p2), .val (.long p3), .second, .val (.int (3 : Int32)), .val (.ref b1), .unset] [])) (fun t_ k_ => XS.icmpYes X9.here hx rfl (pc0 := 75) (pc' := 88) rfl (hb hby at_75) rfl (flt (by decide)).2.2.2 (by decide) (by decide) k_) ?_
  refine own_step (T' := T9) (g' := (mkF m 90 #[.val (.int p1), .val (.int p2), .val (.long p3), .second, .val (.int (3 : Int32)), .val (.ref b1), .unset] [(.int (3 : Int32))])) (fun t_ k_ => XS.iload X9.here hx rfl (hb hby at_88) rfl k_) ?_
  refine own_step (T' := T9) (g' := (mkF m 91 #[.val (.int p1), .val (.int p2), .val (.long p3), .second, .val (.int (3 : Int32)), .val (.ref b1), .unset] [(.int (5 : Int32)), (.int (3 : Int32))])) (fun t_ k_ => XS.iconst X9.here hx rfl (hb hby at_90) k_) ?_
  refine own_step (T' := T9) (g' := (mkF m 100 #[.val (.int p1), .val (.int p2), .val (.long p3), .second, .val (.int (3 : Int32)), .val (.ref b1), .unset] [])) (fun t_ k_ => XS.icmpYes X9.here hx rfl (pc0 := 91) (pc' := 100) rfl (hb hby at_91) rfl (flt (by decide)).2.2.2 (by decide) (by decide) k_) ?_
  refine own_step (T' := T9) (g' := (mkF m 102 #[.val (.int p1), .val (.int p2), .val (.long p3), .second, .val (.int (3 : Int32)), .val (.ref b1), .unset] [(.int (3 : Int32))])) (fun t_ k_ => XS.iload X9.here hx rfl (hb hby at_100) rfl k_) ?_
  refine own_step (T' := T9) (g' := (mkF m 104 #[.val (.int p1), .val (.int p2), .val (.long p3), .second, .val (.int (3 : Int32)), .val (.ref b1), .unset] [(.int (6 : Int32)), (.int (3 : Int32))])) (fun t_ k_ => XS.bipush X9.here hx rfl (hb hby at_102) k_) ?_
  refine own_step (T' := T9) (g' := (mkF m 118 #[.val (.int p1), .val (.int p2), .val (.long p3), .second, .val (.int (3 : Int32)), .val (.ref b1), .unset] [])) (fun t_ k_ => XS.icmpYes X9.here hx rfl (pc0 := 104) (pc' := 118) rfl (hb hby at_104) rfl (flt (by decide)).2.2.2 (by decide) (by decide) k_) ?_
  refine own_step (T' := T9) (g' := (mkF m 120 #[.val (.int p1), .val (.int p2), .val (.long p3), .second, .val (.int (3 : Int32)), .val (.ref b1), .unset] [(.int (3 : Int32))])) (fun t_ k_ => XS.iload X9.here hx rfl (hb hby at_118) rfl k_) ?_
  refine own_step (T' := T9) (g' := (mkF m 122 #[.val (.int p1), .val (.int p2), .val (.long p3), .second, .val (.int (3 : Int32)), .val (.ref b1), .unset] [(.int (6 : Int32)), (.int (3 : Int32))])) (fun t_ k_ => XS.bipush X9.here hx rfl (hb hby at_120) k_) ?_
  refine own_step (T' := T9) (g' := (mkF m 139 #[.val (.int p1), .val (.int p2), .val (.long p3), .second, .val (.int (3 : Int32)), .val (.ref b1), .unset] [])) (fun t_ k_ => XS.icmpYes X9.here hx rfl (pc0 := 122) (pc' := 139) rfl (hb hby at_122) rfl (tlt (by decide)).1 (by decide) (by decide) k_) ?_
  refine own_step (T' := T9) (g' := (mkF m 140 #[.val (.int p1), .val (.int p2), .val (.long p3), .second, .val (.int (3 : Int32)), .val (.ref b1), .unset] [(.int (0 : Int32))])) (fun t_ k_ => XS.iconst X9.here hx rfl (hb hby at_139) k_) ?_
  refine own_step (T' := T9) (g' := (mkF m 142 #[.val (.int p1), .val (.int p2), .val (.long p3), .second, .val (.int (3 : Int32)), .val (.ref b1), .val (.int (0 : Int32))] [])) (fun t_ k_ => XS.istore X9.here hx rfl (hb hby at_140) rfl (l' := #[.val (.int p1), .val (.int p2), .val (.long p3), .second, .val (.int (3 : Int32)), .val (.ref b1), .val (.int (0 : Int32))]) rfl k_) ?_
  refine own_step (T' := T9) (g' := (mkF m 144 #[.val (.int p1), .val (.int p2), .val (.long p3), .second, .val (.int (3 : Int32)), .val (.ref b1), .val (.int (0 : Int32))] [(.ref b1)])) (fun t_ k_ => XS.aload X9.here hx rfl (hb hby at_142) rfl rfl k_) ?_
  obtain ⟨cl13, Ar13, qk13, Sz13, Nz13, Hs13, Gs13⟩ := V9
  obtain ⟨_, _, ⟨T12, L12, k12, n12⟩, -, X12, ⟨Lc12, hQ12, l12, y12, z12⟩, st12⟩ := Jvm.LawKit.callS X9 hx (y := (⟨"com/example/hushed_flood/hushedflood/tcp/Control", "isControl", "([B)Z"⟩ : MethodName)) hown (mvT hZ (hw _ (List.mem_of_getElem? (i := 1) rfl))) (mvT hZ (hw _ (List.mem_of_getElem? (i := 2) rfl))) (mvT hZ (hw _ (List.mem_of_getElem? (i := 3) rfl))) (mvT hZ (hw _ (List.mem_of_getElem? (i := 4) rfl))) (by decide) (backOf (W := 0) (rm1 l Z a0 hw [] b1 cl13 (3 : Int32) (0 : Int32) h9 n0 z11 Ar13 Sz13 Nz13 (fun h => absurd h (by decide))) hZ (hw _ (List.mem_of_getElem? (i := 4) rfl)) (hw _ (List.mem_of_getElem? (i := 3) rfl)) (by decide) (by decide)) (g := (mkF m 144 #[.val (.int p1), .val (.int p2), .val (.long p3), .second, .val (.int (3 : Int32)), .val (.ref b1), .val (.int (0 : Int32))] [(.ref b1)])) rfl (by rw [hml]; rfl) (argsL := [(.ref b1)]) (rest := []) (lenOf (by decide +kernel : parseMethodDescriptor "([B)Z" = some ⟨[(.array .byte)], some .boolean⟩) rfl) rfl (by show 2 * 0 + _ ≤ _; exact Nat.le_of_eq rfl) (hb hby at_144) (fun _ _ => ⟨rfl, e9, (by decide : 1 + 0 ≤ _), (by decide : 3 + 0 ≤ _)⟩)
  dsimp only [Pt.U, Pt.locs, Pt.cells, Pt.slots] at X12 l12 y12 z12 st12 hQ12
  subst l12 y12 z12
  obtain ⟨rfl, Nq12, e12⟩ := hQ12
  have N12 := Fr.app N9 Nq12
  refine own_step (T' := T12) (g' := (mkF m 147 #[.val (.int p1), .val (.int p2), .val (.long p3), .second, .val (.int (3 : Int32)), .val (.ref b1), .val (.int (0 : Int32))] [(.int (own_ctl (3 : Int32) (0 : Int32)))])) st12 ?_
  refine own_step (T' := T12) (g' := (mkF m 149 #[.val (.int p1), .val (.int p2), .val (.long p3), .second, .val (.int (3 : Int32)), .val (.ref b1), .val (.int (0 : Int32))] [(.int (0 : Int32)), (.int (own_ctl (3 : Int32) (0 : Int32)))])) (fun t_ k_ => XS.iload X12.here hx rfl (hb hby at_147) rfl k_) ?_
  refine own_step (T' := T12) (g' := (mkF m 152 #[.val (.int p1), .val (.int p2), .val (.long p3), .second, .val (.int (3 : Int32)), .val (.ref b1), .val (.int (0 : Int32))] [])) (fun t_ k_ => XS.icmpNo X12.here hx rfl (hb hby at_149) rfl (teq (by simp [own_ctl])).2 k_) ?_
  refine own_step (T' := T12) (g' := (mkF m 153 #[.val (.int p1), .val (.int p2), .val (.long p3), .second, .val (.int (3 : Int32)), .val (.ref b1), .val (.int (0 : Int32))] [(.int (1 : Int32))])) (fun t_ k_ => XS.iconst X12.here hx rfl (hb hby at_152) k_) ?_
  refine own_step (T' := T12) (g' := (mkF m 157 #[.val (.int p1), .val (.int p2), .val (.long p3), .second, .val (.int (3 : Int32)), .val (.ref b1), .val (.int (0 : Int32))] [(.int (1 : Int32))])) (fun t_ k_ => XS.goto X12.here hx rfl (pc0 := 153) (pc' := 157) rfl (hb hby at_153) (by decide) (by decide) k_) ?_
  obtain ⟨fs, hrR, hrun, hended, hWW, hsame⟩ := X12.leave (v := some (.int (1 : Int32))) (fun h => by rw [Bd.returns] at h; cases h)
  refine ⟨_, _, own_retZ X12 hx (t := .boolean) Bd.returns (by simp) (by decide) (hb hby at_157) hrR, hrun, hended, hPP _ _ ⟨_, _, rfl, ?_, ⟨_, rfl⟩, hWW, hsame.mono (by decide) (by decide)⟩⟩
  show Q0 n0 _ T12.heap _
  rw [e12]
  exact ⟨rfl, N12⟩
set_option maxRecDepth 65536 in
set_option maxHeartbeats 40000000 in
theorem rm0_4 (l : Launch) (Z : State) (a0 : Array Value) (hw : ∀ d ∈ tables_1, d.before a0 Z = true) (ws : List Jvm.Cond) (p1 p2 : Int32) (p3 : Int64) (h0 : Heap) (n0 : Nat) (Z0 : n0 ≤ h0.size) (hk : p1 &&& 7 = 4) :
    MetFree l x (head1 (Jvm.Cond.code x code maxLocals ret :: ws) room_1) (fun a U => a = #[(.int p1), (.int p2), (.long p3)] ∧ Z.Warmed39 U.vm ∧ U.heap = h0) (fun _ _ _ _ _ => True) (fun _ U o U' => ∃ v L, o = .returned v ∧ Q0 n0 v U'.heap L ∧ FrameEnd U o U' L 16 128) := by
  refine MetFree.of_bodySF (plainFor_of_name (by first | (simp [plainName, overriddenIn]; done) | decide +kernel)) hisR ?_
  intro p e s m args below meth c s₁ Bd hml0 hP hK
  obtain ⟨rfl, hZ, hh⟩ := hP
  have hx := Bd.exec
  have hby := Bd.bytes
  have hml : c.maxLocals = 7 := hml0
  have hown : s.vm.findClass "com/example/hushed_flood/hushedflood/tcp/ControlIsControlPinLaw" = some m.cls := findClass_of_methodNamed Bd.named
  have hnm := (name_of_methodNamed Bd.named Bd.method).1
  have X0 : Stand p l e room_1 s m #[(.int p1), (.int p2), (.long p3)] below meth c s₁ [] 0 0 := Stand.of_body Bd
  have e0 : s₁.heap = h0 := by rw [← hh, Bd.state]; rfl
  have N0 := Fr.nil n0
  have ef : entryFrame m #[(.int p1), (.int p2), (.long p3)] maxLocals = (mkF m 0 #[.val (.int p1), .val (.int p2), .val (.long p3), .second, .unset, .unset, .unset] []) := by first | (simp [entryFrame, mkF, argsToLocals, Value.category, maxLocals]; done) | rfl
  refine own_start (fun P hPP => ?_)
  refine own_step (T' := s₁) (g' := (mkF m 0 #[.val (.int p1), .val (.int p2), .val (.long p3), .second, .unset, .unset, .unset] [])) (fun t_ k_ => castTop ef k_) ?_
  refine own_step (T' := s₁) (g' := (mkF m 1 #[.val (.int p1), .val (.int p2), .val (.long p3), .second, .unset, .unset, .unset] [(.int p1)])) (fun t_ k_ => XS.iloadN X0.here hx rfl (hb hby at_0) rfl k_) ?_
  refine own_step (T' := s₁) (g' := (mkF m 3 #[.val (.int p1), .val (.int p2), .val (.long p3), .second, .unset, .unset, .unset] [(.int (7 : Int32)), (.int p1)])) (fun t_ k_ => XS.bipush X0.here hx rfl (hb hby at_1) k_) ?_
  refine own_step (T' := s₁) (g' := (mkF m 4 #[.val (.int p1), .val (.int p2), .val (.long p3), .second, .unset, .unset, .unset] [(.int (p1 &&& (7 : Int32)))])) (fun t_ k_ => XS.iand X0.here hx rfl (hb hby at_3) rfl k_) ?_
  rw [hk]
  refine own_step (T' := s₁) (g' := (mkF m 6 #[.val (.int p1), .val (.int p2), .val (.long p3), .second, .val (.int (4 : Int32)), .unset, .unset] [])) (fun t_ k_ => XS.istore X0.here hx rfl (hb hby at_4) rfl (l' := #[.val (.int p1), .val (.int p2), .val (.long p3), .second, .val (.int (4 : Int32)), .unset, .unset]) rfl k_) ?_
  refine own_step (T' := s₁) (g' := (mkF m 8 #[.val (.int p1), .val (.int p2), .val (.long p3), .second, .val (.int (4 : Int32)), .unset, .unset] [(.int (4 : Int32))])) (fun t_ k_ => XS.iload X0.here hx rfl (hb hby at_6) rfl k_) ?_
  obtain ⟨T1, h1, k1, X1, e1, E1, A1, st1⟩ := newP X0 hx hZ (hw _ (List.mem_of_getElem? (i := 0) rfl)) e0 (g := (mkF m 8 #[.val (.int p1), .val (.int p2), .val (.long p3), .second, .val (.int (4 : Int32)), .unset, .unset] [(.int (4 : Int32))])) rfl (hb hby at_8) rfl (by decide) (cap := 4) (by decide) (by decide) (by decide) (by decide)
  obtain ⟨b1, g1⟩ : ∃ z, z = h0.size := ⟨_, rfl⟩
  rw [← g1] at A1 st1
  have ge_b1 : n0 ≤ b1 := Nat.le_trans Z0 (Nat.le_of_eq g1.symm)
  have z2 : n0 ≤ h1.size := Nat.le_trans Z0 E1.1
  have V1 : Arv Z h1 b1 k1 .byte (4 : Int32) [(.int (0 : Int32)), (.int (0 : Int32)), (.int (0 : Int32)), (.int (0 : Int32))] (.int (0 : Int32)) := (Arv.new A1 (by decide)).pad (pad_rep [] (.int (0 : Int32)) 4)
  refine own_step (T' := T1) (g' := (mkF m 10 #[.val (.int p1), .val (.int p2), .val (.long p3), .second, .val (.int (4 : Int32)), .unset, .unset] [(.ref b1)])) st1 ?_
  refine own_step (T' := T1) (g' := (mkF m 12 #[.val (.int p1), .val (.int p2), .val (.long p3), .second, .val (.int (4 : Int32)), .val (.ref b1), .unset] [])) (fun t_ k_ => XS.astore X1.here hx rfl (hb hby at_10) rfl rfl (l' := #[.val (.int p1), .val (.int p2), .val (.long p3), .second, .val (.int (4 : Int32)), .val (.ref b1), .unset]) rfl k_) ?_
  refine own_step (T' := T1) (g' := (mkF m 14 #[.val (.int p1), .val (.int p2), .val (.long p3), .second, .val (.int (4 : Int32)), .val (.ref b1), .unset] [(.int (4 : Int32))])) (fun t_ k_ => XS.iload X1.here hx rfl (hb hby at_12) rfl k_) ?_
  refine own_step (T' := T1) (g' := (mkF m 17 #[.val (.int p1), .val (.int p2), .val (.long p3), .second, .val (.int (4 : Int32)), .val (.ref b1), .unset] [])) (fun t_ k_ => XS.ifNo X1.here hx rfl (hb hby at_14) rfl ((if0 _ _).trans (tlt (by decide)).2.2.2) k_) ?_
  refine own_step (T' := T1) (g' := (mkF m 19 #[.val (.int p1), .val (.int p2), .val (.long p3), .second, .val (.int (4 : Int32)), .val (.ref b1), .unset] [(.ref b1)])) (fun t_ k_ => XS.aload X1.here hx rfl (hb hby at_17) rfl rfl k_) ?_
  refine own_step (T' := T1) (g' := (mkF m 20 #[.val (.int p1), .val (.int p2), .val (.long p3), .second, .val (.int (4 : Int32)), .val (.ref b1), .unset] [(.int (0 : Int32)), (.ref b1)])) (fun t_ k_ => XS.iconst X1.here hx rfl (hb hby at_19) k_) ?_
  refine own_step (T' := T1) (g' := (mkF m 21 #[.val (.int p1), .val (.int p2), .val (.long p3), .second, .val (.int (4 : Int32)), .val (.ref b1), .unset] [(.long p3), (.int (0 : Int32)), (.ref b1)])) (fun t_ k_ => XS.lloadN X1.here hx rfl (hb hby at_20) rfl k_) ?_
  refine own_step (T' := T1) (g' := (mkF m 22 #[.val (.int p1), .val (.int p2), .val (.long p3), .second, .val (.int (4 : Int32)), .val (.ref b1), .unset] [(.int (p3.toInt32)), (.int (0 : Int32)), (.ref b1)])) (fun t_ k_ => XS.l2i X1.here hx rfl (hb hby at_21) rfl k_) ?_
  refine own_step (T' := T1) (g' := (mkF m 23 #[.val (.int p1), .val (.int p2), .val (.long p3), .second, .val (.int (4 : Int32)), .val (.ref b1), .unset] [(.int ((p3.toInt32).toInt8.toInt32)), (.int (0 : Int32)), (.ref b1)])) (fun t_ k_ => XS.i2b X1.here hx rfl (hb hby at_22) rfl k_) ?_
  obtain ⟨cl3, Ar3, qk3, Sz3, Nz3, Hs3, Gs3⟩ := V1
  have hin3 := inb_of (j := (0 : Int32)) Sz3 ⟨by decide, by decide⟩
  obtain ⟨T3, h3, X3, e3, W3, st3⟩ := stB X1 hx hZ e1 Ar3 (j := (0 : Int32)) hin3 (g := (mkF m 23 #[.val (.int p1), .val (.int p2), .val (.long p3), .second, .val (.int (4 : Int32)), .val (.ref b1), .unset] [(.int ((p3.toInt32).toInt8.toInt32)), (.int (0 : Int32)), (.ref b1)])) rfl rfl (hb hby at_23)
  have V3 : Arv Z h3 b1 k1 .byte (4 : Int32) [(.int (nar .byte ((p3.toInt32).toInt8.toInt32))), (.int (0 : Int32)), (.int (0 : Int32)), (.int (0 : Int32))] (.int (0 : Int32)) := Arv.set Ar3 qk3 Sz3 Nz3 Hs3 Gs3 (fits_nar_byte _) W3 0 rfl (Nat.le_of_ble_eq_true rfl)
  have N3 := Fr.snoc X3 N0 ge_b1
  have z5 : n0 ≤ h3.size := Nat.le_trans z2 (Keep.of_wr W3).1
  refine own_step (T' := T3) (g' := (mkF m 24 #[.val (.int p1), .val (.int p2), .val (.long p3), .second, .val (.int (4 : Int32)), .val (.ref b1), .unset] [])) st3 ?_
  refine own_step (T' := T3) (g' := (mkF m 26 #[.val (.int p1), .val (.int p2), .val (.long p3), .second, .val (.int (4 : Int32)), .val (.ref b1), .unset] [(.int (4 : Int32))])) (fun t_ k_ => XS.iload X3.here hx rfl (hb hby at_24) rfl k_) ?_
  refine own_step (T' := T3) (g' := (mkF m 27 #[.val (.int p1), .val (.int p2), .val (.long p3), .second, .val (.int (4 : Int32)), .val (.ref b1), .unset] [(.int (1 : Int32)), (.int (4 : Int32))])) (fun t_ k_ => XS.iconst X3.here hx rfl (hb hby at_26) k_) ?_
  refine own_step (T' := T3) (g' := (mkF m 30 #[.val (.int p1), .val (.int p2), .val (.long p3), .second, .val (.int (4 : Int32)), .val (.ref b1), .unset] [])) (fun t_ k_ => XS.icmpNo X3.here hx rfl (hb hby at_27) rfl (tlt (by decide)).2.2.2 k_) ?_
  refine own_step (T' := T3) (g' := (mkF m 32 #[.val (.int p1), .val (.int p2), .val (.long p3), .second, .val (.int (4 : Int32)), .val (.ref b1), .unset] [(.ref b1)])) (fun t_ k_ => XS.aload X3.here hx rfl (hb hby at_30) rfl rfl k_) ?_
  refine own_step (T' := T3) (g' := (mkF m 33 #[.val (.int p1), .val (.int p2), .val (.long p3), .second, .val (.int (4 : Int32)), .val (.ref b1), .unset] [(.int (1 : Int32)), (.ref b1)])) (fun t_ k_ => XS.iconst X3.here hx rfl (hb hby at_32) k_) ?_
  refine own_step (T' := T3) (g' := (mkF m 34 #[.val (.int p1), .val (.int p2), .val (.long p3), .second, .val (.int (4 : Int32)), .val (.ref b1), .unset] [(.long p3), (.int (1 : Int32)), (.ref b1)])) (fun t_ k_ => XS.lloadN X3.here hx rfl (hb hby at_33) rfl k_) ?_
  refine own_step (T' := T3) (g' := (mkF m 36 #[.val (.int p1), .val (.int p2), .val (.long p3), .second, .val (.int (4 : Int32)), .val (.ref b1), .unset] [(.int (8 : Int32)), (.long p3), (.int (1 : Int32)), (.ref b1)])) (fun t_ k_ => XS.bipush X3.here hx rfl (hb hby at_34) k_) ?_
  refine own_step (T' := T3) (g' := (mkF m 37 #[.val (.int p1), .val (.int p2), .val (.long p3), .second, .val (.int (4 : Int32)), .val (.ref b1), .unset] [(.long (Jvm.Free.XT.ushrL p3 (8 : Int32))), (.int (1 : Int32)), (.ref b1)])) (fun t_ k_ => XT.lushr X3.here hx rfl (hb hby at_36) rfl k_) ?_
  refine own_step (T' := T3) (g' := (mkF m 38 #[.val (.int p1), .val (.int p2), .val (.long p3), .second, .val (.int (4 : Int32)), .val (.ref b1), .unset] [(.int ((Jvm.Free.XT.ushrL p3 (8 : Int32)).toInt32)), (.int (1 : Int32)), (.ref b1)])) (fun t_ k_ => XS.l2i X3.here hx rfl (hb hby at_37) rfl k_) ?_
  refine own_step (T' := T3) (g' := (mkF m 39 #[.val (.int p1), .val (.int p2), .val (.long p3), .second, .val (.int (4 : Int32)), .val (.ref b1), .unset] [(.int (((Jvm.Free.XT.ushrL p3 (8 : Int32)).toInt32).toInt8.toInt32)), (.int (1 : Int32)), (.ref b1)])) (fun t_ k_ => XS.i2b X3.here hx rfl (hb hby at_38) rfl k_) ?_
  obtain ⟨cl6, Ar6, qk6, Sz6, Nz6, Hs6, Gs6⟩ := V3
  have hin6 := inb_of (j := (1 : Int32)) Sz6 ⟨by decide, by decide⟩
  obtain ⟨T6, h6, X6, e6, W6, st6⟩ := stB X3 hx hZ e3 Ar6 (j := (1 : Int32)) hin6 (g := (mkF m 39 #[.val (.int p1), .val (.int p2), .val (.long p3), .second, .val (.int (4 : Int32)), .val (.ref b1), .unset] [(.int (((Jvm.Free.XT.ushrL p3 (8 : Int32)).toInt32).toInt8.toInt32)), (.int (1 : Int32)), (.ref b1)])) rfl rfl (hb hby at_39)
  have V6 : Arv Z h6 b1 k1 .byte (4 : Int32) [(.int (nar .byte ((p3.toInt32).toInt8.toInt32))), (.int (nar .byte (((Jvm.Free.XT.ushrL p3 (8 : Int32)).toInt32).toInt8.toInt32))), (.int (0 : Int32)), (.int (0 : Int32))] (.int (0 : Int32)) := Arv.set Ar6 qk6 Sz6 Nz6 Hs6 Gs6 (fits_nar_byte _) W6 1 rfl (Nat.le_of_ble_eq_true rfl)
  have N6 := Fr.snoc X6 N3 ge_b1
  have z8 : n0 ≤ h6.size := Nat.le_trans z5 (Keep.of_wr W6).1
  refine own_step (T' := T6) (g' := (mkF m 40 #[.val (.int p1), .val (.int p2), .val (.long p3), .second, .val (.int (4 : Int32)), .val (.ref b1), .unset] [])) st6 ?_
  refine own_step (T' := T6) (g' := (mkF m 42 #[.val (.int p1), .val (.int p2), .val (.long p3), .second, .val (.int (4 : Int32)), .val (.ref b1), .unset] [(.int (4 : Int32))])) (fun t_ k_ => XS.iload X6.here hx rfl (hb hby at_40) rfl k_) ?_
  refine own_step (T' := T6) (g' := (mkF m 43 #[.val (.int p1), .val (.int p2), .val (.long p3), .second, .val (.int (4 : Int32)), .val (.ref b1), .unset] [(.int (2 : Int32)), (.int (4 : Int32))])) (fun t_ k_ => XS.iconst X6.here hx rfl (hb hby at_42) k_) ?_
  refine own_step (T' := T6) (g' := (mkF m 46 #[.val (.int p1), .val (.int p2), .val (.long p3), .second, .val (.int (4 : Int32)), .val (.ref b1), .unset] [])) (fun t_ k_ => XS.icmpNo X6.here hx rfl (hb hby at_43) rfl (tlt (by decide)).2.2.2 k_) ?_
  refine own_step (T' := T6) (g' := (mkF m 48 #[.val (.int p1), .val (.int p2), .val (.long p3), .second, .val (.int (4 : Int32)), .val (.ref b1), .unset] [(.ref b1)])) (fun t_ k_ => XS.aload X6.here hx rfl (hb hby at_46) rfl rfl k_) ?_
  refine own_step (T' := T6) (g' := (mkF m 49 #[.val (.int p1), .val (.int p2), .val (.long p3), .second, .val (.int (4 : Int32)), .val (.ref b1), .unset] [(.int (2 : Int32)), (.ref b1)])) (fun t_ k_ => XS.iconst X6.here hx rfl (hb hby at_48) k_) ?_
  refine own_step (T' := T6) (g' := (mkF m 50 #[.val (.int p1), .val (.int p2), .val (.long p3), .second, .val (.int (4 : Int32)), .val (.ref b1), .unset] [(.long p3), (.int (2 : Int32)), (.ref b1)])) (fun t_ k_ => XS.lloadN X6.here hx rfl (hb hby at_49) rfl k_) ?_
  refine own_step (T' := T6) (g' := (mkF m 52 #[.val (.int p1), .val (.int p2), .val (.long p3), .second, .val (.int (4 : Int32)), .val (.ref b1), .unset] [(.int (16 : Int32)), (.long p3), (.int (2 : Int32)), (.ref b1)])) (fun t_ k_ => XS.bipush X6.here hx rfl (hb hby at_50) k_) ?_
  refine own_step (T' := T6) (g' := (mkF m 53 #[.val (.int p1), .val (.int p2), .val (.long p3), .second, .val (.int (4 : Int32)), .val (.ref b1), .unset] [(.long (Jvm.Free.XT.ushrL p3 (16 : Int32))), (.int (2 : Int32)), (.ref b1)])) (fun t_ k_ => XT.lushr X6.here hx rfl (hb hby at_52) rfl k_) ?_
  refine own_step (T' := T6) (g' := (mkF m 54 #[.val (.int p1), .val (.int p2), .val (.long p3), .second, .val (.int (4 : Int32)), .val (.ref b1), .unset] [(.int ((Jvm.Free.XT.ushrL p3 (16 : Int32)).toInt32)), (.int (2 : Int32)), (.ref b1)])) (fun t_ k_ => XS.l2i X6.here hx rfl (hb hby at_53) rfl k_) ?_
  refine own_step (T' := T6) (g' := (mkF m 55 #[.val (.int p1), .val (.int p2), .val (.long p3), .second, .val (.int (4 : Int32)), .val (.ref b1), .unset] [(.int (((Jvm.Free.XT.ushrL p3 (16 : Int32)).toInt32).toInt8.toInt32)), (.int (2 : Int32)), (.ref b1)])) (fun t_ k_ => XS.i2b X6.here hx rfl (hb hby at_54) rfl k_) ?_
  obtain ⟨cl9, Ar9, qk9, Sz9, Nz9, Hs9, Gs9⟩ := V6
  have hin9 := inb_of (j := (2 : Int32)) Sz9 ⟨by decide, by decide⟩
  obtain ⟨T9, h9, X9, e9, W9, st9⟩ := stB X6 hx hZ e6 Ar9 (j := (2 : Int32)) hin9 (g := (mkF m 55 #[.val (.int p1), .val (.int p2), .val (.long p3), .second, .val (.int (4 : Int32)), .val (.ref b1), .unset] [(.int (((Jvm.Free.XT.ushrL p3 (16 : Int32)).toInt32).toInt8.toInt32)), (.int (2 : Int32)), (.ref b1)])) rfl rfl (hb hby at_55)
  have V9 : Arv Z h9 b1 k1 .byte (4 : Int32) [(.int (nar .byte ((p3.toInt32).toInt8.toInt32))), (.int (nar .byte (((Jvm.Free.XT.ushrL p3 (8 : Int32)).toInt32).toInt8.toInt32))), (.int (nar .byte (((Jvm.Free.XT.ushrL p3 (16 : Int32)).toInt32).toInt8.toInt32))), (.int (0 : Int32))] (.int (0 : Int32)) := Arv.set Ar9 qk9 Sz9 Nz9 Hs9 Gs9 (fits_nar_byte _) W9 2 rfl (Nat.le_of_ble_eq_true rfl)
  have N9 := Fr.snoc X9 N6 ge_b1
  have z11 : n0 ≤ h9.size := Nat.le_trans z8 (Keep.of_wr W9).1
  refine own_step (T' := T9) (g' := (mkF m 56 #[.val (.int p1), .val (.int p2), .val (.long p3), .second, .val (.int (4 : Int32)), .val (.ref b1), .unset] [])) st9 ?_
  refine own_step (T' := T9) (g' := (mkF m 58 #[.val (.int p1), .val (.int p2), .val (.long p3), .second, .val (.int (4 : Int32)), .val (.ref b1), .unset] [(.int (4 : Int32))])) (fun t_ k_ => XS.iload X9.here hx rfl (hb hby at_56) rfl k_) ?_
  refine own_step (T' := T9) (g' := (mkF m 59 #[.val (.int p1), .val (.int p2), .val (.long p3), .second, .val (.int (4 : Int32)), .val (.ref b1), .unset] [(.int (3 : Int32)), (.int (4 : Int32))])) (fun t_ k_ => XS.iconst X9.here hx rfl (hb hby at_58) k_) ?_
  refine own_step (T' := T9) (g' := (mkF m 62 #[.val (.int p1), .val (.int p2), .val (.long p3), .second, .val (.int (4 : Int32)), .val (.ref b1), .unset] [])) (fun t_ k_ => XS.icmpNo X9.here hx rfl (hb hby at_59) rfl (tlt (by decide)).2.2.2 k_) ?_
  refine own_step (T' := T9) (g' := (mkF m 64 #[.val (.int p1), .val (.int p2), .val (.long p3), .second, .val (.int (4 : Int32)), .val (.ref b1), .unset] [(.ref b1)])) (fun t_ k_ => XS.aload X9.here hx rfl (hb hby at_62) rfl rfl k_) ?_
  refine own_step (T' := T9) (g' := (mkF m 65 #[.val (.int p1), .val (.int p2), .val (.long p3), .second, .val (.int (4 : Int32)), .val (.ref b1), .unset] [(.int (3 : Int32)), (.ref b1)])) (fun t_ k_ => XS.iconst X9.here hx rfl (hb hby at_64) k_) ?_
  refine own_step (T' := T9) (g' := (mkF m 66 #[.val (.int p1), .val (.int p2), .val (.long p3), .second, .val (.int (4 : Int32)), .val (.ref b1), .unset] [(.long p3), (.int (3 : Int32)), (.ref b1)])) (fun t_ k_ => XS.lloadN X9.here hx rfl (hb hby at_65) rfl k_) ?_
  refine own_step (T' := T9) (g' := (mkF m 68 #[.val (.int p1), .val (.int p2), .val (.long p3), .second, .val (.int (4 : Int32)), .val (.ref b1), .unset] [(.int (24 : Int32)), (.long p3), (.int (3 : Int32)), (.ref b1)])) (fun t_ k_ => XS.bipush X9.here hx rfl (hb hby at_66) k_) ?_
  refine own_step (T' := T9) (g' := (mkF m 69 #[.val (.int p1), .val (.int p2), .val (.long p3), .second, .val (.int (4 : Int32)), .val (.ref b1), .unset] [(.long (Jvm.Free.XT.ushrL p3 (24 : Int32))), (.int (3 : Int32)), (.ref b1)])) (fun t_ k_ => XT.lushr X9.here hx rfl (hb hby at_68) rfl k_) ?_
  refine own_step (T' := T9) (g' := (mkF m 70 #[.val (.int p1), .val (.int p2), .val (.long p3), .second, .val (.int (4 : Int32)), .val (.ref b1), .unset] [(.int ((Jvm.Free.XT.ushrL p3 (24 : Int32)).toInt32)), (.int (3 : Int32)), (.ref b1)])) (fun t_ k_ => XS.l2i X9.here hx rfl (hb hby at_69) rfl k_) ?_
  refine own_step (T' := T9) (g' := (mkF m 71 #[.val (.int p1), .val (.int p2), .val (.long p3), .second, .val (.int (4 : Int32)), .val (.ref b1), .unset] [(.int (((Jvm.Free.XT.ushrL p3 (24 : Int32)).toInt32).toInt8.toInt32)), (.int (3 : Int32)), (.ref b1)])) (fun t_ k_ => XS.i2b X9.here hx rfl (hb hby at_70) rfl k_) ?_
  obtain ⟨cl12, Ar12, qk12, Sz12, Nz12, Hs12, Gs12⟩ := V9
  have hin12 := inb_of (j := (3 : Int32)) Sz12 ⟨by decide, by decide⟩
  obtain ⟨T12, h12, X12, e12, W12, st12⟩ := stB X9 hx hZ e9 Ar12 (j := (3 : Int32)) hin12 (g := (mkF m 71 #[.val (.int p1), .val (.int p2), .val (.long p3), .second, .val (.int (4 : Int32)), .val (.ref b1), .unset] [(.int (((Jvm.Free.XT.ushrL p3 (24 : Int32)).toInt32).toInt8.toInt32)), (.int (3 : Int32)), (.ref b1)])) rfl rfl (hb hby at_71)
  have V12 : Arv Z h12 b1 k1 .byte (4 : Int32) [(.int (nar .byte ((p3.toInt32).toInt8.toInt32))), (.int (nar .byte (((Jvm.Free.XT.ushrL p3 (8 : Int32)).toInt32).toInt8.toInt32))), (.int (nar .byte (((Jvm.Free.XT.ushrL p3 (16 : Int32)).toInt32).toInt8.toInt32))), (.int (nar .byte (((Jvm.Free.XT.ushrL p3 (24 : Int32)).toInt32).toInt8.toInt32)))] (.int (0 : Int32)) := Arv.set Ar12 qk12 Sz12 Nz12 Hs12 Gs12 (fits_nar_byte _) W12 3 rfl (Nat.le_of_ble_eq_true rfl)
  have N12 := Fr.snoc X12 N9 ge_b1
  have z14 : n0 ≤ h12.size := Nat.le_trans z11 (Keep.of_wr W12).1
  refine own_step (T' := T12) (g' := (mkF m 72 #[.val (.int p1), .val (.int p2), .val (.long p3), .second, .val (.int (4 : Int32)), .val (.ref b1), .unset] [])) st12 ?_
  refine own_step (T' := T12) (g' := (mkF m 74 #[.val (.int p1), .val (.int p2), .val (.long p3), .second, .val (.int (4 : Int32)), .val (.ref b1), .unset] [(.int (4 : Int32))])) (fun t_ k_ => XS.iload X12.here hx rfl (hb hby at_72) rfl k_) ?_
  refine own_step (T' := T12) (g' := (mkF m 75 #[.val (.int p1), .val (.int p2), .val (.long p3), .second, .val (.int (4 : Int32)), .val (.ref b1), .unset] [(.int (4 : Int32)), (.int (4 : Int32))])) (fun t_ k_ => XS.iconst X12.here hx rfl (hb hby at_74) k_) ?_
  refine own_step (T' := T12) (g' := (mkF m 88 #[.val (.int p1), .val (.int p2), .val (.long p3), .second, .val (.int (4 : Int32)), .val (.ref b1), .unset] [])) (fun t_ k_ => XS.icmpYes X12.here hx rfl (pc0 := 75) (pc' := 88) rfl (hb hby at_75) rfl (flt (by decide)).2.2.2 (by decide) (by decide) k_) ?_
  refine own_step (T' := T12) (g' := (mkF m 90 #[.val (.int p1), .val (.int p2), .val (.long p3), .second, .val (.int (4 : Int32)), .val (.ref b1), .unset] [(.int (4 : Int32))])) (fun t_ k_ => XS.iload X12.here hx rfl (hb hby at_88) rfl k_) ?_
  refine own_step (T' := T12) (g' := (mkF m 91 #[.val (.int p1), .val (.int p2), .val (.long p3), .second, .val (.int (4 : Int32)), .val (.ref b1), .unset] [(.int (5 : Int32)), (.int (4 : Int32))])) (fun t_ k_ => XS.iconst X12.here hx rfl (hb hby at_90) k_) ?_
  refine own_step (T' := T12) (g' := (mkF m 100 #[.val (.int p1), .val (.int p2), .val (.long p3), .second, .val (.int (4 : Int32)), .val (.ref b1), .unset] [])) (fun t_ k_ => XS.icmpYes X12.here hx rfl (pc0 := 91) (pc' := 100) rfl (hb hby at_91) rfl (flt (by decide)).2.2.2 (by decide) (by decide) k_) ?_
  refine own_step (T' := T12) (g' := (mkF m 102 #[.val (.int p1), .val (.int p2), .val (.long p3), .second, .val (.int (4 : Int32)), .val (.ref b1), .unset] [(.int (4 : Int32))])) (fun t_ k_ => XS.iload X12.here hx rfl (hb hby at_100) rfl k_) ?_
  refine own_step (T' := T12) (g' := (mkF m 104 #[.val (.int p1), .val (.int p2), .val (.long p3), .second, .val (.int (4 : Int32)), .val (.ref b1), .unset] [(.int (6 : Int32)), (.int (4 : Int32))])) (fun t_ k_ => XS.bipush X12.here hx rfl (hb hby at_102) k_) ?_
  refine own_step (T' := T12) (g' := (mkF m 118 #[.val (.int p1), .val (.int p2), .val (.long p3), .second, .val (.int (4 : Int32)), .val (.ref b1), .unset] [])) (fun t_ k_ => XS.icmpYes X12.here hx rfl (pc0 := 104) (pc' := 118) rfl (hb hby at_104) rfl (flt (by decide)).2.2.2 (by decide) (by decide) k_) ?_
  refine own_step (T' := T12) (g' := (mkF m 120 #[.val (.int p1), .val (.int p2), .val (.long p3), .second, .val (.int (4 : Int32)), .val (.ref b1), .unset] [(.int (4 : Int32))])) (fun t_ k_ => XS.iload X12.here hx rfl (hb hby at_118) rfl k_) ?_
  refine own_step (T' := T12) (g' := (mkF m 122 #[.val (.int p1), .val (.int p2), .val (.long p3), .second, .val (.int (4 : Int32)), .val (.ref b1), .unset] [(.int (6 : Int32)), (.int (4 : Int32))])) (fun t_ k_ => XS.bipush X12.here hx rfl (hb hby at_120) k_) ?_
  refine own_step (T' := T12) (g' := (mkF m 139 #[.val (.int p1), .val (.int p2), .val (.long p3), .second, .val (.int (4 : Int32)), .val (.ref b1), .unset] [])) (fun t_ k_ => XS.icmpYes X12.here hx rfl (pc0 := 122) (pc' := 139) rfl (hb hby at_122) rfl (tlt (by decide)).1 (by decide) (by decide) k_) ?_
  refine own_step (T' := T12) (g' := (mkF m 140 #[.val (.int p1), .val (.int p2), .val (.long p3), .second, .val (.int (4 : Int32)), .val (.ref b1), .unset] [(.int (0 : Int32))])) (fun t_ k_ => XS.iconst X12.here hx rfl (hb hby at_139) k_) ?_
  refine own_step (T' := T12) (g' := (mkF m 142 #[.val (.int p1), .val (.int p2), .val (.long p3), .second, .val (.int (4 : Int32)), .val (.ref b1), .val (.int (0 : Int32))] [])) (fun t_ k_ => XS.istore X12.here hx rfl (hb hby at_140) rfl (l' := #[.val (.int p1), .val (.int p2), .val (.long p3), .second, .val (.int (4 : Int32)), .val (.ref b1), .val (.int (0 : Int32))]) rfl k_) ?_
  refine own_step (T' := T12) (g' := (mkF m 144 #[.val (.int p1), .val (.int p2), .val (.long p3), .second, .val (.int (4 : Int32)), .val (.ref b1), .val (.int (0 : Int32))] [(.ref b1)])) (fun t_ k_ => XS.aload X12.here hx rfl (hb hby at_142) rfl rfl k_) ?_
  obtain ⟨cl16, Ar16, qk16, Sz16, Nz16, Hs16, Gs16⟩ := V12
  obtain ⟨_, _, ⟨T15, L15, k15, n15⟩, -, X15, ⟨Lc15, hQ15, l15, y15, z15⟩, st15⟩ := Jvm.LawKit.callS X12 hx (y := (⟨"com/example/hushed_flood/hushedflood/tcp/Control", "isControl", "([B)Z"⟩ : MethodName)) hown (mvT hZ (hw _ (List.mem_of_getElem? (i := 1) rfl))) (mvT hZ (hw _ (List.mem_of_getElem? (i := 2) rfl))) (mvT hZ (hw _ (List.mem_of_getElem? (i := 3) rfl))) (mvT hZ (hw _ (List.mem_of_getElem? (i := 4) rfl))) (by decide) (backOf (W := 0) (rm1 l Z a0 hw [] b1 cl16 (4 : Int32) (0 : Int32) h12 n0 z14 Ar16 Sz16 Nz16 (fun h => absurd h (by decide))) hZ (hw _ (List.mem_of_getElem? (i := 4) rfl)) (hw _ (List.mem_of_getElem? (i := 3) rfl)) (by decide) (by decide)) (g := (mkF m 144 #[.val (.int p1), .val (.int p2), .val (.long p3), .second, .val (.int (4 : Int32)), .val (.ref b1), .val (.int (0 : Int32))] [(.ref b1)])) rfl (by rw [hml]; rfl) (argsL := [(.ref b1)]) (rest := []) (lenOf (by decide +kernel : parseMethodDescriptor "([B)Z" = some ⟨[(.array .byte)], some .boolean⟩) rfl) rfl (by show 2 * 0 + _ ≤ _; exact Nat.le_of_eq rfl) (hb hby at_144) (fun _ _ => ⟨rfl, e12, (by decide : 1 + 0 ≤ _), (by decide : 4 + 0 ≤ _)⟩)
  dsimp only [Pt.U, Pt.locs, Pt.cells, Pt.slots] at X15 l15 y15 z15 st15 hQ15
  subst l15 y15 z15
  obtain ⟨rfl, Nq15, e15⟩ := hQ15
  have N15 := Fr.app N12 Nq15
  refine own_step (T' := T15) (g' := (mkF m 147 #[.val (.int p1), .val (.int p2), .val (.long p3), .second, .val (.int (4 : Int32)), .val (.ref b1), .val (.int (0 : Int32))] [(.int (own_ctl (4 : Int32) (0 : Int32)))])) st15 ?_
  refine own_step (T' := T15) (g' := (mkF m 149 #[.val (.int p1), .val (.int p2), .val (.long p3), .second, .val (.int (4 : Int32)), .val (.ref b1), .val (.int (0 : Int32))] [(.int (0 : Int32)), (.int (own_ctl (4 : Int32) (0 : Int32)))])) (fun t_ k_ => XS.iload X15.here hx rfl (hb hby at_147) rfl k_) ?_
  refine own_step (T' := T15) (g' := (mkF m 152 #[.val (.int p1), .val (.int p2), .val (.long p3), .second, .val (.int (4 : Int32)), .val (.ref b1), .val (.int (0 : Int32))] [])) (fun t_ k_ => XS.icmpNo X15.here hx rfl (hb hby at_149) rfl (teq (by simp [own_ctl])).2 k_) ?_
  refine own_step (T' := T15) (g' := (mkF m 153 #[.val (.int p1), .val (.int p2), .val (.long p3), .second, .val (.int (4 : Int32)), .val (.ref b1), .val (.int (0 : Int32))] [(.int (1 : Int32))])) (fun t_ k_ => XS.iconst X15.here hx rfl (hb hby at_152) k_) ?_
  refine own_step (T' := T15) (g' := (mkF m 157 #[.val (.int p1), .val (.int p2), .val (.long p3), .second, .val (.int (4 : Int32)), .val (.ref b1), .val (.int (0 : Int32))] [(.int (1 : Int32))])) (fun t_ k_ => XS.goto X15.here hx rfl (pc0 := 153) (pc' := 157) rfl (hb hby at_153) (by decide) (by decide) k_) ?_
  obtain ⟨fs, hrR, hrun, hended, hWW, hsame⟩ := X15.leave (v := some (.int (1 : Int32))) (fun h => by rw [Bd.returns] at h; cases h)
  refine ⟨_, _, own_retZ X15 hx (t := .boolean) Bd.returns (by simp) (by decide) (hb hby at_157) hrR, hrun, hended, hPP _ _ ⟨_, _, rfl, ?_, ⟨_, rfl⟩, hWW, hsame.mono (by decide) (by decide)⟩⟩
  show Q0 n0 _ T15.heap _
  rw [e15]
  exact ⟨rfl, N15⟩
set_option maxRecDepth 65536 in
set_option maxHeartbeats 40000000 in
theorem rm0_5 (l : Launch) (Z : State) (a0 : Array Value) (hw : ∀ d ∈ tables_1, d.before a0 Z = true) (ws : List Jvm.Cond) (p1 p2 : Int32) (p3 : Int64) (h0 : Heap) (n0 : Nat) (Z0 : n0 ≤ h0.size) (hk : p1 &&& 7 = 5) :
    MetFree l x (head1 (Jvm.Cond.code x code maxLocals ret :: ws) room_1) (fun a U => a = #[(.int p1), (.int p2), (.long p3)] ∧ Z.Warmed39 U.vm ∧ U.heap = h0) (fun _ _ _ _ _ => True) (fun _ U o U' => ∃ v L, o = .returned v ∧ Q0 n0 v U'.heap L ∧ FrameEnd U o U' L 16 128) := by
  refine MetFree.of_bodySF (plainFor_of_name (by first | (simp [plainName, overriddenIn]; done) | decide +kernel)) hisR ?_
  intro p e s m args below meth c s₁ Bd hml0 hP hK
  obtain ⟨rfl, hZ, hh⟩ := hP
  have hx := Bd.exec
  have hby := Bd.bytes
  have hml : c.maxLocals = 7 := hml0
  have hown : s.vm.findClass "com/example/hushed_flood/hushedflood/tcp/ControlIsControlPinLaw" = some m.cls := findClass_of_methodNamed Bd.named
  have hnm := (name_of_methodNamed Bd.named Bd.method).1
  have X0 : Stand p l e room_1 s m #[(.int p1), (.int p2), (.long p3)] below meth c s₁ [] 0 0 := Stand.of_body Bd
  have e0 : s₁.heap = h0 := by rw [← hh, Bd.state]; rfl
  have N0 := Fr.nil n0
  have ef : entryFrame m #[(.int p1), (.int p2), (.long p3)] maxLocals = (mkF m 0 #[.val (.int p1), .val (.int p2), .val (.long p3), .second, .unset, .unset, .unset] []) := by first | (simp [entryFrame, mkF, argsToLocals, Value.category, maxLocals]; done) | rfl
  refine own_start (fun P hPP => ?_)
  refine own_step (T' := s₁) (g' := (mkF m 0 #[.val (.int p1), .val (.int p2), .val (.long p3), .second, .unset, .unset, .unset] [])) (fun t_ k_ => castTop ef k_) ?_
  refine own_step (T' := s₁) (g' := (mkF m 1 #[.val (.int p1), .val (.int p2), .val (.long p3), .second, .unset, .unset, .unset] [(.int p1)])) (fun t_ k_ => XS.iloadN X0.here hx rfl (hb hby at_0) rfl k_) ?_
  refine own_step (T' := s₁) (g' := (mkF m 3 #[.val (.int p1), .val (.int p2), .val (.long p3), .second, .unset, .unset, .unset] [(.int (7 : Int32)), (.int p1)])) (fun t_ k_ => XS.bipush X0.here hx rfl (hb hby at_1) k_) ?_
  refine own_step (T' := s₁) (g' := (mkF m 4 #[.val (.int p1), .val (.int p2), .val (.long p3), .second, .unset, .unset, .unset] [(.int (p1 &&& (7 : Int32)))])) (fun t_ k_ => XS.iand X0.here hx rfl (hb hby at_3) rfl k_) ?_
  rw [hk]
  refine own_step (T' := s₁) (g' := (mkF m 6 #[.val (.int p1), .val (.int p2), .val (.long p3), .second, .val (.int (5 : Int32)), .unset, .unset] [])) (fun t_ k_ => XS.istore X0.here hx rfl (hb hby at_4) rfl (l' := #[.val (.int p1), .val (.int p2), .val (.long p3), .second, .val (.int (5 : Int32)), .unset, .unset]) rfl k_) ?_
  refine own_step (T' := s₁) (g' := (mkF m 8 #[.val (.int p1), .val (.int p2), .val (.long p3), .second, .val (.int (5 : Int32)), .unset, .unset] [(.int (5 : Int32))])) (fun t_ k_ => XS.iload X0.here hx rfl (hb hby at_6) rfl k_) ?_
  obtain ⟨T1, h1, k1, X1, e1, E1, A1, st1⟩ := newP X0 hx hZ (hw _ (List.mem_of_getElem? (i := 0) rfl)) e0 (g := (mkF m 8 #[.val (.int p1), .val (.int p2), .val (.long p3), .second, .val (.int (5 : Int32)), .unset, .unset] [(.int (5 : Int32))])) rfl (hb hby at_8) rfl (by decide) (cap := 5) (by decide) (by decide) (by decide) (by decide)
  obtain ⟨b1, g1⟩ : ∃ z, z = h0.size := ⟨_, rfl⟩
  rw [← g1] at A1 st1
  have ge_b1 : n0 ≤ b1 := Nat.le_trans Z0 (Nat.le_of_eq g1.symm)
  have z2 : n0 ≤ h1.size := Nat.le_trans Z0 E1.1
  have V1 : Arv Z h1 b1 k1 .byte (5 : Int32) [(.int (0 : Int32)), (.int (0 : Int32)), (.int (0 : Int32)), (.int (0 : Int32)), (.int (0 : Int32))] (.int (0 : Int32)) := (Arv.new A1 (by decide)).pad (pad_rep [] (.int (0 : Int32)) 5)
  refine own_step (T' := T1) (g' := (mkF m 10 #[.val (.int p1), .val (.int p2), .val (.long p3), .second, .val (.int (5 : Int32)), .unset, .unset] [(.ref b1)])) st1 ?_
  refine own_step (T' := T1) (g' := (mkF m 12 #[.val (.int p1), .val (.int p2), .val (.long p3), .second, .val (.int (5 : Int32)), .val (.ref b1), .unset] [])) (fun t_ k_ => XS.astore X1.here hx rfl (hb hby at_10) rfl rfl (l' := #[.val (.int p1), .val (.int p2), .val (.long p3), .second, .val (.int (5 : Int32)), .val (.ref b1), .unset]) rfl k_) ?_
  refine own_step (T' := T1) (g' := (mkF m 14 #[.val (.int p1), .val (.int p2), .val (.long p3), .second, .val (.int (5 : Int32)), .val (.ref b1), .unset] [(.int (5 : Int32))])) (fun t_ k_ => XS.iload X1.here hx rfl (hb hby at_12) rfl k_) ?_
  refine own_step (T' := T1) (g' := (mkF m 17 #[.val (.int p1), .val (.int p2), .val (.long p3), .second, .val (.int (5 : Int32)), .val (.ref b1), .unset] [])) (fun t_ k_ => XS.ifNo X1.here hx rfl (hb hby at_14) rfl ((if0 _ _).trans (tlt (by decide)).2.2.2) k_) ?_
  refine own_step (T' := T1) (g' := (mkF m 19 #[.val (.int p1), .val (.int p2), .val (.long p3), .second, .val (.int (5 : Int32)), .val (.ref b1), .unset] [(.ref b1)])) (fun t_ k_ => XS.aload X1.here hx rfl (hb hby at_17) rfl rfl k_) ?_
  refine own_step (T' := T1) (g' := (mkF m 20 #[.val (.int p1), .val (.int p2), .val (.long p3), .second, .val (.int (5 : Int32)), .val (.ref b1), .unset] [(.int (0 : Int32)), (.ref b1)])) (fun t_ k_ => XS.iconst X1.here hx rfl (hb hby at_19) k_) ?_
  refine own_step (T' := T1) (g' := (mkF m 21 #[.val (.int p1), .val (.int p2), .val (.long p3), .second, .val (.int (5 : Int32)), .val (.ref b1), .unset] [(.long p3), (.int (0 : Int32)), (.ref b1)])) (fun t_ k_ => XS.lloadN X1.here hx rfl (hb hby at_20) rfl k_) ?_
  refine own_step (T' := T1) (g' := (mkF m 22 #[.val (.int p1), .val (.int p2), .val (.long p3), .second, .val (.int (5 : Int32)), .val (.ref b1), .unset] [(.int (p3.toInt32)), (.int (0 : Int32)), (.ref b1)])) (fun t_ k_ => XS.l2i X1.here hx rfl (hb hby at_21) rfl k_) ?_
  refine own_step (T' := T1) (g' := (mkF m 23 #[.val (.int p1), .val (.int p2), .val (.long p3), .second, .val (.int (5 : Int32)), .val (.ref b1), .unset] [(.int ((p3.toInt32).toInt8.toInt32)), (.int (0 : Int32)), (.ref b1)])) (fun t_ k_ => XS.i2b X1.here hx rfl (hb hby at_22) rfl k_) ?_
  obtain ⟨cl3, Ar3, qk3, Sz3, Nz3, Hs3, Gs3⟩ := V1
  have hin3 := inb_of (j := (0 : Int32)) Sz3 ⟨by decide, by decide⟩
  obtain ⟨T3, h3, X3, e3, W3, st3⟩ := stB X1 hx hZ e1 Ar3 (j := (0 : Int32)) hin3 (g := (mkF m 23 #[.val (.int p1), .val (.int p2), .val (.long p3), .second, .val (.int (5 : Int32)), .val (.ref b1), .unset] [(.int ((p3.toInt32).toInt8.toInt32)), (.int (0 : Int32)), (.ref b1)])) rfl rfl (hb hby at_23)
  have V3 : Arv Z h3 b1 k1 .byte (5 : Int32) [(.int (nar .byte ((p3.toInt32).toInt8.toInt32))), (.int (0 : Int32)), (.int (0 : Int32)), (.int (0 : Int32)), (.int (0 : Int32))] (.int (0 : Int32)) := Arv.set Ar3 qk3 Sz3 Nz3 Hs3 Gs3 (fits_nar_byte _) W3 0 rfl (Nat.le_of_ble_eq_true rfl)
  have N3 := Fr.snoc X3 N0 ge_b1
  have z5 : n0 ≤ h3.size := Nat.le_trans z2 (Keep.of_wr W3).1
  refine own_step (T' := T3) (g' := (mkF m 24 #[.val (.int p1), .val (.int p2), .val (.long p3), .second, .val (.int (5 : Int32)), .val (.ref b1), .unset] [])) st3 ?_
  refine own_step (T' := T3) (g' := (mkF m 26 #[.val (.int p1), .val (.int p2), .val (.long p3), .second, .val (.int (5 : Int32)), .val (.ref b1), .unset] [(.int (5 : Int32))])) (fun t_ k_ => XS.iload X3.here hx rfl (hb hby at_24) rfl k_) ?_
  refine own_step (T' := T3) (g' := (mkF m 27 #[.val (.int p1), .val (.int p2), .val (.long p3), .second, .val (.int (5 : Int32)), .val (.ref b1), .unset] [(.int (1 : Int32)), (.int (5 : Int32))])) (fun t_ k_ => XS.iconst X3.here hx rfl (hb hby at_26) k_) ?_
  refine own_step (T' := T3) (g' := (mkF m 30 #[.val (.int p1), .val (.int p2), .val (.long p3), .second, .val (.int (5 : Int32)), .val (.ref b1), .unset] [])) (fun t_ k_ => XS.icmpNo X3.here hx rfl (hb hby at_27) rfl (tlt (by decide)).2.2.2 k_) ?_
  refine own_step (T' := T3) (g' := (mkF m 32 #[.val (.int p1), .val (.int p2), .val (.long p3), .second, .val (.int (5 : Int32)), .val (.ref b1), .unset] [(.ref b1)])) (fun t_ k_ => XS.aload X3.here hx rfl (hb hby at_30) rfl rfl k_) ?_
  refine own_step (T' := T3) (g' := (mkF m 33 #[.val (.int p1), .val (.int p2), .val (.long p3), .second, .val (.int (5 : Int32)), .val (.ref b1), .unset] [(.int (1 : Int32)), (.ref b1)])) (fun t_ k_ => XS.iconst X3.here hx rfl (hb hby at_32) k_) ?_
  refine own_step (T' := T3) (g' := (mkF m 34 #[.val (.int p1), .val (.int p2), .val (.long p3), .second, .val (.int (5 : Int32)), .val (.ref b1), .unset] [(.long p3), (.int (1 : Int32)), (.ref b1)])) (fun t_ k_ => XS.lloadN X3.here hx rfl (hb hby at_33) rfl k_) ?_
  refine own_step (T' := T3) (g' := (mkF m 36 #[.val (.int p1), .val (.int p2), .val (.long p3), .second, .val (.int (5 : Int32)), .val (.ref b1), .unset] [(.int (8 : Int32)), (.long p3), (.int (1 : Int32)), (.ref b1)])) (fun t_ k_ => XS.bipush X3.here hx rfl (hb hby at_34) k_) ?_
  refine own_step (T' := T3) (g' := (mkF m 37 #[.val (.int p1), .val (.int p2), .val (.long p3), .second, .val (.int (5 : Int32)), .val (.ref b1), .unset] [(.long (Jvm.Free.XT.ushrL p3 (8 : Int32))), (.int (1 : Int32)), (.ref b1)])) (fun t_ k_ => XT.lushr X3.here hx rfl (hb hby at_36) rfl k_) ?_
  refine own_step (T' := T3) (g' := (mkF m 38 #[.val (.int p1), .val (.int p2), .val (.long p3), .second, .val (.int (5 : Int32)), .val (.ref b1), .unset] [(.int ((Jvm.Free.XT.ushrL p3 (8 : Int32)).toInt32)), (.int (1 : Int32)), (.ref b1)])) (fun t_ k_ => XS.l2i X3.here hx rfl (hb hby at_37) rfl k_) ?_
  refine own_step (T' := T3) (g' := (mkF m 39 #[.val (.int p1), .val (.int p2), .val (.long p3), .second, .val (.int (5 : Int32)), .val (.ref b1), .unset] [(.int (((Jvm.Free.XT.ushrL p3 (8 : Int32)).toInt32).toInt8.toInt32)), (.int (1 : Int32)), (.ref b1)])) (fun t_ k_ => XS.i2b X3.here hx rfl (hb hby at_38) rfl k_) ?_
  obtain ⟨cl6, Ar6, qk6, Sz6, Nz6, Hs6, Gs6⟩ := V3
  have hin6 := inb_of (j := (1 : Int32)) Sz6 ⟨by decide, by decide⟩
  obtain ⟨T6, h6, X6, e6, W6, st6⟩ := stB X3 hx hZ e3 Ar6 (j := (1 : Int32)) hin6 (g := (mkF m 39 #[.val (.int p1), .val (.int p2), .val (.long p3), .second, .val (.int (5 : Int32)), .val (.ref b1), .unset] [(.int (((Jvm.Free.XT.ushrL p3 (8 : Int32)).toInt32).toInt8.toInt32)), (.int (1 : Int32)), (.ref b1)])) rfl rfl (hb hby at_39)
  have V6 : Arv Z h6 b1 k1 .byte (5 : Int32) [(.int (nar .byte ((p3.toInt32).toInt8.toInt32))), (.int (nar .byte (((Jvm.Free.XT.ushrL p3 (8 : Int32)).toInt32).toInt8.toInt32))), (.int (0 : Int32)), (.int (0 : Int32)), (.int (0 : Int32))] (.int (0 : Int32)) := Arv.set Ar6 qk6 Sz6 Nz6 Hs6 Gs6 (fits_nar_byte _) W6 1 rfl (Nat.le_of_ble_eq_true rfl)
  have N6 := Fr.snoc X6 N3 ge_b1
  have z8 : n0 ≤ h6.size := Nat.le_trans z5 (Keep.of_wr W6).1
  refine own_step (T' := T6) (g' := (mkF m 40 #[.val (.int p1), .val (.int p2), .val (.long p3), .second, .val (.int (5 : Int32)), .val (.ref b1), .unset] [])) st6 ?_
  refine own_step (T' := T6) (g' := (mkF m 42 #[.val (.int p1), .val (.int p2), .val (.long p3), .second, .val (.int (5 : Int32)), .val (.ref b1), .unset] [(.int (5 : Int32))])) (fun t_ k_ => XS.iload X6.here hx rfl (hb hby at_40) rfl k_) ?_
  refine own_step (T' := T6) (g' := (mkF m 43 #[.val (.int p1), .val (.int p2), .val (.long p3), .second, .val (.int (5 : Int32)), .val (.ref b1), .unset] [(.int (2 : Int32)), (.int (5 : Int32))])) (fun t_ k_ => XS.iconst X6.here hx rfl (hb hby at_42) k_) ?_
  refine own_step (T' := T6) (g' := (mkF m 46 #[.val (.int p1), .val (.int p2), .val (.long p3), .second, .val (.int (5 : Int32)), .val (.ref b1), .unset] [])) (fun t_ k_ => XS.icmpNo X6.here hx rfl (hb hby at_43) rfl (tlt (by decide)).2.2.2 k_) ?_
  refine own_step (T' := T6) (g' := (mkF m 48 #[.val (.int p1), .val (.int p2), .val (.long p3), .second, .val (.int (5 : Int32)), .val (.ref b1), .unset] [(.ref b1)])) (fun t_ k_ => XS.aload X6.here hx rfl (hb hby at_46) rfl rfl k_) ?_
  refine own_step (T' := T6) (g' := (mkF m 49 #[.val (.int p1), .val (.int p2), .val (.long p3), .second, .val (.int (5 : Int32)), .val (.ref b1), .unset] [(.int (2 : Int32)), (.ref b1)])) (fun t_ k_ => XS.iconst X6.here hx rfl (hb hby at_48) k_) ?_
  refine own_step (T' := T6) (g' := (mkF m 50 #[.val (.int p1), .val (.int p2), .val (.long p3), .second, .val (.int (5 : Int32)), .val (.ref b1), .unset] [(.long p3), (.int (2 : Int32)), (.ref b1)])) (fun t_ k_ => XS.lloadN X6.here hx rfl (hb hby at_49) rfl k_) ?_
  refine own_step (T' := T6) (g' := (mkF m 52 #[.val (.int p1), .val (.int p2), .val (.long p3), .second, .val (.int (5 : Int32)), .val (.ref b1), .unset] [(.int (16 : Int32)), (.long p3), (.int (2 : Int32)), (.ref b1)])) (fun t_ k_ => XS.bipush X6.here hx rfl (hb hby at_50) k_) ?_
  refine own_step (T' := T6) (g' := (mkF m 53 #[.val (.int p1), .val (.int p2), .val (.long p3), .second, .val (.int (5 : Int32)), .val (.ref b1), .unset] [(.long (Jvm.Free.XT.ushrL p3 (16 : Int32))), (.int (2 : Int32)), (.ref b1)])) (fun t_ k_ => XT.lushr X6.here hx rfl (hb hby at_52) rfl k_) ?_
  refine own_step (T' := T6) (g' := (mkF m 54 #[.val (.int p1), .val (.int p2), .val (.long p3), .second, .val (.int (5 : Int32)), .val (.ref b1), .unset] [(.int ((Jvm.Free.XT.ushrL p3 (16 : Int32)).toInt32)), (.int (2 : Int32)), (.ref b1)])) (fun t_ k_ => XS.l2i X6.here hx rfl (hb hby at_53) rfl k_) ?_
  refine own_step (T' := T6) (g' := (mkF m 55 #[.val (.int p1), .val (.int p2), .val (.long p3), .second, .val (.int (5 : Int32)), .val (.ref b1), .unset] [(.int (((Jvm.Free.XT.ushrL p3 (16 : Int32)).toInt32).toInt8.toInt32)), (.int (2 : Int32)), (.ref b1)])) (fun t_ k_ => XS.i2b X6.here hx rfl (hb hby at_54) rfl k_) ?_
  obtain ⟨cl9, Ar9, qk9, Sz9, Nz9, Hs9, Gs9⟩ := V6
  have hin9 := inb_of (j := (2 : Int32)) Sz9 ⟨by decide, by decide⟩
  obtain ⟨T9, h9, X9, e9, W9, st9⟩ := stB X6 hx hZ e6 Ar9 (j := (2 : Int32)) hin9 (g := (mkF m 55 #[.val (.int p1), .val (.int p2), .val (.long p3), .second, .val (.int (5 : Int32)), .val (.ref b1), .unset] [(.int (((Jvm.Free.XT.ushrL p3 (16 : Int32)).toInt32).toInt8.toInt32)), (.int (2 : Int32)), (.ref b1)])) rfl rfl (hb hby at_55)
  have V9 : Arv Z h9 b1 k1 .byte (5 : Int32) [(.int (nar .byte ((p3.toInt32).toInt8.toInt32))), (.int (nar .byte (((Jvm.Free.XT.ushrL p3 (8 : Int32)).toInt32).toInt8.toInt32))), (.int (nar .byte (((Jvm.Free.XT.ushrL p3 (16 : Int32)).toInt32).toInt8.toInt32))), (.int (0 : Int32)), (.int (0 : Int32))] (.int (0 : Int32)) := Arv.set Ar9 qk9 Sz9 Nz9 Hs9 Gs9 (fits_nar_byte _) W9 2 rfl (Nat.le_of_ble_eq_true rfl)
  have N9 := Fr.snoc X9 N6 ge_b1
  have z11 : n0 ≤ h9.size := Nat.le_trans z8 (Keep.of_wr W9).1
  refine own_step (T' := T9) (g' := (mkF m 56 #[.val (.int p1), .val (.int p2), .val (.long p3), .second, .val (.int (5 : Int32)), .val (.ref b1), .unset] [])) st9 ?_
  refine own_step (T' := T9) (g' := (mkF m 58 #[.val (.int p1), .val (.int p2), .val (.long p3), .second, .val (.int (5 : Int32)), .val (.ref b1), .unset] [(.int (5 : Int32))])) (fun t_ k_ => XS.iload X9.here hx rfl (hb hby at_56) rfl k_) ?_
  refine own_step (T' := T9) (g' := (mkF m 59 #[.val (.int p1), .val (.int p2), .val (.long p3), .second, .val (.int (5 : Int32)), .val (.ref b1), .unset] [(.int (3 : Int32)), (.int (5 : Int32))])) (fun t_ k_ => XS.iconst X9.here hx rfl (hb hby at_58) k_) ?_
  refine own_step (T' := T9) (g' := (mkF m 62 #[.val (.int p1), .val (.int p2), .val (.long p3), .second, .val (.int (5 : Int32)), .val (.ref b1), .unset] [])) (fun t_ k_ => XS.icmpNo X9.here hx rfl (hb hby at_59) rfl (tlt (by decide)).2.2.2 k_) ?_
  refine own_step (T' := T9) (g' := (mkF m 64 #[.val (.int p1), .val (.int p2), .val (.long p3), .second, .val (.int (5 : Int32)), .val (.ref b1), .unset] [(.ref b1)])) (fun t_ k_ => XS.aload X9.here hx rfl (hb hby at_62) rfl rfl k_) ?_
  refine own_step (T' := T9) (g' := (mkF m 65 #[.val (.int p1), .val (.int p2), .val (.long p3), .second, .val (.int (5 : Int32)), .val (.ref b1), .unset] [(.int (3 : Int32)), (.ref b1)])) (fun t_ k_ => XS.iconst X9.here hx rfl (hb hby at_64) k_) ?_
  refine own_step (T' := T9) (g' := (mkF m 66 #[.val (.int p1), .val (.int p2), .val (.long p3), .second, .val (.int (5 : Int32)), .val (.ref b1), .unset] [(.long p3), (.int (3 : Int32)), (.ref b1)])) (fun t_ k_ => XS.lloadN X9.here hx rfl (hb hby at_65) rfl k_) ?_
  refine own_step (T' := T9) (g' := (mkF m 68 #[.val (.int p1), .val (.int p2), .val (.long p3), .second, .val (.int (5 : Int32)), .val (.ref b1), .unset] [(.int (24 : Int32)), (.long p3), (.int (3 : Int32)), (.ref b1)])) (fun t_ k_ => XS.bipush X9.here hx rfl (hb hby at_66) k_) ?_
  refine own_step (T' := T9) (g' := (mkF m 69 #[.val (.int p1), .val (.int p2), .val (.long p3), .second, .val (.int (5 : Int32)), .val (.ref b1), .unset] [(.long (Jvm.Free.XT.ushrL p3 (24 : Int32))), (.int (3 : Int32)), (.ref b1)])) (fun t_ k_ => XT.lushr X9.here hx rfl (hb hby at_68) rfl k_) ?_
  refine own_step (T' := T9) (g' := (mkF m 70 #[.val (.int p1), .val (.int p2), .val (.long p3), .second, .val (.int (5 : Int32)), .val (.ref b1), .unset] [(.int ((Jvm.Free.XT.ushrL p3 (24 : Int32)).toInt32)), (.int (3 : Int32)), (.ref b1)])) (fun t_ k_ => XS.l2i X9.here hx rfl (hb hby at_69) rfl k_) ?_
  refine own_step (T' := T9) (g' := (mkF m 71 #[.val (.int p1), .val (.int p2), .val (.long p3), .second, .val (.int (5 : Int32)), .val (.ref b1), .unset] [(.int (((Jvm.Free.XT.ushrL p3 (24 : Int32)).toInt32).toInt8.toInt32)), (.int (3 : Int32)), (.ref b1)])) (fun t_ k_ => XS.i2b X9.here hx rfl (hb hby at_70) rfl k_) ?_
  obtain ⟨cl12, Ar12, qk12, Sz12, Nz12, Hs12, Gs12⟩ := V9
  have hin12 := inb_of (j := (3 : Int32)) Sz12 ⟨by decide, by decide⟩
  obtain ⟨T12, h12, X12, e12, W12, st12⟩ := stB X9 hx hZ e9 Ar12 (j := (3 : Int32)) hin12 (g := (mkF m 71 #[.val (.int p1), .val (.int p2), .val (.long p3), .second, .val (.int (5 : Int32)), .val (.ref b1), .unset] [(.int (((Jvm.Free.XT.ushrL p3 (24 : Int32)).toInt32).toInt8.toInt32)), (.int (3 : Int32)), (.ref b1)])) rfl rfl (hb hby at_71)
  have V12 : Arv Z h12 b1 k1 .byte (5 : Int32) [(.int (nar .byte ((p3.toInt32).toInt8.toInt32))), (.int (nar .byte (((Jvm.Free.XT.ushrL p3 (8 : Int32)).toInt32).toInt8.toInt32))), (.int (nar .byte (((Jvm.Free.XT.ushrL p3 (16 : Int32)).toInt32).toInt8.toInt32))), (.int (nar .byte (((Jvm.Free.XT.ushrL p3 (24 : Int32)).toInt32).toInt8.toInt32))), (.int (0 : Int32))] (.int (0 : Int32)) := Arv.set Ar12 qk12 Sz12 Nz12 Hs12 Gs12 (fits_nar_byte _) W12 3 rfl (Nat.le_of_ble_eq_true rfl)
  have N12 := Fr.snoc X12 N9 ge_b1
  have z14 : n0 ≤ h12.size := Nat.le_trans z11 (Keep.of_wr W12).1
  refine own_step (T' := T12) (g' := (mkF m 72 #[.val (.int p1), .val (.int p2), .val (.long p3), .second, .val (.int (5 : Int32)), .val (.ref b1), .unset] [])) st12 ?_
  refine own_step (T' := T12) (g' := (mkF m 74 #[.val (.int p1), .val (.int p2), .val (.long p3), .second, .val (.int (5 : Int32)), .val (.ref b1), .unset] [(.int (5 : Int32))])) (fun t_ k_ => XS.iload X12.here hx rfl (hb hby at_72) rfl k_) ?_
  refine own_step (T' := T12) (g' := (mkF m 75 #[.val (.int p1), .val (.int p2), .val (.long p3), .second, .val (.int (5 : Int32)), .val (.ref b1), .unset] [(.int (4 : Int32)), (.int (5 : Int32))])) (fun t_ k_ => XS.iconst X12.here hx rfl (hb hby at_74) k_) ?_
  refine own_step (T' := T12) (g' := (mkF m 78 #[.val (.int p1), .val (.int p2), .val (.long p3), .second, .val (.int (5 : Int32)), .val (.ref b1), .unset] [])) (fun t_ k_ => XS.icmpNo X12.here hx rfl (hb hby at_75) rfl (tlt (by decide)).2.2.2 k_) ?_
  refine own_step (T' := T12) (g' := (mkF m 80 #[.val (.int p1), .val (.int p2), .val (.long p3), .second, .val (.int (5 : Int32)), .val (.ref b1), .unset] [(.ref b1)])) (fun t_ k_ => XS.aload X12.here hx rfl (hb hby at_78) rfl rfl k_) ?_
  refine own_step (T' := T12) (g' := (mkF m 81 #[.val (.int p1), .val (.int p2), .val (.long p3), .second, .val (.int (5 : Int32)), .val (.ref b1), .unset] [(.int (4 : Int32)), (.ref b1)])) (fun t_ k_ => XS.iconst X12.here hx rfl (hb hby at_80) k_) ?_
  refine own_step (T' := T12) (g' := (mkF m 82 #[.val (.int p1), .val (.int p2), .val (.long p3), .second, .val (.int (5 : Int32)), .val (.ref b1), .unset] [(.long p3), (.int (4 : Int32)), (.ref b1)])) (fun t_ k_ => XS.lloadN X12.here hx rfl (hb hby at_81) rfl k_) ?_
  refine own_step (T' := T12) (g' := (mkF m 84 #[.val (.int p1), .val (.int p2), .val (.long p3), .second, .val (.int (5 : Int32)), .val (.ref b1), .unset] [(.int (32 : Int32)), (.long p3), (.int (4 : Int32)), (.ref b1)])) (fun t_ k_ => XS.bipush X12.here hx rfl (hb hby at_82) k_) ?_
  refine own_step (T' := T12) (g' := (mkF m 85 #[.val (.int p1), .val (.int p2), .val (.long p3), .second, .val (.int (5 : Int32)), .val (.ref b1), .unset] [(.long (Jvm.Free.XT.ushrL p3 (32 : Int32))), (.int (4 : Int32)), (.ref b1)])) (fun t_ k_ => XT.lushr X12.here hx rfl (hb hby at_84) rfl k_) ?_
  refine own_step (T' := T12) (g' := (mkF m 86 #[.val (.int p1), .val (.int p2), .val (.long p3), .second, .val (.int (5 : Int32)), .val (.ref b1), .unset] [(.int ((Jvm.Free.XT.ushrL p3 (32 : Int32)).toInt32)), (.int (4 : Int32)), (.ref b1)])) (fun t_ k_ => XS.l2i X12.here hx rfl (hb hby at_85) rfl k_) ?_
  refine own_step (T' := T12) (g' := (mkF m 87 #[.val (.int p1), .val (.int p2), .val (.long p3), .second, .val (.int (5 : Int32)), .val (.ref b1), .unset] [(.int (((Jvm.Free.XT.ushrL p3 (32 : Int32)).toInt32).toInt8.toInt32)), (.int (4 : Int32)), (.ref b1)])) (fun t_ k_ => XS.i2b X12.here hx rfl (hb hby at_86) rfl k_) ?_
  obtain ⟨cl15, Ar15, qk15, Sz15, Nz15, Hs15, Gs15⟩ := V12
  have hin15 := inb_of (j := (4 : Int32)) Sz15 ⟨by decide, by decide⟩
  obtain ⟨T15, h15, X15, e15, W15, st15⟩ := stB X12 hx hZ e12 Ar15 (j := (4 : Int32)) hin15 (g := (mkF m 87 #[.val (.int p1), .val (.int p2), .val (.long p3), .second, .val (.int (5 : Int32)), .val (.ref b1), .unset] [(.int (((Jvm.Free.XT.ushrL p3 (32 : Int32)).toInt32).toInt8.toInt32)), (.int (4 : Int32)), (.ref b1)])) rfl rfl (hb hby at_87)
  have V15 : Arv Z h15 b1 k1 .byte (5 : Int32) [(.int (nar .byte ((p3.toInt32).toInt8.toInt32))), (.int (nar .byte (((Jvm.Free.XT.ushrL p3 (8 : Int32)).toInt32).toInt8.toInt32))), (.int (nar .byte (((Jvm.Free.XT.ushrL p3 (16 : Int32)).toInt32).toInt8.toInt32))), (.int (nar .byte (((Jvm.Free.XT.ushrL p3 (24 : Int32)).toInt32).toInt8.toInt32))), (.int (nar .byte (((Jvm.Free.XT.ushrL p3 (32 : Int32)).toInt32).toInt8.toInt32)))] (.int (0 : Int32)) := Arv.set Ar15 qk15 Sz15 Nz15 Hs15 Gs15 (fits_nar_byte _) W15 4 rfl (Nat.le_of_ble_eq_true rfl)
  have N15 := Fr.snoc X15 N12 ge_b1
  have z17 : n0 ≤ h15.size := Nat.le_trans z14 (Keep.of_wr W15).1
  refine own_step (T' := T15) (g' := (mkF m 88 #[.val (.int p1), .val (.int p2), .val (.long p3), .second, .val (.int (5 : Int32)), .val (.ref b1), .unset] [])) st15 ?_
  refine own_step (T' := T15) (g' := (mkF m 90 #[.val (.int p1), .val (.int p2), .val (.long p3), .second, .val (.int (5 : Int32)), .val (.ref b1), .unset] [(.int (5 : Int32))])) (fun t_ k_ => XS.iload X15.here hx rfl (hb hby at_88) rfl k_) ?_
  refine own_step (T' := T15) (g' := (mkF m 91 #[.val (.int p1), .val (.int p2), .val (.long p3), .second, .val (.int (5 : Int32)), .val (.ref b1), .unset] [(.int (5 : Int32)), (.int (5 : Int32))])) (fun t_ k_ => XS.iconst X15.here hx rfl (hb hby at_90) k_) ?_
  refine own_step (T' := T15) (g' := (mkF m 100 #[.val (.int p1), .val (.int p2), .val (.long p3), .second, .val (.int (5 : Int32)), .val (.ref b1), .unset] [])) (fun t_ k_ => XS.icmpYes X15.here hx rfl (pc0 := 91) (pc' := 100) rfl (hb hby at_91) rfl (flt (by decide)).2.2.2 (by decide) (by decide) k_) ?_
  refine own_step (T' := T15) (g' := (mkF m 102 #[.val (.int p1), .val (.int p2), .val (.long p3), .second, .val (.int (5 : Int32)), .val (.ref b1), .unset] [(.int (5 : Int32))])) (fun t_ k_ => XS.iload X15.here hx rfl (hb hby at_100) rfl k_) ?_
  refine own_step (T' := T15) (g' := (mkF m 104 #[.val (.int p1), .val (.int p2), .val (.long p3), .second, .val (.int (5 : Int32)), .val (.ref b1), .unset] [(.int (6 : Int32)), (.int (5 : Int32))])) (fun t_ k_ => XS.bipush X15.here hx rfl (hb hby at_102) k_) ?_
  refine own_step (T' := T15) (g' := (mkF m 118 #[.val (.int p1), .val (.int p2), .val (.long p3), .second, .val (.int (5 : Int32)), .val (.ref b1), .unset] [])) (fun t_ k_ => XS.icmpYes X15.here hx rfl (pc0 := 104) (pc' := 118) rfl (hb hby at_104) rfl (flt (by decide)).2.2.2 (by decide) (by decide) k_) ?_
  refine own_step (T' := T15) (g' := (mkF m 120 #[.val (.int p1), .val (.int p2), .val (.long p3), .second, .val (.int (5 : Int32)), .val (.ref b1), .unset] [(.int (5 : Int32))])) (fun t_ k_ => XS.iload X15.here hx rfl (hb hby at_118) rfl k_) ?_
  refine own_step (T' := T15) (g' := (mkF m 122 #[.val (.int p1), .val (.int p2), .val (.long p3), .second, .val (.int (5 : Int32)), .val (.ref b1), .unset] [(.int (6 : Int32)), (.int (5 : Int32))])) (fun t_ k_ => XS.bipush X15.here hx rfl (hb hby at_120) k_) ?_
  refine own_step (T' := T15) (g' := (mkF m 139 #[.val (.int p1), .val (.int p2), .val (.long p3), .second, .val (.int (5 : Int32)), .val (.ref b1), .unset] [])) (fun t_ k_ => XS.icmpYes X15.here hx rfl (pc0 := 122) (pc' := 139) rfl (hb hby at_122) rfl (tlt (by decide)).1 (by decide) (by decide) k_) ?_
  refine own_step (T' := T15) (g' := (mkF m 140 #[.val (.int p1), .val (.int p2), .val (.long p3), .second, .val (.int (5 : Int32)), .val (.ref b1), .unset] [(.int (0 : Int32))])) (fun t_ k_ => XS.iconst X15.here hx rfl (hb hby at_139) k_) ?_
  refine own_step (T' := T15) (g' := (mkF m 142 #[.val (.int p1), .val (.int p2), .val (.long p3), .second, .val (.int (5 : Int32)), .val (.ref b1), .val (.int (0 : Int32))] [])) (fun t_ k_ => XS.istore X15.here hx rfl (hb hby at_140) rfl (l' := #[.val (.int p1), .val (.int p2), .val (.long p3), .second, .val (.int (5 : Int32)), .val (.ref b1), .val (.int (0 : Int32))]) rfl k_) ?_
  refine own_step (T' := T15) (g' := (mkF m 144 #[.val (.int p1), .val (.int p2), .val (.long p3), .second, .val (.int (5 : Int32)), .val (.ref b1), .val (.int (0 : Int32))] [(.ref b1)])) (fun t_ k_ => XS.aload X15.here hx rfl (hb hby at_142) rfl rfl k_) ?_
  obtain ⟨cl19, Ar19, qk19, Sz19, Nz19, Hs19, Gs19⟩ := V15
  obtain ⟨_, _, ⟨T18, L18, k18, n18⟩, -, X18, ⟨Lc18, hQ18, l18, y18, z18⟩, st18⟩ := Jvm.LawKit.callS X15 hx (y := (⟨"com/example/hushed_flood/hushedflood/tcp/Control", "isControl", "([B)Z"⟩ : MethodName)) hown (mvT hZ (hw _ (List.mem_of_getElem? (i := 1) rfl))) (mvT hZ (hw _ (List.mem_of_getElem? (i := 2) rfl))) (mvT hZ (hw _ (List.mem_of_getElem? (i := 3) rfl))) (mvT hZ (hw _ (List.mem_of_getElem? (i := 4) rfl))) (by decide) (backOf (W := 0) (rm1 l Z a0 hw [] b1 cl19 (5 : Int32) (0 : Int32) h15 n0 z17 Ar19 Sz19 Nz19 (fun h => absurd h (by decide))) hZ (hw _ (List.mem_of_getElem? (i := 4) rfl)) (hw _ (List.mem_of_getElem? (i := 3) rfl)) (by decide) (by decide)) (g := (mkF m 144 #[.val (.int p1), .val (.int p2), .val (.long p3), .second, .val (.int (5 : Int32)), .val (.ref b1), .val (.int (0 : Int32))] [(.ref b1)])) rfl (by rw [hml]; rfl) (argsL := [(.ref b1)]) (rest := []) (lenOf (by decide +kernel : parseMethodDescriptor "([B)Z" = some ⟨[(.array .byte)], some .boolean⟩) rfl) rfl (by show 2 * 0 + _ ≤ _; exact Nat.le_of_eq rfl) (hb hby at_144) (fun _ _ => ⟨rfl, e15, (by decide : 1 + 0 ≤ _), (by decide : 5 + 0 ≤ _)⟩)
  dsimp only [Pt.U, Pt.locs, Pt.cells, Pt.slots] at X18 l18 y18 z18 st18 hQ18
  subst l18 y18 z18
  obtain ⟨rfl, Nq18, e18⟩ := hQ18
  have N18 := Fr.app N15 Nq18
  refine own_step (T' := T18) (g' := (mkF m 147 #[.val (.int p1), .val (.int p2), .val (.long p3), .second, .val (.int (5 : Int32)), .val (.ref b1), .val (.int (0 : Int32))] [(.int (own_ctl (5 : Int32) (0 : Int32)))])) st18 ?_
  refine own_step (T' := T18) (g' := (mkF m 149 #[.val (.int p1), .val (.int p2), .val (.long p3), .second, .val (.int (5 : Int32)), .val (.ref b1), .val (.int (0 : Int32))] [(.int (0 : Int32)), (.int (own_ctl (5 : Int32) (0 : Int32)))])) (fun t_ k_ => XS.iload X18.here hx rfl (hb hby at_147) rfl k_) ?_
  refine own_step (T' := T18) (g' := (mkF m 152 #[.val (.int p1), .val (.int p2), .val (.long p3), .second, .val (.int (5 : Int32)), .val (.ref b1), .val (.int (0 : Int32))] [])) (fun t_ k_ => XS.icmpNo X18.here hx rfl (hb hby at_149) rfl (teq (by simp [own_ctl])).2 k_) ?_
  refine own_step (T' := T18) (g' := (mkF m 153 #[.val (.int p1), .val (.int p2), .val (.long p3), .second, .val (.int (5 : Int32)), .val (.ref b1), .val (.int (0 : Int32))] [(.int (1 : Int32))])) (fun t_ k_ => XS.iconst X18.here hx rfl (hb hby at_152) k_) ?_
  refine own_step (T' := T18) (g' := (mkF m 157 #[.val (.int p1), .val (.int p2), .val (.long p3), .second, .val (.int (5 : Int32)), .val (.ref b1), .val (.int (0 : Int32))] [(.int (1 : Int32))])) (fun t_ k_ => XS.goto X18.here hx rfl (pc0 := 153) (pc' := 157) rfl (hb hby at_153) (by decide) (by decide) k_) ?_
  obtain ⟨fs, hrR, hrun, hended, hWW, hsame⟩ := X18.leave (v := some (.int (1 : Int32))) (fun h => by rw [Bd.returns] at h; cases h)
  refine ⟨_, _, own_retZ X18 hx (t := .boolean) Bd.returns (by simp) (by decide) (hb hby at_157) hrR, hrun, hended, hPP _ _ ⟨_, _, rfl, ?_, ⟨_, rfl⟩, hWW, hsame.mono (by decide) (by decide)⟩⟩
  show Q0 n0 _ T18.heap _
  rw [e18]
  exact ⟨rfl, N18⟩
set_option maxRecDepth 65536 in
set_option maxHeartbeats 40000000 in
theorem rm0_6 (l : Launch) (Z : State) (a0 : Array Value) (hw : ∀ d ∈ tables_1, d.before a0 Z = true) (ws : List Jvm.Cond) (p1 p2 : Int32) (p3 : Int64) (h0 : Heap) (n0 : Nat) (Z0 : n0 ≤ h0.size) (hk : p1 &&& 7 = 6) :
    MetFree l x (head1 (Jvm.Cond.code x code maxLocals ret :: ws) room_1) (fun a U => a = #[(.int p1), (.int p2), (.long p3)] ∧ Z.Warmed39 U.vm ∧ U.heap = h0) (fun _ _ _ _ _ => True) (fun _ U o U' => ∃ v L, o = .returned v ∧ Q0 n0 v U'.heap L ∧ FrameEnd U o U' L 16 128) := by
  refine MetFree.of_bodySF (plainFor_of_name (by first | (simp [plainName, overriddenIn]; done) | decide +kernel)) hisR ?_
  intro p e s m args below meth c s₁ Bd hml0 hP hK
  obtain ⟨rfl, hZ, hh⟩ := hP
  have hx := Bd.exec
  have hby := Bd.bytes
  have hml : c.maxLocals = 7 := hml0
  have hown : s.vm.findClass "com/example/hushed_flood/hushedflood/tcp/ControlIsControlPinLaw" = some m.cls := findClass_of_methodNamed Bd.named
  have hnm := (name_of_methodNamed Bd.named Bd.method).1
  have X0 : Stand p l e room_1 s m #[(.int p1), (.int p2), (.long p3)] below meth c s₁ [] 0 0 := Stand.of_body Bd
  have e0 : s₁.heap = h0 := by rw [← hh, Bd.state]; rfl
  have N0 := Fr.nil n0
  have ef : entryFrame m #[(.int p1), (.int p2), (.long p3)] maxLocals = (mkF m 0 #[.val (.int p1), .val (.int p2), .val (.long p3), .second, .unset, .unset, .unset] []) := by first | (simp [entryFrame, mkF, argsToLocals, Value.category, maxLocals]; done) | rfl
  refine own_start (fun P hPP => ?_)
  refine own_step (T' := s₁) (g' := (mkF m 0 #[.val (.int p1), .val (.int p2), .val (.long p3), .second, .unset, .unset, .unset] [])) (fun t_ k_ => castTop ef k_) ?_
  refine own_step (T' := s₁) (g' := (mkF m 1 #[.val (.int p1), .val (.int p2), .val (.long p3), .second, .unset, .unset, .unset] [(.int p1)])) (fun t_ k_ => XS.iloadN X0.here hx rfl (hb hby at_0) rfl k_) ?_
  refine own_step (T' := s₁) (g' := (mkF m 3 #[.val (.int p1), .val (.int p2), .val (.long p3), .second, .unset, .unset, .unset] [(.int (7 : Int32)), (.int p1)])) (fun t_ k_ => XS.bipush X0.here hx rfl (hb hby at_1) k_) ?_
  refine own_step (T' := s₁) (g' := (mkF m 4 #[.val (.int p1), .val (.int p2), .val (.long p3), .second, .unset, .unset, .unset] [(.int (p1 &&& (7 : Int32)))])) (fun t_ k_ => XS.iand X0.here hx rfl (hb hby at_3) rfl k_) ?_
  rw [hk]
  refine own_step (T' := s₁) (g' := (mkF m 6 #[.val (.int p1), .val (.int p2), .val (.long p3), .second, .val (.int (6 : Int32)), .unset, .unset] [])) (fun t_ k_ => XS.istore X0.here hx rfl (hb hby at_4) rfl (l' := #[.val (.int p1), .val (.int p2), .val (.long p3), .second, .val (.int (6 : Int32)), .unset, .unset]) rfl k_) ?_
  refine own_step (T' := s₁) (g' := (mkF m 8 #[.val (.int p1), .val (.int p2), .val (.long p3), .second, .val (.int (6 : Int32)), .unset, .unset] [(.int (6 : Int32))])) (fun t_ k_ => XS.iload X0.here hx rfl (hb hby at_6) rfl k_) ?_
  obtain ⟨T1, h1, k1, X1, e1, E1, A1, st1⟩ := newP X0 hx hZ (hw _ (List.mem_of_getElem? (i := 0) rfl)) e0 (g := (mkF m 8 #[.val (.int p1), .val (.int p2), .val (.long p3), .second, .val (.int (6 : Int32)), .unset, .unset] [(.int (6 : Int32))])) rfl (hb hby at_8) rfl (by decide) (cap := 6) (by decide) (by decide) (by decide) (by decide)
  obtain ⟨b1, g1⟩ : ∃ z, z = h0.size := ⟨_, rfl⟩
  rw [← g1] at A1 st1
  have ge_b1 : n0 ≤ b1 := Nat.le_trans Z0 (Nat.le_of_eq g1.symm)
  have z2 : n0 ≤ h1.size := Nat.le_trans Z0 E1.1
  have V1 : Arv Z h1 b1 k1 .byte (6 : Int32) [(.int (0 : Int32)), (.int (0 : Int32)), (.int (0 : Int32)), (.int (0 : Int32)), (.int (0 : Int32)), (.int (0 : Int32))] (.int (0 : Int32)) := (Arv.new A1 (by decide)).pad (pad_rep [] (.int (0 : Int32)) 6)
  refine own_step (T' := T1) (g' := (mkF m 10 #[.val (.int p1), .val (.int p2), .val (.long p3), .second, .val (.int (6 : Int32)), .unset, .unset] [(.ref b1)])) st1 ?_
  refine own_step (T' := T1) (g' := (mkF m 12 #[.val (.int p1), .val (.int p2), .val (.long p3), .second, .val (.int (6 : Int32)), .val (.ref b1), .unset] [])) (fun t_ k_ => XS.astore X1.here hx rfl (hb hby at_10) rfl rfl (l' := #[.val (.int p1), .val (.int p2), .val (.long p3), .second, .val (.int (6 : Int32)), .val (.ref b1), .unset]) rfl k_) ?_
  refine own_step (T' := T1) (g' := (mkF m 14 #[.val (.int p1), .val (.int p2), .val (.long p3), .second, .val (.int (6 : Int32)), .val (.ref b1), .unset] [(.int (6 : Int32))])) (fun t_ k_ => XS.iload X1.here hx rfl (hb hby at_12) rfl k_) ?_
  refine own_step (T' := T1) (g' := (mkF m 17 #[.val (.int p1), .val (.int p2), .val (.long p3), .second, .val (.int (6 : Int32)), .val (.ref b1), .unset] [])) (fun t_ k_ => XS.ifNo X1.here hx rfl (hb hby at_14) rfl ((if0 _ _).trans (tlt (by decide)).2.2.2) k_) ?_
  refine own_step (T' := T1) (g' := (mkF m 19 #[.val (.int p1), .val (.int p2), .val (.long p3), .second, .val (.int (6 : Int32)), .val (.ref b1), .unset] [(.ref b1)])) (fun t_ k_ => XS.aload X1.here hx rfl (hb hby at_17) rfl rfl k_) ?_
  refine own_step (T' := T1) (g' := (mkF m 20 #[.val (.int p1), .val (.int p2), .val (.long p3), .second, .val (.int (6 : Int32)), .val (.ref b1), .unset] [(.int (0 : Int32)), (.ref b1)])) (fun t_ k_ => XS.iconst X1.here hx rfl (hb hby at_19) k_) ?_
  refine own_step (T' := T1) (g' := (mkF m 21 #[.val (.int p1), .val (.int p2), .val (.long p3), .second, .val (.int (6 : Int32)), .val (.ref b1), .unset] [(.long p3), (.int (0 : Int32)), (.ref b1)])) (fun t_ k_ => XS.lloadN X1.here hx rfl (hb hby at_20) rfl k_) ?_
  refine own_step (T' := T1) (g' := (mkF m 22 #[.val (.int p1), .val (.int p2), .val (.long p3), .second, .val (.int (6 : Int32)), .val (.ref b1), .unset] [(.int (p3.toInt32)), (.int (0 : Int32)), (.ref b1)])) (fun t_ k_ => XS.l2i X1.here hx rfl (hb hby at_21) rfl k_) ?_
  refine own_step (T' := T1) (g' := (mkF m 23 #[.val (.int p1), .val (.int p2), .val (.long p3), .second, .val (.int (6 : Int32)), .val (.ref b1), .unset] [(.int ((p3.toInt32).toInt8.toInt32)), (.int (0 : Int32)), (.ref b1)])) (fun t_ k_ => XS.i2b X1.here hx rfl (hb hby at_22) rfl k_) ?_
  obtain ⟨cl3, Ar3, qk3, Sz3, Nz3, Hs3, Gs3⟩ := V1
  have hin3 := inb_of (j := (0 : Int32)) Sz3 ⟨by decide, by decide⟩
  obtain ⟨T3, h3, X3, e3, W3, st3⟩ := stB X1 hx hZ e1 Ar3 (j := (0 : Int32)) hin3 (g := (mkF m 23 #[.val (.int p1), .val (.int p2), .val (.long p3), .second, .val (.int (6 : Int32)), .val (.ref b1), .unset] [(.int ((p3.toInt32).toInt8.toInt32)), (.int (0 : Int32)), (.ref b1)])) rfl rfl (hb hby at_23)
  have V3 : Arv Z h3 b1 k1 .byte (6 : Int32) [(.int (nar .byte ((p3.toInt32).toInt8.toInt32))), (.int (0 : Int32)), (.int (0 : Int32)), (.int (0 : Int32)), (.int (0 : Int32)), (.int (0 : Int32))] (.int (0 : Int32)) := Arv.set Ar3 qk3 Sz3 Nz3 Hs3 Gs3 (fits_nar_byte _) W3 0 rfl (Nat.le_of_ble_eq_true rfl)
  have N3 := Fr.snoc X3 N0 ge_b1
  have z5 : n0 ≤ h3.size := Nat.le_trans z2 (Keep.of_wr W3).1
  refine own_step (T' := T3) (g' := (mkF m 24 #[.val (.int p1), .val (.int p2), .val (.long p3), .second, .val (.int (6 : Int32)), .val (.ref b1), .unset] [])) st3 ?_
  refine own_step (T' := T3) (g' := (mkF m 26 #[.val (.int p1), .val (.int p2), .val (.long p3), .second, .val (.int (6 : Int32)), .val (.ref b1), .unset] [(.int (6 : Int32))])) (fun t_ k_ => XS.iload X3.here hx rfl (hb hby at_24) rfl k_) ?_
  refine own_step (T' := T3) (g' := (mkF m 27 #[.val (.int p1), .val (.int p2), .val (.long p3), .second, .val (.int (6 : Int32)), .val (.ref b1), .unset] [(.int (1 : Int32)), (.int (6 : Int32))])) (fun t_ k_ => XS.iconst X3.here hx rfl (hb hby at_26) k_) ?_
  refine own_step (T' := T3) (g' := (mkF m 30 #[.val (.int p1), .val (.int p2), .val (.long p3), .second, .val (.int (6 : Int32)), .val (.ref b1), .unset] [])) (fun t_ k_ => XS.icmpNo X3.here hx rfl (hb hby at_27) rfl (tlt (by decide)).2.2.2 k_) ?_
  refine own_step (T' := T3) (g' := (mkF m 32 #[.val (.int p1), .val (.int p2), .val (.long p3), .second, .val (.int (6 : Int32)), .val (.ref b1), .unset] [(.ref b1)])) (fun t_ k_ => XS.aload X3.here hx rfl (hb hby at_30) rfl rfl k_) ?_
  refine own_step (T' := T3) (g' := (mkF m 33 #[.val (.int p1), .val (.int p2), .val (.long p3), .second, .val (.int (6 : Int32)), .val (.ref b1), .unset] [(.int (1 : Int32)), (.ref b1)])) (fun t_ k_ => XS.iconst X3.here hx rfl (hb hby at_32) k_) ?_
  refine own_step (T' := T3) (g' := (mkF m 34 #[.val (.int p1), .val (.int p2), .val (.long p3), .second, .val (.int (6 : Int32)), .val (.ref b1), .unset] [(.long p3), (.int (1 : Int32)), (.ref b1)])) (fun t_ k_ => XS.lloadN X3.here hx rfl (hb hby at_33) rfl k_) ?_
  refine own_step (T' := T3) (g' := (mkF m 36 #[.val (.int p1), .val (.int p2), .val (.long p3), .second, .val (.int (6 : Int32)), .val (.ref b1), .unset] [(.int (8 : Int32)), (.long p3), (.int (1 : Int32)), (.ref b1)])) (fun t_ k_ => XS.bipush X3.here hx rfl (hb hby at_34) k_) ?_
  refine own_step (T' := T3) (g' := (mkF m 37 #[.val (.int p1), .val (.int p2), .val (.long p3), .second, .val (.int (6 : Int32)), .val (.ref b1), .unset] [(.long (Jvm.Free.XT.ushrL p3 (8 : Int32))), (.int (1 : Int32)), (.ref b1)])) (fun t_ k_ => XT.lushr X3.here hx rfl (hb hby at_36) rfl k_) ?_
  refine own_step (T' := T3) (g' := (mkF m 38 #[.val (.int p1), .val (.int p2), .val (.long p3), .second, .val (.int (6 : Int32)), .val (.ref b1), .unset] [(.int ((Jvm.Free.XT.ushrL p3 (8 : Int32)).toInt32)), (.int (1 : Int32)), (.ref b1)])) (fun t_ k_ => XS.l2i X3.here hx rfl (hb hby at_37) rfl k_) ?_
  refine own_step (T' := T3) (g' := (mkF m 39 #[.val (.int p1), .val (.int p2), .val (.long p3), .second, .val (.int (6 : Int32)), .val (.ref b1), .unset] [(.int (((Jvm.Free.XT.ushrL p3 (8 : Int32)).toInt32).toInt8.toInt32)), (.int (1 : Int32)), (.ref b1)])) (fun t_ k_ => XS.i2b X3.here hx rfl (hb hby at_38) rfl k_) ?_
  obtain ⟨cl6, Ar6, qk6, Sz6, Nz6, Hs6, Gs6⟩ := V3
  have hin6 := inb_of (j := (1 : Int32)) Sz6 ⟨by decide, by decide⟩
  obtain ⟨T6, h6, X6, e6, W6, st6⟩ := stB X3 hx hZ e3 Ar6 (j := (1 : Int32)) hin6 (g := (mkF m 39 #[.val (.int p1), .val (.int p2), .val (.long p3), .second, .val (.int (6 : Int32)), .val (.ref b1), .unset] [(.int (((Jvm.Free.XT.ushrL p3 (8 : Int32)).toInt32).toInt8.toInt32)), (.int (1 : Int32)), (.ref b1)])) rfl rfl (hb hby at_39)
  have V6 : Arv Z h6 b1 k1 .byte (6 : Int32) [(.int (nar .byte ((p3.toInt32).toInt8.toInt32))), (.int (nar .byte (((Jvm.Free.XT.ushrL p3 (8 : Int32)).toInt32).toInt8.toInt32))), (.int (0 : Int32)), (.int (0 : Int32)), (.int (0 : Int32)), (.int (0 : Int32))] (.int (0 : Int32)) := Arv.set Ar6 qk6 Sz6 Nz6 Hs6 Gs6 (fits_nar_byte _) W6 1 rfl (Nat.le_of_ble_eq_true rfl)
  have N6 := Fr.snoc X6 N3 ge_b1
  have z8 : n0 ≤ h6.size := Nat.le_trans z5 (Keep.of_wr W6).1
  refine own_step (T' := T6) (g' := (mkF m 40 #[.val (.int p1), .val (.int p2), .val (.long p3), .second, .val (.int (6 : Int32)), .val (.ref b1), .unset] [])) st6 ?_
  refine own_step (T' := T6) (g' := (mkF m 42 #[.val (.int p1), .val (.int p2), .val (.long p3), .second, .val (.int (6 : Int32)), .val (.ref b1), .unset] [(.int (6 : Int32))])) (fun t_ k_ => XS.iload X6.here hx rfl (hb hby at_40) rfl k_) ?_
  refine own_step (T' := T6) (g' := (mkF m 43 #[.val (.int p1), .val (.int p2), .val (.long p3), .second, .val (.int (6 : Int32)), .val (.ref b1), .unset] [(.int (2 : Int32)), (.int (6 : Int32))])) (fun t_ k_ => XS.iconst X6.here hx rfl (hb hby at_42) k_) ?_
  refine own_step (T' := T6) (g' := (mkF m 46 #[.val (.int p1), .val (.int p2), .val (.long p3), .second, .val (.int (6 : Int32)), .val (.ref b1), .unset] [])) (fun t_ k_ => XS.icmpNo X6.here hx rfl (hb hby at_43) rfl (tlt (by decide)).2.2.2 k_) ?_
  refine own_step (T' := T6) (g' := (mkF m 48 #[.val (.int p1), .val (.int p2), .val (.long p3), .second, .val (.int (6 : Int32)), .val (.ref b1), .unset] [(.ref b1)])) (fun t_ k_ => XS.aload X6.here hx rfl (hb hby at_46) rfl rfl k_) ?_
  refine own_step (T' := T6) (g' := (mkF m 49 #[.val (.int p1), .val (.int p2), .val (.long p3), .second, .val (.int (6 : Int32)), .val (.ref b1), .unset] [(.int (2 : Int32)), (.ref b1)])) (fun t_ k_ => XS.iconst X6.here hx rfl (hb hby at_48) k_) ?_
  refine own_step (T' := T6) (g' := (mkF m 50 #[.val (.int p1), .val (.int p2), .val (.long p3), .second, .val (.int (6 : Int32)), .val (.ref b1), .unset] [(.long p3), (.int (2 : Int32)), (.ref b1)])) (fun t_ k_ => XS.lloadN X6.here hx rfl (hb hby at_49) rfl k_) ?_
  refine own_step (T' := T6) (g' := (mkF m 52 #[.val (.int p1), .val (.int p2), .val (.long p3), .second, .val (.int (6 : Int32)), .val (.ref b1), .unset] [(.int (16 : Int32)), (.long p3), (.int (2 : Int32)), (.ref b1)])) (fun t_ k_ => XS.bipush X6.here hx rfl (hb hby at_50) k_) ?_
  refine own_step (T' := T6) (g' := (mkF m 53 #[.val (.int p1), .val (.int p2), .val (.long p3), .second, .val (.int (6 : Int32)), .val (.ref b1), .unset] [(.long (Jvm.Free.XT.ushrL p3 (16 : Int32))), (.int (2 : Int32)), (.ref b1)])) (fun t_ k_ => XT.lushr X6.here hx rfl (hb hby at_52) rfl k_) ?_
  refine own_step (T' := T6) (g' := (mkF m 54 #[.val (.int p1), .val (.int p2), .val (.long p3), .second, .val (.int (6 : Int32)), .val (.ref b1), .unset] [(.int ((Jvm.Free.XT.ushrL p3 (16 : Int32)).toInt32)), (.int (2 : Int32)), (.ref b1)])) (fun t_ k_ => XS.l2i X6.here hx rfl (hb hby at_53) rfl k_) ?_
  refine own_step (T' := T6) (g' := (mkF m 55 #[.val (.int p1), .val (.int p2), .val (.long p3), .second, .val (.int (6 : Int32)), .val (.ref b1), .unset] [(.int (((Jvm.Free.XT.ushrL p3 (16 : Int32)).toInt32).toInt8.toInt32)), (.int (2 : Int32)), (.ref b1)])) (fun t_ k_ => XS.i2b X6.here hx rfl (hb hby at_54) rfl k_) ?_
  obtain ⟨cl9, Ar9, qk9, Sz9, Nz9, Hs9, Gs9⟩ := V6
  have hin9 := inb_of (j := (2 : Int32)) Sz9 ⟨by decide, by decide⟩
  obtain ⟨T9, h9, X9, e9, W9, st9⟩ := stB X6 hx hZ e6 Ar9 (j := (2 : Int32)) hin9 (g := (mkF m 55 #[.val (.int p1), .val (.int p2), .val (.long p3), .second, .val (.int (6 : Int32)), .val (.ref b1), .unset] [(.int (((Jvm.Free.XT.ushrL p3 (16 : Int32)).toInt32).toInt8.toInt32)), (.int (2 : Int32)), (.ref b1)])) rfl rfl (hb hby at_55)
  have V9 : Arv Z h9 b1 k1 .byte (6 : Int32) [(.int (nar .byte ((p3.toInt32).toInt8.toInt32))), (.int (nar .byte (((Jvm.Free.XT.ushrL p3 (8 : Int32)).toInt32).toInt8.toInt32))), (.int (nar .byte (((Jvm.Free.XT.ushrL p3 (16 : Int32)).toInt32).toInt8.toInt32))), (.int (0 : Int32)), (.int (0 : Int32)), (.int (0 : Int32))] (.int (0 : Int32)) := Arv.set Ar9 qk9 Sz9 Nz9 Hs9 Gs9 (fits_nar_byte _) W9 2 rfl (Nat.le_of_ble_eq_true rfl)
  have N9 := Fr.snoc X9 N6 ge_b1
  have z11 : n0 ≤ h9.size := Nat.le_trans z8 (Keep.of_wr W9).1
  refine own_step (T' := T9) (g' := (mkF m 56 #[.val (.int p1), .val (.int p2), .val (.long p3), .second, .val (.int (6 : Int32)), .val (.ref b1), .unset] [])) st9 ?_
  refine own_step (T' := T9) (g' := (mkF m 58 #[.val (.int p1), .val (.int p2), .val (.long p3), .second, .val (.int (6 : Int32)), .val (.ref b1), .unset] [(.int (6 : Int32))])) (fun t_ k_ => XS.iload X9.here hx rfl (hb hby at_56) rfl k_) ?_
  refine own_step (T' := T9) (g' := (mkF m 59 #[.val (.int p1), .val (.int p2), .val (.long p3), .second, .val (.int (6 : Int32)), .val (.ref b1), .unset] [(.int (3 : Int32)), (.int (6 : Int32))])) (fun t_ k_ => XS.iconst X9.here hx rfl (hb hby at_58) k_) ?_
  refine own_step (T' := T9) (g' := (mkF m 62 #[.val (.int p1), .val (.int p2), .val (.long p3), .second, .val (.int (6 : Int32)), .val (.ref b1), .unset] [])) (fun t_ k_ => XS.icmpNo X9.here hx rfl (hb hby at_59) rfl (tlt (by decide)).2.2.2 k_) ?_
  refine own_step (T' := T9) (g' := (mkF m 64 #[.val (.int p1), .val (.int p2), .val (.long p3), .second, .val (.int (6 : Int32)), .val (.ref b1), .unset] [(.ref b1)])) (fun t_ k_ => XS.aload X9.here hx rfl (hb hby at_62) rfl rfl k_) ?_
  refine own_step (T' := T9) (g' := (mkF m 65 #[.val (.int p1), .val (.int p2), .val (.long p3), .second, .val (.int (6 : Int32)), .val (.ref b1), .unset] [(.int (3 : Int32)), (.ref b1)])) (fun t_ k_ => XS.iconst X9.here hx rfl (hb hby at_64) k_) ?_
  refine own_step (T' := T9) (g' := (mkF m 66 #[.val (.int p1), .val (.int p2), .val (.long p3), .second, .val (.int (6 : Int32)), .val (.ref b1), .unset] [(.long p3), (.int (3 : Int32)), (.ref b1)])) (fun t_ k_ => XS.lloadN X9.here hx rfl (hb hby at_65) rfl k_) ?_
  refine own_step (T' := T9) (g' := (mkF m 68 #[.val (.int p1), .val (.int p2), .val (.long p3), .second, .val (.int (6 : Int32)), .val (.ref b1), .unset] [(.int (24 : Int32)), (.long p3), (.int (3 : Int32)), (.ref b1)])) (fun t_ k_ => XS.bipush X9.here hx rfl (hb hby at_66) k_) ?_
  refine own_step (T' := T9) (g' := (mkF m 69 #[.val (.int p1), .val (.int p2), .val (.long p3), .second, .val (.int (6 : Int32)), .val (.ref b1), .unset] [(.long (Jvm.Free.XT.ushrL p3 (24 : Int32))), (.int (3 : Int32)), (.ref b1)])) (fun t_ k_ => XT.lushr X9.here hx rfl (hb hby at_68) rfl k_) ?_
  refine own_step (T' := T9) (g' := (mkF m 70 #[.val (.int p1), .val (.int p2), .val (.long p3), .second, .val (.int (6 : Int32)), .val (.ref b1), .unset] [(.int ((Jvm.Free.XT.ushrL p3 (24 : Int32)).toInt32)), (.int (3 : Int32)), (.ref b1)])) (fun t_ k_ => XS.l2i X9.here hx rfl (hb hby at_69) rfl k_) ?_
  refine own_step (T' := T9) (g' := (mkF m 71 #[.val (.int p1), .val (.int p2), .val (.long p3), .second, .val (.int (6 : Int32)), .val (.ref b1), .unset] [(.int (((Jvm.Free.XT.ushrL p3 (24 : Int32)).toInt32).toInt8.toInt32)), (.int (3 : Int32)), (.ref b1)])) (fun t_ k_ => XS.i2b X9.here hx rfl (hb hby at_70) rfl k_) ?_
  obtain ⟨cl12, Ar12, qk12, Sz12, Nz12, Hs12, Gs12⟩ := V9
  have hin12 := inb_of (j := (3 : Int32)) Sz12 ⟨by decide, by decide⟩
  obtain ⟨T12, h12, X12, e12, W12, st12⟩ := stB X9 hx hZ e9 Ar12 (j := (3 : Int32)) hin12 (g := (mkF m 71 #[.val (.int p1), .val (.int p2), .val (.long p3), .second, .val (.int (6 : Int32)), .val (.ref b1), .unset] [(.int (((Jvm.Free.XT.ushrL p3 (24 : Int32)).toInt32).toInt8.toInt32)), (.int (3 : Int32)), (.ref b1)])) rfl rfl (hb hby at_71)
  have V12 : Arv Z h12 b1 k1 .byte (6 : Int32) [(.int (nar .byte ((p3.toInt32).toInt8.toInt32))), (.int (nar .byte (((Jvm.Free.XT.ushrL p3 (8 : Int32)).toInt32).toInt8.toInt32))), (.int (nar .byte (((Jvm.Free.XT.ushrL p3 (16 : Int32)).toInt32).toInt8.toInt32))), (.int (nar .byte (((Jvm.Free.XT.ushrL p3 (24 : Int32)).toInt32).toInt8.toInt32))), (.int (0 : Int32)), (.int (0 : Int32))] (.int (0 : Int32)) := Arv.set Ar12 qk12 Sz12 Nz12 Hs12 Gs12 (fits_nar_byte _) W12 3 rfl (Nat.le_of_ble_eq_true rfl)
  have N12 := Fr.snoc X12 N9 ge_b1
  have z14 : n0 ≤ h12.size := Nat.le_trans z11 (Keep.of_wr W12).1
  refine own_step (T' := T12) (g' := (mkF m 72 #[.val (.int p1), .val (.int p2), .val (.long p3), .second, .val (.int (6 : Int32)), .val (.ref b1), .unset] [])) st12 ?_
  refine own_step (T' := T12) (g' := (mkF m 74 #[.val (.int p1), .val (.int p2), .val (.long p3), .second, .val (.int (6 : Int32)), .val (.ref b1), .unset] [(.int (6 : Int32))])) (fun t_ k_ => XS.iload X12.here hx rfl (hb hby at_72) rfl k_) ?_
  refine own_step (T' := T12) (g' := (mkF m 75 #[.val (.int p1), .val (.int p2), .val (.long p3), .second, .val (.int (6 : Int32)), .val (.ref b1), .unset] [(.int (4 : Int32)), (.int (6 : Int32))])) (fun t_ k_ => XS.iconst X12.here hx rfl (hb hby at_74) k_) ?_
  refine own_step (T' := T12) (g' := (mkF m 78 #[.val (.int p1), .val (.int p2), .val (.long p3), .second, .val (.int (6 : Int32)), .val (.ref b1), .unset] [])) (fun t_ k_ => XS.icmpNo X12.here hx rfl (hb hby at_75) rfl (tlt (by decide)).2.2.2 k_) ?_
  refine own_step (T' := T12) (g' := (mkF m 80 #[.val (.int p1), .val (.int p2), .val (.long p3), .second, .val (.int (6 : Int32)), .val (.ref b1), .unset] [(.ref b1)])) (fun t_ k_ => XS.aload X12.here hx rfl (hb hby at_78) rfl rfl k_) ?_
  refine own_step (T' := T12) (g' := (mkF m 81 #[.val (.int p1), .val (.int p2), .val (.long p3), .second, .val (.int (6 : Int32)), .val (.ref b1), .unset] [(.int (4 : Int32)), (.ref b1)])) (fun t_ k_ => XS.iconst X12.here hx rfl (hb hby at_80) k_) ?_
  refine own_step (T' := T12) (g' := (mkF m 82 #[.val (.int p1), .val (.int p2), .val (.long p3), .second, .val (.int (6 : Int32)), .val (.ref b1), .unset] [(.long p3), (.int (4 : Int32)), (.ref b1)])) (fun t_ k_ => XS.lloadN X12.here hx rfl (hb hby at_81) rfl k_) ?_
  refine own_step (T' := T12) (g' := (mkF m 84 #[.val (.int p1), .val (.int p2), .val (.long p3), .second, .val (.int (6 : Int32)), .val (.ref b1), .unset] [(.int (32 : Int32)), (.long p3), (.int (4 : Int32)), (.ref b1)])) (fun t_ k_ => XS.bipush X12.here hx rfl (hb hby at_82) k_) ?_
  refine own_step (T' := T12) (g' := (mkF m 85 #[.val (.int p1), .val (.int p2), .val (.long p3), .second, .val (.int (6 : Int32)), .val (.ref b1), .unset] [(.long (Jvm.Free.XT.ushrL p3 (32 : Int32))), (.int (4 : Int32)), (.ref b1)])) (fun t_ k_ => XT.lushr X12.here hx rfl (hb hby at_84) rfl k_) ?_
  refine own_step (T' := T12) (g' := (mkF m 86 #[.val (.int p1), .val (.int p2), .val (.long p3), .second, .val (.int (6 : Int32)), .val (.ref b1), .unset] [(.int ((Jvm.Free.XT.ushrL p3 (32 : Int32)).toInt32)), (.int (4 : Int32)), (.ref b1)])) (fun t_ k_ => XS.l2i X12.here hx rfl (hb hby at_85) rfl k_) ?_
  refine own_step (T' := T12) (g' := (mkF m 87 #[.val (.int p1), .val (.int p2), .val (.long p3), .second, .val (.int (6 : Int32)), .val (.ref b1), .unset] [(.int (((Jvm.Free.XT.ushrL p3 (32 : Int32)).toInt32).toInt8.toInt32)), (.int (4 : Int32)), (.ref b1)])) (fun t_ k_ => XS.i2b X12.here hx rfl (hb hby at_86) rfl k_) ?_
  obtain ⟨cl15, Ar15, qk15, Sz15, Nz15, Hs15, Gs15⟩ := V12
  have hin15 := inb_of (j := (4 : Int32)) Sz15 ⟨by decide, by decide⟩
  obtain ⟨T15, h15, X15, e15, W15, st15⟩ := stB X12 hx hZ e12 Ar15 (j := (4 : Int32)) hin15 (g := (mkF m 87 #[.val (.int p1), .val (.int p2), .val (.long p3), .second, .val (.int (6 : Int32)), .val (.ref b1), .unset] [(.int (((Jvm.Free.XT.ushrL p3 (32 : Int32)).toInt32).toInt8.toInt32)), (.int (4 : Int32)), (.ref b1)])) rfl rfl (hb hby at_87)
  have V15 : Arv Z h15 b1 k1 .byte (6 : Int32) [(.int (nar .byte ((p3.toInt32).toInt8.toInt32))), (.int (nar .byte (((Jvm.Free.XT.ushrL p3 (8 : Int32)).toInt32).toInt8.toInt32))), (.int (nar .byte (((Jvm.Free.XT.ushrL p3 (16 : Int32)).toInt32).toInt8.toInt32))), (.int (nar .byte (((Jvm.Free.XT.ushrL p3 (24 : Int32)).toInt32).toInt8.toInt32))), (.int (nar .byte (((Jvm.Free.XT.ushrL p3 (32 : Int32)).toInt32).toInt8.toInt32))), (.int (0 : Int32))] (.int (0 : Int32)) := Arv.set Ar15 qk15 Sz15 Nz15 Hs15 Gs15 (fits_nar_byte _) W15 4 rfl (Nat.le_of_ble_eq_true rfl)
  have N15 := Fr.snoc X15 N12 ge_b1
  have z17 : n0 ≤ h15.size := Nat.le_trans z14 (Keep.of_wr W15).1
  refine own_step (T' := T15) (g' := (mkF m 88 #[.val (.int p1), .val (.int p2), .val (.long p3), .second, .val (.int (6 : Int32)), .val (.ref b1), .unset] [])) st15 ?_
  refine own_step (T' := T15) (g' := (mkF m 90 #[.val (.int p1), .val (.int p2), .val (.long p3), .second, .val (.int (6 : Int32)), .val (.ref b1), .unset] [(.int (6 : Int32))])) (fun t_ k_ => XS.iload X15.here hx rfl (hb hby at_88) rfl k_) ?_
  refine own_step (T' := T15) (g' := (mkF m 91 #[.val (.int p1), .val (.int p2), .val (.long p3), .second, .val (.int (6 : Int32)), .val (.ref b1), .unset] [(.int (5 : Int32)), (.int (6 : Int32))])) (fun t_ k_ => XS.iconst X15.here hx rfl (hb hby at_90) k_) ?_
  refine own_step (T' := T15) (g' := (mkF m 94 #[.val (.int p1), .val (.int p2), .val (.long p3), .second, .val (.int (6 : Int32)), .val (.ref b1), .unset] [])) (fun t_ k_ => XS.icmpNo X15.here hx rfl (hb hby at_91) rfl (tlt (by decide)).2.2.2 k_) ?_
  refine own_step (T' := T15) (g' := (mkF m 96 #[.val (.int p1), .val (.int p2), .val (.long p3), .second, .val (.int (6 : Int32)), .val (.ref b1), .unset] [(.ref b1)])) (fun t_ k_ => XS.aload X15.here hx rfl (hb hby at_94) rfl rfl k_) ?_
  refine own_step (T' := T15) (g' := (mkF m 97 #[.val (.int p1), .val (.int p2), .val (.long p3), .second, .val (.int (6 : Int32)), .val (.ref b1), .unset] [(.int (5 : Int32)), (.ref b1)])) (fun t_ k_ => XS.iconst X15.here hx rfl (hb hby at_96) k_) ?_
  refine own_step (T' := T15) (g' := (mkF m 98 #[.val (.int p1), .val (.int p2), .val (.long p3), .second, .val (.int (6 : Int32)), .val (.ref b1), .unset] [(.int p2), (.int (5 : Int32)), (.ref b1)])) (fun t_ k_ => XS.iloadN X15.here hx rfl (hb hby at_97) rfl k_) ?_
  refine own_step (T' := T15) (g' := (mkF m 99 #[.val (.int p1), .val (.int p2), .val (.long p3), .second, .val (.int (6 : Int32)), .val (.ref b1), .unset] [(.int (p2.toInt8.toInt32)), (.int (5 : Int32)), (.ref b1)])) (fun t_ k_ => XS.i2b X15.here hx rfl (hb hby at_98) rfl k_) ?_
  obtain ⟨cl18, Ar18, qk18, Sz18, Nz18, Hs18, Gs18⟩ := V15
  have hin18 := inb_of (j := (5 : Int32)) Sz18 ⟨by decide, by decide⟩
  obtain ⟨T18, h18, X18, e18, W18, st18⟩ := stB X15 hx hZ e15 Ar18 (j := (5 : Int32)) hin18 (g := (mkF m 99 #[.val (.int p1), .val (.int p2), .val (.long p3), .second, .val (.int (6 : Int32)), .val (.ref b1), .unset] [(.int (p2.toInt8.toInt32)), (.int (5 : Int32)), (.ref b1)])) rfl rfl (hb hby at_99)
  have V18 : Arv Z h18 b1 k1 .byte (6 : Int32) [(.int (nar .byte ((p3.toInt32).toInt8.toInt32))), (.int (nar .byte (((Jvm.Free.XT.ushrL p3 (8 : Int32)).toInt32).toInt8.toInt32))), (.int (nar .byte (((Jvm.Free.XT.ushrL p3 (16 : Int32)).toInt32).toInt8.toInt32))), (.int (nar .byte (((Jvm.Free.XT.ushrL p3 (24 : Int32)).toInt32).toInt8.toInt32))), (.int (nar .byte (((Jvm.Free.XT.ushrL p3 (32 : Int32)).toInt32).toInt8.toInt32))), (.int (nar .byte (p2.toInt8.toInt32)))] (.int (0 : Int32)) := Arv.set Ar18 qk18 Sz18 Nz18 Hs18 Gs18 (fits_nar_byte _) W18 5 rfl (Nat.le_of_ble_eq_true rfl)
  have N18 := Fr.snoc X18 N15 ge_b1
  have z20 : n0 ≤ h18.size := Nat.le_trans z17 (Keep.of_wr W18).1
  refine own_step (T' := T18) (g' := (mkF m 100 #[.val (.int p1), .val (.int p2), .val (.long p3), .second, .val (.int (6 : Int32)), .val (.ref b1), .unset] [])) st18 ?_
  refine own_step (T' := T18) (g' := (mkF m 102 #[.val (.int p1), .val (.int p2), .val (.long p3), .second, .val (.int (6 : Int32)), .val (.ref b1), .unset] [(.int (6 : Int32))])) (fun t_ k_ => XS.iload X18.here hx rfl (hb hby at_100) rfl k_) ?_
  refine own_step (T' := T18) (g' := (mkF m 104 #[.val (.int p1), .val (.int p2), .val (.long p3), .second, .val (.int (6 : Int32)), .val (.ref b1), .unset] [(.int (6 : Int32)), (.int (6 : Int32))])) (fun t_ k_ => XS.bipush X18.here hx rfl (hb hby at_102) k_) ?_
  refine own_step (T' := T18) (g' := (mkF m 118 #[.val (.int p1), .val (.int p2), .val (.long p3), .second, .val (.int (6 : Int32)), .val (.ref b1), .unset] [])) (fun t_ k_ => XS.icmpYes X18.here hx rfl (pc0 := 104) (pc' := 118) rfl (hb hby at_104) rfl (flt (by decide)).2.2.2 (by decide) (by decide) k_) ?_
  refine own_step (T' := T18) (g' := (mkF m 120 #[.val (.int p1), .val (.int p2), .val (.long p3), .second, .val (.int (6 : Int32)), .val (.ref b1), .unset] [(.int (6 : Int32))])) (fun t_ k_ => XS.iload X18.here hx rfl (hb hby at_118) rfl k_) ?_
  refine own_step (T' := T18) (g' := (mkF m 122 #[.val (.int p1), .val (.int p2), .val (.long p3), .second, .val (.int (6 : Int32)), .val (.ref b1), .unset] [(.int (6 : Int32)), (.int (6 : Int32))])) (fun t_ k_ => XS.bipush X18.here hx rfl (hb hby at_120) k_) ?_
  refine own_step (T' := T18) (g' := (mkF m 125 #[.val (.int p1), .val (.int p2), .val (.long p3), .second, .val (.int (6 : Int32)), .val (.ref b1), .unset] [])) (fun t_ k_ => XS.icmpNo X18.here hx rfl (hb hby at_122) rfl (flt (by decide)).1 k_) ?_
  refine own_step (T' := T18) (g' := (mkF m 126 #[.val (.int p1), .val (.int p2), .val (.long p3), .second, .val (.int (6 : Int32)), .val (.ref b1), .unset] [(.int p2)])) (fun t_ k_ => XS.iloadN X18.here hx rfl (hb hby at_125) rfl k_) ?_
  refine own_step (T' := T18) (g' := (mkF m 129 #[.val (.int p1), .val (.int p2), .val (.long p3), .second, .val (.int (6 : Int32)), .val (.ref b1), .unset] [(.int (255 : Int32)), (.int p2)])) (fun t_ k_ => XS.sipush X18.here hx rfl (hb hby at_126) k_) ?_
  refine own_step (T' := T18) (g' := (mkF m 130 #[.val (.int p1), .val (.int p2), .val (.long p3), .second, .val (.int (6 : Int32)), .val (.ref b1), .unset] [(.int (p2 &&& (255 : Int32)))])) (fun t_ k_ => XS.iand X18.here hx rfl (hb hby at_129) rfl k_) ?_
  refine own_step (T' := T18) (g' := (mkF m 132 #[.val (.int p1), .val (.int p2), .val (.long p3), .second, .val (.int (6 : Int32)), .val (.ref b1), .unset] [(.int (16 : Int32)), (.int (p2 &&& (255 : Int32)))])) (fun t_ k_ => XS.bipush X18.here hx rfl (hb hby at_130) k_) ?_
  by_cases hc132_21 : (p2 &&& (255 : Int32)) < (16 : Int32)
  · refine own_step (T' := T18) (g' := (mkF m 139 #[.val (.int p1), .val (.int p2), .val (.long p3), .second, .val (.int (6 : Int32)), .val (.ref b1), .unset] [])) (fun t_ k_ => XS.icmpYes X18.here hx rfl (pc0 := 132) (pc' := 139) rfl (hb hby at_132) rfl (tlt hc132_21).1 (by decide) (by decide) k_) ?_
    refine own_step (T' := T18) (g' := (mkF m 140 #[.val (.int p1), .val (.int p2), .val (.long p3), .second, .val (.int (6 : Int32)), .val (.ref b1), .unset] [(.int (0 : Int32))])) (fun t_ k_ => XS.iconst X18.here hx rfl (hb hby at_139) k_) ?_
    refine own_step (T' := T18) (g' := (mkF m 142 #[.val (.int p1), .val (.int p2), .val (.long p3), .second, .val (.int (6 : Int32)), .val (.ref b1), .val (.int (0 : Int32))] [])) (fun t_ k_ => XS.istore X18.here hx rfl (hb hby at_140) rfl (l' := #[.val (.int p1), .val (.int p2), .val (.long p3), .second, .val (.int (6 : Int32)), .val (.ref b1), .val (.int (0 : Int32))]) rfl k_) ?_
    refine own_step (T' := T18) (g' := (mkF m 144 #[.val (.int p1), .val (.int p2), .val (.long p3), .second, .val (.int (6 : Int32)), .val (.ref b1), .val (.int (0 : Int32))] [(.ref b1)])) (fun t_ k_ => XS.aload X18.here hx rfl (hb hby at_142) rfl rfl k_) ?_
    obtain ⟨cl23, Ar23, qk23, Sz23, Nz23, Hs23, Gs23⟩ := V18
    obtain ⟨_, _, ⟨T22, L22, k22, n22⟩, -, X22, ⟨Lc22, hQ22, l22, y22, z22⟩, st22⟩ := Jvm.LawKit.callS X18 hx (y := (⟨"com/example/hushed_flood/hushedflood/tcp/Control", "isControl", "([B)Z"⟩ : MethodName)) hown (mvT hZ (hw _ (List.mem_of_getElem? (i := 1) rfl))) (mvT hZ (hw _ (List.mem_of_getElem? (i := 2) rfl))) (mvT hZ (hw _ (List.mem_of_getElem? (i := 3) rfl))) (mvT hZ (hw _ (List.mem_of_getElem? (i := 4) rfl))) (by decide) (backOf (W := 0) (rm1 l Z a0 hw [] b1 cl23 (6 : Int32) (nar .byte (p2.toInt8.toInt32)) h18 n0 z20 Ar23 Sz23 Nz23 (fun _ => Hs23 5 (by rw [Sz23]; decide))) hZ (hw _ (List.mem_of_getElem? (i := 4) rfl)) (hw _ (List.mem_of_getElem? (i := 3) rfl)) (by decide) (by decide)) (g := (mkF m 144 #[.val (.int p1), .val (.int p2), .val (.long p3), .second, .val (.int (6 : Int32)), .val (.ref b1), .val (.int (0 : Int32))] [(.ref b1)])) rfl (by rw [hml]; rfl) (argsL := [(.ref b1)]) (rest := []) (lenOf (by decide +kernel : parseMethodDescriptor "([B)Z" = some ⟨[(.array .byte)], some .boolean⟩) rfl) rfl (by show 2 * 0 + _ ≤ _; exact Nat.le_of_eq rfl) (hb hby at_144) (fun _ _ => ⟨rfl, e18, (by decide : 1 + 0 ≤ _), (by decide : 6 + 0 ≤ _)⟩)
    dsimp only [Pt.U, Pt.locs, Pt.cells, Pt.slots] at X22 l22 y22 z22 st22 hQ22
    subst l22 y22 z22
    obtain ⟨rfl, Nq22, e22⟩ := hQ22
    have N22 := Fr.app N18 Nq22
    refine own_step (T' := T22) (g' := (mkF m 147 #[.val (.int p1), .val (.int p2), .val (.long p3), .second, .val (.int (6 : Int32)), .val (.ref b1), .val (.int (0 : Int32))] [(.int (own_ctl (6 : Int32) (nar .byte (p2.toInt8.toInt32))))])) st22 ?_
    refine own_step (T' := T22) (g' := (mkF m 149 #[.val (.int p1), .val (.int p2), .val (.long p3), .second, .val (.int (6 : Int32)), .val (.ref b1), .val (.int (0 : Int32))] [(.int (0 : Int32)), (.int (own_ctl (6 : Int32) (nar .byte (p2.toInt8.toInt32))))])) (fun t_ k_ => XS.iload X22.here hx rfl (hb hby at_147) rfl k_) ?_
    refine own_step (T' := T22) (g' := (mkF m 152 #[.val (.int p1), .val (.int p2), .val (.long p3), .second, .val (.int (6 : Int32)), .val (.ref b1), .val (.int (0 : Int32))] [])) (fun t_ k_ => XS.icmpNo X22.here hx rfl (hb hby at_149) rfl (teq (by simp [own_ctl, own_byte, hc132_21])).2 k_) ?_
    refine own_step (T' := T22) (g' := (mkF m 153 #[.val (.int p1), .val (.int p2), .val (.long p3), .second, .val (.int (6 : Int32)), .val (.ref b1), .val (.int (0 : Int32))] [(.int (1 : Int32))])) (fun t_ k_ => XS.iconst X22.here hx rfl (hb hby at_152) k_) ?_
    refine own_step (T' := T22) (g' := (mkF m 157 #[.val (.int p1), .val (.int p2), .val (.long p3), .second, .val (.int (6 : Int32)), .val (.ref b1), .val (.int (0 : Int32))] [(.int (1 : Int32))])) (fun t_ k_ => XS.goto X22.here hx rfl (pc0 := 153) (pc' := 157) rfl (hb hby at_153) (by decide) (by decide) k_) ?_
    obtain ⟨fs, hrR, hrun, hended, hWW, hsame⟩ := X22.leave (v := some (.int (1 : Int32))) (fun h => by rw [Bd.returns] at h; cases h)
    refine ⟨_, _, own_retZ X22 hx (t := .boolean) Bd.returns (by simp) (by decide) (hb hby at_157) hrR, hrun, hended, hPP _ _ ⟨_, _, rfl, ?_, ⟨_, rfl⟩, hWW, hsame.mono (by decide) (by decide)⟩⟩
    show Q0 n0 _ T22.heap _
    rw [e22]
    exact ⟨rfl, N22⟩
  · refine own_step (T' := T18) (g' := (mkF m 135 #[.val (.int p1), .val (.int p2), .val (.long p3), .second, .val (.int (6 : Int32)), .val (.ref b1), .unset] [])) (fun t_ k_ => XS.icmpNo X18.here hx rfl (hb hby at_132) rfl (flt hc132_21).1 k_) ?_
    refine own_step (T' := T18) (g' := (mkF m 136 #[.val (.int p1), .val (.int p2), .val (.long p3), .second, .val (.int (6 : Int32)), .val (.ref b1), .unset] [(.int (1 : Int32))])) (fun t_ k_ => XS.iconst X18.here hx rfl (hb hby at_135) k_) ?_
    refine own_step (T' := T18) (g' := (mkF m 140 #[.val (.int p1), .val (.int p2), .val (.long p3), .second, .val (.int (6 : Int32)), .val (.ref b1), .unset] [(.int (1 : Int32))])) (fun t_ k_ => XS.goto X18.here hx rfl (pc0 := 136) (pc' := 140) rfl (hb hby at_136) (by decide) (by decide) k_) ?_
    refine own_step (T' := T18) (g' := (mkF m 142 #[.val (.int p1), .val (.int p2), .val (.long p3), .second, .val (.int (6 : Int32)), .val (.ref b1), .val (.int (1 : Int32))] [])) (fun t_ k_ => XS.istore X18.here hx rfl (hb hby at_140) rfl (l' := #[.val (.int p1), .val (.int p2), .val (.long p3), .second, .val (.int (6 : Int32)), .val (.ref b1), .val (.int (1 : Int32))]) rfl k_) ?_
    refine own_step (T' := T18) (g' := (mkF m 144 #[.val (.int p1), .val (.int p2), .val (.long p3), .second, .val (.int (6 : Int32)), .val (.ref b1), .val (.int (1 : Int32))] [(.ref b1)])) (fun t_ k_ => XS.aload X18.here hx rfl (hb hby at_142) rfl rfl k_) ?_
    obtain ⟨cl25, Ar25, qk25, Sz25, Nz25, Hs25, Gs25⟩ := V18
    obtain ⟨_, _, ⟨T24, L24, k24, n24⟩, -, X24, ⟨Lc24, hQ24, l24, y24, z24⟩, st24⟩ := Jvm.LawKit.callS X18 hx (y := (⟨"com/example/hushed_flood/hushedflood/tcp/Control", "isControl", "([B)Z"⟩ : MethodName)) hown (mvT hZ (hw _ (List.mem_of_getElem? (i := 1) rfl))) (mvT hZ (hw _ (List.mem_of_getElem? (i := 2) rfl))) (mvT hZ (hw _ (List.mem_of_getElem? (i := 3) rfl))) (mvT hZ (hw _ (List.mem_of_getElem? (i := 4) rfl))) (by decide) (backOf (W := 0) (rm1 l Z a0 hw [] b1 cl25 (6 : Int32) (nar .byte (p2.toInt8.toInt32)) h18 n0 z20 Ar25 Sz25 Nz25 (fun _ => Hs25 5 (by rw [Sz25]; decide))) hZ (hw _ (List.mem_of_getElem? (i := 4) rfl)) (hw _ (List.mem_of_getElem? (i := 3) rfl)) (by decide) (by decide)) (g := (mkF m 144 #[.val (.int p1), .val (.int p2), .val (.long p3), .second, .val (.int (6 : Int32)), .val (.ref b1), .val (.int (1 : Int32))] [(.ref b1)])) rfl (by rw [hml]; rfl) (argsL := [(.ref b1)]) (rest := []) (lenOf (by decide +kernel : parseMethodDescriptor "([B)Z" = some ⟨[(.array .byte)], some .boolean⟩) rfl) rfl (by show 2 * 0 + _ ≤ _; exact Nat.le_of_eq rfl) (hb hby at_144) (fun _ _ => ⟨rfl, e18, (by decide : 1 + 0 ≤ _), (by decide : 6 + 0 ≤ _)⟩)
    dsimp only [Pt.U, Pt.locs, Pt.cells, Pt.slots] at X24 l24 y24 z24 st24 hQ24
    subst l24 y24 z24
    obtain ⟨rfl, Nq24, e24⟩ := hQ24
    have N24 := Fr.app N18 Nq24
    refine own_step (T' := T24) (g' := (mkF m 147 #[.val (.int p1), .val (.int p2), .val (.long p3), .second, .val (.int (6 : Int32)), .val (.ref b1), .val (.int (1 : Int32))] [(.int (own_ctl (6 : Int32) (nar .byte (p2.toInt8.toInt32))))])) st24 ?_
    refine own_step (T' := T24) (g' := (mkF m 149 #[.val (.int p1), .val (.int p2), .val (.long p3), .second, .val (.int (6 : Int32)), .val (.ref b1), .val (.int (1 : Int32))] [(.int (1 : Int32)), (.int (own_ctl (6 : Int32) (nar .byte (p2.toInt8.toInt32))))])) (fun t_ k_ => XS.iload X24.here hx rfl (hb hby at_147) rfl k_) ?_
    refine own_step (T' := T24) (g' := (mkF m 152 #[.val (.int p1), .val (.int p2), .val (.long p3), .second, .val (.int (6 : Int32)), .val (.ref b1), .val (.int (1 : Int32))] [])) (fun t_ k_ => XS.icmpNo X24.here hx rfl (hb hby at_149) rfl (teq (by simp [own_ctl, own_byte, hc132_21])).2 k_) ?_
    refine own_step (T' := T24) (g' := (mkF m 153 #[.val (.int p1), .val (.int p2), .val (.long p3), .second, .val (.int (6 : Int32)), .val (.ref b1), .val (.int (1 : Int32))] [(.int (1 : Int32))])) (fun t_ k_ => XS.iconst X24.here hx rfl (hb hby at_152) k_) ?_
    refine own_step (T' := T24) (g' := (mkF m 157 #[.val (.int p1), .val (.int p2), .val (.long p3), .second, .val (.int (6 : Int32)), .val (.ref b1), .val (.int (1 : Int32))] [(.int (1 : Int32))])) (fun t_ k_ => XS.goto X24.here hx rfl (pc0 := 153) (pc' := 157) rfl (hb hby at_153) (by decide) (by decide) k_) ?_
    obtain ⟨fs, hrR, hrun, hended, hWW, hsame⟩ := X24.leave (v := some (.int (1 : Int32))) (fun h => by rw [Bd.returns] at h; cases h)
    refine ⟨_, _, own_retZ X24 hx (t := .boolean) Bd.returns (by simp) (by decide) (hb hby at_157) hrR, hrun, hended, hPP _ _ ⟨_, _, rfl, ?_, ⟨_, rfl⟩, hWW, hsame.mono (by decide) (by decide)⟩⟩
    show Q0 n0 _ T24.heap _
    rw [e24]
    exact ⟨rfl, N24⟩
set_option maxRecDepth 65536 in
set_option maxHeartbeats 40000000 in
theorem rm0_7 (l : Launch) (Z : State) (a0 : Array Value) (hw : ∀ d ∈ tables_1, d.before a0 Z = true) (ws : List Jvm.Cond) (p1 p2 : Int32) (p3 : Int64) (h0 : Heap) (n0 : Nat) (Z0 : n0 ≤ h0.size) (hk : p1 &&& 7 = 7) :
    MetFree l x (head1 (Jvm.Cond.code x code maxLocals ret :: ws) room_1) (fun a U => a = #[(.int p1), (.int p2), (.long p3)] ∧ Z.Warmed39 U.vm ∧ U.heap = h0) (fun _ _ _ _ _ => True) (fun _ U o U' => ∃ v L, o = .returned v ∧ Q0 n0 v U'.heap L ∧ FrameEnd U o U' L 16 128) := by
  refine MetFree.of_bodySF (plainFor_of_name (by first | (simp [plainName, overriddenIn]; done) | decide +kernel)) hisR ?_
  intro p e s m args below meth c s₁ Bd hml0 hP hK
  obtain ⟨rfl, hZ, hh⟩ := hP
  have hx := Bd.exec
  have hby := Bd.bytes
  have hml : c.maxLocals = 7 := hml0
  have hown : s.vm.findClass "com/example/hushed_flood/hushedflood/tcp/ControlIsControlPinLaw" = some m.cls := findClass_of_methodNamed Bd.named
  have hnm := (name_of_methodNamed Bd.named Bd.method).1
  have X0 : Stand p l e room_1 s m #[(.int p1), (.int p2), (.long p3)] below meth c s₁ [] 0 0 := Stand.of_body Bd
  have e0 : s₁.heap = h0 := by rw [← hh, Bd.state]; rfl
  have N0 := Fr.nil n0
  have ef : entryFrame m #[(.int p1), (.int p2), (.long p3)] maxLocals = (mkF m 0 #[.val (.int p1), .val (.int p2), .val (.long p3), .second, .unset, .unset, .unset] []) := by first | (simp [entryFrame, mkF, argsToLocals, Value.category, maxLocals]; done) | rfl
  refine own_start (fun P hPP => ?_)
  refine own_step (T' := s₁) (g' := (mkF m 0 #[.val (.int p1), .val (.int p2), .val (.long p3), .second, .unset, .unset, .unset] [])) (fun t_ k_ => castTop ef k_) ?_
  refine own_step (T' := s₁) (g' := (mkF m 1 #[.val (.int p1), .val (.int p2), .val (.long p3), .second, .unset, .unset, .unset] [(.int p1)])) (fun t_ k_ => XS.iloadN X0.here hx rfl (hb hby at_0) rfl k_) ?_
  refine own_step (T' := s₁) (g' := (mkF m 3 #[.val (.int p1), .val (.int p2), .val (.long p3), .second, .unset, .unset, .unset] [(.int (7 : Int32)), (.int p1)])) (fun t_ k_ => XS.bipush X0.here hx rfl (hb hby at_1) k_) ?_
  refine own_step (T' := s₁) (g' := (mkF m 4 #[.val (.int p1), .val (.int p2), .val (.long p3), .second, .unset, .unset, .unset] [(.int (p1 &&& (7 : Int32)))])) (fun t_ k_ => XS.iand X0.here hx rfl (hb hby at_3) rfl k_) ?_
  rw [hk]
  refine own_step (T' := s₁) (g' := (mkF m 6 #[.val (.int p1), .val (.int p2), .val (.long p3), .second, .val (.int (7 : Int32)), .unset, .unset] [])) (fun t_ k_ => XS.istore X0.here hx rfl (hb hby at_4) rfl (l' := #[.val (.int p1), .val (.int p2), .val (.long p3), .second, .val (.int (7 : Int32)), .unset, .unset]) rfl k_) ?_
  refine own_step (T' := s₁) (g' := (mkF m 8 #[.val (.int p1), .val (.int p2), .val (.long p3), .second, .val (.int (7 : Int32)), .unset, .unset] [(.int (7 : Int32))])) (fun t_ k_ => XS.iload X0.here hx rfl (hb hby at_6) rfl k_) ?_
  obtain ⟨T1, h1, k1, X1, e1, E1, A1, st1⟩ := newP X0 hx hZ (hw _ (List.mem_of_getElem? (i := 0) rfl)) e0 (g := (mkF m 8 #[.val (.int p1), .val (.int p2), .val (.long p3), .second, .val (.int (7 : Int32)), .unset, .unset] [(.int (7 : Int32))])) rfl (hb hby at_8) rfl (by decide) (cap := 7) (by decide) (by decide) (by decide) (by decide)
  obtain ⟨b1, g1⟩ : ∃ z, z = h0.size := ⟨_, rfl⟩
  rw [← g1] at A1 st1
  have ge_b1 : n0 ≤ b1 := Nat.le_trans Z0 (Nat.le_of_eq g1.symm)
  have z2 : n0 ≤ h1.size := Nat.le_trans Z0 E1.1
  have V1 : Arv Z h1 b1 k1 .byte (7 : Int32) [(.int (0 : Int32)), (.int (0 : Int32)), (.int (0 : Int32)), (.int (0 : Int32)), (.int (0 : Int32)), (.int (0 : Int32)), (.int (0 : Int32))] (.int (0 : Int32)) := (Arv.new A1 (by decide)).pad (pad_rep [] (.int (0 : Int32)) 7)
  refine own_step (T' := T1) (g' := (mkF m 10 #[.val (.int p1), .val (.int p2), .val (.long p3), .second, .val (.int (7 : Int32)), .unset, .unset] [(.ref b1)])) st1 ?_
  refine own_step (T' := T1) (g' := (mkF m 12 #[.val (.int p1), .val (.int p2), .val (.long p3), .second, .val (.int (7 : Int32)), .val (.ref b1), .unset] [])) (fun t_ k_ => XS.astore X1.here hx rfl (hb hby at_10) rfl rfl (l' := #[.val (.int p1), .val (.int p2), .val (.long p3), .second, .val (.int (7 : Int32)), .val (.ref b1), .unset]) rfl k_) ?_
  refine own_step (T' := T1) (g' := (mkF m 14 #[.val (.int p1), .val (.int p2), .val (.long p3), .second, .val (.int (7 : Int32)), .val (.ref b1), .unset] [(.int (7 : Int32))])) (fun t_ k_ => XS.iload X1.here hx rfl (hb hby at_12) rfl k_) ?_
  refine own_step (T' := T1) (g' := (mkF m 17 #[.val (.int p1), .val (.int p2), .val (.long p3), .second, .val (.int (7 : Int32)), .val (.ref b1), .unset] [])) (fun t_ k_ => XS.ifNo X1.here hx rfl (hb hby at_14) rfl ((if0 _ _).trans (tlt (by decide)).2.2.2) k_) ?_
  refine own_step (T' := T1) (g' := (mkF m 19 #[.val (.int p1), .val (.int p2), .val (.long p3), .second, .val (.int (7 : Int32)), .val (.ref b1), .unset] [(.ref b1)])) (fun t_ k_ => XS.aload X1.here hx rfl (hb hby at_17) rfl rfl k_) ?_
  refine own_step (T' := T1) (g' := (mkF m 20 #[.val (.int p1), .val (.int p2), .val (.long p3), .second, .val (.int (7 : Int32)), .val (.ref b1), .unset] [(.int (0 : Int32)), (.ref b1)])) (fun t_ k_ => XS.iconst X1.here hx rfl (hb hby at_19) k_) ?_
  refine own_step (T' := T1) (g' := (mkF m 21 #[.val (.int p1), .val (.int p2), .val (.long p3), .second, .val (.int (7 : Int32)), .val (.ref b1), .unset] [(.long p3), (.int (0 : Int32)), (.ref b1)])) (fun t_ k_ => XS.lloadN X1.here hx rfl (hb hby at_20) rfl k_) ?_
  refine own_step (T' := T1) (g' := (mkF m 22 #[.val (.int p1), .val (.int p2), .val (.long p3), .second, .val (.int (7 : Int32)), .val (.ref b1), .unset] [(.int (p3.toInt32)), (.int (0 : Int32)), (.ref b1)])) (fun t_ k_ => XS.l2i X1.here hx rfl (hb hby at_21) rfl k_) ?_
  refine own_step (T' := T1) (g' := (mkF m 23 #[.val (.int p1), .val (.int p2), .val (.long p3), .second, .val (.int (7 : Int32)), .val (.ref b1), .unset] [(.int ((p3.toInt32).toInt8.toInt32)), (.int (0 : Int32)), (.ref b1)])) (fun t_ k_ => XS.i2b X1.here hx rfl (hb hby at_22) rfl k_) ?_
  obtain ⟨cl3, Ar3, qk3, Sz3, Nz3, Hs3, Gs3⟩ := V1
  have hin3 := inb_of (j := (0 : Int32)) Sz3 ⟨by decide, by decide⟩
  obtain ⟨T3, h3, X3, e3, W3, st3⟩ := stB X1 hx hZ e1 Ar3 (j := (0 : Int32)) hin3 (g := (mkF m 23 #[.val (.int p1), .val (.int p2), .val (.long p3), .second, .val (.int (7 : Int32)), .val (.ref b1), .unset] [(.int ((p3.toInt32).toInt8.toInt32)), (.int (0 : Int32)), (.ref b1)])) rfl rfl (hb hby at_23)
  have V3 : Arv Z h3 b1 k1 .byte (7 : Int32) [(.int (nar .byte ((p3.toInt32).toInt8.toInt32))), (.int (0 : Int32)), (.int (0 : Int32)), (.int (0 : Int32)), (.int (0 : Int32)), (.int (0 : Int32)), (.int (0 : Int32))] (.int (0 : Int32)) := Arv.set Ar3 qk3 Sz3 Nz3 Hs3 Gs3 (fits_nar_byte _) W3 0 rfl (Nat.le_of_ble_eq_true rfl)
  have N3 := Fr.snoc X3 N0 ge_b1
  have z5 : n0 ≤ h3.size := Nat.le_trans z2 (Keep.of_wr W3).1
  refine own_step (T' := T3) (g' := (mkF m 24 #[.val (.int p1), .val (.int p2), .val (.long p3), .second, .val (.int (7 : Int32)), .val (.ref b1), .unset] [])) st3 ?_
  refine own_step (T' := T3) (g' := (mkF m 26 #[.val (.int p1), .val (.int p2), .val (.long p3), .second, .val (.int (7 : Int32)), .val (.ref b1), .unset] [(.int (7 : Int32))])) (fun t_ k_ => XS.iload X3.here hx rfl (hb hby at_24) rfl k_) ?_
  refine own_step (T' := T3) (g' := (mkF m 27 #[.val (.int p1), .val (.int p2), .val (.long p3), .second, .val (.int (7 : Int32)), .val (.ref b1), .unset] [(.int (1 : Int32)), (.int (7 : Int32))])) (fun t_ k_ => XS.iconst X3.here hx rfl (hb hby at_26) k_) ?_
  refine own_step (T' := T3) (g' := (mkF m 30 #[.val (.int p1), .val (.int p2), .val (.long p3), .second, .val (.int (7 : Int32)), .val (.ref b1), .unset] [])) (fun t_ k_ => XS.icmpNo X3.here hx rfl (hb hby at_27) rfl (tlt (by decide)).2.2.2 k_) ?_
  refine own_step (T' := T3) (g' := (mkF m 32 #[.val (.int p1), .val (.int p2), .val (.long p3), .second, .val (.int (7 : Int32)), .val (.ref b1), .unset] [(.ref b1)])) (fun t_ k_ => XS.aload X3.here hx rfl (hb hby at_30) rfl rfl k_) ?_
  refine own_step (T' := T3) (g' := (mkF m 33 #[.val (.int p1), .val (.int p2), .val (.long p3), .second, .val (.int (7 : Int32)), .val (.ref b1), .unset] [(.int (1 : Int32)), (.ref b1)])) (fun t_ k_ => XS.iconst X3.here hx rfl (hb hby at_32) k_) ?_
  refine own_step (T' := T3) (g' := (mkF m 34 #[.val (.int p1), .val (.int p2), .val (.long p3), .second, .val (.int (7 : Int32)), .val (.ref b1), .unset] [(.long p3), (.int (1 : Int32)), (.ref b1)])) (fun t_ k_ => XS.lloadN X3.here hx rfl (hb hby at_33) rfl k_) ?_
  refine own_step (T' := T3) (g' := (mkF m 36 #[.val (.int p1), .val (.int p2), .val (.long p3), .second, .val (.int (7 : Int32)), .val (.ref b1), .unset] [(.int (8 : Int32)), (.long p3), (.int (1 : Int32)), (.ref b1)])) (fun t_ k_ => XS.bipush X3.here hx rfl (hb hby at_34) k_) ?_
  refine own_step (T' := T3) (g' := (mkF m 37 #[.val (.int p1), .val (.int p2), .val (.long p3), .second, .val (.int (7 : Int32)), .val (.ref b1), .unset] [(.long (Jvm.Free.XT.ushrL p3 (8 : Int32))), (.int (1 : Int32)), (.ref b1)])) (fun t_ k_ => XT.lushr X3.here hx rfl (hb hby at_36) rfl k_) ?_
  refine own_step (T' := T3) (g' := (mkF m 38 #[.val (.int p1), .val (.int p2), .val (.long p3), .second, .val (.int (7 : Int32)), .val (.ref b1), .unset] [(.int ((Jvm.Free.XT.ushrL p3 (8 : Int32)).toInt32)), (.int (1 : Int32)), (.ref b1)])) (fun t_ k_ => XS.l2i X3.here hx rfl (hb hby at_37) rfl k_) ?_
  refine own_step (T' := T3) (g' := (mkF m 39 #[.val (.int p1), .val (.int p2), .val (.long p3), .second, .val (.int (7 : Int32)), .val (.ref b1), .unset] [(.int (((Jvm.Free.XT.ushrL p3 (8 : Int32)).toInt32).toInt8.toInt32)), (.int (1 : Int32)), (.ref b1)])) (fun t_ k_ => XS.i2b X3.here hx rfl (hb hby at_38) rfl k_) ?_
  obtain ⟨cl6, Ar6, qk6, Sz6, Nz6, Hs6, Gs6⟩ := V3
  have hin6 := inb_of (j := (1 : Int32)) Sz6 ⟨by decide, by decide⟩
  obtain ⟨T6, h6, X6, e6, W6, st6⟩ := stB X3 hx hZ e3 Ar6 (j := (1 : Int32)) hin6 (g := (mkF m 39 #[.val (.int p1), .val (.int p2), .val (.long p3), .second, .val (.int (7 : Int32)), .val (.ref b1), .unset] [(.int (((Jvm.Free.XT.ushrL p3 (8 : Int32)).toInt32).toInt8.toInt32)), (.int (1 : Int32)), (.ref b1)])) rfl rfl (hb hby at_39)
  have V6 : Arv Z h6 b1 k1 .byte (7 : Int32) [(.int (nar .byte ((p3.toInt32).toInt8.toInt32))), (.int (nar .byte (((Jvm.Free.XT.ushrL p3 (8 : Int32)).toInt32).toInt8.toInt32))), (.int (0 : Int32)), (.int (0 : Int32)), (.int (0 : Int32)), (.int (0 : Int32)), (.int (0 : Int32))] (.int (0 : Int32)) := Arv.set Ar6 qk6 Sz6 Nz6 Hs6 Gs6 (fits_nar_byte _) W6 1 rfl (Nat.le_of_ble_eq_true rfl)
  have N6 := Fr.snoc X6 N3 ge_b1
  have z8 : n0 ≤ h6.size := Nat.le_trans z5 (Keep.of_wr W6).1
  refine own_step (T' := T6) (g' := (mkF m 40 #[.val (.int p1), .val (.int p2), .val (.long p3), .second, .val (.int (7 : Int32)), .val (.ref b1), .unset] [])) st6 ?_
  refine own_step (T' := T6) (g' := (mkF m 42 #[.val (.int p1), .val (.int p2), .val (.long p3), .second, .val (.int (7 : Int32)), .val (.ref b1), .unset] [(.int (7 : Int32))])) (fun t_ k_ => XS.iload X6.here hx rfl (hb hby at_40) rfl k_) ?_
  refine own_step (T' := T6) (g' := (mkF m 43 #[.val (.int p1), .val (.int p2), .val (.long p3), .second, .val (.int (7 : Int32)), .val (.ref b1), .unset] [(.int (2 : Int32)), (.int (7 : Int32))])) (fun t_ k_ => XS.iconst X6.here hx rfl (hb hby at_42) k_) ?_
  refine own_step (T' := T6) (g' := (mkF m 46 #[.val (.int p1), .val (.int p2), .val (.long p3), .second, .val (.int (7 : Int32)), .val (.ref b1), .unset] [])) (fun t_ k_ => XS.icmpNo X6.here hx rfl (hb hby at_43) rfl (tlt (by decide)).2.2.2 k_) ?_
  refine own_step (T' := T6) (g' := (mkF m 48 #[.val (.int p1), .val (.int p2), .val (.long p3), .second, .val (.int (7 : Int32)), .val (.ref b1), .unset] [(.ref b1)])) (fun t_ k_ => XS.aload X6.here hx rfl (hb hby at_46) rfl rfl k_) ?_
  refine own_step (T' := T6) (g' := (mkF m 49 #[.val (.int p1), .val (.int p2), .val (.long p3), .second, .val (.int (7 : Int32)), .val (.ref b1), .unset] [(.int (2 : Int32)), (.ref b1)])) (fun t_ k_ => XS.iconst X6.here hx rfl (hb hby at_48) k_) ?_
  refine own_step (T' := T6) (g' := (mkF m 50 #[.val (.int p1), .val (.int p2), .val (.long p3), .second, .val (.int (7 : Int32)), .val (.ref b1), .unset] [(.long p3), (.int (2 : Int32)), (.ref b1)])) (fun t_ k_ => XS.lloadN X6.here hx rfl (hb hby at_49) rfl k_) ?_
  refine own_step (T' := T6) (g' := (mkF m 52 #[.val (.int p1), .val (.int p2), .val (.long p3), .second, .val (.int (7 : Int32)), .val (.ref b1), .unset] [(.int (16 : Int32)), (.long p3), (.int (2 : Int32)), (.ref b1)])) (fun t_ k_ => XS.bipush X6.here hx rfl (hb hby at_50) k_) ?_
  refine own_step (T' := T6) (g' := (mkF m 53 #[.val (.int p1), .val (.int p2), .val (.long p3), .second, .val (.int (7 : Int32)), .val (.ref b1), .unset] [(.long (Jvm.Free.XT.ushrL p3 (16 : Int32))), (.int (2 : Int32)), (.ref b1)])) (fun t_ k_ => XT.lushr X6.here hx rfl (hb hby at_52) rfl k_) ?_
  refine own_step (T' := T6) (g' := (mkF m 54 #[.val (.int p1), .val (.int p2), .val (.long p3), .second, .val (.int (7 : Int32)), .val (.ref b1), .unset] [(.int ((Jvm.Free.XT.ushrL p3 (16 : Int32)).toInt32)), (.int (2 : Int32)), (.ref b1)])) (fun t_ k_ => XS.l2i X6.here hx rfl (hb hby at_53) rfl k_) ?_
  refine own_step (T' := T6) (g' := (mkF m 55 #[.val (.int p1), .val (.int p2), .val (.long p3), .second, .val (.int (7 : Int32)), .val (.ref b1), .unset] [(.int (((Jvm.Free.XT.ushrL p3 (16 : Int32)).toInt32).toInt8.toInt32)), (.int (2 : Int32)), (.ref b1)])) (fun t_ k_ => XS.i2b X6.here hx rfl (hb hby at_54) rfl k_) ?_
  obtain ⟨cl9, Ar9, qk9, Sz9, Nz9, Hs9, Gs9⟩ := V6
  have hin9 := inb_of (j := (2 : Int32)) Sz9 ⟨by decide, by decide⟩
  obtain ⟨T9, h9, X9, e9, W9, st9⟩ := stB X6 hx hZ e6 Ar9 (j := (2 : Int32)) hin9 (g := (mkF m 55 #[.val (.int p1), .val (.int p2), .val (.long p3), .second, .val (.int (7 : Int32)), .val (.ref b1), .unset] [(.int (((Jvm.Free.XT.ushrL p3 (16 : Int32)).toInt32).toInt8.toInt32)), (.int (2 : Int32)), (.ref b1)])) rfl rfl (hb hby at_55)
  have V9 : Arv Z h9 b1 k1 .byte (7 : Int32) [(.int (nar .byte ((p3.toInt32).toInt8.toInt32))), (.int (nar .byte (((Jvm.Free.XT.ushrL p3 (8 : Int32)).toInt32).toInt8.toInt32))), (.int (nar .byte (((Jvm.Free.XT.ushrL p3 (16 : Int32)).toInt32).toInt8.toInt32))), (.int (0 : Int32)), (.int (0 : Int32)), (.int (0 : Int32)), (.int (0 : Int32))] (.int (0 : Int32)) := Arv.set Ar9 qk9 Sz9 Nz9 Hs9 Gs9 (fits_nar_byte _) W9 2 rfl (Nat.le_of_ble_eq_true rfl)
  have N9 := Fr.snoc X9 N6 ge_b1
  have z11 : n0 ≤ h9.size := Nat.le_trans z8 (Keep.of_wr W9).1
  refine own_step (T' := T9) (g' := (mkF m 56 #[.val (.int p1), .val (.int p2), .val (.long p3), .second, .val (.int (7 : Int32)), .val (.ref b1), .unset] [])) st9 ?_
  refine own_step (T' := T9) (g' := (mkF m 58 #[.val (.int p1), .val (.int p2), .val (.long p3), .second, .val (.int (7 : Int32)), .val (.ref b1), .unset] [(.int (7 : Int32))])) (fun t_ k_ => XS.iload X9.here hx rfl (hb hby at_56) rfl k_) ?_
  refine own_step (T' := T9) (g' := (mkF m 59 #[.val (.int p1), .val (.int p2), .val (.long p3), .second, .val (.int (7 : Int32)), .val (.ref b1), .unset] [(.int (3 : Int32)), (.int (7 : Int32))])) (fun t_ k_ => XS.iconst X9.here hx rfl (hb hby at_58) k_) ?_
  refine own_step (T' := T9) (g' := (mkF m 62 #[.val (.int p1), .val (.int p2), .val (.long p3), .second, .val (.int (7 : Int32)), .val (.ref b1), .unset] [])) (fun t_ k_ => XS.icmpNo X9.here hx rfl (hb hby at_59) rfl (tlt (by decide)).2.2.2 k_) ?_
  refine own_step (T' := T9) (g' := (mkF m 64 #[.val (.int p1), .val (.int p2), .val (.long p3), .second, .val (.int (7 : Int32)), .val (.ref b1), .unset] [(.ref b1)])) (fun t_ k_ => XS.aload X9.here hx rfl (hb hby at_62) rfl rfl k_) ?_
  refine own_step (T' := T9) (g' := (mkF m 65 #[.val (.int p1), .val (.int p2), .val (.long p3), .second, .val (.int (7 : Int32)), .val (.ref b1), .unset] [(.int (3 : Int32)), (.ref b1)])) (fun t_ k_ => XS.iconst X9.here hx rfl (hb hby at_64) k_) ?_
  refine own_step (T' := T9) (g' := (mkF m 66 #[.val (.int p1), .val (.int p2), .val (.long p3), .second, .val (.int (7 : Int32)), .val (.ref b1), .unset] [(.long p3), (.int (3 : Int32)), (.ref b1)])) (fun t_ k_ => XS.lloadN X9.here hx rfl (hb hby at_65) rfl k_) ?_
  refine own_step (T' := T9) (g' := (mkF m 68 #[.val (.int p1), .val (.int p2), .val (.long p3), .second, .val (.int (7 : Int32)), .val (.ref b1), .unset] [(.int (24 : Int32)), (.long p3), (.int (3 : Int32)), (.ref b1)])) (fun t_ k_ => XS.bipush X9.here hx rfl (hb hby at_66) k_) ?_
  refine own_step (T' := T9) (g' := (mkF m 69 #[.val (.int p1), .val (.int p2), .val (.long p3), .second, .val (.int (7 : Int32)), .val (.ref b1), .unset] [(.long (Jvm.Free.XT.ushrL p3 (24 : Int32))), (.int (3 : Int32)), (.ref b1)])) (fun t_ k_ => XT.lushr X9.here hx rfl (hb hby at_68) rfl k_) ?_
  refine own_step (T' := T9) (g' := (mkF m 70 #[.val (.int p1), .val (.int p2), .val (.long p3), .second, .val (.int (7 : Int32)), .val (.ref b1), .unset] [(.int ((Jvm.Free.XT.ushrL p3 (24 : Int32)).toInt32)), (.int (3 : Int32)), (.ref b1)])) (fun t_ k_ => XS.l2i X9.here hx rfl (hb hby at_69) rfl k_) ?_
  refine own_step (T' := T9) (g' := (mkF m 71 #[.val (.int p1), .val (.int p2), .val (.long p3), .second, .val (.int (7 : Int32)), .val (.ref b1), .unset] [(.int (((Jvm.Free.XT.ushrL p3 (24 : Int32)).toInt32).toInt8.toInt32)), (.int (3 : Int32)), (.ref b1)])) (fun t_ k_ => XS.i2b X9.here hx rfl (hb hby at_70) rfl k_) ?_
  obtain ⟨cl12, Ar12, qk12, Sz12, Nz12, Hs12, Gs12⟩ := V9
  have hin12 := inb_of (j := (3 : Int32)) Sz12 ⟨by decide, by decide⟩
  obtain ⟨T12, h12, X12, e12, W12, st12⟩ := stB X9 hx hZ e9 Ar12 (j := (3 : Int32)) hin12 (g := (mkF m 71 #[.val (.int p1), .val (.int p2), .val (.long p3), .second, .val (.int (7 : Int32)), .val (.ref b1), .unset] [(.int (((Jvm.Free.XT.ushrL p3 (24 : Int32)).toInt32).toInt8.toInt32)), (.int (3 : Int32)), (.ref b1)])) rfl rfl (hb hby at_71)
  have V12 : Arv Z h12 b1 k1 .byte (7 : Int32) [(.int (nar .byte ((p3.toInt32).toInt8.toInt32))), (.int (nar .byte (((Jvm.Free.XT.ushrL p3 (8 : Int32)).toInt32).toInt8.toInt32))), (.int (nar .byte (((Jvm.Free.XT.ushrL p3 (16 : Int32)).toInt32).toInt8.toInt32))), (.int (nar .byte (((Jvm.Free.XT.ushrL p3 (24 : Int32)).toInt32).toInt8.toInt32))), (.int (0 : Int32)), (.int (0 : Int32)), (.int (0 : Int32))] (.int (0 : Int32)) := Arv.set Ar12 qk12 Sz12 Nz12 Hs12 Gs12 (fits_nar_byte _) W12 3 rfl (Nat.le_of_ble_eq_true rfl)
  have N12 := Fr.snoc X12 N9 ge_b1
  have z14 : n0 ≤ h12.size := Nat.le_trans z11 (Keep.of_wr W12).1
  refine own_step (T' := T12) (g' := (mkF m 72 #[.val (.int p1), .val (.int p2), .val (.long p3), .second, .val (.int (7 : Int32)), .val (.ref b1), .unset] [])) st12 ?_
  refine own_step (T' := T12) (g' := (mkF m 74 #[.val (.int p1), .val (.int p2), .val (.long p3), .second, .val (.int (7 : Int32)), .val (.ref b1), .unset] [(.int (7 : Int32))])) (fun t_ k_ => XS.iload X12.here hx rfl (hb hby at_72) rfl k_) ?_
  refine own_step (T' := T12) (g' := (mkF m 75 #[.val (.int p1), .val (.int p2), .val (.long p3), .second, .val (.int (7 : Int32)), .val (.ref b1), .unset] [(.int (4 : Int32)), (.int (7 : Int32))])) (fun t_ k_ => XS.iconst X12.here hx rfl (hb hby at_74) k_) ?_
  refine own_step (T' := T12) (g' := (mkF m 78 #[.val (.int p1), .val (.int p2), .val (.long p3), .second, .val (.int (7 : Int32)), .val (.ref b1), .unset] [])) (fun t_ k_ => XS.icmpNo X12.here hx rfl (hb hby at_75) rfl (tlt (by decide)).2.2.2 k_) ?_
  refine own_step (T' := T12) (g' := (mkF m 80 #[.val (.int p1), .val (.int p2), .val (.long p3), .second, .val (.int (7 : Int32)), .val (.ref b1), .unset] [(.ref b1)])) (fun t_ k_ => XS.aload X12.here hx rfl (hb hby at_78) rfl rfl k_) ?_
  refine own_step (T' := T12) (g' := (mkF m 81 #[.val (.int p1), .val (.int p2), .val (.long p3), .second, .val (.int (7 : Int32)), .val (.ref b1), .unset] [(.int (4 : Int32)), (.ref b1)])) (fun t_ k_ => XS.iconst X12.here hx rfl (hb hby at_80) k_) ?_
  refine own_step (T' := T12) (g' := (mkF m 82 #[.val (.int p1), .val (.int p2), .val (.long p3), .second, .val (.int (7 : Int32)), .val (.ref b1), .unset] [(.long p3), (.int (4 : Int32)), (.ref b1)])) (fun t_ k_ => XS.lloadN X12.here hx rfl (hb hby at_81) rfl k_) ?_
  refine own_step (T' := T12) (g' := (mkF m 84 #[.val (.int p1), .val (.int p2), .val (.long p3), .second, .val (.int (7 : Int32)), .val (.ref b1), .unset] [(.int (32 : Int32)), (.long p3), (.int (4 : Int32)), (.ref b1)])) (fun t_ k_ => XS.bipush X12.here hx rfl (hb hby at_82) k_) ?_
  refine own_step (T' := T12) (g' := (mkF m 85 #[.val (.int p1), .val (.int p2), .val (.long p3), .second, .val (.int (7 : Int32)), .val (.ref b1), .unset] [(.long (Jvm.Free.XT.ushrL p3 (32 : Int32))), (.int (4 : Int32)), (.ref b1)])) (fun t_ k_ => XT.lushr X12.here hx rfl (hb hby at_84) rfl k_) ?_
  refine own_step (T' := T12) (g' := (mkF m 86 #[.val (.int p1), .val (.int p2), .val (.long p3), .second, .val (.int (7 : Int32)), .val (.ref b1), .unset] [(.int ((Jvm.Free.XT.ushrL p3 (32 : Int32)).toInt32)), (.int (4 : Int32)), (.ref b1)])) (fun t_ k_ => XS.l2i X12.here hx rfl (hb hby at_85) rfl k_) ?_
  refine own_step (T' := T12) (g' := (mkF m 87 #[.val (.int p1), .val (.int p2), .val (.long p3), .second, .val (.int (7 : Int32)), .val (.ref b1), .unset] [(.int (((Jvm.Free.XT.ushrL p3 (32 : Int32)).toInt32).toInt8.toInt32)), (.int (4 : Int32)), (.ref b1)])) (fun t_ k_ => XS.i2b X12.here hx rfl (hb hby at_86) rfl k_) ?_
  obtain ⟨cl15, Ar15, qk15, Sz15, Nz15, Hs15, Gs15⟩ := V12
  have hin15 := inb_of (j := (4 : Int32)) Sz15 ⟨by decide, by decide⟩
  obtain ⟨T15, h15, X15, e15, W15, st15⟩ := stB X12 hx hZ e12 Ar15 (j := (4 : Int32)) hin15 (g := (mkF m 87 #[.val (.int p1), .val (.int p2), .val (.long p3), .second, .val (.int (7 : Int32)), .val (.ref b1), .unset] [(.int (((Jvm.Free.XT.ushrL p3 (32 : Int32)).toInt32).toInt8.toInt32)), (.int (4 : Int32)), (.ref b1)])) rfl rfl (hb hby at_87)
  have V15 : Arv Z h15 b1 k1 .byte (7 : Int32) [(.int (nar .byte ((p3.toInt32).toInt8.toInt32))), (.int (nar .byte (((Jvm.Free.XT.ushrL p3 (8 : Int32)).toInt32).toInt8.toInt32))), (.int (nar .byte (((Jvm.Free.XT.ushrL p3 (16 : Int32)).toInt32).toInt8.toInt32))), (.int (nar .byte (((Jvm.Free.XT.ushrL p3 (24 : Int32)).toInt32).toInt8.toInt32))), (.int (nar .byte (((Jvm.Free.XT.ushrL p3 (32 : Int32)).toInt32).toInt8.toInt32))), (.int (0 : Int32)), (.int (0 : Int32))] (.int (0 : Int32)) := Arv.set Ar15 qk15 Sz15 Nz15 Hs15 Gs15 (fits_nar_byte _) W15 4 rfl (Nat.le_of_ble_eq_true rfl)
  have N15 := Fr.snoc X15 N12 ge_b1
  have z17 : n0 ≤ h15.size := Nat.le_trans z14 (Keep.of_wr W15).1
  refine own_step (T' := T15) (g' := (mkF m 88 #[.val (.int p1), .val (.int p2), .val (.long p3), .second, .val (.int (7 : Int32)), .val (.ref b1), .unset] [])) st15 ?_
  refine own_step (T' := T15) (g' := (mkF m 90 #[.val (.int p1), .val (.int p2), .val (.long p3), .second, .val (.int (7 : Int32)), .val (.ref b1), .unset] [(.int (7 : Int32))])) (fun t_ k_ => XS.iload X15.here hx rfl (hb hby at_88) rfl k_) ?_
  refine own_step (T' := T15) (g' := (mkF m 91 #[.val (.int p1), .val (.int p2), .val (.long p3), .second, .val (.int (7 : Int32)), .val (.ref b1), .unset] [(.int (5 : Int32)), (.int (7 : Int32))])) (fun t_ k_ => XS.iconst X15.here hx rfl (hb hby at_90) k_) ?_
  refine own_step (T' := T15) (g' := (mkF m 94 #[.val (.int p1), .val (.int p2), .val (.long p3), .second, .val (.int (7 : Int32)), .val (.ref b1), .unset] [])) (fun t_ k_ => XS.icmpNo X15.here hx rfl (hb hby at_91) rfl (tlt (by decide)).2.2.2 k_) ?_
  refine own_step (T' := T15) (g' := (mkF m 96 #[.val (.int p1), .val (.int p2), .val (.long p3), .second, .val (.int (7 : Int32)), .val (.ref b1), .unset] [(.ref b1)])) (fun t_ k_ => XS.aload X15.here hx rfl (hb hby at_94) rfl rfl k_) ?_
  refine own_step (T' := T15) (g' := (mkF m 97 #[.val (.int p1), .val (.int p2), .val (.long p3), .second, .val (.int (7 : Int32)), .val (.ref b1), .unset] [(.int (5 : Int32)), (.ref b1)])) (fun t_ k_ => XS.iconst X15.here hx rfl (hb hby at_96) k_) ?_
  refine own_step (T' := T15) (g' := (mkF m 98 #[.val (.int p1), .val (.int p2), .val (.long p3), .second, .val (.int (7 : Int32)), .val (.ref b1), .unset] [(.int p2), (.int (5 : Int32)), (.ref b1)])) (fun t_ k_ => XS.iloadN X15.here hx rfl (hb hby at_97) rfl k_) ?_
  refine own_step (T' := T15) (g' := (mkF m 99 #[.val (.int p1), .val (.int p2), .val (.long p3), .second, .val (.int (7 : Int32)), .val (.ref b1), .unset] [(.int (p2.toInt8.toInt32)), (.int (5 : Int32)), (.ref b1)])) (fun t_ k_ => XS.i2b X15.here hx rfl (hb hby at_98) rfl k_) ?_
  obtain ⟨cl18, Ar18, qk18, Sz18, Nz18, Hs18, Gs18⟩ := V15
  have hin18 := inb_of (j := (5 : Int32)) Sz18 ⟨by decide, by decide⟩
  obtain ⟨T18, h18, X18, e18, W18, st18⟩ := stB X15 hx hZ e15 Ar18 (j := (5 : Int32)) hin18 (g := (mkF m 99 #[.val (.int p1), .val (.int p2), .val (.long p3), .second, .val (.int (7 : Int32)), .val (.ref b1), .unset] [(.int (p2.toInt8.toInt32)), (.int (5 : Int32)), (.ref b1)])) rfl rfl (hb hby at_99)
  have V18 : Arv Z h18 b1 k1 .byte (7 : Int32) [(.int (nar .byte ((p3.toInt32).toInt8.toInt32))), (.int (nar .byte (((Jvm.Free.XT.ushrL p3 (8 : Int32)).toInt32).toInt8.toInt32))), (.int (nar .byte (((Jvm.Free.XT.ushrL p3 (16 : Int32)).toInt32).toInt8.toInt32))), (.int (nar .byte (((Jvm.Free.XT.ushrL p3 (24 : Int32)).toInt32).toInt8.toInt32))), (.int (nar .byte (((Jvm.Free.XT.ushrL p3 (32 : Int32)).toInt32).toInt8.toInt32))), (.int (nar .byte (p2.toInt8.toInt32))), (.int (0 : Int32))] (.int (0 : Int32)) := Arv.set Ar18 qk18 Sz18 Nz18 Hs18 Gs18 (fits_nar_byte _) W18 5 rfl (Nat.le_of_ble_eq_true rfl)
  have N18 := Fr.snoc X18 N15 ge_b1
  have z20 : n0 ≤ h18.size := Nat.le_trans z17 (Keep.of_wr W18).1
  refine own_step (T' := T18) (g' := (mkF m 100 #[.val (.int p1), .val (.int p2), .val (.long p3), .second, .val (.int (7 : Int32)), .val (.ref b1), .unset] [])) st18 ?_
  refine own_step (T' := T18) (g' := (mkF m 102 #[.val (.int p1), .val (.int p2), .val (.long p3), .second, .val (.int (7 : Int32)), .val (.ref b1), .unset] [(.int (7 : Int32))])) (fun t_ k_ => XS.iload X18.here hx rfl (hb hby at_100) rfl k_) ?_
  refine own_step (T' := T18) (g' := (mkF m 104 #[.val (.int p1), .val (.int p2), .val (.long p3), .second, .val (.int (7 : Int32)), .val (.ref b1), .unset] [(.int (6 : Int32)), (.int (7 : Int32))])) (fun t_ k_ => XS.bipush X18.here hx rfl (hb hby at_102) k_) ?_
  refine own_step (T' := T18) (g' := (mkF m 107 #[.val (.int p1), .val (.int p2), .val (.long p3), .second, .val (.int (7 : Int32)), .val (.ref b1), .unset] [])) (fun t_ k_ => XS.icmpNo X18.here hx rfl (hb hby at_104) rfl (tlt (by decide)).2.2.2 k_) ?_
  refine own_step (T' := T18) (g' := (mkF m 109 #[.val (.int p1), .val (.int p2), .val (.long p3), .second, .val (.int (7 : Int32)), .val (.ref b1), .unset] [(.ref b1)])) (fun t_ k_ => XS.aload X18.here hx rfl (hb hby at_107) rfl rfl k_) ?_
  refine own_step (T' := T18) (g' := (mkF m 111 #[.val (.int p1), .val (.int p2), .val (.long p3), .second, .val (.int (7 : Int32)), .val (.ref b1), .unset] [(.int (6 : Int32)), (.ref b1)])) (fun t_ k_ => XS.bipush X18.here hx rfl (hb hby at_109) k_) ?_
  refine own_step (T' := T18) (g' := (mkF m 112 #[.val (.int p1), .val (.int p2), .val (.long p3), .second, .val (.int (7 : Int32)), .val (.ref b1), .unset] [(.long p3), (.int (6 : Int32)), (.ref b1)])) (fun t_ k_ => XS.lloadN X18.here hx rfl (hb hby at_111) rfl k_) ?_
  refine own_step (T' := T18) (g' := (mkF m 114 #[.val (.int p1), .val (.int p2), .val (.long p3), .second, .val (.int (7 : Int32)), .val (.ref b1), .unset] [(.int (40 : Int32)), (.long p3), (.int (6 : Int32)), (.ref b1)])) (fun t_ k_ => XS.bipush X18.here hx rfl (hb hby at_112) k_) ?_
  refine own_step (T' := T18) (g' := (mkF m 115 #[.val (.int p1), .val (.int p2), .val (.long p3), .second, .val (.int (7 : Int32)), .val (.ref b1), .unset] [(.long (Jvm.Free.XT.ushrL p3 (40 : Int32))), (.int (6 : Int32)), (.ref b1)])) (fun t_ k_ => XT.lushr X18.here hx rfl (hb hby at_114) rfl k_) ?_
  refine own_step (T' := T18) (g' := (mkF m 116 #[.val (.int p1), .val (.int p2), .val (.long p3), .second, .val (.int (7 : Int32)), .val (.ref b1), .unset] [(.int ((Jvm.Free.XT.ushrL p3 (40 : Int32)).toInt32)), (.int (6 : Int32)), (.ref b1)])) (fun t_ k_ => XS.l2i X18.here hx rfl (hb hby at_115) rfl k_) ?_
  refine own_step (T' := T18) (g' := (mkF m 117 #[.val (.int p1), .val (.int p2), .val (.long p3), .second, .val (.int (7 : Int32)), .val (.ref b1), .unset] [(.int (((Jvm.Free.XT.ushrL p3 (40 : Int32)).toInt32).toInt8.toInt32)), (.int (6 : Int32)), (.ref b1)])) (fun t_ k_ => XS.i2b X18.here hx rfl (hb hby at_116) rfl k_) ?_
  obtain ⟨cl21, Ar21, qk21, Sz21, Nz21, Hs21, Gs21⟩ := V18
  have hin21 := inb_of (j := (6 : Int32)) Sz21 ⟨by decide, by decide⟩
  obtain ⟨T21, h21, X21, e21, W21, st21⟩ := stB X18 hx hZ e18 Ar21 (j := (6 : Int32)) hin21 (g := (mkF m 117 #[.val (.int p1), .val (.int p2), .val (.long p3), .second, .val (.int (7 : Int32)), .val (.ref b1), .unset] [(.int (((Jvm.Free.XT.ushrL p3 (40 : Int32)).toInt32).toInt8.toInt32)), (.int (6 : Int32)), (.ref b1)])) rfl rfl (hb hby at_117)
  have V21 : Arv Z h21 b1 k1 .byte (7 : Int32) [(.int (nar .byte ((p3.toInt32).toInt8.toInt32))), (.int (nar .byte (((Jvm.Free.XT.ushrL p3 (8 : Int32)).toInt32).toInt8.toInt32))), (.int (nar .byte (((Jvm.Free.XT.ushrL p3 (16 : Int32)).toInt32).toInt8.toInt32))), (.int (nar .byte (((Jvm.Free.XT.ushrL p3 (24 : Int32)).toInt32).toInt8.toInt32))), (.int (nar .byte (((Jvm.Free.XT.ushrL p3 (32 : Int32)).toInt32).toInt8.toInt32))), (.int (nar .byte (p2.toInt8.toInt32))), (.int (nar .byte (((Jvm.Free.XT.ushrL p3 (40 : Int32)).toInt32).toInt8.toInt32)))] (.int (0 : Int32)) := Arv.set Ar21 qk21 Sz21 Nz21 Hs21 Gs21 (fits_nar_byte _) W21 6 rfl (Nat.le_of_ble_eq_true rfl)
  have N21 := Fr.snoc X21 N18 ge_b1
  have z23 : n0 ≤ h21.size := Nat.le_trans z20 (Keep.of_wr W21).1
  refine own_step (T' := T21) (g' := (mkF m 118 #[.val (.int p1), .val (.int p2), .val (.long p3), .second, .val (.int (7 : Int32)), .val (.ref b1), .unset] [])) st21 ?_
  refine own_step (T' := T21) (g' := (mkF m 120 #[.val (.int p1), .val (.int p2), .val (.long p3), .second, .val (.int (7 : Int32)), .val (.ref b1), .unset] [(.int (7 : Int32))])) (fun t_ k_ => XS.iload X21.here hx rfl (hb hby at_118) rfl k_) ?_
  refine own_step (T' := T21) (g' := (mkF m 122 #[.val (.int p1), .val (.int p2), .val (.long p3), .second, .val (.int (7 : Int32)), .val (.ref b1), .unset] [(.int (6 : Int32)), (.int (7 : Int32))])) (fun t_ k_ => XS.bipush X21.here hx rfl (hb hby at_120) k_) ?_
  refine own_step (T' := T21) (g' := (mkF m 125 #[.val (.int p1), .val (.int p2), .val (.long p3), .second, .val (.int (7 : Int32)), .val (.ref b1), .unset] [])) (fun t_ k_ => XS.icmpNo X21.here hx rfl (hb hby at_122) rfl (flt (by decide)).1 k_) ?_
  refine own_step (T' := T21) (g' := (mkF m 126 #[.val (.int p1), .val (.int p2), .val (.long p3), .second, .val (.int (7 : Int32)), .val (.ref b1), .unset] [(.int p2)])) (fun t_ k_ => XS.iloadN X21.here hx rfl (hb hby at_125) rfl k_) ?_
  refine own_step (T' := T21) (g' := (mkF m 129 #[.val (.int p1), .val (.int p2), .val (.long p3), .second, .val (.int (7 : Int32)), .val (.ref b1), .unset] [(.int (255 : Int32)), (.int p2)])) (fun t_ k_ => XS.sipush X21.here hx rfl (hb hby at_126) k_) ?_
  refine own_step (T' := T21) (g' := (mkF m 130 #[.val (.int p1), .val (.int p2), .val (.long p3), .second, .val (.int (7 : Int32)), .val (.ref b1), .unset] [(.int (p2 &&& (255 : Int32)))])) (fun t_ k_ => XS.iand X21.here hx rfl (hb hby at_129) rfl k_) ?_
  refine own_step (T' := T21) (g' := (mkF m 132 #[.val (.int p1), .val (.int p2), .val (.long p3), .second, .val (.int (7 : Int32)), .val (.ref b1), .unset] [(.int (16 : Int32)), (.int (p2 &&& (255 : Int32)))])) (fun t_ k_ => XS.bipush X21.here hx rfl (hb hby at_130) k_) ?_
  by_cases hc132_24 : (p2 &&& (255 : Int32)) < (16 : Int32)
  · refine own_step (T' := T21) (g' := (mkF m 139 #[.val (.int p1), .val (.int p2), .val (.long p3), .second, .val (.int (7 : Int32)), .val (.ref b1), .unset] [])) (fun t_ k_ => XS.icmpYes X21.here hx rfl (pc0 := 132) (pc' := 139) rfl (hb hby at_132) rfl (tlt hc132_24).1 (by decide) (by decide) k_) ?_
    refine own_step (T' := T21) (g' := (mkF m 140 #[.val (.int p1), .val (.int p2), .val (.long p3), .second, .val (.int (7 : Int32)), .val (.ref b1), .unset] [(.int (0 : Int32))])) (fun t_ k_ => XS.iconst X21.here hx rfl (hb hby at_139) k_) ?_
    refine own_step (T' := T21) (g' := (mkF m 142 #[.val (.int p1), .val (.int p2), .val (.long p3), .second, .val (.int (7 : Int32)), .val (.ref b1), .val (.int (0 : Int32))] [])) (fun t_ k_ => XS.istore X21.here hx rfl (hb hby at_140) rfl (l' := #[.val (.int p1), .val (.int p2), .val (.long p3), .second, .val (.int (7 : Int32)), .val (.ref b1), .val (.int (0 : Int32))]) rfl k_) ?_
    refine own_step (T' := T21) (g' := (mkF m 144 #[.val (.int p1), .val (.int p2), .val (.long p3), .second, .val (.int (7 : Int32)), .val (.ref b1), .val (.int (0 : Int32))] [(.ref b1)])) (fun t_ k_ => XS.aload X21.here hx rfl (hb hby at_142) rfl rfl k_) ?_
    obtain ⟨cl26, Ar26, qk26, Sz26, Nz26, Hs26, Gs26⟩ := V21
    obtain ⟨_, _, ⟨T25, L25, k25, n25⟩, -, X25, ⟨Lc25, hQ25, l25, y25, z25⟩, st25⟩ := Jvm.LawKit.callS X21 hx (y := (⟨"com/example/hushed_flood/hushedflood/tcp/Control", "isControl", "([B)Z"⟩ : MethodName)) hown (mvT hZ (hw _ (List.mem_of_getElem? (i := 1) rfl))) (mvT hZ (hw _ (List.mem_of_getElem? (i := 2) rfl))) (mvT hZ (hw _ (List.mem_of_getElem? (i := 3) rfl))) (mvT hZ (hw _ (List.mem_of_getElem? (i := 4) rfl))) (by decide) (backOf (W := 0) (rm1 l Z a0 hw [] b1 cl26 (7 : Int32) (nar .byte (p2.toInt8.toInt32)) h21 n0 z23 Ar26 Sz26 Nz26 (fun _ => Hs26 5 (by rw [Sz26]; decide))) hZ (hw _ (List.mem_of_getElem? (i := 4) rfl)) (hw _ (List.mem_of_getElem? (i := 3) rfl)) (by decide) (by decide)) (g := (mkF m 144 #[.val (.int p1), .val (.int p2), .val (.long p3), .second, .val (.int (7 : Int32)), .val (.ref b1), .val (.int (0 : Int32))] [(.ref b1)])) rfl (by rw [hml]; rfl) (argsL := [(.ref b1)]) (rest := []) (lenOf (by decide +kernel : parseMethodDescriptor "([B)Z" = some ⟨[(.array .byte)], some .boolean⟩) rfl) rfl (by show 2 * 0 + _ ≤ _; exact Nat.le_of_eq rfl) (hb hby at_144) (fun _ _ => ⟨rfl, e21, (by decide : 1 + 0 ≤ _), (by decide : 7 + 0 ≤ _)⟩)
    dsimp only [Pt.U, Pt.locs, Pt.cells, Pt.slots] at X25 l25 y25 z25 st25 hQ25
    subst l25 y25 z25
    obtain ⟨rfl, Nq25, e25⟩ := hQ25
    have N25 := Fr.app N21 Nq25
    refine own_step (T' := T25) (g' := (mkF m 147 #[.val (.int p1), .val (.int p2), .val (.long p3), .second, .val (.int (7 : Int32)), .val (.ref b1), .val (.int (0 : Int32))] [(.int (own_ctl (7 : Int32) (nar .byte (p2.toInt8.toInt32))))])) st25 ?_
    refine own_step (T' := T25) (g' := (mkF m 149 #[.val (.int p1), .val (.int p2), .val (.long p3), .second, .val (.int (7 : Int32)), .val (.ref b1), .val (.int (0 : Int32))] [(.int (0 : Int32)), (.int (own_ctl (7 : Int32) (nar .byte (p2.toInt8.toInt32))))])) (fun t_ k_ => XS.iload X25.here hx rfl (hb hby at_147) rfl k_) ?_
    refine own_step (T' := T25) (g' := (mkF m 152 #[.val (.int p1), .val (.int p2), .val (.long p3), .second, .val (.int (7 : Int32)), .val (.ref b1), .val (.int (0 : Int32))] [])) (fun t_ k_ => XS.icmpNo X25.here hx rfl (hb hby at_149) rfl (teq (by simp [own_ctl, own_byte, hc132_24])).2 k_) ?_
    refine own_step (T' := T25) (g' := (mkF m 153 #[.val (.int p1), .val (.int p2), .val (.long p3), .second, .val (.int (7 : Int32)), .val (.ref b1), .val (.int (0 : Int32))] [(.int (1 : Int32))])) (fun t_ k_ => XS.iconst X25.here hx rfl (hb hby at_152) k_) ?_
    refine own_step (T' := T25) (g' := (mkF m 157 #[.val (.int p1), .val (.int p2), .val (.long p3), .second, .val (.int (7 : Int32)), .val (.ref b1), .val (.int (0 : Int32))] [(.int (1 : Int32))])) (fun t_ k_ => XS.goto X25.here hx rfl (pc0 := 153) (pc' := 157) rfl (hb hby at_153) (by decide) (by decide) k_) ?_
    obtain ⟨fs, hrR, hrun, hended, hWW, hsame⟩ := X25.leave (v := some (.int (1 : Int32))) (fun h => by rw [Bd.returns] at h; cases h)
    refine ⟨_, _, own_retZ X25 hx (t := .boolean) Bd.returns (by simp) (by decide) (hb hby at_157) hrR, hrun, hended, hPP _ _ ⟨_, _, rfl, ?_, ⟨_, rfl⟩, hWW, hsame.mono (by decide) (by decide)⟩⟩
    show Q0 n0 _ T25.heap _
    rw [e25]
    exact ⟨rfl, N25⟩
  · refine own_step (T' := T21) (g' := (mkF m 135 #[.val (.int p1), .val (.int p2), .val (.long p3), .second, .val (.int (7 : Int32)), .val (.ref b1), .unset] [])) (fun t_ k_ => XS.icmpNo X21.here hx rfl (hb hby at_132) rfl (flt hc132_24).1 k_) ?_
    refine own_step (T' := T21) (g' := (mkF m 136 #[.val (.int p1), .val (.int p2), .val (.long p3), .second, .val (.int (7 : Int32)), .val (.ref b1), .unset] [(.int (1 : Int32))])) (fun t_ k_ => XS.iconst X21.here hx rfl (hb hby at_135) k_) ?_
    refine own_step (T' := T21) (g' := (mkF m 140 #[.val (.int p1), .val (.int p2), .val (.long p3), .second, .val (.int (7 : Int32)), .val (.ref b1), .unset] [(.int (1 : Int32))])) (fun t_ k_ => XS.goto X21.here hx rfl (pc0 := 136) (pc' := 140) rfl (hb hby at_136) (by decide) (by decide) k_) ?_
    refine own_step (T' := T21) (g' := (mkF m 142 #[.val (.int p1), .val (.int p2), .val (.long p3), .second, .val (.int (7 : Int32)), .val (.ref b1), .val (.int (1 : Int32))] [])) (fun t_ k_ => XS.istore X21.here hx rfl (hb hby at_140) rfl (l' := #[.val (.int p1), .val (.int p2), .val (.long p3), .second, .val (.int (7 : Int32)), .val (.ref b1), .val (.int (1 : Int32))]) rfl k_) ?_
    refine own_step (T' := T21) (g' := (mkF m 144 #[.val (.int p1), .val (.int p2), .val (.long p3), .second, .val (.int (7 : Int32)), .val (.ref b1), .val (.int (1 : Int32))] [(.ref b1)])) (fun t_ k_ => XS.aload X21.here hx rfl (hb hby at_142) rfl rfl k_) ?_
    obtain ⟨cl28, Ar28, qk28, Sz28, Nz28, Hs28, Gs28⟩ := V21
    obtain ⟨_, _, ⟨T27, L27, k27, n27⟩, -, X27, ⟨Lc27, hQ27, l27, y27, z27⟩, st27⟩ := Jvm.LawKit.callS X21 hx (y := (⟨"com/example/hushed_flood/hushedflood/tcp/Control", "isControl", "([B)Z"⟩ : MethodName)) hown (mvT hZ (hw _ (List.mem_of_getElem? (i := 1) rfl))) (mvT hZ (hw _ (List.mem_of_getElem? (i := 2) rfl))) (mvT hZ (hw _ (List.mem_of_getElem? (i := 3) rfl))) (mvT hZ (hw _ (List.mem_of_getElem? (i := 4) rfl))) (by decide) (backOf (W := 0) (rm1 l Z a0 hw [] b1 cl28 (7 : Int32) (nar .byte (p2.toInt8.toInt32)) h21 n0 z23 Ar28 Sz28 Nz28 (fun _ => Hs28 5 (by rw [Sz28]; decide))) hZ (hw _ (List.mem_of_getElem? (i := 4) rfl)) (hw _ (List.mem_of_getElem? (i := 3) rfl)) (by decide) (by decide)) (g := (mkF m 144 #[.val (.int p1), .val (.int p2), .val (.long p3), .second, .val (.int (7 : Int32)), .val (.ref b1), .val (.int (1 : Int32))] [(.ref b1)])) rfl (by rw [hml]; rfl) (argsL := [(.ref b1)]) (rest := []) (lenOf (by decide +kernel : parseMethodDescriptor "([B)Z" = some ⟨[(.array .byte)], some .boolean⟩) rfl) rfl (by show 2 * 0 + _ ≤ _; exact Nat.le_of_eq rfl) (hb hby at_144) (fun _ _ => ⟨rfl, e21, (by decide : 1 + 0 ≤ _), (by decide : 7 + 0 ≤ _)⟩)
    dsimp only [Pt.U, Pt.locs, Pt.cells, Pt.slots] at X27 l27 y27 z27 st27 hQ27
    subst l27 y27 z27
    obtain ⟨rfl, Nq27, e27⟩ := hQ27
    have N27 := Fr.app N21 Nq27
    refine own_step (T' := T27) (g' := (mkF m 147 #[.val (.int p1), .val (.int p2), .val (.long p3), .second, .val (.int (7 : Int32)), .val (.ref b1), .val (.int (1 : Int32))] [(.int (own_ctl (7 : Int32) (nar .byte (p2.toInt8.toInt32))))])) st27 ?_
    refine own_step (T' := T27) (g' := (mkF m 149 #[.val (.int p1), .val (.int p2), .val (.long p3), .second, .val (.int (7 : Int32)), .val (.ref b1), .val (.int (1 : Int32))] [(.int (1 : Int32)), (.int (own_ctl (7 : Int32) (nar .byte (p2.toInt8.toInt32))))])) (fun t_ k_ => XS.iload X27.here hx rfl (hb hby at_147) rfl k_) ?_
    refine own_step (T' := T27) (g' := (mkF m 152 #[.val (.int p1), .val (.int p2), .val (.long p3), .second, .val (.int (7 : Int32)), .val (.ref b1), .val (.int (1 : Int32))] [])) (fun t_ k_ => XS.icmpNo X27.here hx rfl (hb hby at_149) rfl (teq (by simp [own_ctl, own_byte, hc132_24])).2 k_) ?_
    refine own_step (T' := T27) (g' := (mkF m 153 #[.val (.int p1), .val (.int p2), .val (.long p3), .second, .val (.int (7 : Int32)), .val (.ref b1), .val (.int (1 : Int32))] [(.int (1 : Int32))])) (fun t_ k_ => XS.iconst X27.here hx rfl (hb hby at_152) k_) ?_
    refine own_step (T' := T27) (g' := (mkF m 157 #[.val (.int p1), .val (.int p2), .val (.long p3), .second, .val (.int (7 : Int32)), .val (.ref b1), .val (.int (1 : Int32))] [(.int (1 : Int32))])) (fun t_ k_ => XS.goto X27.here hx rfl (pc0 := 153) (pc' := 157) rfl (hb hby at_153) (by decide) (by decide) k_) ?_
    obtain ⟨fs, hrR, hrun, hended, hWW, hsame⟩ := X27.leave (v := some (.int (1 : Int32))) (fun h => by rw [Bd.returns] at h; cases h)
    refine ⟨_, _, own_retZ X27 hx (t := .boolean) Bd.returns (by simp) (by decide) (hb hby at_157) hrR, hrun, hended, hPP _ _ ⟨_, _, rfl, ?_, ⟨_, rfl⟩, hWW, hsame.mono (by decide) (by decide)⟩⟩
    show Q0 n0 _ T27.heap _
    rw [e27]
    exact ⟨rfl, N27⟩
theorem rmL (l : Launch) (Z : State) (a0 : Array Value) (hw : ∀ d ∈ tables_1, d.before a0 Z = true) (ws : List Jvm.Cond) (p1 p2 : Int32) (p3 : Int64) (h0 : Heap) (n0 : Nat) (Z0 : n0 ≤ h0.size) :
    MetFree l x (head1 (Jvm.Cond.code x code maxLocals ret :: ws) room_1) (fun a U => a = #[(.int p1), (.int p2), (.long p3)] ∧ Z.Warmed39 U.vm ∧ U.heap = h0) (fun _ _ _ _ _ => True) (fun _ U o U' => ∃ v L, o = .returned v ∧ Q0 n0 v U'.heap L ∧ FrameEnd U o U' L 16 128) := by
  rcases own_and7 p1 with h | h | h | h | h | h | h | h
  · exact rm0_0 l Z a0 hw ws p1 p2 p3 h0 n0 Z0 h
  · exact rm0_1 l Z a0 hw ws p1 p2 p3 h0 n0 Z0 h
  · exact rm0_2 l Z a0 hw ws p1 p2 p3 h0 n0 Z0 h
  · exact rm0_3 l Z a0 hw ws p1 p2 p3 h0 n0 Z0 h
  · exact rm0_4 l Z a0 hw ws p1 p2 p3 h0 n0 Z0 h
  · exact rm0_5 l Z a0 hw ws p1 p2 p3 h0 n0 Z0 h
  · exact rm0_6 l Z a0 hw ws p1 p2 p3 h0 n0 Z0 h
  · exact rm0_7 l Z a0 hw ws p1 p2 p3 h0 n0 Z0 h
set_option maxRecDepth 65536 in
set_option maxHeartbeats 40000000 in
theorem comes_1 {Post : Tables → Env → Array Value → State → Outcome → State → Prop} (hpost : ∀ tb e args s v u, (limb_1_1.after args s (.returned v) u = true ∧ limb_1_2.after args s (.returned v) u = true ∧ True) → FrameEnd s (.returned v) u (Jvm.fieldLocs frame_1_writes args s ++ Jvm.arrayLocs frame_1_arrays args s ++ Jvm.staticLocs frame_1_statics s) 16 128 → Post tb e args s (.returned v) u) :
    ArmFor flags0 classFile x code maxLocals ret World_1 tables_1 room_1 Calls_1 rest_1 Pre_1 Post := by
  intro l hfl _ _ p e ha hc hk s m args below hf hA hF happ hP
  obtain ⟨hcalls, hrest, hpre⟩ := hP
  obtain ⟨-, -, -, hnamed, -, -, -, hat⟩ := (Spec.applies_iff hf).mp happ
  obtain ⟨hg, hn⟩ := and_e (Cond.before_iff.mp (show (Jvm.Cond.and given_1 narrow_1).before args s = true from hpre))
  obtain ⟨hcount, hq0⟩ := and_e hg
  obtain ⟨ha0, hq1⟩ := and_e hq0
  obtain ⟨ha1, hq2⟩ := and_e hq1
  obtain ⟨w0, w1, w2, rfl⟩ : ∃ w0 w1 w2 : Value, args = #[w0, w1, w2] := by
    have hs : args.size = 3 := by simpa [Cond.value, given_1] using hcount
    obtain ⟨L⟩ := args
    match L, hs with
    | [w0, w1, w2], _ => exact ⟨w0, w1, w2, rfl⟩
  have hw := fun d (hd : d ∈ tables_1) => atoms_spec (ws := Jvm.Cond.code x code maxLocals ret :: tables_1) hat d (List.mem_cons_of_mem _ hd)
  have hfit : Fit s := fun {y c} hc i hi => by
    obtain ⟨ha, rfl⟩ := Array.getElem?_eq_some_iff.mp hc
    have q := List.all_eq_true.mp ((Array.all_eq_true_iff_forall_mem.mp hF) _ (Array.getElem_mem ha)) i (List.mem_range.mpr hi)
    simpa [Array.getElem?_eq_getElem hi] using q
  obtain ⟨i0, ei0⟩ := is_v ha0
  obtain rfl : w0 = (.int i0) := Option.some.inj ei0
  obtain ⟨i1, ei1⟩ := is_v ha1
  obtain rfl : w1 = (.int i1) := Option.some.inj ei1
  obtain ⟨i2, ei2⟩ := isL_v hq2
  obtain rfl : w2 = (.long i2) := Option.some.inj ei2
  obtain ⟨n, o, h1, h2, h3, _, L, rfl, ⟨rfl, N⟩, hq⟩ := rmL l s _ hw tables_1 i0 i1 i2 s.heap s.heap.size (Nat.le_refl _)  p e ha hc hk s m _ below hf ((Spec.applies_iff_loose hf).mp happ).1 ⟨rfl, State.Warmed39.refl s, rfl⟩ trivial
  exact ⟨n, _, h1, h2, h3, hpost _ _ _ _ _ _ ⟨Cond.after_iff.mpr rfl, Cond.after_iff.mpr (eq_i res_at (Term.int_eval (1)) rfl), trivial⟩ ⟨hq.1, hq.2.1, (hq.2.2.sift fun y hy => Or.inr (N y hy)).mono (by decide) (by decide)⟩⟩
theorem main_1_1 : Claimed_1_1 := comes_1 fun _ _ _ _ _ _ h hF => ⟨h.1, hF⟩
theorem main_1_2 : Claimed_1_2 := comes_1 fun _ _ _ _ _ _ h hF => ⟨h.2.1, hF⟩
end Jvm.Pilot.@@N@@
namespace Jvm.Pilot.@@N@@
open Jvm Jvm.ClassFile Sem Op Lib Jvm.Free Jvm.Stand Jvm.Pilot.@@N@@.Jvm.D
/-! MADE BY PROGRAM (witnessworld.py) out of the Statement's table words and the real class files: 9 classes; the members and pool entries that the words name. The judged class is class 1, her method 1. -/
namespace start1
open Jvm.ClassFile
def u (s : String) : CpInfo := .utf8 (stringToUtf16 s)
/-- a pool by its gaps: so many unusable entries, then the entry; so many at the end -/
def gap : Nat → List CpInfo → List CpInfo
  | 0, r => r
  | n + 1, r => .unusable :: gap n r
def poolList (es : List (Nat × CpInfo)) (last : Nat) : List CpInfo := es.foldr (fun e r => gap e.1 (e.2 :: r)) (gap last [])
def pool (es : List (Nat × CpInfo)) (last : Nat) : Array CpInfo := ⟨poolList es last⟩
def fileOf (pool : Array CpInfo) (this : Nat) (attrs : Array Attribute := #[]) (ms : Array MethodInfo := #[]) (fl : Nat := 33) (sup : Nat := 0) (ifs : Array Nat := #[]) (fds : Array FieldInfo := #[]) : ClassFile where
  minorVersion := 0
  majorVersion := 65
  constantPool := pool
  accessFlags := fl
  thisClass := this
  superClass := sup
  interfaces := ifs
  fields := fds
  methods := ms
  attributes := attrs
def plain (name : String) (sup : Option ClassId) : Class where
  name := name
  kind := .ordinary
  loader := none
  accessFlags := 33
  super := sup
  interfaces := #[]
  cf := none
  fields := #[]
  methods := #[]
  instanceTypes := #[]
  staticTypes := #[]
  resolved := #[]
  callSites := []
  init := .initialized
  statics := none
  mirror := none

def pool0 : Array CpInfo := pool [(5, u "<init>"), (0, u "()V"), (1, .class_ 10), (1, u "java/lang/Object")] 113

def k0m0 : Method := { name := "<init>", desc := "()V", sig := { parameters := [], returnType := none }, accessFlags := 1, code := none }
/-- java/lang/Object -/
def k0 : Class := { plain "java/lang/Object" none with
  accessFlags := 33
  interfaces := #[]
  cf := some (fileOf pool0 8 #[] #[{ accessFlags := 1, nameIndex := 5, descriptorIndex := 6, attributes := #[] }] 33 0 #[] #[])
  fields := #[]
  methods := #[k0m0]
  instanceTypes := #[]
  staticTypes := #[]
  resolved := Array.replicate 124 none
  statics := none }

def pool1 : Array CpInfo := pool [(2, .class_ 4), (1, u "java/lang/Object"), (0, u "<init>"), (0, u "()V"), (0, .interfaceMethodref 8 9), (0, .class_ 10), (0, .nameAndType 11 12), (0, u "com/example/hushed_flood/hushedflood/tcp/Control"), (0, u "isControl"), (0, u "([B)Z"), (0, .class_ 14), (0, u "com/example/hushed_flood/hushedflood/tcp/ControlIsControlPinLaw"), (2, u "law"), (0, u "(IIJ)Z")] 5

def k1m0 : Method := { name := "<init>", desc := "()V", sig := { parameters := [], returnType := none }, accessFlags := 1, code := none }
def k1c1 : Code := { maxStack := 5, maxLocals := 7, code := code, exceptionTable := #[], attributes := #[] }
def k1m1 : Method := { name := "law", desc := "(IIJ)Z", sig := { parameters := [.int, .int, .long], returnType := some .boolean }, accessFlags := 9, code := some k1c1 }
/-- com/example/hushed_flood/hushedflood/tcp/ControlIsControlPinLaw -/
def k1 : Class := { plain "com/example/hushed_flood/hushedflood/tcp/ControlIsControlPinLaw" (some 0) with
  accessFlags := 49
  interfaces := #[]
  cf := some (fileOf pool1 13 #[] #[{ accessFlags := 1, nameIndex := 5, descriptorIndex := 6, attributes := #[] }, { accessFlags := 9, nameIndex := 17, descriptorIndex := 18, attributes := #[] }] 49 2 #[] #[])
  fields := #[]
  methods := #[k1m0, k1m1]
  instanceTypes := #[]
  staticTypes := #[]
  resolved := Array.replicate 24 none
  statics := none }

def pool2 : Array CpInfo := pool [(3, .class_ 4), (0, u "com/example/hushed_flood/hushedflood/tcp/Control"), (0, .class_ 6), (0, u "com/example/hushed_flood/hushedflood/tcp/Control$Link"), (16, .class_ 24), (0, u "com/example/hushed_flood/hushedflood/tcp/Control$Contact"), (2, .class_ 28), (0, u "com/example/hushed_flood/hushedflood/tcp/Control$Peers"), (23, .class_ 53), (0, u "com/example/hushed_flood/hushedflood/tcp/Control$Ask"), (31, .class_ 86), (0, u "com/example/hushed_flood/hushedflood/tcp/Control$Found"), (19, .class_ 107), (0, u "com/example/hushed_flood/hushedflood/tcp/Control$Refused"), (129, .class_ 238), (0, u "java/lang/Object"), (0, u "LINK"), (0, u "I"), (2, u "CONTACT"), (1, u "PEERS"), (1, u "ASK"), (1, u "FOUND"), (1, u "REFUSED"), (1, u "ENDPOINT_KEPT"), (1, u "DOCUMENT_KEPT"), (1, u "isControl"), (0, u "([B)Z")] 55

def k2c0 : Code := { maxStack := 2, maxLocals := 2, code := prog_76_method_1_code, exceptionTable := #[], attributes := #[] }
def k2m0 : Method := { name := "isControl", desc := "([B)Z", sig := { parameters := [(.array .byte)], returnType := some .boolean }, accessFlags := 9, code := some k2c0 }
/-- com/example/hushed_flood/hushedflood/tcp/Control -/
def k2 : Class := { plain "com/example/hushed_flood/hushedflood/tcp/Control" (some 0) with
  accessFlags := 1536
  interfaces := #[]
  cf := some (fileOf pool2 3 #[.nestMembers #[106, 85, 52, 27, 23, 5]] #[{ accessFlags := 9, nameIndex := 257, descriptorIndex := 258, attributes := #[] }] 1536 237 #[] #[{ accessFlags := 25, nameIndex := 239, descriptorIndex := 240, attributes := #[] }, { accessFlags := 25, nameIndex := 243, descriptorIndex := 240, attributes := #[] }, { accessFlags := 25, nameIndex := 245, descriptorIndex := 240, attributes := #[] }, { accessFlags := 25, nameIndex := 247, descriptorIndex := 240, attributes := #[] }, { accessFlags := 25, nameIndex := 249, descriptorIndex := 240, attributes := #[] }, { accessFlags := 25, nameIndex := 251, descriptorIndex := 240, attributes := #[] }, { accessFlags := 25, nameIndex := 253, descriptorIndex := 240, attributes := #[] }, { accessFlags := 25, nameIndex := 255, descriptorIndex := 240, attributes := #[] }])
  fields := #[{ name := "LINK", type := .int, accessFlags := 25, slot := 0, constantValue := 0 }, { name := "CONTACT", type := .int, accessFlags := 25, slot := 1, constantValue := 0 }, { name := "PEERS", type := .int, accessFlags := 25, slot := 2, constantValue := 0 }, { name := "ASK", type := .int, accessFlags := 25, slot := 3, constantValue := 0 }, { name := "FOUND", type := .int, accessFlags := 25, slot := 4, constantValue := 0 }, { name := "REFUSED", type := .int, accessFlags := 25, slot := 5, constantValue := 0 }, { name := "ENDPOINT_KEPT", type := .int, accessFlags := 25, slot := 6, constantValue := 0 }, { name := "DOCUMENT_KEPT", type := .int, accessFlags := 25, slot := 7, constantValue := 0 }]
  methods := #[k2m0]
  instanceTypes := #[]
  staticTypes := #[.int, .int, .int, .int, .int, .int, .int, .int]
  resolved := Array.replicate 314 none
  statics := none }

def pool3 : Array CpInfo := pool [(1, u "java/lang/Cloneable"), (0, .class_ 1), (0, u "java/lang/Object"), (0, .class_ 3)] 3

/-- java/lang/Cloneable -/
def k3 : Class := { plain "java/lang/Cloneable" (some 0) with
  accessFlags := 1537
  interfaces := #[]
  cf := some (fileOf pool3 2 #[] #[] 1537 4 #[] #[])
  fields := #[]
  methods := #[]
  instanceTypes := #[]
  staticTypes := #[]
  resolved := Array.replicate 8 none
  statics := none }

def pool4 : Array CpInfo := pool [(1, u "java/io/Serializable"), (0, .class_ 1), (0, u "java/lang/Object"), (0, .class_ 3)] 3

/-- java/io/Serializable -/
def k4 : Class := { plain "java/io/Serializable" (some 0) with
  accessFlags := 1537
  interfaces := #[]
  cf := some (fileOf pool4 2 #[] #[] 1537 4 #[] #[])
  fields := #[]
  methods := #[]
  instanceTypes := #[]
  staticTypes := #[]
  resolved := Array.replicate 8 none
  statics := none }

/-- the primitive byte -/
def k5 : Class := { plain "byte" none with kind := .primitive 'B', accessFlags := 0x411 }
/-- [B -/
def k6 : Class := { plain "[B" (some 0) with kind := .array 5 .byte, interfaces := #[3, 4], accessFlags := 1041 }

/-- the primitive int -/
def k7 : Class := { plain "int" none with kind := .primitive 'I', accessFlags := 0x411 }
/-- [I -/
def k8 : Class := { plain "[I" (some 0) with kind := .array 7 .int, interfaces := #[3, 4], accessFlags := 1041 }

def heap : Heap := #[]
def classes : Array Class := #[k0, k1, k2, k3, k4, k5, k6, k7, k8]
def interned : List (Array UInt16 × Addr) := []
def slotsUsed : Nat := 0
def theMethod : MethodId := ⟨1, 1⟩
def args0 : Array Value := #[.int 6, .int 300, .long 5]
def aboutOver (below : List Frame) : State where
  vm := { classes := classes, interned := interned.toArray }
  heap := heap
  slotsUsed := slotsUsed
  threads := #[{ frames := .invoking theMethod args0 :: below }]
def below0 : List Frame := [.native { method := ⟨0, 0⟩, args := #[] }]
def about1 : State := aboutOver below0
def p0 : Program := .bare "" "" ""
def e0 : Env := launch0.env 0 0 0
theorem w_frames : about1.frames = Frame.invoking theMethod args0 :: below0 := rfl
set_option maxRecDepth 65536 in
theorem w_args : argsFit about1.vm theMethod args0 = true := by decide +kernel
set_option maxRecDepth 65536 in
theorem w_heap : heapFits about1 = true := by decide +kernel
set_option maxRecDepth 65536 in
theorem w_runnable : about1.curStatus? = some .runnable := by decide +kernel
set_option maxRecDepth 65536 in
theorem w_alone : about1.alone = true := by decide +kernel
set_option maxRecDepth 65536 in
theorem w_named : about1.methodNamed? x = some theMethod := by decide +kernel
set_option maxRecDepth 65536 in
theorem w_hears : about1.hears theMethod below0 = true := by decide +kernel
set_option maxRecDepth 65536 in
theorem w_ripe : about1.ripe theMethod args0 below0 = true := by decide +kernel
theorem w_running : about1.status = .running := rfl
set_option maxRecDepth 65536 in
theorem w_room : about1.hasRoom e0.platform room_1 = true :=
  launch0.hasRoom_least _ room_1 (by decide +kernel) (by decide +kernel) (by decide +kernel) (by decide +kernel) (by decide +kernel) (by decide +kernel)
theorem allAtoms_all (ts : List Jvm.Cond) (a : Array Jvm.Value) (st : Jvm.State) : (allAtoms ts).before a st = ts.all (fun c => c.before a st) := by
  induction ts with
  | nil => rfl
  | cons c t ih =>
    show (Jvm.Cond.and c (allAtoms t)).before a st = _
    rw [Jvm.Cond.before_and, ih, List.all_cons]
def words1 : List Jvm.Cond := Jvm.Cond.code x code maxLocals ret :: tables_1
/-- a 'code' word, met by the world's own term for the bytes: nothing is compared byte by byte -/
theorem code_word {y : MethodName} {bytes : ByteArray} {mx : Nat} {rt : Option FieldType} {a : Array Value} {s : State} {m : MethodId} {meth : Method} {c : Code} (h1 : s.methodNamed? y = some m) (h2 : s.vm.method? m = some meth) (h3 : meth.code = some c) (h4 : c.code = bytes)
    (h5 : (c.maxLocals == mx && c.exceptionTable.isEmpty && decide (c.maxStack ≤ mostOperands) && decide (meth.sig.returnType = rt) && !meth.locks && decide (parseMethodDescriptor y.desc = some meth.sig)) = true) : (Jvm.Cond.code y bytes mx rt).before a s = true := by
  simp only [Bool.and_eq_true, beq_iff_eq, Bool.not_eq_true', decide_eq_true_eq] at h5
  obtain ⟨⟨⟨⟨⟨g1, g2⟩, g3⟩, g4⟩, g5⟩, g6⟩ := h5
  simp [Cond.before, Cond.holds, Cond.value, h1, h2, h3, h4, g1, g2, g3, g4, g5, g6]
def isCode : Jvm.Cond → Bool
  | .code _ _ _ _ => true
  | _ => false
theorem all_split {L : List Jvm.Cond} {P : Jvm.Cond → Bool} (h1 : L.all (fun c => isCode c || P c) = true) (h2 : ∀ c ∈ L.filter isCode, P c = true) : L.all P = true := by
  refine List.all_eq_true.mpr fun c hc => ?_
  have h := List.all_eq_true.mp h1 c hc
  rcases Bool.eq_false_or_eq_true (isCode c) with hi | hi
  · exact h2 c (List.mem_filter.mpr ⟨hc, hi⟩)
  · simpa [hi] using h
set_option maxRecDepth 65536 in
theorem w_c0 : (Jvm.Cond.code x code maxLocals ret).before args0 about1 = true := code_word (m := ⟨1, 1⟩) (meth := k1m1) (c := k1c1) (by decide +kernel) rfl rfl rfl (by decide +kernel)
set_option maxRecDepth 65536 in
theorem w_c1 : (Jvm.Cond.code ({ cls := "com/example/hushed_flood/hushedflood/tcp/Control", name := "isControl", desc := "([B)Z" } : Jvm.MethodName) prog_76_method_1_code (2 : Nat) (Option.some Jvm.ClassFile.FieldType.boolean)).before args0 about1 = true := code_word (m := ⟨2, 0⟩) (meth := k2m0) (c := k2c0) (by decide +kernel) rfl rfl rfl (by decide +kernel)
def codes1 : List Jvm.Cond := [Jvm.Cond.code x code maxLocals ret, Jvm.Cond.code ({ cls := "com/example/hushed_flood/hushedflood/tcp/Control", name := "isControl", desc := "([B)Z" } : Jvm.MethodName) prog_76_method_1_code (2 : Nat) (Option.some Jvm.ClassFile.FieldType.boolean)]
set_option maxRecDepth 65536 in
theorem codes_eq : words1.filter isCode = codes1 := rfl
theorem w_codes : ∀ c ∈ words1.filter isCode, c.before args0 about1 = true := by
  rw [codes_eq]
  intro c hc
  simp only [codes1, List.mem_cons, List.not_mem_nil, or_false] at hc
  rcases hc with rfl | rfl
  · exact w_c0
  · exact w_c1
set_option maxRecDepth 65536 in
theorem w_t1 : words1.all (fun c => isCode c || c.before args0 about1) = true := by decide +kernel
theorem w_tables : (allAtoms (Jvm.Cond.code x code maxLocals ret :: tables_1)).before args0 about1 = true := by
  rw [allAtoms_all]
  show words1.all (fun c => c.before args0 about1) = true
  refine all_split ?_ w_codes
  rw [w_t1]
set_option maxRecDepth 65536 in
theorem w_case : (Jvm.Cond.and given_1 narrow_1).before args0 about1 = true := by decide +kernel
theorem w_applies : (headSpec (Jvm.Cond.code x code maxLocals ret :: tables_1) room_1).applies x e0.platform about1 = true :=
  (Spec.applies_iff w_frames).mpr ⟨w_running, w_runnable, w_alone, w_named, w_hears, w_ripe, w_room, w_tables⟩
theorem atStart : AtStart classFile x code maxLocals ret World_1 tables_1 room_1 Calls_1 rest_1 Pre_1 launch0 p0 e0 about1 theMethod args0 below0 :=
  ⟨lists_1, trivial, launch0.admits_env _ _ _, launch0.least_env, fairChoices_fair.cas, fairChoices_fair.clock, w_frames, w_args, w_heap, w_applies, trivial, trivial, w_case⟩
end start1
theorem witness_1 : WitnessClaimed_1 := ⟨start1.p0, start1.e0, start1.about1, start1.theMethod, start1.args0, start1.below0, start1.atStart⟩
end Jvm.Pilot.@@N@@
