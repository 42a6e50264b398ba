import JvmDerived
import JvmDerived.Pilot.@@N@@Statement
import JvmDerived.Pilot.@@N@@Code
set_option linter.unusedVariables false
set_option linter.unusedSimpArgs false
@@BLOCK:NumsL.lean.txt@@
namespace Jvm.Pilot.@@N@@
open Jvm Jvm.ClassFile Sem Op Lib Jvm.Free Jvm.Stand Jvm.LawKit Jvm.RoadKit Bundle Jvm.Pilot.@@N@@.Jvm.D
/-- the run from here comes to an end of which P speaks -/
def own_Run (tb : Tables) (e : Env) (below : List Frame) (T : State) (g : JFrame) (P : Outcome → State → Prop) : Prop :=
  ∃ s₂ o, Steps tb e below (T.setTop g) s₂ ∧ s₂.status = .running ∧ Ended s₂ below o ∧ P o s₂
theorem own_start {tb : Tables} {e : Env} {below : List Frame} {T : State} {g : JFrame} {Pd : Outcome → State → Prop} (h : ∀ P : Outcome → State → Prop, (∀ o U, Pd o U → P o U) → own_Run tb e below T g P) : ∃ s₂ o, Steps tb e below (T.setTop g) s₂ ∧ s₂.status = .running ∧ Ended s₂ below o ∧ Pd o s₂ := h Pd fun _ _ q => q
theorem own_step {tb : Tables} {e : Env} {below : List Frame} {T T' : State} {g g' : JFrame} {P : Outcome → State → Prop} (h : ∀ t, Steps tb e below (T'.setTop g') t → Steps tb e below (T.setTop g) t) (k : own_Run tb e below T' g' P) : own_Run tb e below T g P := by
  obtain ⟨a, b, h1, h2⟩ := k
  exact ⟨a, b, h _ h1, h2⟩
theorem own_to {tb : Tables} {e : Env} {below : List Frame} {T T' : State} {g g' : JFrame} {P : Outcome → State → Prop} (h : Steps tb e below (T.setTop g) (T'.setTop g')) (k : own_Run tb e below T' g' P) : own_Run tb e below T g P := by
  obtain ⟨a, b, h1, h2⟩ := k
  exact ⟨a, b, h.trans h1, h2⟩
section Ret
variable {p : Program} {l : Launch} {e : Env} {R : Room} {s : State} {m : MethodId} {args : Array Value} {below : List Frame} {meth : Method} {c : Code} {T : State} {locs : List Loc} {cells slots : Nat}
theorem own_retI (X : Stand p l e R s m args below meth c T locs cells slots) (hx : p.tables.exec = Jvm.exec) {pc : Nat} {Ls : Array Slot} {z : Int32} {rest : List Value} (hret : meth.sig.returnType = some .int) (hd : decode c.code pc = .ok (.ireturn, 1)) {fs : List Frame}
    (hl : ∀ (f : JFrame) (acts : List Action), f.method = m → f.locked = none → f.entered = [] → (doReturn e (T.setTop f) acts (some (.int z))).1 = T.setFrames fs) : Steps p.tables e below (T.setTop (mkF m pc Ls (.int z :: rest))) (T.setFrames fs) :=
  retOut X hx hret rfl (Or.inl ⟨rfl, Or.inl rfl, _, rfl⟩) hd hl
theorem own_retJ (X : Stand p l e R s m args below meth c T locs cells slots) (hx : p.tables.exec = Jvm.exec) {pc : Nat} {Ls : Array Slot} {z : Int64} {rest : List Value} (hret : meth.sig.returnType = some .long) (hd : decode c.code pc = .ok (.lreturn, 1)) {fs : List Frame}
    (hl : ∀ (f : JFrame) (acts : List Action), f.method = m → f.locked = none → f.entered = [] → (doReturn e (T.setTop f) acts (some (.long z))).1 = T.setFrames fs) : Steps p.tables e below (T.setTop (mkF m pc Ls (.long z :: rest))) (T.setFrames fs) :=
  retOut X hx hret rfl (Or.inr (Or.inl ⟨rfl, rfl, _, rfl⟩)) hd hl
theorem own_retR (X : Stand p l e R s m args below meth c T locs cells slots) (hx : p.tables.exec = Jvm.exec) {pc : Nat} {Ls : Array Slot} {w : Value} {t : FieldType} {rest : List Value} (hret : meth.sig.returnType = some t) (ht : t.isReference = true) (hw : w.isRef = true) (hn : narrow t w = w) (hd : decode c.code pc = .ok (.areturn, 1)) {fs : List Frame}
    (hl : ∀ (f : JFrame) (acts : List Action), f.method = m → f.locked = none → f.entered = [] → (doReturn e (T.setTop f) acts (some w)).1 = T.setFrames fs) : Steps p.tables e below (T.setTop (mkF m pc Ls (w :: rest))) (T.setFrames fs) :=
  retOut X hx hret hn (Or.inr (Or.inr (Or.inr (Or.inr ⟨rfl, ht, hw⟩)))) hd hl
theorem own_retZ (X : Stand p l e R s m args below meth c T locs cells slots) (hx : p.tables.exec = Jvm.exec) {pc : Nat} {Ls : Array Slot} {z z' : Int32} {t : FieldType} {rest : List Value} (hret : meth.sig.returnType = some t) (ht : t = .boolean ∨ t = .byte ∨ t = .char ∨ t = .short) (hz : nar t z = z') (hd : decode c.code pc = .ok (.ireturn, 1)) {fs : List Frame}
    (hl : ∀ (f : JFrame) (acts : List Action), f.method = m → f.locked = none → f.entered = [] → (doReturn e (T.setTop f) acts (some (.int z'))).1 = T.setFrames fs) : Steps p.tables e below (T.setTop (mkF m pc Ls (.int z :: rest))) (T.setFrames fs) :=
  retN X hx hret ht hd (by rw [hz]; exact hl)
end Ret
theorem own_eqI {t : Term} {k : Int32} {args : Array Value} {s : State} {idx : List Nat} (h : (Jvm.Cond.eq t (.int k)).value args s none s idx = some true) : t.eval args s none idx s = some (.int k) :=
  Jvm.Cond.eq_int (b := .int k) (by simp [Jvm.Cond.holds, h]) rfl
theorem own_mod10 (x : Int32) : (x &&& 2147483647) % 10 = 0 ∨ (x &&& 2147483647) % 10 = 1 ∨ (x &&& 2147483647) % 10 = 2 ∨ (x &&& 2147483647) % 10 = 3 ∨ (x &&& 2147483647) % 10 = 4 ∨ (x &&& 2147483647) % 10 = 5 ∨ (x &&& 2147483647) % 10 = 6 ∨ (x &&& 2147483647) % 10 = 7 ∨ (x &&& 2147483647) % 10 = 8 ∨ (x &&& 2147483647) % 10 = 9 := by
  have hb : 0 ≤ ((x &&& 2147483647) % 10).toInt ∧ ((x &&& 2147483647) % 10).toInt < 10 := by
    have h1 : (x &&& 2147483647).toInt = x.toInt % 2 ^ 31 := Jvm.Kit.i32_mask x 2147483647 (k := 31) (by decide) (by decide)
    have h2 : ((x &&& 2147483647) % 10).toInt = (x &&& 2147483647).toInt % (10 : Int32).toInt := Jvm.Kit.i32_rem_nonneg (by rw [h1]; exact Int.emod_nonneg _ (by decide))
    have h3 : (10 : Int32).toInt = 10 := rfl
    rw [h2, h3]
    omega
  have hd : ((x &&& 2147483647) % 10).toInt = 0 ∨ ((x &&& 2147483647) % 10).toInt = 1 ∨ ((x &&& 2147483647) % 10).toInt = 2 ∨ ((x &&& 2147483647) % 10).toInt = 3 ∨ ((x &&& 2147483647) % 10).toInt = 4 ∨ ((x &&& 2147483647) % 10).toInt = 5 ∨ ((x &&& 2147483647) % 10).toInt = 6 ∨ ((x &&& 2147483647) % 10).toInt = 7 ∨ ((x &&& 2147483647) % 10).toInt = 8 ∨ ((x &&& 2147483647) % 10).toInt = 9 := by omega
  rcases hd with h | h | h | h | h | h | h | h | h | h
  · exact (Or.inl (Int32.toInt_inj.mp (h.trans rfl)))
  · exact (Or.inr (Or.inl (Int32.toInt_inj.mp (h.trans rfl))))
  · exact (Or.inr (Or.inr (Or.inl (Int32.toInt_inj.mp (h.trans rfl)))))
  · exact (Or.inr (Or.inr (Or.inr (Or.inl (Int32.toInt_inj.mp (h.trans rfl))))))
  · exact (Or.inr (Or.inr (Or.inr (Or.inr (Or.inl (Int32.toInt_inj.mp (h.trans rfl)))))))
  · exact (Or.inr (Or.inr (Or.inr (Or.inr (Or.inr (Or.inl (Int32.toInt_inj.mp (h.trans rfl))))))))
  · exact (Or.inr (Or.inr (Or.inr (Or.inr (Or.inr (Or.inr (Or.inl (Int32.toInt_inj.mp (h.trans rfl)))))))))
  · exact (Or.inr (Or.inr (Or.inr (Or.inr (Or.inr (Or.inr (Or.inr (Or.inl (Int32.toInt_inj.mp (h.trans rfl))))))))))
  · exact (Or.inr (Or.inr (Or.inr (Or.inr (Or.inr (Or.inr (Or.inr (Or.inr (Or.inl (Int32.toInt_inj.mp (h.trans rfl)))))))))))
  · exact (Or.inr (Or.inr (Or.inr (Or.inr (Or.inr (Or.inr (Or.inr (Or.inr (Or.inr (Int32.toInt_inj.mp (h.trans rfl)))))))))))
def Q1 (a : Addr) (h0 : Heap) (n0 : Nat) (v : Option Value) (h : Heap) (L : List Loc) : Prop := v = some (.ref a) ∧ Fr n0 L ∧ h = h0
theorem d1_0 : decode method_2_code 0 = .ok (.iload_n 0, 1) := by decide +kernel
theorem d1_1 : decode method_2_code 1 = .ok (.ifCond .ne 7, 3) := by decide +kernel
theorem d1_4 : decode method_2_code 4 = .ok (.getstatic 7, 3) := by decide +kernel
theorem d1_7 : decode method_2_code 7 = .ok (.areturn, 1) := by decide +kernel
theorem d1_8 : decode method_2_code 8 = .ok (.iload_n 0, 1) := by decide +kernel
theorem d1_9 : decode method_2_code 9 = .ok (.iconst 1, 1) := by decide +kernel
theorem d1_10 : decode method_2_code 10 = .ok (.if_icmp .ne 7, 3) := by decide +kernel
theorem d1_13 : decode method_2_code 13 = .ok (.getstatic 13, 3) := by decide +kernel
theorem d1_16 : decode method_2_code 16 = .ok (.areturn, 1) := by decide +kernel
theorem d1_17 : decode method_2_code 17 = .ok (.iload_n 0, 1) := by decide +kernel
theorem d1_18 : decode method_2_code 18 = .ok (.iconst 2, 1) := by decide +kernel
theorem d1_19 : decode method_2_code 19 = .ok (.if_icmp .ne 7, 3) := by decide +kernel
theorem d1_22 : decode method_2_code 22 = .ok (.getstatic 16, 3) := by decide +kernel
theorem d1_25 : decode method_2_code 25 = .ok (.areturn, 1) := by decide +kernel
theorem d1_26 : decode method_2_code 26 = .ok (.iload_n 0, 1) := by decide +kernel
theorem d1_27 : decode method_2_code 27 = .ok (.iconst 3, 1) := by decide +kernel
theorem d1_28 : decode method_2_code 28 = .ok (.if_icmp .ne 7, 3) := by decide +kernel
theorem d1_31 : decode method_2_code 31 = .ok (.getstatic 19, 3) := by decide +kernel
theorem d1_34 : decode method_2_code 34 = .ok (.areturn, 1) := by decide +kernel
theorem d1_35 : decode method_2_code 35 = .ok (.iload_n 0, 1) := by decide +kernel
theorem d1_36 : decode method_2_code 36 = .ok (.iconst 4, 1) := by decide +kernel
theorem d1_37 : decode method_2_code 37 = .ok (.if_icmp .ne 7, 3) := by decide +kernel
theorem d1_40 : decode method_2_code 40 = .ok (.getstatic 22, 3) := by decide +kernel
theorem d1_43 : decode method_2_code 43 = .ok (.areturn, 1) := by decide +kernel
theorem d1_44 : decode method_2_code 44 = .ok (.iload_n 0, 1) := by decide +kernel
theorem d1_45 : decode method_2_code 45 = .ok (.iconst 5, 1) := by decide +kernel
theorem d1_46 : decode method_2_code 46 = .ok (.if_icmp .ne 7, 3) := by decide +kernel
theorem d1_49 : decode method_2_code 49 = .ok (.getstatic 25, 3) := by decide +kernel
theorem d1_52 : decode method_2_code 52 = .ok (.areturn, 1) := by decide +kernel
theorem d1_53 : decode method_2_code 53 = .ok (.iload_n 0, 1) := by decide +kernel
theorem d1_54 : decode method_2_code 54 = .ok (.bipush 6, 2) := by decide +kernel
theorem d1_56 : decode method_2_code 56 = .ok (.if_icmp .ne 7, 3) := by decide +kernel
theorem d1_59 : decode method_2_code 59 = .ok (.getstatic 28, 3) := by decide +kernel
theorem d1_62 : decode method_2_code 62 = .ok (.areturn, 1) := by decide +kernel
theorem d1_63 : decode method_2_code 63 = .ok (.iload_n 0, 1) := by decide +kernel
theorem d1_64 : decode method_2_code 64 = .ok (.bipush 7, 2) := by decide +kernel
theorem d1_66 : decode method_2_code 66 = .ok (.if_icmp .ne 7, 3) := by decide +kernel
theorem d1_69 : decode method_2_code 69 = .ok (.getstatic 31, 3) := by decide +kernel
theorem d1_72 : decode method_2_code 72 = .ok (.areturn, 1) := by decide +kernel
theorem d1_73 : decode method_2_code 73 = .ok (.iload_n 0, 1) := by decide +kernel
theorem d1_74 : decode method_2_code 74 = .ok (.bipush 8, 2) := by decide +kernel
theorem d1_76 : decode method_2_code 76 = .ok (.if_icmp .ne 7, 3) := by decide +kernel
theorem d1_79 : decode method_2_code 79 = .ok (.getstatic 34, 3) := by decide +kernel
theorem d1_82 : decode method_2_code 82 = .ok (.areturn, 1) := by decide +kernel
theorem d1_83 : decode method_2_code 83 = .ok (.getstatic 37, 3) := by decide +kernel
theorem d1_86 : decode method_2_code 86 = .ok (.areturn, 1) := by decide +kernel
set_option maxRecDepth 65536 in
set_option maxHeartbeats 40000000 in
theorem rm1_0 (l : Launch) (Z : State) (a0 : Array Value) (hw : ∀ d ∈ tables_1, d.before a0 Z = true) (ws : List Jvm.Cond) (a1 : Addr) (h0 : Heap) (n0 : Nat) (Z0 : n0 ≤ h0.size) (S1 : Sta Z h0 "com/example/upright_custodian/uprightcustodian/kmip/TtlvType" "STRUCTURE" "Lcom/example/upright_custodian/uprightcustodian/kmip/TtlvType;" (.ref a1)) :
    MetFree l (⟨"com/example/upright_custodian/uprightcustodian/kmip/TtlvTypeHasFixedLengthPinLaw", "pick", "(I)Lcom/example/upright_custodian/uprightcustodian/kmip/TtlvType;"⟩ : MethodName) (head1 (Jvm.Cond.code (⟨"com/example/upright_custodian/uprightcustodian/kmip/TtlvTypeHasFixedLengthPinLaw", "pick", "(I)Lcom/example/upright_custodian/uprightcustodian/kmip/TtlvType;"⟩ : MethodName) method_2_code 1 (some (.object "com/example/upright_custodian/uprightcustodian/kmip/TtlvType")) :: ws) ({ frames := 0, cells := 0, slots := 0, locals := 0 } : Room)) (fun a U => a = #[(.int (0 : Int32))] ∧ Z.Warmed39 U.vm ∧ U.heap = h0) (fun _ _ _ _ _ => True) (fun _ U o U' => ∃ v L, o = .returned v ∧ Q1 a1 h0 n0 v U'.heap L ∧ FrameEnd U o U' L 0 0) := by
  refine MetFree.of_bodySF (plainFor_of_name (by first | (simp [plainName, overriddenIn]; done) | decide +kernel)) hisR ?_
  intro p e s m args below meth c s₁ Bd hml0 hP hK
  obtain ⟨rfl, hZ, hh⟩ := hP
  have hx := Bd.exec
  have hby := Bd.bytes
  have hml : c.maxLocals = 1 := hml0
  have hown : s.vm.findClass "com/example/upright_custodian/uprightcustodian/kmip/TtlvTypeHasFixedLengthPinLaw" = some m.cls := findClass_of_methodNamed Bd.named
  have hnm := (name_of_methodNamed Bd.named Bd.method).1
  have X0 : Stand p l e ({ frames := 0, cells := 0, slots := 0, locals := 0 } : Room) s m #[(.int (0 : Int32))] below meth c s₁ [] 0 0 := Stand.of_body Bd
  have e0 : s₁.heap = h0 := by rw [← hh, Bd.state]; rfl
  have N0 := Fr.nil n0
  have ef : entryFrame m #[(.int (0 : Int32))] 1 = (mkF m 0 #[.val (.int (0 : Int32))] []) := by first | (simp [entryFrame, mkF, argsToLocals, Value.category]; done) | rfl
  refine own_start (fun P hPP => ?_)
  refine own_step (T' := s₁) (g' := (mkF m 0 #[.val (.int (0 : Int32))] [])) (fun t_ k_ => castTop ef k_) ?_
  refine own_step (T' := s₁) (g' := (mkF m 1 #[.val (.int (0 : Int32))] [(.int (0 : Int32))])) (fun t_ k_ => XS.iloadN X0.here hx rfl (hb hby d1_0) rfl k_) ?_
  refine own_step (T' := s₁) (g' := (mkF m 4 #[.val (.int (0 : Int32))] [])) (fun t_ k_ => XS.ifNo X0.here hx rfl (hb hby d1_1) rfl ((if0 _ _).trans (teq (by decide)).2) k_) ?_
  obtain ⟨T101, X101, e101, st101⟩ := getS2 X0 hx hZ hown (host := "") (Or.inl (hw _ (List.mem_of_getElem? (i := 5) rfl))) Via.refl e0 S1 (g := (mkF m 4 #[.val (.int (0 : Int32))] [])) rfl (hb hby d1_4)
  refine own_step (T' := T101) (g' := (mkF m 7 #[.val (.int (0 : Int32))] [(.ref a1)])) st101 ?_
  obtain ⟨fs, hrR, hrun, hended, hWW, hsame⟩ := X101.leave (v := some (.ref a1)) (fun h => by rw [Bd.returns] at h; cases h)
  refine ⟨_, _, own_retR X101 hx Bd.returns rfl rfl rfl (hb hby d1_7) hrR, hrun, hended, hPP _ _ ⟨_, _, rfl, ?_, ⟨_, rfl⟩, hWW, hsame.mono (by decide) (by decide)⟩⟩
  show Q1 a1 h0 n0 _ T101.heap _
  rw [e101]
  exact ⟨rfl, N0, rfl⟩
set_option maxRecDepth 65536 in
set_option maxHeartbeats 40000000 in
theorem rm1_1 (l : Launch) (Z : State) (a0 : Array Value) (hw : ∀ d ∈ tables_1, d.before a0 Z = true) (ws : List Jvm.Cond) (a1 : Addr) (h0 : Heap) (n0 : Nat) (Z0 : n0 ≤ h0.size) (S1 : Sta Z h0 "com/example/upright_custodian/uprightcustodian/kmip/TtlvType" "INTEGER" "Lcom/example/upright_custodian/uprightcustodian/kmip/TtlvType;" (.ref a1)) :
    MetFree l (⟨"com/example/upright_custodian/uprightcustodian/kmip/TtlvTypeHasFixedLengthPinLaw", "pick", "(I)Lcom/example/upright_custodian/uprightcustodian/kmip/TtlvType;"⟩ : MethodName) (head1 (Jvm.Cond.code (⟨"com/example/upright_custodian/uprightcustodian/kmip/TtlvTypeHasFixedLengthPinLaw", "pick", "(I)Lcom/example/upright_custodian/uprightcustodian/kmip/TtlvType;"⟩ : MethodName) method_2_code 1 (some (.object "com/example/upright_custodian/uprightcustodian/kmip/TtlvType")) :: ws) ({ frames := 0, cells := 0, slots := 0, locals := 0 } : Room)) (fun a U => a = #[(.int (1 : Int32))] ∧ Z.Warmed39 U.vm ∧ U.heap = h0) (fun _ _ _ _ _ => True) (fun _ U o U' => ∃ v L, o = .returned v ∧ Q1 a1 h0 n0 v U'.heap L ∧ FrameEnd U o U' L 0 0) := by
  refine MetFree.of_bodySF (plainFor_of_name (by first | (simp [plainName, overriddenIn]; done) | decide +kernel)) hisR ?_
  intro p e s m args below meth c s₁ Bd hml0 hP hK
  obtain ⟨rfl, hZ, hh⟩ := hP
  have hx := Bd.exec
  have hby := Bd.bytes
  have hml : c.maxLocals = 1 := hml0
  have hown : s.vm.findClass "com/example/upright_custodian/uprightcustodian/kmip/TtlvTypeHasFixedLengthPinLaw" = some m.cls := findClass_of_methodNamed Bd.named
  have hnm := (name_of_methodNamed Bd.named Bd.method).1
  have X0 : Stand p l e ({ frames := 0, cells := 0, slots := 0, locals := 0 } : Room) s m #[(.int (1 : Int32))] below meth c s₁ [] 0 0 := Stand.of_body Bd
  have e0 : s₁.heap = h0 := by rw [← hh, Bd.state]; rfl
  have N0 := Fr.nil n0
  have ef : entryFrame m #[(.int (1 : Int32))] 1 = (mkF m 0 #[.val (.int (1 : Int32))] []) := by first | (simp [entryFrame, mkF, argsToLocals, Value.category]; done) | rfl
  refine own_start (fun P hPP => ?_)
  refine own_step (T' := s₁) (g' := (mkF m 0 #[.val (.int (1 : Int32))] [])) (fun t_ k_ => castTop ef k_) ?_
  refine own_step (T' := s₁) (g' := (mkF m 1 #[.val (.int (1 : Int32))] [(.int (1 : Int32))])) (fun t_ k_ => XS.iloadN X0.here hx rfl (hb hby d1_0) rfl k_) ?_
  refine own_step (T' := s₁) (g' := (mkF m 8 #[.val (.int (1 : Int32))] [])) (fun t_ k_ => XS.ifYes X0.here hx rfl (pc0 := 1) (pc' := 8) rfl (hb hby d1_1) rfl ((if0 _ _).trans (feq (by decide)).2) (by decide) (by decide) k_) ?_
  refine own_step (T' := s₁) (g' := (mkF m 9 #[.val (.int (1 : Int32))] [(.int (1 : Int32))])) (fun t_ k_ => XS.iloadN X0.here hx rfl (hb hby d1_8) rfl k_) ?_
  refine own_step (T' := s₁) (g' := (mkF m 10 #[.val (.int (1 : Int32))] [(.int (1 : Int32)), (.int (1 : Int32))])) (fun t_ k_ => XS.iconst X0.here hx rfl (hb hby d1_9) k_) ?_
  refine own_step (T' := s₁) (g' := (mkF m 13 #[.val (.int (1 : Int32))] [])) (fun t_ k_ => XS.icmpNo X0.here hx rfl (hb hby d1_10) rfl (teq (by decide)).2 k_) ?_
  obtain ⟨T101, X101, e101, st101⟩ := getS2 X0 hx hZ hown (host := "") (Or.inl (hw _ (List.mem_of_getElem? (i := 17) rfl))) Via.refl e0 S1 (g := (mkF m 13 #[.val (.int (1 : Int32))] [])) rfl (hb hby d1_13)
  refine own_step (T' := T101) (g' := (mkF m 16 #[.val (.int (1 : Int32))] [(.ref a1)])) st101 ?_
  obtain ⟨fs, hrR, hrun, hended, hWW, hsame⟩ := X101.leave (v := some (.ref a1)) (fun h => by rw [Bd.returns] at h; cases h)
  refine ⟨_, _, own_retR X101 hx Bd.returns rfl rfl rfl (hb hby d1_16) hrR, hrun, hended, hPP _ _ ⟨_, _, rfl, ?_, ⟨_, rfl⟩, hWW, hsame.mono (by decide) (by decide)⟩⟩
  show Q1 a1 h0 n0 _ T101.heap _
  rw [e101]
  exact ⟨rfl, N0, rfl⟩
set_option maxRecDepth 65536 in
set_option maxHeartbeats 40000000 in
theorem rm1_2 (l : Launch) (Z : State) (a0 : Array Value) (hw : ∀ d ∈ tables_1, d.before a0 Z = true) (ws : List Jvm.Cond) (a1 : Addr) (h0 : Heap) (n0 : Nat) (Z0 : n0 ≤ h0.size) (S1 : Sta Z h0 "com/example/upright_custodian/uprightcustodian/kmip/TtlvType" "LONG_INTEGER" "Lcom/example/upright_custodian/uprightcustodian/kmip/TtlvType;" (.ref a1)) :
    MetFree l (⟨"com/example/upright_custodian/uprightcustodian/kmip/TtlvTypeHasFixedLengthPinLaw", "pick", "(I)Lcom/example/upright_custodian/uprightcustodian/kmip/TtlvType;"⟩ : MethodName) (head1 (Jvm.Cond.code (⟨"com/example/upright_custodian/uprightcustodian/kmip/TtlvTypeHasFixedLengthPinLaw", "pick", "(I)Lcom/example/upright_custodian/uprightcustodian/kmip/TtlvType;"⟩ : MethodName) method_2_code 1 (some (.object "com/example/upright_custodian/uprightcustodian/kmip/TtlvType")) :: ws) ({ frames := 0, cells := 0, slots := 0, locals := 0 } : Room)) (fun a U => a = #[(.int (2 : Int32))] ∧ Z.Warmed39 U.vm ∧ U.heap = h0) (fun _ _ _ _ _ => True) (fun _ U o U' => ∃ v L, o = .returned v ∧ Q1 a1 h0 n0 v U'.heap L ∧ FrameEnd U o U' L 0 0) := by
  refine MetFree.of_bodySF (plainFor_of_name (by first | (simp [plainName, overriddenIn]; done) | decide +kernel)) hisR ?_
  intro p e s m args below meth c s₁ Bd hml0 hP hK
  obtain ⟨rfl, hZ, hh⟩ := hP
  have hx := Bd.exec
  have hby := Bd.bytes
  have hml : c.maxLocals = 1 := hml0
  have hown : s.vm.findClass "com/example/upright_custodian/uprightcustodian/kmip/TtlvTypeHasFixedLengthPinLaw" = some m.cls := findClass_of_methodNamed Bd.named
  have hnm := (name_of_methodNamed Bd.named Bd.method).1
  have X0 : Stand p l e ({ frames := 0, cells := 0, slots := 0, locals := 0 } : Room) s m #[(.int (2 : Int32))] below meth c s₁ [] 0 0 := Stand.of_body Bd
  have e0 : s₁.heap = h0 := by rw [← hh, Bd.state]; rfl
  have N0 := Fr.nil n0
  have ef : entryFrame m #[(.int (2 : Int32))] 1 = (mkF m 0 #[.val (.int (2 : Int32))] []) := by first | (simp [entryFrame, mkF, argsToLocals, Value.category]; done) | rfl
  refine own_start (fun P hPP => ?_)
  refine own_step (T' := s₁) (g' := (mkF m 0 #[.val (.int (2 : Int32))] [])) (fun t_ k_ => castTop ef k_) ?_
  refine own_step (T' := s₁) (g' := (mkF m 1 #[.val (.int (2 : Int32))] [(.int (2 : Int32))])) (fun t_ k_ => XS.iloadN X0.here hx rfl (hb hby d1_0) rfl k_) ?_
  refine own_step (T' := s₁) (g' := (mkF m 8 #[.val (.int (2 : Int32))] [])) (fun t_ k_ => XS.ifYes X0.here hx rfl (pc0 := 1) (pc' := 8) rfl (hb hby d1_1) rfl ((if0 _ _).trans (feq (by decide)).2) (by decide) (by decide) k_) ?_
  refine own_step (T' := s₁) (g' := (mkF m 9 #[.val (.int (2 : Int32))] [(.int (2 : Int32))])) (fun t_ k_ => XS.iloadN X0.here hx rfl (hb hby d1_8) rfl k_) ?_
  refine own_step (T' := s₁) (g' := (mkF m 10 #[.val (.int (2 : Int32))] [(.int (1 : Int32)), (.int (2 : Int32))])) (fun t_ k_ => XS.iconst X0.here hx rfl (hb hby d1_9) k_) ?_
  refine own_step (T' := s₁) (g' := (mkF m 17 #[.val (.int (2 : Int32))] [])) (fun t_ k_ => XS.icmpYes X0.here hx rfl (pc0 := 10) (pc' := 17) rfl (hb hby d1_10) rfl (feq (by decide)).2 (by decide) (by decide) k_) ?_
  refine own_step (T' := s₁) (g' := (mkF m 18 #[.val (.int (2 : Int32))] [(.int (2 : Int32))])) (fun t_ k_ => XS.iloadN X0.here hx rfl (hb hby d1_17) rfl k_) ?_
  refine own_step (T' := s₁) (g' := (mkF m 19 #[.val (.int (2 : Int32))] [(.int (2 : Int32)), (.int (2 : Int32))])) (fun t_ k_ => XS.iconst X0.here hx rfl (hb hby d1_18) k_) ?_
  refine own_step (T' := s₁) (g' := (mkF m 22 #[.val (.int (2 : Int32))] [])) (fun t_ k_ => XS.icmpNo X0.here hx rfl (hb hby d1_19) rfl (teq (by decide)).2 k_) ?_
  obtain ⟨T101, X101, e101, st101⟩ := getS2 X0 hx hZ hown (host := "") (Or.inl (hw _ (List.mem_of_getElem? (i := 29) rfl))) Via.refl e0 S1 (g := (mkF m 22 #[.val (.int (2 : Int32))] [])) rfl (hb hby d1_22)
  refine own_step (T' := T101) (g' := (mkF m 25 #[.val (.int (2 : Int32))] [(.ref a1)])) st101 ?_
  obtain ⟨fs, hrR, hrun, hended, hWW, hsame⟩ := X101.leave (v := some (.ref a1)) (fun h => by rw [Bd.returns] at h; cases h)
  refine ⟨_, _, own_retR X101 hx Bd.returns rfl rfl rfl (hb hby d1_25) hrR, hrun, hended, hPP _ _ ⟨_, _, rfl, ?_, ⟨_, rfl⟩, hWW, hsame.mono (by decide) (by decide)⟩⟩
  show Q1 a1 h0 n0 _ T101.heap _
  rw [e101]
  exact ⟨rfl, N0, rfl⟩
set_option maxRecDepth 65536 in
set_option maxHeartbeats 40000000 in
theorem rm1_3 (l : Launch) (Z : State) (a0 : Array Value) (hw : ∀ d ∈ tables_1, d.before a0 Z = true) (ws : List Jvm.Cond) (a1 : Addr) (h0 : Heap) (n0 : Nat) (Z0 : n0 ≤ h0.size) (S1 : Sta Z h0 "com/example/upright_custodian/uprightcustodian/kmip/TtlvType" "BIG_INTEGER" "Lcom/example/upright_custodian/uprightcustodian/kmip/TtlvType;" (.ref a1)) :
    MetFree l (⟨"com/example/upright_custodian/uprightcustodian/kmip/TtlvTypeHasFixedLengthPinLaw", "pick", "(I)Lcom/example/upright_custodian/uprightcustodian/kmip/TtlvType;"⟩ : MethodName) (head1 (Jvm.Cond.code (⟨"com/example/upright_custodian/uprightcustodian/kmip/TtlvTypeHasFixedLengthPinLaw", "pick", "(I)Lcom/example/upright_custodian/uprightcustodian/kmip/TtlvType;"⟩ : MethodName) method_2_code 1 (some (.object "com/example/upright_custodian/uprightcustodian/kmip/TtlvType")) :: ws) ({ frames := 0, cells := 0, slots := 0, locals := 0 } : Room)) (fun a U => a = #[(.int (3 : Int32))] ∧ Z.Warmed39 U.vm ∧ U.heap = h0) (fun _ _ _ _ _ => True) (fun _ U o U' => ∃ v L, o = .returned v ∧ Q1 a1 h0 n0 v U'.heap L ∧ FrameEnd U o U' L 0 0) := by
  refine MetFree.of_bodySF (plainFor_of_name (by first | (simp [plainName, overriddenIn]; done) | decide +kernel)) hisR ?_
  intro p e s m args below meth c s₁ Bd hml0 hP hK
  obtain ⟨rfl, hZ, hh⟩ := hP
  have hx := Bd.exec
  have hby := Bd.bytes
  have hml : c.maxLocals = 1 := hml0
  have hown : s.vm.findClass "com/example/upright_custodian/uprightcustodian/kmip/TtlvTypeHasFixedLengthPinLaw" = some m.cls := findClass_of_methodNamed Bd.named
  have hnm := (name_of_methodNamed Bd.named Bd.method).1
  have X0 : Stand p l e ({ frames := 0, cells := 0, slots := 0, locals := 0 } : Room) s m #[(.int (3 : Int32))] below meth c s₁ [] 0 0 := Stand.of_body Bd
  have e0 : s₁.heap = h0 := by rw [← hh, Bd.state]; rfl
  have N0 := Fr.nil n0
  have ef : entryFrame m #[(.int (3 : Int32))] 1 = (mkF m 0 #[.val (.int (3 : Int32))] []) := by first | (simp [entryFrame, mkF, argsToLocals, Value.category]; done) | rfl
  refine own_start (fun P hPP => ?_)
  refine own_step (T' := s₁) (g' := (mkF m 0 #[.val (.int (3 : Int32))] [])) (fun t_ k_ => castTop ef k_) ?_
  refine own_step (T' := s₁) (g' := (mkF m 1 #[.val (.int (3 : Int32))] [(.int (3 : Int32))])) (fun t_ k_ => XS.iloadN X0.here hx rfl (hb hby d1_0) rfl k_) ?_
  refine own_step (T' := s₁) (g' := (mkF m 8 #[.val (.int (3 : Int32))] [])) (fun t_ k_ => XS.ifYes X0.here hx rfl (pc0 := 1) (pc' := 8) rfl (hb hby d1_1) rfl ((if0 _ _).trans (feq (by decide)).2) (by decide) (by decide) k_) ?_
  refine own_step (T' := s₁) (g' := (mkF m 9 #[.val (.int (3 : Int32))] [(.int (3 : Int32))])) (fun t_ k_ => XS.iloadN X0.here hx rfl (hb hby d1_8) rfl k_) ?_
  refine own_step (T' := s₁) (g' := (mkF m 10 #[.val (.int (3 : Int32))] [(.int (1 : Int32)), (.int (3 : Int32))])) (fun t_ k_ => XS.iconst X0.here hx rfl (hb hby d1_9) k_) ?_
  refine own_step (T' := s₁) (g' := (mkF m 17 #[.val (.int (3 : Int32))] [])) (fun t_ k_ => XS.icmpYes X0.here hx rfl (pc0 := 10) (pc' := 17) rfl (hb hby d1_10) rfl (feq (by decide)).2 (by decide) (by decide) k_) ?_
  refine own_step (T' := s₁) (g' := (mkF m 18 #[.val (.int (3 : Int32))] [(.int (3 : Int32))])) (fun t_ k_ => XS.iloadN X0.here hx rfl (hb hby d1_17) rfl k_) ?_
  refine own_step (T' := s₁) (g' := (mkF m 19 #[.val (.int (3 : Int32))] [(.int (2 : Int32)), (.int (3 : Int32))])) (fun t_ k_ => XS.iconst X0.here hx rfl (hb hby d1_18) k_) ?_
  refine own_step (T' := s₁) (g' := (mkF m 26 #[.val (.int (3 : Int32))] [])) (fun t_ k_ => XS.icmpYes X0.here hx rfl (pc0 := 19) (pc' := 26) rfl (hb hby d1_19) rfl (feq (by decide)).2 (by decide) (by decide) k_) ?_
  refine own_step (T' := s₁) (g' := (mkF m 27 #[.val (.int (3 : Int32))] [(.int (3 : Int32))])) (fun t_ k_ => XS.iloadN X0.here hx rfl (hb hby d1_26) rfl k_) ?_
  refine own_step (T' := s₁) (g' := (mkF m 28 #[.val (.int (3 : Int32))] [(.int (3 : Int32)), (.int (3 : Int32))])) (fun t_ k_ => XS.iconst X0.here hx rfl (hb hby d1_27) k_) ?_
  refine own_step (T' := s₁) (g' := (mkF m 31 #[.val (.int (3 : Int32))] [])) (fun t_ k_ => XS.icmpNo X0.here hx rfl (hb hby d1_28) rfl (teq (by decide)).2 k_) ?_
  obtain ⟨T101, X101, e101, st101⟩ := getS2 X0 hx hZ hown (host := "") (Or.inl (hw _ (List.mem_of_getElem? (i := 15) rfl))) Via.refl e0 S1 (g := (mkF m 31 #[.val (.int (3 : Int32))] [])) rfl (hb hby d1_31)
  refine own_step (T' := T101) (g' := (mkF m 34 #[.val (.int (3 : Int32))] [(.ref a1)])) st101 ?_
  obtain ⟨fs, hrR, hrun, hended, hWW, hsame⟩ := X101.leave (v := some (.ref a1)) (fun h => by rw [Bd.returns] at h; cases h)
  refine ⟨_, _, own_retR X101 hx Bd.returns rfl rfl rfl (hb hby d1_34) hrR, hrun, hended, hPP _ _ ⟨_, _, rfl, ?_, ⟨_, rfl⟩, hWW, hsame.mono (by decide) (by decide)⟩⟩
  show Q1 a1 h0 n0 _ T101.heap _
  rw [e101]
  exact ⟨rfl, N0, rfl⟩
set_option maxRecDepth 65536 in
set_option maxHeartbeats 40000000 in
theorem rm1_4 (l : Launch) (Z : State) (a0 : Array Value) (hw : ∀ d ∈ tables_1, d.before a0 Z = true) (ws : List Jvm.Cond) (a1 : Addr) (h0 : Heap) (n0 : Nat) (Z0 : n0 ≤ h0.size) (S1 : Sta Z h0 "com/example/upright_custodian/uprightcustodian/kmip/TtlvType" "ENUMERATION" "Lcom/example/upright_custodian/uprightcustodian/kmip/TtlvType;" (.ref a1)) :
    MetFree l (⟨"com/example/upright_custodian/uprightcustodian/kmip/TtlvTypeHasFixedLengthPinLaw", "pick", "(I)Lcom/example/upright_custodian/uprightcustodian/kmip/TtlvType;"⟩ : MethodName) (head1 (Jvm.Cond.code (⟨"com/example/upright_custodian/uprightcustodian/kmip/TtlvTypeHasFixedLengthPinLaw", "pick", "(I)Lcom/example/upright_custodian/uprightcustodian/kmip/TtlvType;"⟩ : MethodName) method_2_code 1 (some (.object "com/example/upright_custodian/uprightcustodian/kmip/TtlvType")) :: ws) ({ frames := 0, cells := 0, slots := 0, locals := 0 } : Room)) (fun a U => a = #[(.int (4 : Int32))] ∧ Z.Warmed39 U.vm ∧ U.heap = h0) (fun _ _ _ _ _ => True) (fun _ U o U' => ∃ v L, o = .returned v ∧ Q1 a1 h0 n0 v U'.heap L ∧ FrameEnd U o U' L 0 0) := by
  refine MetFree.of_bodySF (plainFor_of_name (by first | (simp [plainName, overriddenIn]; done) | decide +kernel)) hisR ?_
  intro p e s m args below meth c s₁ Bd hml0 hP hK
  obtain ⟨rfl, hZ, hh⟩ := hP
  have hx := Bd.exec
  have hby := Bd.bytes
  have hml : c.maxLocals = 1 := hml0
  have hown : s.vm.findClass "com/example/upright_custodian/uprightcustodian/kmip/TtlvTypeHasFixedLengthPinLaw" = some m.cls := findClass_of_methodNamed Bd.named
  have hnm := (name_of_methodNamed Bd.named Bd.method).1
  have X0 : Stand p l e ({ frames := 0, cells := 0, slots := 0, locals := 0 } : Room) s m #[(.int (4 : Int32))] below meth c s₁ [] 0 0 := Stand.of_body Bd
  have e0 : s₁.heap = h0 := by rw [← hh, Bd.state]; rfl
  have N0 := Fr.nil n0
  have ef : entryFrame m #[(.int (4 : Int32))] 1 = (mkF m 0 #[.val (.int (4 : Int32))] []) := by first | (simp [entryFrame, mkF, argsToLocals, Value.category]; done) | rfl
  refine own_start (fun P hPP => ?_)
  refine own_step (T' := s₁) (g' := (mkF m 0 #[.val (.int (4 : Int32))] [])) (fun t_ k_ => castTop ef k_) ?_
  refine own_step (T' := s₁) (g' := (mkF m 1 #[.val (.int (4 : Int32))] [(.int (4 : Int32))])) (fun t_ k_ => XS.iloadN X0.here hx rfl (hb hby d1_0) rfl k_) ?_
  refine own_step (T' := s₁) (g' := (mkF m 8 #[.val (.int (4 : Int32))] [])) (fun t_ k_ => XS.ifYes X0.here hx rfl (pc0 := 1) (pc' := 8) rfl (hb hby d1_1) rfl ((if0 _ _).trans (feq (by decide)).2) (by decide) (by decide) k_) ?_
  refine own_step (T' := s₁) (g' := (mkF m 9 #[.val (.int (4 : Int32))] [(.int (4 : Int32))])) (fun t_ k_ => XS.iloadN X0.here hx rfl (hb hby d1_8) rfl k_) ?_
  refine own_step (T' := s₁) (g' := (mkF m 10 #[.val (.int (4 : Int32))] [(.int (1 : Int32)), (.int (4 : Int32))])) (fun t_ k_ => XS.iconst X0.here hx rfl (hb hby d1_9) k_) ?_
  refine own_step (T' := s₁) (g' := (mkF m 17 #[.val (.int (4 : Int32))] [])) (fun t_ k_ => XS.icmpYes X0.here hx rfl (pc0 := 10) (pc' := 17) rfl (hb hby d1_10) rfl (feq (by decide)).2 (by decide) (by decide) k_) ?_
  refine own_step (T' := s₁) (g' := (mkF m 18 #[.val (.int (4 : Int32))] [(.int (4 : Int32))])) (fun t_ k_ => XS.iloadN X0.here hx rfl (hb hby d1_17) rfl k_) ?_
  refine own_step (T' := s₁) (g' := (mkF m 19 #[.val (.int (4 : Int32))] [(.int (2 : Int32)), (.int (4 : Int32))])) (fun t_ k_ => XS.iconst X0.here hx rfl (hb hby d1_18) k_) ?_
  refine own_step (T' := s₁) (g' := (mkF m 26 #[.val (.int (4 : Int32))] [])) (fun t_ k_ => XS.icmpYes X0.here hx rfl (pc0 := 19) (pc' := 26) rfl (hb hby d1_19) rfl (feq (by decide)).2 (by decide) (by decide) k_) ?_
  refine own_step (T' := s₁) (g' := (mkF m 27 #[.val (.int (4 : Int32))] [(.int (4 : Int32))])) (fun t_ k_ => XS.iloadN X0.here hx rfl (hb hby d1_26) rfl k_) ?_
  refine own_step (T' := s₁) (g' := (mkF m 28 #[.val (.int (4 : Int32))] [(.int (3 : Int32)), (.int (4 : Int32))])) (fun t_ k_ => XS.iconst X0.here hx rfl (hb hby d1_27) k_) ?_
  refine own_step (T' := s₁) (g' := (mkF m 35 #[.val (.int (4 : Int32))] [])) (fun t_ k_ => XS.icmpYes X0.here hx rfl (pc0 := 28) (pc' := 35) rfl (hb hby d1_28) rfl (feq (by decide)).2 (by decide) (by decide) k_) ?_
  refine own_step (T' := s₁) (g' := (mkF m 36 #[.val (.int (4 : Int32))] [(.int (4 : Int32))])) (fun t_ k_ => XS.iloadN X0.here hx rfl (hb hby d1_35) rfl k_) ?_
  refine own_step (T' := s₁) (g' := (mkF m 37 #[.val (.int (4 : Int32))] [(.int (4 : Int32)), (.int (4 : Int32))])) (fun t_ k_ => XS.iconst X0.here hx rfl (hb hby d1_36) k_) ?_
  refine own_step (T' := s₁) (g' := (mkF m 40 #[.val (.int (4 : Int32))] [])) (fun t_ k_ => XS.icmpNo X0.here hx rfl (hb hby d1_37) rfl (teq (by decide)).2 k_) ?_
  obtain ⟨T101, X101, e101, st101⟩ := getS2 X0 hx hZ hown (host := "") (Or.inl (hw _ (List.mem_of_getElem? (i := 25) rfl))) Via.refl e0 S1 (g := (mkF m 40 #[.val (.int (4 : Int32))] [])) rfl (hb hby d1_40)
  refine own_step (T' := T101) (g' := (mkF m 43 #[.val (.int (4 : Int32))] [(.ref a1)])) st101 ?_
  obtain ⟨fs, hrR, hrun, hended, hWW, hsame⟩ := X101.leave (v := some (.ref a1)) (fun h => by rw [Bd.returns] at h; cases h)
  refine ⟨_, _, own_retR X101 hx Bd.returns rfl rfl rfl (hb hby d1_43) hrR, hrun, hended, hPP _ _ ⟨_, _, rfl, ?_, ⟨_, rfl⟩, hWW, hsame.mono (by decide) (by decide)⟩⟩
  show Q1 a1 h0 n0 _ T101.heap _
  rw [e101]
  exact ⟨rfl, N0, rfl⟩
set_option maxRecDepth 65536 in
set_option maxHeartbeats 40000000 in
theorem rm1_5 (l : Launch) (Z : State) (a0 : Array Value) (hw : ∀ d ∈ tables_1, d.before a0 Z = true) (ws : List Jvm.Cond) (a1 : Addr) (h0 : Heap) (n0 : Nat) (Z0 : n0 ≤ h0.size) (S1 : Sta Z h0 "com/example/upright_custodian/uprightcustodian/kmip/TtlvType" "BOOLEAN" "Lcom/example/upright_custodian/uprightcustodian/kmip/TtlvType;" (.ref a1)) :
    MetFree l (⟨"com/example/upright_custodian/uprightcustodian/kmip/TtlvTypeHasFixedLengthPinLaw", "pick", "(I)Lcom/example/upright_custodian/uprightcustodian/kmip/TtlvType;"⟩ : MethodName) (head1 (Jvm.Cond.code (⟨"com/example/upright_custodian/uprightcustodian/kmip/TtlvTypeHasFixedLengthPinLaw", "pick", "(I)Lcom/example/upright_custodian/uprightcustodian/kmip/TtlvType;"⟩ : MethodName) method_2_code 1 (some (.object "com/example/upright_custodian/uprightcustodian/kmip/TtlvType")) :: ws) ({ frames := 0, cells := 0, slots := 0, locals := 0 } : Room)) (fun a U => a = #[(.int (5 : Int32))] ∧ Z.Warmed39 U.vm ∧ U.heap = h0) (fun _ _ _ _ _ => True) (fun _ U o U' => ∃ v L, o = .returned v ∧ Q1 a1 h0 n0 v U'.heap L ∧ FrameEnd U o U' L 0 0) := by
  refine MetFree.of_bodySF (plainFor_of_name (by first | (simp [plainName, overriddenIn]; done) | decide +kernel)) hisR ?_
  intro p e s m args below meth c s₁ Bd hml0 hP hK
  obtain ⟨rfl, hZ, hh⟩ := hP
  have hx := Bd.exec
  have hby := Bd.bytes
  have hml : c.maxLocals = 1 := hml0
  have hown : s.vm.findClass "com/example/upright_custodian/uprightcustodian/kmip/TtlvTypeHasFixedLengthPinLaw" = some m.cls := findClass_of_methodNamed Bd.named
  have hnm := (name_of_methodNamed Bd.named Bd.method).1
  have X0 : Stand p l e ({ frames := 0, cells := 0, slots := 0, locals := 0 } : Room) s m #[(.int (5 : Int32))] below meth c s₁ [] 0 0 := Stand.of_body Bd
  have e0 : s₁.heap = h0 := by rw [← hh, Bd.state]; rfl
  have N0 := Fr.nil n0
  have ef : entryFrame m #[(.int (5 : Int32))] 1 = (mkF m 0 #[.val (.int (5 : Int32))] []) := by first | (simp [entryFrame, mkF, argsToLocals, Value.category]; done) | rfl
  refine own_start (fun P hPP => ?_)
  refine own_step (T' := s₁) (g' := (mkF m 0 #[.val (.int (5 : Int32))] [])) (fun t_ k_ => castTop ef k_) ?_
  refine own_step (T' := s₁) (g' := (mkF m 1 #[.val (.int (5 : Int32))] [(.int (5 : Int32))])) (fun t_ k_ => XS.iloadN X0.here hx rfl (hb hby d1_0) rfl k_) ?_
  refine own_step (T' := s₁) (g' := (mkF m 8 #[.val (.int (5 : Int32))] [])) (fun t_ k_ => XS.ifYes X0.here hx rfl (pc0 := 1) (pc' := 8) rfl (hb hby d1_1) rfl ((if0 _ _).trans (feq (by decide)).2) (by decide) (by decide) k_) ?_
  refine own_step (T' := s₁) (g' := (mkF m 9 #[.val (.int (5 : Int32))] [(.int (5 : Int32))])) (fun t_ k_ => XS.iloadN X0.here hx rfl (hb hby d1_8) rfl k_) ?_
  refine own_step (T' := s₁) (g' := (mkF m 10 #[.val (.int (5 : Int32))] [(.int (1 : Int32)), (.int (5 : Int32))])) (fun t_ k_ => XS.iconst X0.here hx rfl (hb hby d1_9) k_) ?_
  refine own_step (T' := s₁) (g' := (mkF m 17 #[.val (.int (5 : Int32))] [])) (fun t_ k_ => XS.icmpYes X0.here hx rfl (pc0 := 10) (pc' := 17) rfl (hb hby d1_10) rfl (feq (by decide)).2 (by decide) (by decide) k_) ?_
  refine own_step (T' := s₁) (g' := (mkF m 18 #[.val (.int (5 : Int32))] [(.int (5 : Int32))])) (fun t_ k_ => XS.iloadN X0.here hx rfl (hb hby d1_17) rfl k_) ?_
  refine own_step (T' := s₁) (g' := (mkF m 19 #[.val (.int (5 : Int32))] [(.int (2 : Int32)), (.int (5 : Int32))])) (fun t_ k_ => XS.iconst X0.here hx rfl (hb hby d1_18) k_) ?_
  refine own_step (T' := s₁) (g' := (mkF m 26 #[.val (.int (5 : Int32))] [])) (fun t_ k_ => XS.icmpYes X0.here hx rfl (pc0 := 19) (pc' := 26) rfl (hb hby d1_19) rfl (feq (by decide)).2 (by decide) (by decide) k_) ?_
  refine own_step (T' := s₁) (g' := (mkF m 27 #[.val (.int (5 : Int32))] [(.int (5 : Int32))])) (fun t_ k_ => XS.iloadN X0.here hx rfl (hb hby d1_26) rfl k_) ?_
  refine own_step (T' := s₁) (g' := (mkF m 28 #[.val (.int (5 : Int32))] [(.int (3 : Int32)), (.int (5 : Int32))])) (fun t_ k_ => XS.iconst X0.here hx rfl (hb hby d1_27) k_) ?_
  refine own_step (T' := s₁) (g' := (mkF m 35 #[.val (.int (5 : Int32))] [])) (fun t_ k_ => XS.icmpYes X0.here hx rfl (pc0 := 28) (pc' := 35) rfl (hb hby d1_28) rfl (feq (by decide)).2 (by decide) (by decide) k_) ?_
  refine own_step (T' := s₁) (g' := (mkF m 36 #[.val (.int (5 : Int32))] [(.int (5 : Int32))])) (fun t_ k_ => XS.iloadN X0.here hx rfl (hb hby d1_35) rfl k_) ?_
  refine own_step (T' := s₁) (g' := (mkF m 37 #[.val (.int (5 : Int32))] [(.int (4 : Int32)), (.int (5 : Int32))])) (fun t_ k_ => XS.iconst X0.here hx rfl (hb hby d1_36) k_) ?_
  refine own_step (T' := s₁) (g' := (mkF m 44 #[.val (.int (5 : Int32))] [])) (fun t_ k_ => XS.icmpYes X0.here hx rfl (pc0 := 37) (pc' := 44) rfl (hb hby d1_37) rfl (feq (by decide)).2 (by decide) (by decide) k_) ?_
  refine own_step (T' := s₁) (g' := (mkF m 45 #[.val (.int (5 : Int32))] [(.int (5 : Int32))])) (fun t_ k_ => XS.iloadN X0.here hx rfl (hb hby d1_44) rfl k_) ?_
  refine own_step (T' := s₁) (g' := (mkF m 46 #[.val (.int (5 : Int32))] [(.int (5 : Int32)), (.int (5 : Int32))])) (fun t_ k_ => XS.iconst X0.here hx rfl (hb hby d1_45) k_) ?_
  refine own_step (T' := s₁) (g' := (mkF m 49 #[.val (.int (5 : Int32))] [])) (fun t_ k_ => XS.icmpNo X0.here hx rfl (hb hby d1_46) rfl (teq (by decide)).2 k_) ?_
  obtain ⟨T101, X101, e101, st101⟩ := getS2 X0 hx hZ hown (host := "") (Or.inl (hw _ (List.mem_of_getElem? (i := 35) rfl))) Via.refl e0 S1 (g := (mkF m 49 #[.val (.int (5 : Int32))] [])) rfl (hb hby d1_49)
  refine own_step (T' := T101) (g' := (mkF m 52 #[.val (.int (5 : Int32))] [(.ref a1)])) st101 ?_
  obtain ⟨fs, hrR, hrun, hended, hWW, hsame⟩ := X101.leave (v := some (.ref a1)) (fun h => by rw [Bd.returns] at h; cases h)
  refine ⟨_, _, own_retR X101 hx Bd.returns rfl rfl rfl (hb hby d1_52) hrR, hrun, hended, hPP _ _ ⟨_, _, rfl, ?_, ⟨_, rfl⟩, hWW, hsame.mono (by decide) (by decide)⟩⟩
  show Q1 a1 h0 n0 _ T101.heap _
  rw [e101]
  exact ⟨rfl, N0, rfl⟩
set_option maxRecDepth 65536 in
set_option maxHeartbeats 40000000 in
theorem rm1_6 (l : Launch) (Z : State) (a0 : Array Value) (hw : ∀ d ∈ tables_1, d.before a0 Z = true) (ws : List Jvm.Cond) (a1 : Addr) (h0 : Heap) (n0 : Nat) (Z0 : n0 ≤ h0.size) (S1 : Sta Z h0 "com/example/upright_custodian/uprightcustodian/kmip/TtlvType" "TEXT_STRING" "Lcom/example/upright_custodian/uprightcustodian/kmip/TtlvType;" (.ref a1)) :
    MetFree l (⟨"com/example/upright_custodian/uprightcustodian/kmip/TtlvTypeHasFixedLengthPinLaw", "pick", "(I)Lcom/example/upright_custodian/uprightcustodian/kmip/TtlvType;"⟩ : MethodName) (head1 (Jvm.Cond.code (⟨"com/example/upright_custodian/uprightcustodian/kmip/TtlvTypeHasFixedLengthPinLaw", "pick", "(I)Lcom/example/upright_custodian/uprightcustodian/kmip/TtlvType;"⟩ : MethodName) method_2_code 1 (some (.object "com/example/upright_custodian/uprightcustodian/kmip/TtlvType")) :: ws) ({ frames := 0, cells := 0, slots := 0, locals := 0 } : Room)) (fun a U => a = #[(.int (6 : Int32))] ∧ Z.Warmed39 U.vm ∧ U.heap = h0) (fun _ _ _ _ _ => True) (fun _ U o U' => ∃ v L, o = .returned v ∧ Q1 a1 h0 n0 v U'.heap L ∧ FrameEnd U o U' L 0 0) := by
  refine MetFree.of_bodySF (plainFor_of_name (by first | (simp [plainName, overriddenIn]; done) | decide +kernel)) hisR ?_
  intro p e s m args below meth c s₁ Bd hml0 hP hK
  obtain ⟨rfl, hZ, hh⟩ := hP
  have hx := Bd.exec
  have hby := Bd.bytes
  have hml : c.maxLocals = 1 := hml0
  have hown : s.vm.findClass "com/example/upright_custodian/uprightcustodian/kmip/TtlvTypeHasFixedLengthPinLaw" = some m.cls := findClass_of_methodNamed Bd.named
  have hnm := (name_of_methodNamed Bd.named Bd.method).1
  have X0 : Stand p l e ({ frames := 0, cells := 0, slots := 0, locals := 0 } : Room) s m #[(.int (6 : Int32))] below meth c s₁ [] 0 0 := Stand.of_body Bd
  have e0 : s₁.heap = h0 := by rw [← hh, Bd.state]; rfl
  have N0 := Fr.nil n0
  have ef : entryFrame m #[(.int (6 : Int32))] 1 = (mkF m 0 #[.val (.int (6 : Int32))] []) := by first | (simp [entryFrame, mkF, argsToLocals, Value.category]; done) | rfl
  refine own_start (fun P hPP => ?_)
  refine own_step (T' := s₁) (g' := (mkF m 0 #[.val (.int (6 : Int32))] [])) (fun t_ k_ => castTop ef k_) ?_
  refine own_step (T' := s₁) (g' := (mkF m 1 #[.val (.int (6 : Int32))] [(.int (6 : Int32))])) (fun t_ k_ => XS.iloadN X0.here hx rfl (hb hby d1_0) rfl k_) ?_
  refine own_step (T' := s₁) (g' := (mkF m 8 #[.val (.int (6 : Int32))] [])) (fun t_ k_ => XS.ifYes X0.here hx rfl (pc0 := 1) (pc' := 8) rfl (hb hby d1_1) rfl ((if0 _ _).trans (feq (by decide)).2) (by decide) (by decide) k_) ?_
  refine own_step (T' := s₁) (g' := (mkF m 9 #[.val (.int (6 : Int32))] [(.int (6 : Int32))])) (fun t_ k_ => XS.iloadN X0.here hx rfl (hb hby d1_8) rfl k_) ?_
  refine own_step (T' := s₁) (g' := (mkF m 10 #[.val (.int (6 : Int32))] [(.int (1 : Int32)), (.int (6 : Int32))])) (fun t_ k_ => XS.iconst X0.here hx rfl (hb hby d1_9) k_) ?_
  refine own_step (T' := s₁) (g' := (mkF m 17 #[.val (.int (6 : Int32))] [])) (fun t_ k_ => XS.icmpYes X0.here hx rfl (pc0 := 10) (pc' := 17) rfl (hb hby d1_10) rfl (feq (by decide)).2 (by decide) (by decide) k_) ?_
  refine own_step (T' := s₁) (g' := (mkF m 18 #[.val (.int (6 : Int32))] [(.int (6 : Int32))])) (fun t_ k_ => XS.iloadN X0.here hx rfl (hb hby d1_17) rfl k_) ?_
  refine own_step (T' := s₁) (g' := (mkF m 19 #[.val (.int (6 : Int32))] [(.int (2 : Int32)), (.int (6 : Int32))])) (fun t_ k_ => XS.iconst X0.here hx rfl (hb hby d1_18) k_) ?_
  refine own_step (T' := s₁) (g' := (mkF m 26 #[.val (.int (6 : Int32))] [])) (fun t_ k_ => XS.icmpYes X0.here hx rfl (pc0 := 19) (pc' := 26) rfl (hb hby d1_19) rfl (feq (by decide)).2 (by decide) (by decide) k_) ?_
  refine own_step (T' := s₁) (g' := (mkF m 27 #[.val (.int (6 : Int32))] [(.int (6 : Int32))])) (fun t_ k_ => XS.iloadN X0.here hx rfl (hb hby d1_26) rfl k_) ?_
  refine own_step (T' := s₁) (g' := (mkF m 28 #[.val (.int (6 : Int32))] [(.int (3 : Int32)), (.int (6 : Int32))])) (fun t_ k_ => XS.iconst X0.here hx rfl (hb hby d1_27) k_) ?_
  refine own_step (T' := s₁) (g' := (mkF m 35 #[.val (.int (6 : Int32))] [])) (fun t_ k_ => XS.icmpYes X0.here hx rfl (pc0 := 28) (pc' := 35) rfl (hb hby d1_28) rfl (feq (by decide)).2 (by decide) (by decide) k_) ?_
  refine own_step (T' := s₁) (g' := (mkF m 36 #[.val (.int (6 : Int32))] [(.int (6 : Int32))])) (fun t_ k_ => XS.iloadN X0.here hx rfl (hb hby d1_35) rfl k_) ?_
  refine own_step (T' := s₁) (g' := (mkF m 37 #[.val (.int (6 : Int32))] [(.int (4 : Int32)), (.int (6 : Int32))])) (fun t_ k_ => XS.iconst X0.here hx rfl (hb hby d1_36) k_) ?_
  refine own_step (T' := s₁) (g' := (mkF m 44 #[.val (.int (6 : Int32))] [])) (fun t_ k_ => XS.icmpYes X0.here hx rfl (pc0 := 37) (pc' := 44) rfl (hb hby d1_37) rfl (feq (by decide)).2 (by decide) (by decide) k_) ?_
  refine own_step (T' := s₁) (g' := (mkF m 45 #[.val (.int (6 : Int32))] [(.int (6 : Int32))])) (fun t_ k_ => XS.iloadN X0.here hx rfl (hb hby d1_44) rfl k_) ?_
  refine own_step (T' := s₁) (g' := (mkF m 46 #[.val (.int (6 : Int32))] [(.int (5 : Int32)), (.int (6 : Int32))])) (fun t_ k_ => XS.iconst X0.here hx rfl (hb hby d1_45) k_) ?_
  refine own_step (T' := s₁) (g' := (mkF m 53 #[.val (.int (6 : Int32))] [])) (fun t_ k_ => XS.icmpYes X0.here hx rfl (pc0 := 46) (pc' := 53) rfl (hb hby d1_46) rfl (feq (by decide)).2 (by decide) (by decide) k_) ?_
  refine own_step (T' := s₁) (g' := (mkF m 54 #[.val (.int (6 : Int32))] [(.int (6 : Int32))])) (fun t_ k_ => XS.iloadN X0.here hx rfl (hb hby d1_53) rfl k_) ?_
  refine own_step (T' := s₁) (g' := (mkF m 56 #[.val (.int (6 : Int32))] [(.int (6 : Int32)), (.int (6 : Int32))])) (fun t_ k_ => XS.bipush X0.here hx rfl (hb hby d1_54) k_) ?_
  refine own_step (T' := s₁) (g' := (mkF m 59 #[.val (.int (6 : Int32))] [])) (fun t_ k_ => XS.icmpNo X0.here hx rfl (hb hby d1_56) rfl (teq (by decide)).2 k_) ?_
  obtain ⟨T101, X101, e101, st101⟩ := getS2 X0 hx hZ hown (host := "") (Or.inl (hw _ (List.mem_of_getElem? (i := 37) rfl))) Via.refl e0 S1 (g := (mkF m 59 #[.val (.int (6 : Int32))] [])) rfl (hb hby d1_59)
  refine own_step (T' := T101) (g' := (mkF m 62 #[.val (.int (6 : Int32))] [(.ref a1)])) st101 ?_
  obtain ⟨fs, hrR, hrun, hended, hWW, hsame⟩ := X101.leave (v := some (.ref a1)) (fun h => by rw [Bd.returns] at h; cases h)
  refine ⟨_, _, own_retR X101 hx Bd.returns rfl rfl rfl (hb hby d1_62) hrR, hrun, hended, hPP _ _ ⟨_, _, rfl, ?_, ⟨_, rfl⟩, hWW, hsame.mono (by decide) (by decide)⟩⟩
  show Q1 a1 h0 n0 _ T101.heap _
  rw [e101]
  exact ⟨rfl, N0, rfl⟩
set_option maxRecDepth 65536 in
set_option maxHeartbeats 40000000 in
theorem rm1_7 (l : Launch) (Z : State) (a0 : Array Value) (hw : ∀ d ∈ tables_1, d.before a0 Z = true) (ws : List Jvm.Cond) (a1 : Addr) (h0 : Heap) (n0 : Nat) (Z0 : n0 ≤ h0.size) (S1 : Sta Z h0 "com/example/upright_custodian/uprightcustodian/kmip/TtlvType" "BYTE_STRING" "Lcom/example/upright_custodian/uprightcustodian/kmip/TtlvType;" (.ref a1)) :
    MetFree l (⟨"com/example/upright_custodian/uprightcustodian/kmip/TtlvTypeHasFixedLengthPinLaw", "pick", "(I)Lcom/example/upright_custodian/uprightcustodian/kmip/TtlvType;"⟩ : MethodName) (head1 (Jvm.Cond.code (⟨"com/example/upright_custodian/uprightcustodian/kmip/TtlvTypeHasFixedLengthPinLaw", "pick", "(I)Lcom/example/upright_custodian/uprightcustodian/kmip/TtlvType;"⟩ : MethodName) method_2_code 1 (some (.object "com/example/upright_custodian/uprightcustodian/kmip/TtlvType")) :: ws) ({ frames := 0, cells := 0, slots := 0, locals := 0 } : Room)) (fun a U => a = #[(.int (7 : Int32))] ∧ Z.Warmed39 U.vm ∧ U.heap = h0) (fun _ _ _ _ _ => True) (fun _ U o U' => ∃ v L, o = .returned v ∧ Q1 a1 h0 n0 v U'.heap L ∧ FrameEnd U o U' L 0 0) := by
  refine MetFree.of_bodySF (plainFor_of_name (by first | (simp [plainName, overriddenIn]; done) | decide +kernel)) hisR ?_
  intro p e s m args below meth c s₁ Bd hml0 hP hK
  obtain ⟨rfl, hZ, hh⟩ := hP
  have hx := Bd.exec
  have hby := Bd.bytes
  have hml : c.maxLocals = 1 := hml0
  have hown : s.vm.findClass "com/example/upright_custodian/uprightcustodian/kmip/TtlvTypeHasFixedLengthPinLaw" = some m.cls := findClass_of_methodNamed Bd.named
  have hnm := (name_of_methodNamed Bd.named Bd.method).1
  have X0 : Stand p l e ({ frames := 0, cells := 0, slots := 0, locals := 0 } : Room) s m #[(.int (7 : Int32))] below meth c s₁ [] 0 0 := Stand.of_body Bd
  have e0 : s₁.heap = h0 := by rw [← hh, Bd.state]; rfl
  have N0 := Fr.nil n0
  have ef : entryFrame m #[(.int (7 : Int32))] 1 = (mkF m 0 #[.val (.int (7 : Int32))] []) := by first | (simp [entryFrame, mkF, argsToLocals, Value.category]; done) | rfl
  refine own_start (fun P hPP => ?_)
  refine own_step (T' := s₁) (g' := (mkF m 0 #[.val (.int (7 : Int32))] [])) (fun t_ k_ => castTop ef k_) ?_
  refine own_step (T' := s₁) (g' := (mkF m 1 #[.val (.int (7 : Int32))] [(.int (7 : Int32))])) (fun t_ k_ => XS.iloadN X0.here hx rfl (hb hby d1_0) rfl k_) ?_
  refine own_step (T' := s₁) (g' := (mkF m 8 #[.val (.int (7 : Int32))] [])) (fun t_ k_ => XS.ifYes X0.here hx rfl (pc0 := 1) (pc' := 8) rfl (hb hby d1_1) rfl ((if0 _ _).trans (feq (by decide)).2) (by decide) (by decide) k_) ?_
  refine own_step (T' := s₁) (g' := (mkF m 9 #[.val (.int (7 : Int32))] [(.int (7 : Int32))])) (fun t_ k_ => XS.iloadN X0.here hx rfl (hb hby d1_8) rfl k_) ?_
  refine own_step (T' := s₁) (g' := (mkF m 10 #[.val (.int (7 : Int32))] [(.int (1 : Int32)), (.int (7 : Int32))])) (fun t_ k_ => XS.iconst X0.here hx rfl (hb hby d1_9) k_) ?_
  refine own_step (T' := s₁) (g' := (mkF m 17 #[.val (.int (7 : Int32))] [])) (fun t_ k_ => XS.icmpYes X0.here hx rfl (pc0 := 10) (pc' := 17) rfl (hb hby d1_10) rfl (feq (by decide)).2 (by decide) (by decide) k_) ?_
  refine own_step (T' := s₁) (g' := (mkF m 18 #[.val (.int (7 : Int32))] [(.int (7 : Int32))])) (fun t_ k_ => XS.iloadN X0.here hx rfl (hb hby d1_17) rfl k_) ?_
  refine own_step (T' := s₁) (g' := (mkF m 19 #[.val (.int (7 : Int32))] [(.int (2 : Int32)), (.int (7 : Int32))])) (fun t_ k_ => XS.iconst X0.here hx rfl (hb hby d1_18) k_) ?_
  refine own_step (T' := s₁) (g' := (mkF m 26 #[.val (.int (7 : Int32))] [])) (fun t_ k_ => XS.icmpYes X0.here hx rfl (pc0 := 19) (pc' := 26) rfl (hb hby d1_19) rfl (feq (by decide)).2 (by decide) (by decide) k_) ?_
  refine own_step (T' := s₁) (g' := (mkF m 27 #[.val (.int (7 : Int32))] [(.int (7 : Int32))])) (fun t_ k_ => XS.iloadN X0.here hx rfl (hb hby d1_26) rfl k_) ?_
  refine own_step (T' := s₁) (g' := (mkF m 28 #[.val (.int (7 : Int32))] [(.int (3 : Int32)), (.int (7 : Int32))])) (fun t_ k_ => XS.iconst X0.here hx rfl (hb hby d1_27) k_) ?_
  refine own_step (T' := s₁) (g' := (mkF m 35 #[.val (.int (7 : Int32))] [])) (fun t_ k_ => XS.icmpYes X0.here hx rfl (pc0 := 28) (pc' := 35) rfl (hb hby d1_28) rfl (feq (by decide)).2 (by decide) (by decide) k_) ?_
  refine own_step (T' := s₁) (g' := (mkF m 36 #[.val (.int (7 : Int32))] [(.int (7 : Int32))])) (fun t_ k_ => XS.iloadN X0.here hx rfl (hb hby d1_35) rfl k_) ?_
  refine own_step (T' := s₁) (g' := (mkF m 37 #[.val (.int (7 : Int32))] [(.int (4 : Int32)), (.int (7 : Int32))])) (fun t_ k_ => XS.iconst X0.here hx rfl (hb hby d1_36) k_) ?_
  refine own_step (T' := s₁) (g' := (mkF m 44 #[.val (.int (7 : Int32))] [])) (fun t_ k_ => XS.icmpYes X0.here hx rfl (pc0 := 37) (pc' := 44) rfl (hb hby d1_37) rfl (feq (by decide)).2 (by decide) (by decide) k_) ?_
  refine own_step (T' := s₁) (g' := (mkF m 45 #[.val (.int (7 : Int32))] [(.int (7 : Int32))])) (fun t_ k_ => XS.iloadN X0.here hx rfl (hb hby d1_44) rfl k_) ?_
  refine own_step (T' := s₁) (g' := (mkF m 46 #[.val (.int (7 : Int32))] [(.int (5 : Int32)), (.int (7 : Int32))])) (fun t_ k_ => XS.iconst X0.here hx rfl (hb hby d1_45) k_) ?_
  refine own_step (T' := s₁) (g' := (mkF m 53 #[.val (.int (7 : Int32))] [])) (fun t_ k_ => XS.icmpYes X0.here hx rfl (pc0 := 46) (pc' := 53) rfl (hb hby d1_46) rfl (feq (by decide)).2 (by decide) (by decide) k_) ?_
  refine own_step (T' := s₁) (g' := (mkF m 54 #[.val (.int (7 : Int32))] [(.int (7 : Int32))])) (fun t_ k_ => XS.iloadN X0.here hx rfl (hb hby d1_53) rfl k_) ?_
  refine own_step (T' := s₁) (g' := (mkF m 56 #[.val (.int (7 : Int32))] [(.int (6 : Int32)), (.int (7 : Int32))])) (fun t_ k_ => XS.bipush X0.here hx rfl (hb hby d1_54) k_) ?_
  refine own_step (T' := s₁) (g' := (mkF m 63 #[.val (.int (7 : Int32))] [])) (fun t_ k_ => XS.icmpYes X0.here hx rfl (pc0 := 56) (pc' := 63) rfl (hb hby d1_56) rfl (feq (by decide)).2 (by decide) (by decide) k_) ?_
  refine own_step (T' := s₁) (g' := (mkF m 64 #[.val (.int (7 : Int32))] [(.int (7 : Int32))])) (fun t_ k_ => XS.iloadN X0.here hx rfl (hb hby d1_63) rfl k_) ?_
  refine own_step (T' := s₁) (g' := (mkF m 66 #[.val (.int (7 : Int32))] [(.int (7 : Int32)), (.int (7 : Int32))])) (fun t_ k_ => XS.bipush X0.here hx rfl (hb hby d1_64) k_) ?_
  refine own_step (T' := s₁) (g' := (mkF m 69 #[.val (.int (7 : Int32))] [])) (fun t_ k_ => XS.icmpNo X0.here hx rfl (hb hby d1_66) rfl (teq (by decide)).2 k_) ?_
  obtain ⟨T101, X101, e101, st101⟩ := getS2 X0 hx hZ hown (host := "") (Or.inl (hw _ (List.mem_of_getElem? (i := 27) rfl))) Via.refl e0 S1 (g := (mkF m 69 #[.val (.int (7 : Int32))] [])) rfl (hb hby d1_69)
  refine own_step (T' := T101) (g' := (mkF m 72 #[.val (.int (7 : Int32))] [(.ref a1)])) st101 ?_
  obtain ⟨fs, hrR, hrun, hended, hWW, hsame⟩ := X101.leave (v := some (.ref a1)) (fun h => by rw [Bd.returns] at h; cases h)
  refine ⟨_, _, own_retR X101 hx Bd.returns rfl rfl rfl (hb hby d1_72) hrR, hrun, hended, hPP _ _ ⟨_, _, rfl, ?_, ⟨_, rfl⟩, hWW, hsame.mono (by decide) (by decide)⟩⟩
  show Q1 a1 h0 n0 _ T101.heap _
  rw [e101]
  exact ⟨rfl, N0, rfl⟩
set_option maxRecDepth 65536 in
set_option maxHeartbeats 40000000 in
theorem rm1_8 (l : Launch) (Z : State) (a0 : Array Value) (hw : ∀ d ∈ tables_1, d.before a0 Z = true) (ws : List Jvm.Cond) (a1 : Addr) (h0 : Heap) (n0 : Nat) (Z0 : n0 ≤ h0.size) (S1 : Sta Z h0 "com/example/upright_custodian/uprightcustodian/kmip/TtlvType" "DATE_TIME" "Lcom/example/upright_custodian/uprightcustodian/kmip/TtlvType;" (.ref a1)) :
    MetFree l (⟨"com/example/upright_custodian/uprightcustodian/kmip/TtlvTypeHasFixedLengthPinLaw", "pick", "(I)Lcom/example/upright_custodian/uprightcustodian/kmip/TtlvType;"⟩ : MethodName) (head1 (Jvm.Cond.code (⟨"com/example/upright_custodian/uprightcustodian/kmip/TtlvTypeHasFixedLengthPinLaw", "pick", "(I)Lcom/example/upright_custodian/uprightcustodian/kmip/TtlvType;"⟩ : MethodName) method_2_code 1 (some (.object "com/example/upright_custodian/uprightcustodian/kmip/TtlvType")) :: ws) ({ frames := 0, cells := 0, slots := 0, locals := 0 } : Room)) (fun a U => a = #[(.int (8 : Int32))] ∧ Z.Warmed39 U.vm ∧ U.heap = h0) (fun _ _ _ _ _ => True) (fun _ U o U' => ∃ v L, o = .returned v ∧ Q1 a1 h0 n0 v U'.heap L ∧ FrameEnd U o U' L 0 0) := by
  refine MetFree.of_bodySF (plainFor_of_name (by first | (simp [plainName, overriddenIn]; done) | decide +kernel)) hisR ?_
  intro p e s m args below meth c s₁ Bd hml0 hP hK
  obtain ⟨rfl, hZ, hh⟩ := hP
  have hx := Bd.exec
  have hby := Bd.bytes
  have hml : c.maxLocals = 1 := hml0
  have hown : s.vm.findClass "com/example/upright_custodian/uprightcustodian/kmip/TtlvTypeHasFixedLengthPinLaw" = some m.cls := findClass_of_methodNamed Bd.named
  have hnm := (name_of_methodNamed Bd.named Bd.method).1
  have X0 : Stand p l e ({ frames := 0, cells := 0, slots := 0, locals := 0 } : Room) s m #[(.int (8 : Int32))] below meth c s₁ [] 0 0 := Stand.of_body Bd
  have e0 : s₁.heap = h0 := by rw [← hh, Bd.state]; rfl
  have N0 := Fr.nil n0
  have ef : entryFrame m #[(.int (8 : Int32))] 1 = (mkF m 0 #[.val (.int (8 : Int32))] []) := by first | (simp [entryFrame, mkF, argsToLocals, Value.category]; done) | rfl
  refine own_start (fun P hPP => ?_)
  refine own_step (T' := s₁) (g' := (mkF m 0 #[.val (.int (8 : Int32))] [])) (fun t_ k_ => castTop ef k_) ?_
  refine own_step (T' := s₁) (g' := (mkF m 1 #[.val (.int (8 : Int32))] [(.int (8 : Int32))])) (fun t_ k_ => XS.iloadN X0.here hx rfl (hb hby d1_0) rfl k_) ?_
  refine own_step (T' := s₁) (g' := (mkF m 8 #[.val (.int (8 : Int32))] [])) (fun t_ k_ => XS.ifYes X0.here hx rfl (pc0 := 1) (pc' := 8) rfl (hb hby d1_1) rfl ((if0 _ _).trans (feq (by decide)).2) (by decide) (by decide) k_) ?_
  refine own_step (T' := s₁) (g' := (mkF m 9 #[.val (.int (8 : Int32))] [(.int (8 : Int32))])) (fun t_ k_ => XS.iloadN X0.here hx rfl (hb hby d1_8) rfl k_) ?_
  refine own_step (T' := s₁) (g' := (mkF m 10 #[.val (.int (8 : Int32))] [(.int (1 : Int32)), (.int (8 : Int32))])) (fun t_ k_ => XS.iconst X0.here hx rfl (hb hby d1_9) k_) ?_
  refine own_step (T' := s₁) (g' := (mkF m 17 #[.val (.int (8 : Int32))] [])) (fun t_ k_ => XS.icmpYes X0.here hx rfl (pc0 := 10) (pc' := 17) rfl (hb hby d1_10) rfl (feq (by decide)).2 (by decide) (by decide) k_) ?_
  refine own_step (T' := s₁) (g' := (mkF m 18 #[.val (.int (8 : Int32))] [(.int (8 : Int32))])) (fun t_ k_ => XS.iloadN X0.here hx rfl (hb hby d1_17) rfl k_) ?_
  refine own_step (T' := s₁) (g' := (mkF m 19 #[.val (.int (8 : Int32))] [(.int (2 : Int32)), (.int (8 : Int32))])) (fun t_ k_ => XS.iconst X0.here hx rfl (hb hby d1_18) k_) ?_
  refine own_step (T' := s₁) (g' := (mkF m 26 #[.val (.int (8 : Int32))] [])) (fun t_ k_ => XS.icmpYes X0.here hx rfl (pc0 := 19) (pc' := 26) rfl (hb hby d1_19) rfl (feq (by decide)).2 (by decide) (by decide) k_) ?_
  refine own_step (T' := s₁) (g' := (mkF m 27 #[.val (.int (8 : Int32))] [(.int (8 : Int32))])) (fun t_ k_ => XS.iloadN X0.here hx rfl (hb hby d1_26) rfl k_) ?_
  refine own_step (T' := s₁) (g' := (mkF m 28 #[.val (.int (8 : Int32))] [(.int (3 : Int32)), (.int (8 : Int32))])) (fun t_ k_ => XS.iconst X0.here hx rfl (hb hby d1_27) k_) ?_
  refine own_step (T' := s₁) (g' := (mkF m 35 #[.val (.int (8 : Int32))] [])) (fun t_ k_ => XS.icmpYes X0.here hx rfl (pc0 := 28) (pc' := 35) rfl (hb hby d1_28) rfl (feq (by decide)).2 (by decide) (by decide) k_) ?_
  refine own_step (T' := s₁) (g' := (mkF m 36 #[.val (.int (8 : Int32))] [(.int (8 : Int32))])) (fun t_ k_ => XS.iloadN X0.here hx rfl (hb hby d1_35) rfl k_) ?_
  refine own_step (T' := s₁) (g' := (mkF m 37 #[.val (.int (8 : Int32))] [(.int (4 : Int32)), (.int (8 : Int32))])) (fun t_ k_ => XS.iconst X0.here hx rfl (hb hby d1_36) k_) ?_
  refine own_step (T' := s₁) (g' := (mkF m 44 #[.val (.int (8 : Int32))] [])) (fun t_ k_ => XS.icmpYes X0.here hx rfl (pc0 := 37) (pc' := 44) rfl (hb hby d1_37) rfl (feq (by decide)).2 (by decide) (by decide) k_) ?_
  refine own_step (T' := s₁) (g' := (mkF m 45 #[.val (.int (8 : Int32))] [(.int (8 : Int32))])) (fun t_ k_ => XS.iloadN X0.here hx rfl (hb hby d1_44) rfl k_) ?_
  refine own_step (T' := s₁) (g' := (mkF m 46 #[.val (.int (8 : Int32))] [(.int (5 : Int32)), (.int (8 : Int32))])) (fun t_ k_ => XS.iconst X0.here hx rfl (hb hby d1_45) k_) ?_
  refine own_step (T' := s₁) (g' := (mkF m 53 #[.val (.int (8 : Int32))] [])) (fun t_ k_ => XS.icmpYes X0.here hx rfl (pc0 := 46) (pc' := 53) rfl (hb hby d1_46) rfl (feq (by decide)).2 (by decide) (by decide) k_) ?_
  refine own_step (T' := s₁) (g' := (mkF m 54 #[.val (.int (8 : Int32))] [(.int (8 : Int32))])) (fun t_ k_ => XS.iloadN X0.here hx rfl (hb hby d1_53) rfl k_) ?_
  refine own_step (T' := s₁) (g' := (mkF m 56 #[.val (.int (8 : Int32))] [(.int (6 : Int32)), (.int (8 : Int32))])) (fun t_ k_ => XS.bipush X0.here hx rfl (hb hby d1_54) k_) ?_
  refine own_step (T' := s₁) (g' := (mkF m 63 #[.val (.int (8 : Int32))] [])) (fun t_ k_ => XS.icmpYes X0.here hx rfl (pc0 := 56) (pc' := 63) rfl (hb hby d1_56) rfl (feq (by decide)).2 (by decide) (by decide) k_) ?_
  refine own_step (T' := s₁) (g' := (mkF m 64 #[.val (.int (8 : Int32))] [(.int (8 : Int32))])) (fun t_ k_ => XS.iloadN X0.here hx rfl (hb hby d1_63) rfl k_) ?_
  refine own_step (T' := s₁) (g' := (mkF m 66 #[.val (.int (8 : Int32))] [(.int (7 : Int32)), (.int (8 : Int32))])) (fun t_ k_ => XS.bipush X0.here hx rfl (hb hby d1_64) k_) ?_
  refine own_step (T' := s₁) (g' := (mkF m 73 #[.val (.int (8 : Int32))] [])) (fun t_ k_ => XS.icmpYes X0.here hx rfl (pc0 := 66) (pc' := 73) rfl (hb hby d1_66) rfl (feq (by decide)).2 (by decide) (by decide) k_) ?_
  refine own_step (T' := s₁) (g' := (mkF m 74 #[.val (.int (8 : Int32))] [(.int (8 : Int32))])) (fun t_ k_ => XS.iloadN X0.here hx rfl (hb hby d1_73) rfl k_) ?_
  refine own_step (T' := s₁) (g' := (mkF m 76 #[.val (.int (8 : Int32))] [(.int (8 : Int32)), (.int (8 : Int32))])) (fun t_ k_ => XS.bipush X0.here hx rfl (hb hby d1_74) k_) ?_
  refine own_step (T' := s₁) (g' := (mkF m 79 #[.val (.int (8 : Int32))] [])) (fun t_ k_ => XS.icmpNo X0.here hx rfl (hb hby d1_76) rfl (teq (by decide)).2 k_) ?_
  obtain ⟨T101, X101, e101, st101⟩ := getS2 X0 hx hZ hown (host := "") (Or.inl (hw _ (List.mem_of_getElem? (i := 31) rfl))) Via.refl e0 S1 (g := (mkF m 79 #[.val (.int (8 : Int32))] [])) rfl (hb hby d1_79)
  refine own_step (T' := T101) (g' := (mkF m 82 #[.val (.int (8 : Int32))] [(.ref a1)])) st101 ?_
  obtain ⟨fs, hrR, hrun, hended, hWW, hsame⟩ := X101.leave (v := some (.ref a1)) (fun h => by rw [Bd.returns] at h; cases h)
  refine ⟨_, _, own_retR X101 hx Bd.returns rfl rfl rfl (hb hby d1_82) hrR, hrun, hended, hPP _ _ ⟨_, _, rfl, ?_, ⟨_, rfl⟩, hWW, hsame.mono (by decide) (by decide)⟩⟩
  show Q1 a1 h0 n0 _ T101.heap _
  rw [e101]
  exact ⟨rfl, N0, rfl⟩
set_option maxRecDepth 65536 in
set_option maxHeartbeats 40000000 in
theorem rm1_9 (l : Launch) (Z : State) (a0 : Array Value) (hw : ∀ d ∈ tables_1, d.before a0 Z = true) (ws : List Jvm.Cond) (a1 : Addr) (h0 : Heap) (n0 : Nat) (Z0 : n0 ≤ h0.size) (S1 : Sta Z h0 "com/example/upright_custodian/uprightcustodian/kmip/TtlvType" "INTERVAL" "Lcom/example/upright_custodian/uprightcustodian/kmip/TtlvType;" (.ref a1)) :
    MetFree l (⟨"com/example/upright_custodian/uprightcustodian/kmip/TtlvTypeHasFixedLengthPinLaw", "pick", "(I)Lcom/example/upright_custodian/uprightcustodian/kmip/TtlvType;"⟩ : MethodName) (head1 (Jvm.Cond.code (⟨"com/example/upright_custodian/uprightcustodian/kmip/TtlvTypeHasFixedLengthPinLaw", "pick", "(I)Lcom/example/upright_custodian/uprightcustodian/kmip/TtlvType;"⟩ : MethodName) method_2_code 1 (some (.object "com/example/upright_custodian/uprightcustodian/kmip/TtlvType")) :: ws) ({ frames := 0, cells := 0, slots := 0, locals := 0 } : Room)) (fun a U => a = #[(.int (9 : Int32))] ∧ Z.Warmed39 U.vm ∧ U.heap = h0) (fun _ _ _ _ _ => True) (fun _ U o U' => ∃ v L, o = .returned v ∧ Q1 a1 h0 n0 v U'.heap L ∧ FrameEnd U o U' L 0 0) := by
  refine MetFree.of_bodySF (plainFor_of_name (by first | (simp [plainName, overriddenIn]; done) | decide +kernel)) hisR ?_
  intro p e s m args below meth c s₁ Bd hml0 hP hK
  obtain ⟨rfl, hZ, hh⟩ := hP
  have hx := Bd.exec
  have hby := Bd.bytes
  have hml : c.maxLocals = 1 := hml0
  have hown : s.vm.findClass "com/example/upright_custodian/uprightcustodian/kmip/TtlvTypeHasFixedLengthPinLaw" = some m.cls := findClass_of_methodNamed Bd.named
  have hnm := (name_of_methodNamed Bd.named Bd.method).1
  have X0 : Stand p l e ({ frames := 0, cells := 0, slots := 0, locals := 0 } : Room) s m #[(.int (9 : Int32))] below meth c s₁ [] 0 0 := Stand.of_body Bd
  have e0 : s₁.heap = h0 := by rw [← hh, Bd.state]; rfl
  have N0 := Fr.nil n0
  have ef : entryFrame m #[(.int (9 : Int32))] 1 = (mkF m 0 #[.val (.int (9 : Int32))] []) := by first | (simp [entryFrame, mkF, argsToLocals, Value.category]; done) | rfl
  refine own_start (fun P hPP => ?_)
  refine own_step (T' := s₁) (g' := (mkF m 0 #[.val (.int (9 : Int32))] [])) (fun t_ k_ => castTop ef k_) ?_
  refine own_step (T' := s₁) (g' := (mkF m 1 #[.val (.int (9 : Int32))] [(.int (9 : Int32))])) (fun t_ k_ => XS.iloadN X0.here hx rfl (hb hby d1_0) rfl k_) ?_
  refine own_step (T' := s₁) (g' := (mkF m 8 #[.val (.int (9 : Int32))] [])) (fun t_ k_ => XS.ifYes X0.here hx rfl (pc0 := 1) (pc' := 8) rfl (hb hby d1_1) rfl ((if0 _ _).trans (feq (by decide)).2) (by decide) (by decide) k_) ?_
  refine own_step (T' := s₁) (g' := (mkF m 9 #[.val (.int (9 : Int32))] [(.int (9 : Int32))])) (fun t_ k_ => XS.iloadN X0.here hx rfl (hb hby d1_8) rfl k_) ?_
  refine own_step (T' := s₁) (g' := (mkF m 10 #[.val (.int (9 : Int32))] [(.int (1 : Int32)), (.int (9 : Int32))])) (fun t_ k_ => XS.iconst X0.here hx rfl (hb hby d1_9) k_) ?_
  refine own_step (T' := s₁) (g' := (mkF m 17 #[.val (.int (9 : Int32))] [])) (fun t_ k_ => XS.icmpYes X0.here hx rfl (pc0 := 10) (pc' := 17) rfl (hb hby d1_10) rfl (feq (by decide)).2 (by decide) (by decide) k_) ?_
  refine own_step (T' := s₁) (g' := (mkF m 18 #[.val (.int (9 : Int32))] [(.int (9 : Int32))])) (fun t_ k_ => XS.iloadN X0.here hx rfl (hb hby d1_17) rfl k_) ?_
  refine own_step (T' := s₁) (g' := (mkF m 19 #[.val (.int (9 : Int32))] [(.int (2 : Int32)), (.int (9 : Int32))])) (fun t_ k_ => XS.iconst X0.here hx rfl (hb hby d1_18) k_) ?_
  refine own_step (T' := s₁) (g' := (mkF m 26 #[.val (.int (9 : Int32))] [])) (fun t_ k_ => XS.icmpYes X0.here hx rfl (pc0 := 19) (pc' := 26) rfl (hb hby d1_19) rfl (feq (by decide)).2 (by decide) (by decide) k_) ?_
  refine own_step (T' := s₁) (g' := (mkF m 27 #[.val (.int (9 : Int32))] [(.int (9 : Int32))])) (fun t_ k_ => XS.iloadN X0.here hx rfl (hb hby d1_26) rfl k_) ?_
  refine own_step (T' := s₁) (g' := (mkF m 28 #[.val (.int (9 : Int32))] [(.int (3 : Int32)), (.int (9 : Int32))])) (fun t_ k_ => XS.iconst X0.here hx rfl (hb hby d1_27) k_) ?_
  refine own_step (T' := s₁) (g' := (mkF m 35 #[.val (.int (9 : Int32))] [])) (fun t_ k_ => XS.icmpYes X0.here hx rfl (pc0 := 28) (pc' := 35) rfl (hb hby d1_28) rfl (feq (by decide)).2 (by decide) (by decide) k_) ?_
  refine own_step (T' := s₁) (g' := (mkF m 36 #[.val (.int (9 : Int32))] [(.int (9 : Int32))])) (fun t_ k_ => XS.iloadN X0.here hx rfl (hb hby d1_35) rfl k_) ?_
  refine own_step (T' := s₁) (g' := (mkF m 37 #[.val (.int (9 : Int32))] [(.int (4 : Int32)), (.int (9 : Int32))])) (fun t_ k_ => XS.iconst X0.here hx rfl (hb hby d1_36) k_) ?_
  refine own_step (T' := s₁) (g' := (mkF m 44 #[.val (.int (9 : Int32))] [])) (fun t_ k_ => XS.icmpYes X0.here hx rfl (pc0 := 37) (pc' := 44) rfl (hb hby d1_37) rfl (feq (by decide)).2 (by decide) (by decide) k_) ?_
  refine own_step (T' := s₁) (g' := (mkF m 45 #[.val (.int (9 : Int32))] [(.int (9 : Int32))])) (fun t_ k_ => XS.iloadN X0.here hx rfl (hb hby d1_44) rfl k_) ?_
  refine own_step (T' := s₁) (g' := (mkF m 46 #[.val (.int (9 : Int32))] [(.int (5 : Int32)), (.int (9 : Int32))])) (fun t_ k_ => XS.iconst X0.here hx rfl (hb hby d1_45) k_) ?_
  refine own_step (T' := s₁) (g' := (mkF m 53 #[.val (.int (9 : Int32))] [])) (fun t_ k_ => XS.icmpYes X0.here hx rfl (pc0 := 46) (pc' := 53) rfl (hb hby d1_46) rfl (feq (by decide)).2 (by decide) (by decide) k_) ?_
  refine own_step (T' := s₁) (g' := (mkF m 54 #[.val (.int (9 : Int32))] [(.int (9 : Int32))])) (fun t_ k_ => XS.iloadN X0.here hx rfl (hb hby d1_53) rfl k_) ?_
  refine own_step (T' := s₁) (g' := (mkF m 56 #[.val (.int (9 : Int32))] [(.int (6 : Int32)), (.int (9 : Int32))])) (fun t_ k_ => XS.bipush X0.here hx rfl (hb hby d1_54) k_) ?_
  refine own_step (T' := s₁) (g' := (mkF m 63 #[.val (.int (9 : Int32))] [])) (fun t_ k_ => XS.icmpYes X0.here hx rfl (pc0 := 56) (pc' := 63) rfl (hb hby d1_56) rfl (feq (by decide)).2 (by decide) (by decide) k_) ?_
  refine own_step (T' := s₁) (g' := (mkF m 64 #[.val (.int (9 : Int32))] [(.int (9 : Int32))])) (fun t_ k_ => XS.iloadN X0.here hx rfl (hb hby d1_63) rfl k_) ?_
  refine own_step (T' := s₁) (g' := (mkF m 66 #[.val (.int (9 : Int32))] [(.int (7 : Int32)), (.int (9 : Int32))])) (fun t_ k_ => XS.bipush X0.here hx rfl (hb hby d1_64) k_) ?_
  refine own_step (T' := s₁) (g' := (mkF m 73 #[.val (.int (9 : Int32))] [])) (fun t_ k_ => XS.icmpYes X0.here hx rfl (pc0 := 66) (pc' := 73) rfl (hb hby d1_66) rfl (feq (by decide)).2 (by decide) (by decide) k_) ?_
  refine own_step (T' := s₁) (g' := (mkF m 74 #[.val (.int (9 : Int32))] [(.int (9 : Int32))])) (fun t_ k_ => XS.iloadN X0.here hx rfl (hb hby d1_73) rfl k_) ?_
  refine own_step (T' := s₁) (g' := (mkF m 76 #[.val (.int (9 : Int32))] [(.int (8 : Int32)), (.int (9 : Int32))])) (fun t_ k_ => XS.bipush X0.here hx rfl (hb hby d1_74) k_) ?_
  refine own_step (T' := s₁) (g' := (mkF m 83 #[.val (.int (9 : Int32))] [])) (fun t_ k_ => XS.icmpYes X0.here hx rfl (pc0 := 76) (pc' := 83) rfl (hb hby d1_76) rfl (feq (by decide)).2 (by decide) (by decide) k_) ?_
  obtain ⟨T101, X101, e101, st101⟩ := getS2 X0 hx hZ hown (host := "") (Or.inl (hw _ (List.mem_of_getElem? (i := 33) rfl))) Via.refl e0 S1 (g := (mkF m 83 #[.val (.int (9 : Int32))] [])) rfl (hb hby d1_83)
  refine own_step (T' := T101) (g' := (mkF m 86 #[.val (.int (9 : Int32))] [(.ref a1)])) st101 ?_
  obtain ⟨fs, hrR, hrun, hended, hWW, hsame⟩ := X101.leave (v := some (.ref a1)) (fun h => by rw [Bd.returns] at h; cases h)
  refine ⟨_, _, own_retR X101 hx Bd.returns rfl rfl rfl (hb hby d1_86) hrR, hrun, hended, hPP _ _ ⟨_, _, rfl, ?_, ⟨_, rfl⟩, hWW, hsame.mono (by decide) (by decide)⟩⟩
  show Q1 a1 h0 n0 _ T101.heap _
  rw [e101]
  exact ⟨rfl, N0, rfl⟩
def own_fix (x : Int32) : Int32 := if x = -1 then 0 else 1
def Q2 (r : Int32) (h0 : Heap) (n0 : Nat) (v : Option Value) (h : Heap) (L : List Loc) : Prop := v = some (.int r) ∧ Fr n0 L ∧ h = h0
theorem d2_0 : decode prog_76_method_6_code 0 = .ok (.aload_n 0, 1) := by decide +kernel
theorem d2_1 : decode prog_76_method_6_code 1 = .ok (.getfield 61, 3) := by decide +kernel
theorem d2_4 : decode prog_76_method_6_code 4 = .ok (.iconst (-1), 1) := by decide +kernel
theorem d2_5 : decode prog_76_method_6_code 5 = .ok (.if_icmp .eq 7, 3) := by decide +kernel
theorem d2_8 : decode prog_76_method_6_code 8 = .ok (.iconst 1, 1) := by decide +kernel
theorem d2_9 : decode prog_76_method_6_code 9 = .ok (.goto 4, 3) := by decide +kernel
theorem d2_12 : decode prog_76_method_6_code 12 = .ok (.iconst 0, 1) := by decide +kernel
theorem d2_13 : decode prog_76_method_6_code 13 = .ok (.ireturn, 1) := by decide +kernel
set_option maxRecDepth 65536 in
set_option maxHeartbeats 40000000 in
theorem rm2 (l : Launch) (Z : State) (a0 : Array Value) (hw : ∀ d ∈ tables_1, d.before a0 Z = true) (ws : List Jvm.Cond) (a1 : Addr) (p1 r : Int32) (h0 : Heap) (n0 : Nat) (Z0 : n0 ≤ h0.size) (F1 : Fld Z h0 a1 "com/example/upright_custodian/uprightcustodian/kmip/TtlvType" "fixedLength" "I" (.int p1)) (hr : own_fix p1 = r) :
    MetFree l (⟨"com/example/upright_custodian/uprightcustodian/kmip/TtlvType", "hasFixedLength", "()Z"⟩ : MethodName) (head1 (Jvm.Cond.code (⟨"com/example/upright_custodian/uprightcustodian/kmip/TtlvType", "hasFixedLength", "()Z"⟩ : MethodName) prog_76_method_6_code 1 (some .boolean) :: ws) ({ frames := 0, cells := 0, slots := 0, locals := 0 } : Room)) (fun a U => a = #[(.ref a1)] ∧ Z.Warmed39 U.vm ∧ U.heap = h0) (fun _ _ _ _ _ => True) (fun _ U o U' => ∃ v L, o = .returned v ∧ Q2 r h0 n0 v U'.heap L ∧ FrameEnd U o U' L 0 0) := by
  refine MetFree.of_bodySF (plainFor_of_name (by first | (simp [plainName, overriddenIn]; done) | decide +kernel)) hisR ?_
  intro p e s m args below meth c s₁ Bd hml0 hP hK
  obtain ⟨rfl, hZ, hh⟩ := hP
  have hx := Bd.exec
  have hby := Bd.bytes
  have hml : c.maxLocals = 1 := hml0
  have hown : s.vm.findClass "com/example/upright_custodian/uprightcustodian/kmip/TtlvType" = some m.cls := findClass_of_methodNamed Bd.named
  have hnm := (name_of_methodNamed Bd.named Bd.method).1
  have X0 : Stand p l e ({ frames := 0, cells := 0, slots := 0, locals := 0 } : Room) s m #[(.ref a1)] below meth c s₁ [] 0 0 := Stand.of_body Bd
  have e0 : s₁.heap = h0 := by rw [← hh, Bd.state]; rfl
  have N0 := Fr.nil n0
  have ef : entryFrame m #[(.ref a1)] 1 = (mkF m 0 #[.val (.ref a1)] []) := by first | (simp [entryFrame, mkF, argsToLocals, Value.category]; done) | rfl
  refine own_start (fun P hPP => ?_)
  refine own_step (T' := s₁) (g' := (mkF m 0 #[.val (.ref a1)] [])) (fun t_ k_ => castTop ef k_) ?_
  refine own_step (T' := s₁) (g' := (mkF m 1 #[.val (.ref a1)] [(.ref a1)])) (fun t_ k_ => XS.aloadN X0.here hx rfl (hb hby d2_0) rfl rfl k_) ?_
  obtain ⟨T101, X101, e101, st101⟩ := getF X0 hx hZ hown (host := "") (Or.inl (hw _ (List.mem_of_getElem? (i := 13) rfl))) Via.refl e0 F1 (g := (mkF m 1 #[.val (.ref a1)] [(.ref a1)])) rfl rfl (hb hby d2_1)
  refine own_step (T' := T101) (g' := (mkF m 4 #[.val (.ref a1)] [(.int p1)])) st101 ?_
  refine own_step (T' := T101) (g' := (mkF m 5 #[.val (.ref a1)] [(.int (-1 : Int32)), (.int p1)])) (fun t_ k_ => XS.iconst X101.here hx rfl (hb hby d2_4) k_) ?_
  by_cases hc5_102 : p1 = (-1 : Int32)
  · refine own_step (T' := T101) (g' := (mkF m 12 #[.val (.ref a1)] [])) (fun t_ k_ => XS.icmpYes X101.here hx rfl (pc0 := 5) (pc' := 12) rfl (hb hby d2_5) rfl (teq hc5_102).1 (by decide) (by decide) k_) ?_
    refine own_step (T' := T101) (g' := (mkF m 13 #[.val (.ref a1)] [(.int (0 : Int32))])) (fun t_ k_ => XS.iconst X101.here hx rfl (hb hby d2_12) k_) ?_
    obtain ⟨fs, hrR, hrun, hended, hWW, hsame⟩ := X101.leave (v := some (.int (0 : Int32))) (fun h => by rw [Bd.returns] at h; cases h)
    refine ⟨_, _, own_retZ X101 hx (t := .boolean) Bd.returns (by simp) (by decide) (hb hby d2_13) hrR, hrun, hended, hPP _ _ ⟨_, _, rfl, ?_, ⟨_, rfl⟩, hWW, hsame.mono (by decide) (by decide)⟩⟩
    show Q2 r h0 n0 _ T101.heap _
    rw [e101]
    exact ⟨by simp [← hr, own_fix, hc5_102], N0, rfl⟩
  · refine own_step (T' := T101) (g' := (mkF m 8 #[.val (.ref a1)] [])) (fun t_ k_ => XS.icmpNo X101.here hx rfl (hb hby d2_5) rfl (feq hc5_102).1 k_) ?_
    refine own_step (T' := T101) (g' := (mkF m 9 #[.val (.ref a1)] [(.int (1 : Int32))])) (fun t_ k_ => XS.iconst X101.here hx rfl (hb hby d2_8) k_) ?_
    refine own_step (T' := T101) (g' := (mkF m 13 #[.val (.ref a1)] [(.int (1 : Int32))])) (fun t_ k_ => XS.goto X101.here hx rfl (pc0 := 9) (pc' := 13) rfl (hb hby d2_9) (by decide) (by decide) k_) ?_
    obtain ⟨fs, hrR, hrun, hended, hWW, hsame⟩ := X101.leave (v := some (.int (1 : Int32))) (fun h => by rw [Bd.returns] at h; cases h)
    refine ⟨_, _, own_retZ X101 hx (t := .boolean) Bd.returns (by simp) (by decide) (hb hby d2_13) hrR, hrun, hended, hPP _ _ ⟨_, _, rfl, ?_, ⟨_, rfl⟩, hWW, hsame.mono (by decide) (by decide)⟩⟩
    show Q2 r h0 n0 _ T101.heap _
    rw [e101]
    exact ⟨by simp [← hr, own_fix, hc5_102], N0, rfl⟩
def Q3 (r : Int32) (h0 : Heap) (n0 : Nat) (v : Option Value) (h : Heap) (L : List Loc) : Prop := v = some (.int r) ∧ Fr n0 L ∧ h = h0
theorem d3_0 : decode prog_76_method_7_code 0 = .ok (.aload_n 0, 1) := by decide +kernel
theorem d3_1 : decode prog_76_method_7_code 1 = .ok (.invokevirtual 64, 3) := by decide +kernel
theorem d3_4 : decode prog_76_method_7_code 4 = .ok (.ifCond .ne 20, 3) := by decide +kernel
theorem d3_24 : decode prog_76_method_7_code 24 = .ok (.aload_n 0, 1) := by decide +kernel
theorem d3_25 : decode prog_76_method_7_code 25 = .ok (.getfield 61, 3) := by decide +kernel
theorem d3_28 : decode prog_76_method_7_code 28 = .ok (.ireturn, 1) := by decide +kernel
set_option maxRecDepth 65536 in
set_option maxHeartbeats 40000000 in
theorem rm3 (l : Launch) (Z : State) (a0 : Array Value) (hw : ∀ d ∈ tables_1, d.before a0 Z = true) (ws : List Jvm.Cond) (a1 : Addr) (p1 : Int32) (h0 : Heap) (n0 : Nat) (Z0 : n0 ≤ h0.size) (F1 : Fld Z h0 a1 "com/example/upright_custodian/uprightcustodian/kmip/TtlvType" "fixedLength" "I" (.int p1)) (E1 : Exa Z h0 a1 "com/example/upright_custodian/uprightcustodian/kmip/TtlvType") (hr : own_fix p1 = 1) :
    MetFree l (⟨"com/example/upright_custodian/uprightcustodian/kmip/TtlvType", "fixedLength", "()I"⟩ : MethodName) (head1 (Jvm.Cond.code (⟨"com/example/upright_custodian/uprightcustodian/kmip/TtlvType", "fixedLength", "()I"⟩ : MethodName) prog_76_method_7_code 1 (some .int) :: ws) ({ frames := 1, cells := 0, slots := 0, locals := 12 } : Room)) (fun a U => a = #[(.ref a1)] ∧ Z.Warmed39 U.vm ∧ U.heap = h0) (fun _ _ _ _ _ => True) (fun _ U o U' => ∃ v L, o = .returned v ∧ Q3 p1 h0 n0 v U'.heap L ∧ FrameEnd U o U' L 0 0) := by
  refine MetFree.of_bodySF (plainFor_of_name (by first | (simp [plainName, overriddenIn]; done) | decide +kernel)) hisR ?_
  intro p e s m args below meth c s₁ Bd hml0 hP hK
  obtain ⟨rfl, hZ, hh⟩ := hP
  have hx := Bd.exec
  have hby := Bd.bytes
  have hml : c.maxLocals = 1 := hml0
  have hown : s.vm.findClass "com/example/upright_custodian/uprightcustodian/kmip/TtlvType" = some m.cls := findClass_of_methodNamed Bd.named
  have hnm := (name_of_methodNamed Bd.named Bd.method).1
  have X0 : Stand p l e ({ frames := 1, cells := 0, slots := 0, locals := 12 } : Room) s m #[(.ref a1)] below meth c s₁ [] 0 0 := Stand.of_body Bd
  have e0 : s₁.heap = h0 := by rw [← hh, Bd.state]; rfl
  have N0 := Fr.nil n0
  have ef : entryFrame m #[(.ref a1)] 1 = (mkF m 0 #[.val (.ref a1)] []) := by first | (simp [entryFrame, mkF, argsToLocals, Value.category]; done) | rfl
  refine own_start (fun P hPP => ?_)
  refine own_step (T' := s₁) (g' := (mkF m 0 #[.val (.ref a1)] [])) (fun t_ k_ => castTop ef k_) ?_
  refine own_step (T' := s₁) (g' := (mkF m 1 #[.val (.ref a1)] [(.ref a1)])) (fun t_ k_ => XS.aloadN X0.here hx rfl (hb hby d3_0) rfl rfl k_) ?_
  obtain ⟨cq101, kq101, q101a, q101b, q101c⟩ := isOf hZ e0 E1
  obtain ⟨_, _, ⟨T101, L101, k101, n101⟩, -, X101, ⟨Lc101, hQ101, l101, y101, z101⟩, st101⟩ := X0.virtualBack hx (y := (⟨"com/example/upright_custodian/uprightcustodian/kmip/TtlvType", "hasFixedLength", "()Z"⟩ : MethodName)) (z := (⟨"com/example/upright_custodian/uprightcustodian/kmip/TtlvType", "hasFixedLength", "()Z"⟩ : MethodName)) hown (mvT hZ (hw _ (List.mem_of_getElem? (i := 24) rfl))) (mvT hZ (hw _ (List.mem_of_getElem? (i := 9) rfl))) (notFace_of_selects (args := #[]) (mvT hZ (hw _ (List.mem_of_getElem? (i := 11) rfl)))) (mvT hZ (hw _ (List.mem_of_getElem? (i := 11) rfl))) (mvT hZ (hw _ (List.mem_of_getElem? (i := 10) rfl))) (by decide) (backOf (W := 0) (rm2 l Z a0 hw [] a1 p1 1 h0 n0 Z0 F1 hr) hZ (hw _ (List.mem_of_getElem? (i := 12) rfl)) (hw _ (List.mem_of_getElem? (i := 6) rfl)) (by decide) (by decide)) q101a q101c (g := (mkF m 1 #[.val (.ref a1)] [(.ref a1)])) rfl (by rw [hml]; rfl) (Steps.refl _) (argsL := []) (rest := []) (lenOf (by decide +kernel : parseMethodDescriptor "()Z" = some ⟨[], some .boolean⟩) rfl) rfl (by show 2 * 0 + _ ≤ _; exact Nat.le_of_eq rfl) (hb hby d3_1) (fun _ _ => ⟨rfl, e0, (by decide : 0 + 0 ≤ _), (by decide : 0 + 0 ≤ _)⟩)
  dsimp only [Pt.U, Pt.locs, Pt.cells, Pt.slots] at X101 l101 y101 z101 st101 hQ101
  subst l101 y101 z101
  obtain ⟨rfl, Nq101, e101⟩ := hQ101
  have N101 := Fr.app N0 Nq101
  refine own_to (T' := T101) (g' := (mkF m 4 #[.val (.ref a1)] [(.int (1 : Int32))])) st101 ?_
  refine own_step (T' := T101) (g' := (mkF m 24 #[.val (.ref a1)] [])) (fun t_ k_ => XS.ifYes X101.here hx rfl (pc0 := 4) (pc' := 24) rfl (hb hby d3_4) rfl ((if0 _ _).trans (feq (by decide)).2) (by decide) (by decide) k_) ?_
  refine own_step (T' := T101) (g' := (mkF m 25 #[.val (.ref a1)] [(.ref a1)])) (fun t_ k_ => XS.aloadN X101.here hx rfl (hb hby d3_24) rfl rfl k_) ?_
  obtain ⟨T102, X102, e102, st102⟩ := getF X101 hx hZ hown (host := "") (Or.inl (hw _ (List.mem_of_getElem? (i := 13) rfl))) Via.refl e101 F1 (g := (mkF m 25 #[.val (.ref a1)] [(.ref a1)])) rfl rfl (hb hby d3_25)
  refine own_step (T' := T102) (g' := (mkF m 28 #[.val (.ref a1)] [(.int p1)])) st102 ?_
  obtain ⟨fs, hrR, hrun, hended, hWW, hsame⟩ := X102.leave (v := some (.int p1)) (fun h => by rw [Bd.returns] at h; cases h)
  refine ⟨_, _, own_retI X102 hx Bd.returns (hb hby d3_28) hrR, hrun, hended, hPP _ _ ⟨_, _, rfl, ?_, ⟨_, rfl⟩, hWW, hsame.mono (by decide) (by decide)⟩⟩
  show Q3 p1 h0 n0 _ T102.heap _
  rw [e102]
  exact ⟨rfl, N101, rfl⟩
def Q0 (n0 : Nat) (v : Option Value) (h : Heap) (L : List Loc) : Prop := v = some (.int 1) ∧ Fr n0 L
set_option maxRecDepth 65536 in
set_option maxHeartbeats 40000000 in
theorem rm0_0 (l : Launch) (Z : State) (a0 : Array Value) (hw : ∀ d ∈ tables_1, d.before a0 Z = true) (ws : List Jvm.Cond) (p1 : Int32) (A_STRUCTURE : Addr) (h0 : Heap) (n0 : Nat) (Z0 : n0 ≤ h0.size) (hk : (p1 &&& 2147483647) % 10 = 0) (E_STRUCTURE : Exa Z h0 A_STRUCTURE "com/example/upright_custodian/uprightcustodian/kmip/TtlvType") (S_STRUCTURE : Sta Z h0 "com/example/upright_custodian/uprightcustodian/kmip/TtlvType" "STRUCTURE" "Lcom/example/upright_custodian/uprightcustodian/kmip/TtlvType;" (.ref A_STRUCTURE)) (F_STRUCTURE_fixedLength : Fld Z h0 A_STRUCTURE "com/example/upright_custodian/uprightcustodian/kmip/TtlvType" "fixedLength" "I" (.int (-1 : Int32))) :
    MetFree l x (head1 (Jvm.Cond.code x code maxLocals ret :: ws) room_1) (fun a U => a = #[(.int p1)] ∧ Z.Warmed39 U.vm ∧ U.heap = h0) (fun _ _ _ _ _ => True) (fun _ U o U' => ∃ v L, o = .returned v ∧ Q0 n0 v U'.heap L ∧ FrameEnd U o U' L 0 0) := by
  refine MetFree.of_bodySF (plainFor_of_name (by first | (simp [plainName, overriddenIn]; done) | decide +kernel)) hisR ?_
  intro p e s m args below meth c s₁ Bd hml0 hP hK
  obtain ⟨rfl, hZ, hh⟩ := hP
  have hx := Bd.exec
  have hby := Bd.bytes
  have hml : c.maxLocals = 6 := hml0
  have hown : s.vm.findClass "com/example/upright_custodian/uprightcustodian/kmip/TtlvTypeHasFixedLengthPinLaw" = some m.cls := findClass_of_methodNamed Bd.named
  have hnm := (name_of_methodNamed Bd.named Bd.method).1
  have X0 : Stand p l e room_1 s m #[(.int p1)] below meth c s₁ [] 0 0 := Stand.of_body Bd
  have e0 : s₁.heap = h0 := by rw [← hh, Bd.state]; rfl
  have N0 := Fr.nil n0
  have ef : entryFrame m #[(.int p1)] maxLocals = (mkF m 0 #[.val (.int p1), .unset, .unset, .unset, .unset, .unset] []) := by first | (simp [entryFrame, mkF, argsToLocals, Value.category, maxLocals]; done) | rfl
  refine own_start (fun P hPP => ?_)
  refine own_step (T' := s₁) (g' := (mkF m 0 #[.val (.int p1), .unset, .unset, .unset, .unset, .unset] [])) (fun t_ k_ => castTop ef k_) ?_
  refine own_step (T' := s₁) (g' := (mkF m 1 #[.val (.int p1), .unset, .unset, .unset, .unset, .unset] [(.int p1)])) (fun t_ k_ => XS.iloadN X0.here hx rfl (hb hby at_0) rfl k_) ?_
  refine own_step (T' := s₁) (g' := (mkF m 3 #[.val (.int p1), .unset, .unset, .unset, .unset, .unset] [(.int (2147483647 : Int32)), (.int p1)])) (fun t_ k_ => X0.ldcInt hx hown (mvT hZ (hw _ (List.mem_of_getElem? (i := 0) rfl))) (g := (mkF m 1 #[.val (.int p1), .unset, .unset, .unset, .unset, .unset] [(.int p1)])) rfl (hb hby at_1) _ k_) ?_
  refine own_step (T' := s₁) (g' := (mkF m 4 #[.val (.int p1), .unset, .unset, .unset, .unset, .unset] [(.int (p1 &&& (2147483647 : Int32)))])) (fun t_ k_ => XS.iand X0.here hx rfl (hb hby at_3) rfl k_) ?_
  refine own_step (T' := s₁) (g' := (mkF m 6 #[.val (.int p1), .unset, .unset, .unset, .unset, .unset] [(.int (10 : Int32)), (.int (p1 &&& (2147483647 : Int32)))])) (fun t_ k_ => XS.bipush X0.here hx rfl (hb hby at_4) k_) ?_
  refine own_step (T' := s₁) (g' := (mkF m 7 #[.val (.int p1), .unset, .unset, .unset, .unset, .unset] [(.int ((p1 &&& (2147483647 : Int32)) % (10 : Int32)))])) (fun t_ k_ => iremM X0 hx rfl (hb hby at_6) rfl (by decide) k_) ?_
  rw [hk]
  refine own_step (T' := s₁) (g' := (mkF m 8 #[.val (.int p1), .val (.int (0 : Int32)), .unset, .unset, .unset, .unset] [])) (fun t_ k_ => XS.istoreN X0.here hx rfl (hb hby at_7) rfl (l' := #[.val (.int p1), .val (.int (0 : Int32)), .unset, .unset, .unset, .unset]) rfl k_) ?_
  refine own_step (T' := s₁) (g' := (mkF m 9 #[.val (.int p1), .val (.int (0 : Int32)), .unset, .unset, .unset, .unset] [(.int (0 : Int32))])) (fun t_ k_ => XS.iloadN X0.here hx rfl (hb hby at_8) rfl k_) ?_
  obtain ⟨_, _, ⟨T101, L101, k101, n101⟩, -, X101, ⟨Lc101, hQ101, l101, y101, z101⟩, st101⟩ := Jvm.LawKit.callS X0 hx (y := (⟨"com/example/upright_custodian/uprightcustodian/kmip/TtlvTypeHasFixedLengthPinLaw", "pick", "(I)Lcom/example/upright_custodian/uprightcustodian/kmip/TtlvType;"⟩ : MethodName)) hown (mvT hZ (hw _ (List.mem_of_getElem? (i := 1) rfl))) (mvT hZ (hw _ (List.mem_of_getElem? (i := 2) rfl))) (mvT hZ (hw _ (List.mem_of_getElem? (i := 3) rfl))) (mvT hZ (hw _ (List.mem_of_getElem? (i := 4) rfl))) (by decide) (backOf (W := 0) (rm1_0 l Z a0 hw [] A_STRUCTURE h0 n0 Z0 S_STRUCTURE) hZ (hw _ (List.mem_of_getElem? (i := 4) rfl)) (hw _ (List.mem_of_getElem? (i := 3) rfl)) (by decide) (by decide)) (g := (mkF m 9 #[.val (.int p1), .val (.int (0 : Int32)), .unset, .unset, .unset, .unset] [(.int (0 : Int32))])) rfl (by rw [hml]; rfl) (argsL := [(.int (0 : Int32))]) (rest := []) (lenOf (by decide +kernel : parseMethodDescriptor "(I)Lcom/example/upright_custodian/uprightcustodian/kmip/TtlvType;" = some ⟨[.int], some (.object "com/example/upright_custodian/uprightcustodian/kmip/TtlvType")⟩) rfl) rfl (by show 2 * 0 + _ ≤ _; exact Nat.le_of_eq rfl) (hb hby at_9) (fun _ _ => ⟨rfl, e0, (by decide : 0 + 0 ≤ _), (by decide : 0 + 0 ≤ _)⟩)
  dsimp only [Pt.U, Pt.locs, Pt.cells, Pt.slots] at X101 l101 y101 z101 st101 hQ101
  subst l101 y101 z101
  obtain ⟨rfl, Nq101, e101⟩ := hQ101
  have N101 := Fr.app N0 Nq101
  refine own_step (T' := T101) (g' := (mkF m 12 #[.val (.int p1), .val (.int (0 : Int32)), .unset, .unset, .unset, .unset] [(.ref A_STRUCTURE)])) st101 ?_
  refine own_step (T' := T101) (g' := (mkF m 13 #[.val (.int p1), .val (.int (0 : Int32)), .val (.ref A_STRUCTURE), .unset, .unset, .unset] [])) (fun t_ k_ => XS.astoreN X101.here hx rfl (hb hby at_12) rfl rfl (l' := #[.val (.int p1), .val (.int (0 : Int32)), .val (.ref A_STRUCTURE), .unset, .unset, .unset]) rfl k_) ?_
  refine own_step (T' := T101) (g' := (mkF m 14 #[.val (.int p1), .val (.int (0 : Int32)), .val (.ref A_STRUCTURE), .unset, .unset, .unset] [(.int (0 : Int32))])) (fun t_ k_ => XS.iloadN X101.here hx rfl (hb hby at_13) rfl k_) ?_
  refine own_step (T' := T101) (g' := (mkF m 15 #[.val (.int p1), .val (.int (0 : Int32)), .val (.ref A_STRUCTURE), .unset, .unset, .unset] [(.int (1 : Int32)), (.int (0 : Int32))])) (fun t_ k_ => XS.iconst X101.here hx rfl (hb hby at_14) k_) ?_
  refine own_step (T' := T101) (g' := (mkF m 18 #[.val (.int p1), .val (.int (0 : Int32)), .val (.ref A_STRUCTURE), .unset, .unset, .unset] [])) (fun t_ k_ => XS.icmpNo X101.here hx rfl (hb hby at_15) rfl (feq (by decide)).1 k_) ?_
  refine own_step (T' := T101) (g' := (mkF m 19 #[.val (.int p1), .val (.int (0 : Int32)), .val (.ref A_STRUCTURE), .unset, .unset, .unset] [(.int (0 : Int32))])) (fun t_ k_ => XS.iloadN X101.here hx rfl (hb hby at_18) rfl k_) ?_
  refine own_step (T' := T101) (g' := (mkF m 20 #[.val (.int p1), .val (.int (0 : Int32)), .val (.ref A_STRUCTURE), .unset, .unset, .unset] [(.int (2 : Int32)), (.int (0 : Int32))])) (fun t_ k_ => XS.iconst X101.here hx rfl (hb hby at_19) k_) ?_
  refine own_step (T' := T101) (g' := (mkF m 23 #[.val (.int p1), .val (.int (0 : Int32)), .val (.ref A_STRUCTURE), .unset, .unset, .unset] [])) (fun t_ k_ => XS.icmpNo X101.here hx rfl (hb hby at_20) rfl (feq (by decide)).1 k_) ?_
  refine own_step (T' := T101) (g' := (mkF m 24 #[.val (.int p1), .val (.int (0 : Int32)), .val (.ref A_STRUCTURE), .unset, .unset, .unset] [(.int (0 : Int32))])) (fun t_ k_ => XS.iloadN X101.here hx rfl (hb hby at_23) rfl k_) ?_
  refine own_step (T' := T101) (g' := (mkF m 25 #[.val (.int p1), .val (.int (0 : Int32)), .val (.ref A_STRUCTURE), .unset, .unset, .unset] [(.int (4 : Int32)), (.int (0 : Int32))])) (fun t_ k_ => XS.iconst X101.here hx rfl (hb hby at_24) k_) ?_
  refine own_step (T' := T101) (g' := (mkF m 28 #[.val (.int p1), .val (.int (0 : Int32)), .val (.ref A_STRUCTURE), .unset, .unset, .unset] [])) (fun t_ k_ => XS.icmpNo X101.here hx rfl (hb hby at_25) rfl (feq (by decide)).1 k_) ?_
  refine own_step (T' := T101) (g' := (mkF m 29 #[.val (.int p1), .val (.int (0 : Int32)), .val (.ref A_STRUCTURE), .unset, .unset, .unset] [(.int (0 : Int32))])) (fun t_ k_ => XS.iloadN X101.here hx rfl (hb hby at_28) rfl k_) ?_
  refine own_step (T' := T101) (g' := (mkF m 30 #[.val (.int p1), .val (.int (0 : Int32)), .val (.ref A_STRUCTURE), .unset, .unset, .unset] [(.int (5 : Int32)), (.int (0 : Int32))])) (fun t_ k_ => XS.iconst X101.here hx rfl (hb hby at_29) k_) ?_
  refine own_step (T' := T101) (g' := (mkF m 33 #[.val (.int p1), .val (.int (0 : Int32)), .val (.ref A_STRUCTURE), .unset, .unset, .unset] [])) (fun t_ k_ => XS.icmpNo X101.here hx rfl (hb hby at_30) rfl (feq (by decide)).1 k_) ?_
  refine own_step (T' := T101) (g' := (mkF m 34 #[.val (.int p1), .val (.int (0 : Int32)), .val (.ref A_STRUCTURE), .unset, .unset, .unset] [(.int (0 : Int32))])) (fun t_ k_ => XS.iloadN X101.here hx rfl (hb hby at_33) rfl k_) ?_
  refine own_step (T' := T101) (g' := (mkF m 36 #[.val (.int p1), .val (.int (0 : Int32)), .val (.ref A_STRUCTURE), .unset, .unset, .unset] [(.int (8 : Int32)), (.int (0 : Int32))])) (fun t_ k_ => XS.bipush X101.here hx rfl (hb hby at_34) k_) ?_
  refine own_step (T' := T101) (g' := (mkF m 39 #[.val (.int p1), .val (.int (0 : Int32)), .val (.ref A_STRUCTURE), .unset, .unset, .unset] [])) (fun t_ k_ => XS.icmpNo X101.here hx rfl (hb hby at_36) rfl (feq (by decide)).1 k_) ?_
  refine own_step (T' := T101) (g' := (mkF m 40 #[.val (.int p1), .val (.int (0 : Int32)), .val (.ref A_STRUCTURE), .unset, .unset, .unset] [(.int (0 : Int32))])) (fun t_ k_ => XS.iloadN X101.here hx rfl (hb hby at_39) rfl k_) ?_
  refine own_step (T' := T101) (g' := (mkF m 42 #[.val (.int p1), .val (.int (0 : Int32)), .val (.ref A_STRUCTURE), .unset, .unset, .unset] [(.int (9 : Int32)), (.int (0 : Int32))])) (fun t_ k_ => XS.bipush X101.here hx rfl (hb hby at_40) k_) ?_
  refine own_step (T' := T101) (g' := (mkF m 49 #[.val (.int p1), .val (.int (0 : Int32)), .val (.ref A_STRUCTURE), .unset, .unset, .unset] [])) (fun t_ k_ => XS.icmpYes X101.here hx rfl (pc0 := 42) (pc' := 49) rfl (hb hby at_42) rfl (feq (by decide)).2 (by decide) (by decide) k_) ?_
  refine own_step (T' := T101) (g' := (mkF m 50 #[.val (.int p1), .val (.int (0 : Int32)), .val (.ref A_STRUCTURE), .unset, .unset, .unset] [(.int (0 : Int32))])) (fun t_ k_ => XS.iconst X101.here hx rfl (hb hby at_49) k_) ?_
  refine own_step (T' := T101) (g' := (mkF m 51 #[.val (.int p1), .val (.int (0 : Int32)), .val (.ref A_STRUCTURE), .val (.int (0 : Int32)), .unset, .unset] [])) (fun t_ k_ => XS.istoreN X101.here hx rfl (hb hby at_50) rfl (l' := #[.val (.int p1), .val (.int (0 : Int32)), .val (.ref A_STRUCTURE), .val (.int (0 : Int32)), .unset, .unset]) rfl k_) ?_
  refine own_step (T' := T101) (g' := (mkF m 52 #[.val (.int p1), .val (.int (0 : Int32)), .val (.ref A_STRUCTURE), .val (.int (0 : Int32)), .unset, .unset] [(.int (0 : Int32))])) (fun t_ k_ => XS.iloadN X101.here hx rfl (hb hby at_51) rfl k_) ?_
  refine own_step (T' := T101) (g' := (mkF m 53 #[.val (.int p1), .val (.int (0 : Int32)), .val (.ref A_STRUCTURE), .val (.int (0 : Int32)), .unset, .unset] [(.int (1 : Int32)), (.int (0 : Int32))])) (fun t_ k_ => XS.iconst X101.here hx rfl (hb hby at_52) k_) ?_
  refine own_step (T' := T101) (g' := (mkF m 56 #[.val (.int p1), .val (.int (0 : Int32)), .val (.ref A_STRUCTURE), .val (.int (0 : Int32)), .unset, .unset] [])) (fun t_ k_ => XS.icmpNo X101.here hx rfl (hb hby at_53) rfl (feq (by decide)).1 k_) ?_
  refine own_step (T' := T101) (g' := (mkF m 57 #[.val (.int p1), .val (.int (0 : Int32)), .val (.ref A_STRUCTURE), .val (.int (0 : Int32)), .unset, .unset] [(.int (0 : Int32))])) (fun t_ k_ => XS.iloadN X101.here hx rfl (hb hby at_56) rfl k_) ?_
  refine own_step (T' := T101) (g' := (mkF m 58 #[.val (.int p1), .val (.int (0 : Int32)), .val (.ref A_STRUCTURE), .val (.int (0 : Int32)), .unset, .unset] [(.int (4 : Int32)), (.int (0 : Int32))])) (fun t_ k_ => XS.iconst X101.here hx rfl (hb hby at_57) k_) ?_
  refine own_step (T' := T101) (g' := (mkF m 61 #[.val (.int p1), .val (.int (0 : Int32)), .val (.ref A_STRUCTURE), .val (.int (0 : Int32)), .unset, .unset] [])) (fun t_ k_ => XS.icmpNo X101.here hx rfl (hb hby at_58) rfl (feq (by decide)).1 k_) ?_
  refine own_step (T' := T101) (g' := (mkF m 62 #[.val (.int p1), .val (.int (0 : Int32)), .val (.ref A_STRUCTURE), .val (.int (0 : Int32)), .unset, .unset] [(.int (0 : Int32))])) (fun t_ k_ => XS.iloadN X101.here hx rfl (hb hby at_61) rfl k_) ?_
  refine own_step (T' := T101) (g' := (mkF m 64 #[.val (.int p1), .val (.int (0 : Int32)), .val (.ref A_STRUCTURE), .val (.int (0 : Int32)), .unset, .unset] [(.int (9 : Int32)), (.int (0 : Int32))])) (fun t_ k_ => XS.bipush X101.here hx rfl (hb hby at_62) k_) ?_
  refine own_step (T' := T101) (g' := (mkF m 71 #[.val (.int p1), .val (.int (0 : Int32)), .val (.ref A_STRUCTURE), .val (.int (0 : Int32)), .unset, .unset] [])) (fun t_ k_ => XS.icmpYes X101.here hx rfl (pc0 := 64) (pc' := 71) rfl (hb hby at_64) rfl (feq (by decide)).2 (by decide) (by decide) k_) ?_
  refine own_step (T' := T101) (g' := (mkF m 73 #[.val (.int p1), .val (.int (0 : Int32)), .val (.ref A_STRUCTURE), .val (.int (0 : Int32)), .unset, .unset] [(.int (8 : Int32))])) (fun t_ k_ => XS.bipush X101.here hx rfl (hb hby at_71) k_) ?_
  refine own_step (T' := T101) (g' := (mkF m 75 #[.val (.int p1), .val (.int (0 : Int32)), .val (.ref A_STRUCTURE), .val (.int (0 : Int32)), .val (.int (8 : Int32)), .unset] [])) (fun t_ k_ => XS.istore X101.here hx rfl (hb hby at_73) rfl (l' := #[.val (.int p1), .val (.int (0 : Int32)), .val (.ref A_STRUCTURE), .val (.int (0 : Int32)), .val (.int (8 : Int32)), .unset]) rfl k_) ?_
  refine own_step (T' := T101) (g' := (mkF m 76 #[.val (.int p1), .val (.int (0 : Int32)), .val (.ref A_STRUCTURE), .val (.int (0 : Int32)), .val (.int (8 : Int32)), .unset] [(.ref A_STRUCTURE)])) (fun t_ k_ => XS.aloadN X101.here hx rfl (hb hby at_75) rfl rfl k_) ?_
  obtain ⟨cq102, kq102, q102a, q102b, q102c⟩ := isOf hZ e101 E_STRUCTURE
  obtain ⟨_, _, ⟨T102, L102, k102, n102⟩, -, X102, ⟨Lc102, hQ102, l102, y102, z102⟩, st102⟩ := X101.virtualBack hx (y := (⟨"com/example/upright_custodian/uprightcustodian/kmip/TtlvType", "hasFixedLength", "()Z"⟩ : MethodName)) (z := (⟨"com/example/upright_custodian/uprightcustodian/kmip/TtlvType", "hasFixedLength", "()Z"⟩ : MethodName)) hown (mvT hZ (hw _ (List.mem_of_getElem? (i := 8) rfl))) (mvT hZ (hw _ (List.mem_of_getElem? (i := 9) rfl))) (notFace_of_selects (args := #[]) (mvT hZ (hw _ (List.mem_of_getElem? (i := 11) rfl)))) (mvT hZ (hw _ (List.mem_of_getElem? (i := 11) rfl))) (mvT hZ (hw _ (List.mem_of_getElem? (i := 10) rfl))) (by decide) (backOf (W := 0) (rm2 l Z a0 hw [] A_STRUCTURE (-1 : Int32) (0 : Int32) h0 n0 Z0 F_STRUCTURE_fixedLength (by decide)) hZ (hw _ (List.mem_of_getElem? (i := 12) rfl)) (hw _ (List.mem_of_getElem? (i := 6) rfl)) (by decide) (by decide)) q102a q102c (g := (mkF m 76 #[.val (.int p1), .val (.int (0 : Int32)), .val (.ref A_STRUCTURE), .val (.int (0 : Int32)), .val (.int (8 : Int32)), .unset] [(.ref A_STRUCTURE)])) rfl (by rw [hml]; rfl) (Steps.refl _) (argsL := []) (rest := []) (lenOf (by decide +kernel : parseMethodDescriptor "()Z" = some ⟨[], some .boolean⟩) rfl) rfl (by show 2 * 0 + _ ≤ _; exact Nat.le_of_eq rfl) (hb hby at_76) (fun _ _ => ⟨rfl, e101, (by decide : 0 + 0 ≤ _), (by decide : 0 + 0 ≤ _)⟩)
  dsimp only [Pt.U, Pt.locs, Pt.cells, Pt.slots] at X102 l102 y102 z102 st102 hQ102
  subst l102 y102 z102
  obtain ⟨rfl, Nq102, e102⟩ := hQ102
  have N102 := Fr.app N101 Nq102
  refine own_to (T' := T102) (g' := (mkF m 79 #[.val (.int p1), .val (.int (0 : Int32)), .val (.ref A_STRUCTURE), .val (.int (0 : Int32)), .val (.int (8 : Int32)), .unset] [(.int (0 : Int32))])) st102 ?_
  refine own_step (T' := T102) (g' := (mkF m 81 #[.val (.int p1), .val (.int (0 : Int32)), .val (.ref A_STRUCTURE), .val (.int (0 : Int32)), .val (.int (8 : Int32)), .val (.int (0 : Int32))] [])) (fun t_ k_ => XS.istore X102.here hx rfl (hb hby at_79) rfl (l' := #[.val (.int p1), .val (.int (0 : Int32)), .val (.ref A_STRUCTURE), .val (.int (0 : Int32)), .val (.int (8 : Int32)), .val (.int (0 : Int32))]) rfl k_) ?_
  refine own_step (T' := T102) (g' := (mkF m 83 #[.val (.int p1), .val (.int (0 : Int32)), .val (.ref A_STRUCTURE), .val (.int (0 : Int32)), .val (.int (8 : Int32)), .val (.int (0 : Int32))] [(.int (0 : Int32))])) (fun t_ k_ => XS.iload X102.here hx rfl (hb hby at_81) rfl k_) ?_
  refine own_step (T' := T102) (g' := (mkF m 84 #[.val (.int p1), .val (.int (0 : Int32)), .val (.ref A_STRUCTURE), .val (.int (0 : Int32)), .val (.int (8 : Int32)), .val (.int (0 : Int32))] [(.int (0 : Int32)), (.int (0 : Int32))])) (fun t_ k_ => XS.iloadN X102.here hx rfl (hb hby at_83) rfl k_) ?_
  refine own_step (T' := T102) (g' := (mkF m 89 #[.val (.int p1), .val (.int (0 : Int32)), .val (.ref A_STRUCTURE), .val (.int (0 : Int32)), .val (.int (8 : Int32)), .val (.int (0 : Int32))] [])) (fun t_ k_ => XS.icmpYes X102.here hx rfl (pc0 := 84) (pc' := 89) rfl (hb hby at_84) rfl (teq (by decide)).1 (by decide) (by decide) k_) ?_
  refine own_step (T' := T102) (g' := (mkF m 91 #[.val (.int p1), .val (.int (0 : Int32)), .val (.ref A_STRUCTURE), .val (.int (0 : Int32)), .val (.int (8 : Int32)), .val (.int (0 : Int32))] [(.int (0 : Int32))])) (fun t_ k_ => XS.iload X102.here hx rfl (hb hby at_89) rfl k_) ?_
  refine own_step (T' := T102) (g' := (mkF m 94 #[.val (.int p1), .val (.int (0 : Int32)), .val (.ref A_STRUCTURE), .val (.int (0 : Int32)), .val (.int (8 : Int32)), .val (.int (0 : Int32))] [])) (fun t_ k_ => XS.ifNo X102.here hx rfl (hb hby at_91) rfl ((if0 _ _).trans (teq (by decide)).2) k_) ?_
  refine own_step (T' := T102) (g' := (mkF m 95 #[.val (.int p1), .val (.int (0 : Int32)), .val (.ref A_STRUCTURE), .val (.int (0 : Int32)), .val (.int (8 : Int32)), .val (.int (0 : Int32))] [(.int (1 : Int32))])) (fun t_ k_ => XS.iconst X102.here hx rfl (hb hby at_94) k_) ?_
  obtain ⟨fs, hrR, hrun, hended, hWW, hsame⟩ := X102.leave (v := some (.int (1 : Int32))) (fun h => by rw [Bd.returns] at h; cases h)
  refine ⟨_, _, own_retZ X102 hx (t := .boolean) Bd.returns (by simp) (by decide) (hb hby at_95) hrR, hrun, hended, hPP _ _ ⟨_, _, rfl, ?_, ⟨_, rfl⟩, hWW, hsame.mono (by decide) (by decide)⟩⟩
  show Q0 n0 _ T102.heap _
  rw [e102]
  exact ⟨rfl, N102⟩
set_option maxRecDepth 65536 in
set_option maxHeartbeats 40000000 in
theorem rm0_1 (l : Launch) (Z : State) (a0 : Array Value) (hw : ∀ d ∈ tables_1, d.before a0 Z = true) (ws : List Jvm.Cond) (p1 : Int32) (A_INTEGER : Addr) (h0 : Heap) (n0 : Nat) (Z0 : n0 ≤ h0.size) (hk : (p1 &&& 2147483647) % 10 = 1) (E_INTEGER : Exa Z h0 A_INTEGER "com/example/upright_custodian/uprightcustodian/kmip/TtlvType") (S_INTEGER : Sta Z h0 "com/example/upright_custodian/uprightcustodian/kmip/TtlvType" "INTEGER" "Lcom/example/upright_custodian/uprightcustodian/kmip/TtlvType;" (.ref A_INTEGER)) (F_INTEGER_fixedLength : Fld Z h0 A_INTEGER "com/example/upright_custodian/uprightcustodian/kmip/TtlvType" "fixedLength" "I" (.int (4 : Int32))) :
    MetFree l x (head1 (Jvm.Cond.code x code maxLocals ret :: ws) room_1) (fun a U => a = #[(.int p1)] ∧ Z.Warmed39 U.vm ∧ U.heap = h0) (fun _ _ _ _ _ => True) (fun _ U o U' => ∃ v L, o = .returned v ∧ Q0 n0 v U'.heap L ∧ FrameEnd U o U' L 0 0) := by
  refine MetFree.of_bodySF (plainFor_of_name (by first | (simp [plainName, overriddenIn]; done) | decide +kernel)) hisR ?_
  intro p e s m args below meth c s₁ Bd hml0 hP hK
  obtain ⟨rfl, hZ, hh⟩ := hP
  have hx := Bd.exec
  have hby := Bd.bytes
  have hml : c.maxLocals = 6 := hml0
  have hown : s.vm.findClass "com/example/upright_custodian/uprightcustodian/kmip/TtlvTypeHasFixedLengthPinLaw" = some m.cls := findClass_of_methodNamed Bd.named
  have hnm := (name_of_methodNamed Bd.named Bd.method).1
  have X0 : Stand p l e room_1 s m #[(.int p1)] below meth c s₁ [] 0 0 := Stand.of_body Bd
  have e0 : s₁.heap = h0 := by rw [← hh, Bd.state]; rfl
  have N0 := Fr.nil n0
  have ef : entryFrame m #[(.int p1)] maxLocals = (mkF m 0 #[.val (.int p1), .unset, .unset, .unset, .unset, .unset] []) := by first | (simp [entryFrame, mkF, argsToLocals, Value.category, maxLocals]; done) | rfl
  refine own_start (fun P hPP => ?_)
  refine own_step (T' := s₁) (g' := (mkF m 0 #[.val (.int p1), .unset, .unset, .unset, .unset, .unset] [])) (fun t_ k_ => castTop ef k_) ?_
  refine own_step (T' := s₁) (g' := (mkF m 1 #[.val (.int p1), .unset, .unset, .unset, .unset, .unset] [(.int p1)])) (fun t_ k_ => XS.iloadN X0.here hx rfl (hb hby at_0) rfl k_) ?_
  refine own_step (T' := s₁) (g' := (mkF m 3 #[.val (.int p1), .unset, .unset, .unset, .unset, .unset] [(.int (2147483647 : Int32)), (.int p1)])) (fun t_ k_ => X0.ldcInt hx hown (mvT hZ (hw _ (List.mem_of_getElem? (i := 0) rfl))) (g := (mkF m 1 #[.val (.int p1), .unset, .unset, .unset, .unset, .unset] [(.int p1)])) rfl (hb hby at_1) _ k_) ?_
  refine own_step (T' := s₁) (g' := (mkF m 4 #[.val (.int p1), .unset, .unset, .unset, .unset, .unset] [(.int (p1 &&& (2147483647 : Int32)))])) (fun t_ k_ => XS.iand X0.here hx rfl (hb hby at_3) rfl k_) ?_
  refine own_step (T' := s₁) (g' := (mkF m 6 #[.val (.int p1), .unset, .unset, .unset, .unset, .unset] [(.int (10 : Int32)), (.int (p1 &&& (2147483647 : Int32)))])) (fun t_ k_ => XS.bipush X0.here hx rfl (hb hby at_4) k_) ?_
  refine own_step (T' := s₁) (g' := (mkF m 7 #[.val (.int p1), .unset, .unset, .unset, .unset, .unset] [(.int ((p1 &&& (2147483647 : Int32)) % (10 : Int32)))])) (fun t_ k_ => iremM X0 hx rfl (hb hby at_6) rfl (by decide) k_) ?_
  rw [hk]
  refine own_step (T' := s₁) (g' := (mkF m 8 #[.val (.int p1), .val (.int (1 : Int32)), .unset, .unset, .unset, .unset] [])) (fun t_ k_ => XS.istoreN X0.here hx rfl (hb hby at_7) rfl (l' := #[.val (.int p1), .val (.int (1 : Int32)), .unset, .unset, .unset, .unset]) rfl k_) ?_
  refine own_step (T' := s₁) (g' := (mkF m 9 #[.val (.int p1), .val (.int (1 : Int32)), .unset, .unset, .unset, .unset] [(.int (1 : Int32))])) (fun t_ k_ => XS.iloadN X0.here hx rfl (hb hby at_8) rfl k_) ?_
  obtain ⟨_, _, ⟨T101, L101, k101, n101⟩, -, X101, ⟨Lc101, hQ101, l101, y101, z101⟩, st101⟩ := Jvm.LawKit.callS X0 hx (y := (⟨"com/example/upright_custodian/uprightcustodian/kmip/TtlvTypeHasFixedLengthPinLaw", "pick", "(I)Lcom/example/upright_custodian/uprightcustodian/kmip/TtlvType;"⟩ : MethodName)) hown (mvT hZ (hw _ (List.mem_of_getElem? (i := 1) rfl))) (mvT hZ (hw _ (List.mem_of_getElem? (i := 2) rfl))) (mvT hZ (hw _ (List.mem_of_getElem? (i := 3) rfl))) (mvT hZ (hw _ (List.mem_of_getElem? (i := 4) rfl))) (by decide) (backOf (W := 0) (rm1_1 l Z a0 hw [] A_INTEGER h0 n0 Z0 S_INTEGER) hZ (hw _ (List.mem_of_getElem? (i := 4) rfl)) (hw _ (List.mem_of_getElem? (i := 3) rfl)) (by decide) (by decide)) (g := (mkF m 9 #[.val (.int p1), .val (.int (1 : Int32)), .unset, .unset, .unset, .unset] [(.int (1 : Int32))])) rfl (by rw [hml]; rfl) (argsL := [(.int (1 : Int32))]) (rest := []) (lenOf (by decide +kernel : parseMethodDescriptor "(I)Lcom/example/upright_custodian/uprightcustodian/kmip/TtlvType;" = some ⟨[.int], some (.object "com/example/upright_custodian/uprightcustodian/kmip/TtlvType")⟩) rfl) rfl (by show 2 * 0 + _ ≤ _; exact Nat.le_of_eq rfl) (hb hby at_9) (fun _ _ => ⟨rfl, e0, (by decide : 0 + 0 ≤ _), (by decide : 0 + 0 ≤ _)⟩)
  dsimp only [Pt.U, Pt.locs, Pt.cells, Pt.slots] at X101 l101 y101 z101 st101 hQ101
  subst l101 y101 z101
  obtain ⟨rfl, Nq101, e101⟩ := hQ101
  have N101 := Fr.app N0 Nq101
  refine own_step (T' := T101) (g' := (mkF m 12 #[.val (.int p1), .val (.int (1 : Int32)), .unset, .unset, .unset, .unset] [(.ref A_INTEGER)])) st101 ?_
  refine own_step (T' := T101) (g' := (mkF m 13 #[.val (.int p1), .val (.int (1 : Int32)), .val (.ref A_INTEGER), .unset, .unset, .unset] [])) (fun t_ k_ => XS.astoreN X101.here hx rfl (hb hby at_12) rfl rfl (l' := #[.val (.int p1), .val (.int (1 : Int32)), .val (.ref A_INTEGER), .unset, .unset, .unset]) rfl k_) ?_
  refine own_step (T' := T101) (g' := (mkF m 14 #[.val (.int p1), .val (.int (1 : Int32)), .val (.ref A_INTEGER), .unset, .unset, .unset] [(.int (1 : Int32))])) (fun t_ k_ => XS.iloadN X101.here hx rfl (hb hby at_13) rfl k_) ?_
  refine own_step (T' := T101) (g' := (mkF m 15 #[.val (.int p1), .val (.int (1 : Int32)), .val (.ref A_INTEGER), .unset, .unset, .unset] [(.int (1 : Int32)), (.int (1 : Int32))])) (fun t_ k_ => XS.iconst X101.here hx rfl (hb hby at_14) k_) ?_
  refine own_step (T' := T101) (g' := (mkF m 45 #[.val (.int p1), .val (.int (1 : Int32)), .val (.ref A_INTEGER), .unset, .unset, .unset] [])) (fun t_ k_ => XS.icmpYes X101.here hx rfl (pc0 := 15) (pc' := 45) rfl (hb hby at_15) rfl (teq (by decide)).1 (by decide) (by decide) k_) ?_
  refine own_step (T' := T101) (g' := (mkF m 46 #[.val (.int p1), .val (.int (1 : Int32)), .val (.ref A_INTEGER), .unset, .unset, .unset] [(.int (1 : Int32))])) (fun t_ k_ => XS.iconst X101.here hx rfl (hb hby at_45) k_) ?_
  refine own_step (T' := T101) (g' := (mkF m 50 #[.val (.int p1), .val (.int (1 : Int32)), .val (.ref A_INTEGER), .unset, .unset, .unset] [(.int (1 : Int32))])) (fun t_ k_ => XS.goto X101.here hx rfl (pc0 := 46) (pc' := 50) rfl (hb hby at_46) (by decide) (by decide) k_) ?_
  refine own_step (T' := T101) (g' := (mkF m 51 #[.val (.int p1), .val (.int (1 : Int32)), .val (.ref A_INTEGER), .val (.int (1 : Int32)), .unset, .unset] [])) (fun t_ k_ => XS.istoreN X101.here hx rfl (hb hby at_50) rfl (l' := #[.val (.int p1), .val (.int (1 : Int32)), .val (.ref A_INTEGER), .val (.int (1 : Int32)), .unset, .unset]) rfl k_) ?_
  refine own_step (T' := T101) (g' := (mkF m 52 #[.val (.int p1), .val (.int (1 : Int32)), .val (.ref A_INTEGER), .val (.int (1 : Int32)), .unset, .unset] [(.int (1 : Int32))])) (fun t_ k_ => XS.iloadN X101.here hx rfl (hb hby at_51) rfl k_) ?_
  refine own_step (T' := T101) (g' := (mkF m 53 #[.val (.int p1), .val (.int (1 : Int32)), .val (.ref A_INTEGER), .val (.int (1 : Int32)), .unset, .unset] [(.int (1 : Int32)), (.int (1 : Int32))])) (fun t_ k_ => XS.iconst X101.here hx rfl (hb hby at_52) k_) ?_
  refine own_step (T' := T101) (g' := (mkF m 67 #[.val (.int p1), .val (.int (1 : Int32)), .val (.ref A_INTEGER), .val (.int (1 : Int32)), .unset, .unset] [])) (fun t_ k_ => XS.icmpYes X101.here hx rfl (pc0 := 53) (pc' := 67) rfl (hb hby at_53) rfl (teq (by decide)).1 (by decide) (by decide) k_) ?_
  refine own_step (T' := T101) (g' := (mkF m 68 #[.val (.int p1), .val (.int (1 : Int32)), .val (.ref A_INTEGER), .val (.int (1 : Int32)), .unset, .unset] [(.int (4 : Int32))])) (fun t_ k_ => XS.iconst X101.here hx rfl (hb hby at_67) k_) ?_
  refine own_step (T' := T101) (g' := (mkF m 73 #[.val (.int p1), .val (.int (1 : Int32)), .val (.ref A_INTEGER), .val (.int (1 : Int32)), .unset, .unset] [(.int (4 : Int32))])) (fun t_ k_ => XS.goto X101.here hx rfl (pc0 := 68) (pc' := 73) rfl (hb hby at_68) (by decide) (by decide) k_) ?_
  refine own_step (T' := T101) (g' := (mkF m 75 #[.val (.int p1), .val (.int (1 : Int32)), .val (.ref A_INTEGER), .val (.int (1 : Int32)), .val (.int (4 : Int32)), .unset] [])) (fun t_ k_ => XS.istore X101.here hx rfl (hb hby at_73) rfl (l' := #[.val (.int p1), .val (.int (1 : Int32)), .val (.ref A_INTEGER), .val (.int (1 : Int32)), .val (.int (4 : Int32)), .unset]) rfl k_) ?_
  refine own_step (T' := T101) (g' := (mkF m 76 #[.val (.int p1), .val (.int (1 : Int32)), .val (.ref A_INTEGER), .val (.int (1 : Int32)), .val (.int (4 : Int32)), .unset] [(.ref A_INTEGER)])) (fun t_ k_ => XS.aloadN X101.here hx rfl (hb hby at_75) rfl rfl k_) ?_
  obtain ⟨cq102, kq102, q102a, q102b, q102c⟩ := isOf hZ e101 E_INTEGER
  obtain ⟨_, _, ⟨T102, L102, k102, n102⟩, -, X102, ⟨Lc102, hQ102, l102, y102, z102⟩, st102⟩ := X101.virtualBack hx (y := (⟨"com/example/upright_custodian/uprightcustodian/kmip/TtlvType", "hasFixedLength", "()Z"⟩ : MethodName)) (z := (⟨"com/example/upright_custodian/uprightcustodian/kmip/TtlvType", "hasFixedLength", "()Z"⟩ : MethodName)) hown (mvT hZ (hw _ (List.mem_of_getElem? (i := 8) rfl))) (mvT hZ (hw _ (List.mem_of_getElem? (i := 9) rfl))) (notFace_of_selects (args := #[]) (mvT hZ (hw _ (List.mem_of_getElem? (i := 11) rfl)))) (mvT hZ (hw _ (List.mem_of_getElem? (i := 11) rfl))) (mvT hZ (hw _ (List.mem_of_getElem? (i := 10) rfl))) (by decide) (backOf (W := 0) (rm2 l Z a0 hw [] A_INTEGER (4 : Int32) (1 : Int32) h0 n0 Z0 F_INTEGER_fixedLength (by decide)) hZ (hw _ (List.mem_of_getElem? (i := 12) rfl)) (hw _ (List.mem_of_getElem? (i := 6) rfl)) (by decide) (by decide)) q102a q102c (g := (mkF m 76 #[.val (.int p1), .val (.int (1 : Int32)), .val (.ref A_INTEGER), .val (.int (1 : Int32)), .val (.int (4 : Int32)), .unset] [(.ref A_INTEGER)])) rfl (by rw [hml]; rfl) (Steps.refl _) (argsL := []) (rest := []) (lenOf (by decide +kernel : parseMethodDescriptor "()Z" = some ⟨[], some .boolean⟩) rfl) rfl (by show 2 * 0 + _ ≤ _; exact Nat.le_of_eq rfl) (hb hby at_76) (fun _ _ => ⟨rfl, e101, (by decide : 0 + 0 ≤ _), (by decide : 0 + 0 ≤ _)⟩)
  dsimp only [Pt.U, Pt.locs, Pt.cells, Pt.slots] at X102 l102 y102 z102 st102 hQ102
  subst l102 y102 z102
  obtain ⟨rfl, Nq102, e102⟩ := hQ102
  have N102 := Fr.app N101 Nq102
  refine own_to (T' := T102) (g' := (mkF m 79 #[.val (.int p1), .val (.int (1 : Int32)), .val (.ref A_INTEGER), .val (.int (1 : Int32)), .val (.int (4 : Int32)), .unset] [(.int (1 : Int32))])) st102 ?_
  refine own_step (T' := T102) (g' := (mkF m 81 #[.val (.int p1), .val (.int (1 : Int32)), .val (.ref A_INTEGER), .val (.int (1 : Int32)), .val (.int (4 : Int32)), .val (.int (1 : Int32))] [])) (fun t_ k_ => XS.istore X102.here hx rfl (hb hby at_79) rfl (l' := #[.val (.int p1), .val (.int (1 : Int32)), .val (.ref A_INTEGER), .val (.int (1 : Int32)), .val (.int (4 : Int32)), .val (.int (1 : Int32))]) rfl k_) ?_
  refine own_step (T' := T102) (g' := (mkF m 83 #[.val (.int p1), .val (.int (1 : Int32)), .val (.ref A_INTEGER), .val (.int (1 : Int32)), .val (.int (4 : Int32)), .val (.int (1 : Int32))] [(.int (1 : Int32))])) (fun t_ k_ => XS.iload X102.here hx rfl (hb hby at_81) rfl k_) ?_
  refine own_step (T' := T102) (g' := (mkF m 84 #[.val (.int p1), .val (.int (1 : Int32)), .val (.ref A_INTEGER), .val (.int (1 : Int32)), .val (.int (4 : Int32)), .val (.int (1 : Int32))] [(.int (1 : Int32)), (.int (1 : Int32))])) (fun t_ k_ => XS.iloadN X102.here hx rfl (hb hby at_83) rfl k_) ?_
  refine own_step (T' := T102) (g' := (mkF m 89 #[.val (.int p1), .val (.int (1 : Int32)), .val (.ref A_INTEGER), .val (.int (1 : Int32)), .val (.int (4 : Int32)), .val (.int (1 : Int32))] [])) (fun t_ k_ => XS.icmpYes X102.here hx rfl (pc0 := 84) (pc' := 89) rfl (hb hby at_84) rfl (teq (by decide)).1 (by decide) (by decide) k_) ?_
  refine own_step (T' := T102) (g' := (mkF m 91 #[.val (.int p1), .val (.int (1 : Int32)), .val (.ref A_INTEGER), .val (.int (1 : Int32)), .val (.int (4 : Int32)), .val (.int (1 : Int32))] [(.int (1 : Int32))])) (fun t_ k_ => XS.iload X102.here hx rfl (hb hby at_89) rfl k_) ?_
  refine own_step (T' := T102) (g' := (mkF m 96 #[.val (.int p1), .val (.int (1 : Int32)), .val (.ref A_INTEGER), .val (.int (1 : Int32)), .val (.int (4 : Int32)), .val (.int (1 : Int32))] [])) (fun t_ k_ => XS.ifYes X102.here hx rfl (pc0 := 91) (pc' := 96) rfl (hb hby at_91) rfl ((if0 _ _).trans (feq (by decide)).2) (by decide) (by decide) k_) ?_
  refine own_step (T' := T102) (g' := (mkF m 97 #[.val (.int p1), .val (.int (1 : Int32)), .val (.ref A_INTEGER), .val (.int (1 : Int32)), .val (.int (4 : Int32)), .val (.int (1 : Int32))] [(.ref A_INTEGER)])) (fun t_ k_ => XS.aloadN X102.here hx rfl (hb hby at_96) rfl rfl k_) ?_
  obtain ⟨cq103, kq103, q103a, q103b, q103c⟩ := isOf hZ e102 E_INTEGER
  obtain ⟨_, _, ⟨T103, L103, k103, n103⟩, -, X103, ⟨Lc103, hQ103, l103, y103, z103⟩, st103⟩ := X102.virtualBack hx (y := (⟨"com/example/upright_custodian/uprightcustodian/kmip/TtlvType", "fixedLength", "()I"⟩ : MethodName)) (z := (⟨"com/example/upright_custodian/uprightcustodian/kmip/TtlvType", "fixedLength", "()I"⟩ : MethodName)) hown (mvT hZ (hw _ (List.mem_of_getElem? (i := 19) rfl))) (mvT hZ (hw _ (List.mem_of_getElem? (i := 20) rfl))) (notFace_of_selects (args := #[]) (mvT hZ (hw _ (List.mem_of_getElem? (i := 22) rfl)))) (mvT hZ (hw _ (List.mem_of_getElem? (i := 22) rfl))) (mvT hZ (hw _ (List.mem_of_getElem? (i := 21) rfl))) (by decide) (backOf (W := 0) (rm3 l Z a0 hw [] A_INTEGER (4 : Int32) h0 n0 Z0 F_INTEGER_fixedLength E_INTEGER (by decide)) hZ (hw _ (List.mem_of_getElem? (i := 23) rfl)) (hw _ (List.mem_of_getElem? (i := 6) rfl)) (by decide) (by decide)) q103a q103c (g := (mkF m 97 #[.val (.int p1), .val (.int (1 : Int32)), .val (.ref A_INTEGER), .val (.int (1 : Int32)), .val (.int (4 : Int32)), .val (.int (1 : Int32))] [(.ref A_INTEGER)])) rfl (by rw [hml]; rfl) (Steps.refl _) (argsL := []) (rest := []) (lenOf (by decide +kernel : parseMethodDescriptor "()I" = some ⟨[], some .int⟩) rfl) rfl (by show 2 * 0 + _ ≤ _; exact Nat.le_of_eq rfl) (hb hby at_97) (fun _ _ => ⟨rfl, e102, (by decide : 0 + 0 ≤ _), (by decide : 0 + 0 ≤ _)⟩)
  dsimp only [Pt.U, Pt.locs, Pt.cells, Pt.slots] at X103 l103 y103 z103 st103 hQ103
  subst l103 y103 z103
  obtain ⟨rfl, Nq103, e103⟩ := hQ103
  have N103 := Fr.app N102 Nq103
  refine own_to (T' := T103) (g' := (mkF m 100 #[.val (.int p1), .val (.int (1 : Int32)), .val (.ref A_INTEGER), .val (.int (1 : Int32)), .val (.int (4 : Int32)), .val (.int (1 : Int32))] [(.int (4 : Int32))])) st103 ?_
  refine own_step (T' := T103) (g' := (mkF m 102 #[.val (.int p1), .val (.int (1 : Int32)), .val (.ref A_INTEGER), .val (.int (1 : Int32)), .val (.int (4 : Int32)), .val (.int (1 : Int32))] [(.int (4 : Int32)), (.int (4 : Int32))])) (fun t_ k_ => XS.iload X103.here hx rfl (hb hby at_100) rfl k_) ?_
  refine own_step (T' := T103) (g' := (mkF m 105 #[.val (.int p1), .val (.int (1 : Int32)), .val (.ref A_INTEGER), .val (.int (1 : Int32)), .val (.int (4 : Int32)), .val (.int (1 : Int32))] [])) (fun t_ k_ => XS.icmpNo X103.here hx rfl (hb hby at_102) rfl (teq (by decide)).2 k_) ?_
  refine own_step (T' := T103) (g' := (mkF m 106 #[.val (.int p1), .val (.int (1 : Int32)), .val (.ref A_INTEGER), .val (.int (1 : Int32)), .val (.int (4 : Int32)), .val (.int (1 : Int32))] [(.int (1 : Int32))])) (fun t_ k_ => XS.iconst X103.here hx rfl (hb hby at_105) k_) ?_
  refine own_step (T' := T103) (g' := (mkF m 110 #[.val (.int p1), .val (.int (1 : Int32)), .val (.ref A_INTEGER), .val (.int (1 : Int32)), .val (.int (4 : Int32)), .val (.int (1 : Int32))] [(.int (1 : Int32))])) (fun t_ k_ => XS.goto X103.here hx rfl (pc0 := 106) (pc' := 110) rfl (hb hby at_106) (by decide) (by decide) k_) ?_
  obtain ⟨fs, hrR, hrun, hended, hWW, hsame⟩ := X103.leave (v := some (.int (1 : Int32))) (fun h => by rw [Bd.returns] at h; cases h)
  refine ⟨_, _, own_retZ X103 hx (t := .boolean) Bd.returns (by simp) (by decide) (hb hby at_110) hrR, hrun, hended, hPP _ _ ⟨_, _, rfl, ?_, ⟨_, rfl⟩, hWW, hsame.mono (by decide) (by decide)⟩⟩
  show Q0 n0 _ T103.heap _
  rw [e103]
  exact ⟨rfl, N103⟩
set_option maxRecDepth 65536 in
set_option maxHeartbeats 40000000 in
theorem rm0_2 (l : Launch) (Z : State) (a0 : Array Value) (hw : ∀ d ∈ tables_1, d.before a0 Z = true) (ws : List Jvm.Cond) (p1 : Int32) (A_LONG_INTEGER : Addr) (h0 : Heap) (n0 : Nat) (Z0 : n0 ≤ h0.size) (hk : (p1 &&& 2147483647) % 10 = 2) (E_LONG_INTEGER : Exa Z h0 A_LONG_INTEGER "com/example/upright_custodian/uprightcustodian/kmip/TtlvType") (S_LONG_INTEGER : Sta Z h0 "com/example/upright_custodian/uprightcustodian/kmip/TtlvType" "LONG_INTEGER" "Lcom/example/upright_custodian/uprightcustodian/kmip/TtlvType;" (.ref A_LONG_INTEGER)) (F_LONG_INTEGER_fixedLength : Fld Z h0 A_LONG_INTEGER "com/example/upright_custodian/uprightcustodian/kmip/TtlvType" "fixedLength" "I" (.int (8 : Int32))) :
    MetFree l x (head1 (Jvm.Cond.code x code maxLocals ret :: ws) room_1) (fun a U => a = #[(.int p1)] ∧ Z.Warmed39 U.vm ∧ U.heap = h0) (fun _ _ _ _ _ => True) (fun _ U o U' => ∃ v L, o = .returned v ∧ Q0 n0 v U'.heap L ∧ FrameEnd U o U' L 0 0) := by
  refine MetFree.of_bodySF (plainFor_of_name (by first | (simp [plainName, overriddenIn]; done) | decide +kernel)) hisR ?_
  intro p e s m args below meth c s₁ Bd hml0 hP hK
  obtain ⟨rfl, hZ, hh⟩ := hP
  have hx := Bd.exec
  have hby := Bd.bytes
  have hml : c.maxLocals = 6 := hml0
  have hown : s.vm.findClass "com/example/upright_custodian/uprightcustodian/kmip/TtlvTypeHasFixedLengthPinLaw" = some m.cls := findClass_of_methodNamed Bd.named
  have hnm := (name_of_methodNamed Bd.named Bd.method).1
  have X0 : Stand p l e room_1 s m #[(.int p1)] below meth c s₁ [] 0 0 := Stand.of_body Bd
  have e0 : s₁.heap = h0 := by rw [← hh, Bd.state]; rfl
  have N0 := Fr.nil n0
  have ef : entryFrame m #[(.int p1)] maxLocals = (mkF m 0 #[.val (.int p1), .unset, .unset, .unset, .unset, .unset] []) := by first | (simp [entryFrame, mkF, argsToLocals, Value.category, maxLocals]; done) | rfl
  refine own_start (fun P hPP => ?_)
  refine own_step (T' := s₁) (g' := (mkF m 0 #[.val (.int p1), .unset, .unset, .unset, .unset, .unset] [])) (fun t_ k_ => castTop ef k_) ?_
  refine own_step (T' := s₁) (g' := (mkF m 1 #[.val (.int p1), .unset, .unset, .unset, .unset, .unset] [(.int p1)])) (fun t_ k_ => XS.iloadN X0.here hx rfl (hb hby at_0) rfl k_) ?_
  refine own_step (T' := s₁) (g' := (mkF m 3 #[.val (.int p1), .unset, .unset, .unset, .unset, .unset] [(.int (2147483647 : Int32)), (.int p1)])) (fun t_ k_ => X0.ldcInt hx hown (mvT hZ (hw _ (List.mem_of_getElem? (i := 0) rfl))) (g := (mkF m 1 #[.val (.int p1), .unset, .unset, .unset, .unset, .unset] [(.int p1)])) rfl (hb hby at_1) _ k_) ?_
  refine own_step (T' := s₁) (g' := (mkF m 4 #[.val (.int p1), .unset, .unset, .unset, .unset, .unset] [(.int (p1 &&& (2147483647 : Int32)))])) (fun t_ k_ => XS.iand X0.here hx rfl (hb hby at_3) rfl k_) ?_
  refine own_step (T' := s₁) (g' := (mkF m 6 #[.val (.int p1), .unset, .unset, .unset, .unset, .unset] [(.int (10 : Int32)), (.int (p1 &&& (2147483647 : Int32)))])) (fun t_ k_ => XS.bipush X0.here hx rfl (hb hby at_4) k_) ?_
  refine own_step (T' := s₁) (g' := (mkF m 7 #[.val (.int p1), .unset, .unset, .unset, .unset, .unset] [(.int ((p1 &&& (2147483647 : Int32)) % (10 : Int32)))])) (fun t_ k_ => iremM X0 hx rfl (hb hby at_6) rfl (by decide) k_) ?_
  rw [hk]
  refine own_step (T' := s₁) (g' := (mkF m 8 #[.val (.int p1), .val (.int (2 : Int32)), .unset, .unset, .unset, .unset] [])) (fun t_ k_ => XS.istoreN X0.here hx rfl (hb hby at_7) rfl (l' := #[.val (.int p1), .val (.int (2 : Int32)), .unset, .unset, .unset, .unset]) rfl k_) ?_
  refine own_step (T' := s₁) (g' := (mkF m 9 #[.val (.int p1), .val (.int (2 : Int32)), .unset, .unset, .unset, .unset] [(.int (2 : Int32))])) (fun t_ k_ => XS.iloadN X0.here hx rfl (hb hby at_8) rfl k_) ?_
  obtain ⟨_, _, ⟨T101, L101, k101, n101⟩, -, X101, ⟨Lc101, hQ101, l101, y101, z101⟩, st101⟩ := Jvm.LawKit.callS X0 hx (y := (⟨"com/example/upright_custodian/uprightcustodian/kmip/TtlvTypeHasFixedLengthPinLaw", "pick", "(I)Lcom/example/upright_custodian/uprightcustodian/kmip/TtlvType;"⟩ : MethodName)) hown (mvT hZ (hw _ (List.mem_of_getElem? (i := 1) rfl))) (mvT hZ (hw _ (List.mem_of_getElem? (i := 2) rfl))) (mvT hZ (hw _ (List.mem_of_getElem? (i := 3) rfl))) (mvT hZ (hw _ (List.mem_of_getElem? (i := 4) rfl))) (by decide) (backOf (W := 0) (rm1_2 l Z a0 hw [] A_LONG_INTEGER h0 n0 Z0 S_LONG_INTEGER) hZ (hw _ (List.mem_of_getElem? (i := 4) rfl)) (hw _ (List.mem_of_getElem? (i := 3) rfl)) (by decide) (by decide)) (g := (mkF m 9 #[.val (.int p1), .val (.int (2 : Int32)), .unset, .unset, .unset, .unset] [(.int (2 : Int32))])) rfl (by rw [hml]; rfl) (argsL := [(.int (2 : Int32))]) (rest := []) (lenOf (by decide +kernel : parseMethodDescriptor "(I)Lcom/example/upright_custodian/uprightcustodian/kmip/TtlvType;" = some ⟨[.int], some (.object "com/example/upright_custodian/uprightcustodian/kmip/TtlvType")⟩) rfl) rfl (by show 2 * 0 + _ ≤ _; exact Nat.le_of_eq rfl) (hb hby at_9) (fun _ _ => ⟨rfl, e0, (by decide : 0 + 0 ≤ _), (by decide : 0 + 0 ≤ _)⟩)
  dsimp only [Pt.U, Pt.locs, Pt.cells, Pt.slots] at X101 l101 y101 z101 st101 hQ101
  subst l101 y101 z101
  obtain ⟨rfl, Nq101, e101⟩ := hQ101
  have N101 := Fr.app N0 Nq101
  refine own_step (T' := T101) (g' := (mkF m 12 #[.val (.int p1), .val (.int (2 : Int32)), .unset, .unset, .unset, .unset] [(.ref A_LONG_INTEGER)])) st101 ?_
  refine own_step (T' := T101) (g' := (mkF m 13 #[.val (.int p1), .val (.int (2 : Int32)), .val (.ref A_LONG_INTEGER), .unset, .unset, .unset] [])) (fun t_ k_ => XS.astoreN X101.here hx rfl (hb hby at_12) rfl rfl (l' := #[.val (.int p1), .val (.int (2 : Int32)), .val (.ref A_LONG_INTEGER), .unset, .unset, .unset]) rfl k_) ?_
  refine own_step (T' := T101) (g' := (mkF m 14 #[.val (.int p1), .val (.int (2 : Int32)), .val (.ref A_LONG_INTEGER), .unset, .unset, .unset] [(.int (2 : Int32))])) (fun t_ k_ => XS.iloadN X101.here hx rfl (hb hby at_13) rfl k_) ?_
  refine own_step (T' := T101) (g' := (mkF m 15 #[.val (.int p1), .val (.int (2 : Int32)), .val (.ref A_LONG_INTEGER), .unset, .unset, .unset] [(.int (1 : Int32)), (.int (2 : Int32))])) (fun t_ k_ => XS.iconst X101.here hx rfl (hb hby at_14) k_) ?_
  refine own_step (T' := T101) (g' := (mkF m 18 #[.val (.int p1), .val (.int (2 : Int32)), .val (.ref A_LONG_INTEGER), .unset, .unset, .unset] [])) (fun t_ k_ => XS.icmpNo X101.here hx rfl (hb hby at_15) rfl (feq (by decide)).1 k_) ?_
  refine own_step (T' := T101) (g' := (mkF m 19 #[.val (.int p1), .val (.int (2 : Int32)), .val (.ref A_LONG_INTEGER), .unset, .unset, .unset] [(.int (2 : Int32))])) (fun t_ k_ => XS.iloadN X101.here hx rfl (hb hby at_18) rfl k_) ?_
  refine own_step (T' := T101) (g' := (mkF m 20 #[.val (.int p1), .val (.int (2 : Int32)), .val (.ref A_LONG_INTEGER), .unset, .unset, .unset] [(.int (2 : Int32)), (.int (2 : Int32))])) (fun t_ k_ => XS.iconst X101.here hx rfl (hb hby at_19) k_) ?_
  refine own_step (T' := T101) (g' := (mkF m 45 #[.val (.int p1), .val (.int (2 : Int32)), .val (.ref A_LONG_INTEGER), .unset, .unset, .unset] [])) (fun t_ k_ => XS.icmpYes X101.here hx rfl (pc0 := 20) (pc' := 45) rfl (hb hby at_20) rfl (teq (by decide)).1 (by decide) (by decide) k_) ?_
  refine own_step (T' := T101) (g' := (mkF m 46 #[.val (.int p1), .val (.int (2 : Int32)), .val (.ref A_LONG_INTEGER), .unset, .unset, .unset] [(.int (1 : Int32))])) (fun t_ k_ => XS.iconst X101.here hx rfl (hb hby at_45) k_) ?_
  refine own_step (T' := T101) (g' := (mkF m 50 #[.val (.int p1), .val (.int (2 : Int32)), .val (.ref A_LONG_INTEGER), .unset, .unset, .unset] [(.int (1 : Int32))])) (fun t_ k_ => XS.goto X101.here hx rfl (pc0 := 46) (pc' := 50) rfl (hb hby at_46) (by decide) (by decide) k_) ?_
  refine own_step (T' := T101) (g' := (mkF m 51 #[.val (.int p1), .val (.int (2 : Int32)), .val (.ref A_LONG_INTEGER), .val (.int (1 : Int32)), .unset, .unset] [])) (fun t_ k_ => XS.istoreN X101.here hx rfl (hb hby at_50) rfl (l' := #[.val (.int p1), .val (.int (2 : Int32)), .val (.ref A_LONG_INTEGER), .val (.int (1 : Int32)), .unset, .unset]) rfl k_) ?_
  refine own_step (T' := T101) (g' := (mkF m 52 #[.val (.int p1), .val (.int (2 : Int32)), .val (.ref A_LONG_INTEGER), .val (.int (1 : Int32)), .unset, .unset] [(.int (2 : Int32))])) (fun t_ k_ => XS.iloadN X101.here hx rfl (hb hby at_51) rfl k_) ?_
  refine own_step (T' := T101) (g' := (mkF m 53 #[.val (.int p1), .val (.int (2 : Int32)), .val (.ref A_LONG_INTEGER), .val (.int (1 : Int32)), .unset, .unset] [(.int (1 : Int32)), (.int (2 : Int32))])) (fun t_ k_ => XS.iconst X101.here hx rfl (hb hby at_52) k_) ?_
  refine own_step (T' := T101) (g' := (mkF m 56 #[.val (.int p1), .val (.int (2 : Int32)), .val (.ref A_LONG_INTEGER), .val (.int (1 : Int32)), .unset, .unset] [])) (fun t_ k_ => XS.icmpNo X101.here hx rfl (hb hby at_53) rfl (feq (by decide)).1 k_) ?_
  refine own_step (T' := T101) (g' := (mkF m 57 #[.val (.int p1), .val (.int (2 : Int32)), .val (.ref A_LONG_INTEGER), .val (.int (1 : Int32)), .unset, .unset] [(.int (2 : Int32))])) (fun t_ k_ => XS.iloadN X101.here hx rfl (hb hby at_56) rfl k_) ?_
  refine own_step (T' := T101) (g' := (mkF m 58 #[.val (.int p1), .val (.int (2 : Int32)), .val (.ref A_LONG_INTEGER), .val (.int (1 : Int32)), .unset, .unset] [(.int (4 : Int32)), (.int (2 : Int32))])) (fun t_ k_ => XS.iconst X101.here hx rfl (hb hby at_57) k_) ?_
  refine own_step (T' := T101) (g' := (mkF m 61 #[.val (.int p1), .val (.int (2 : Int32)), .val (.ref A_LONG_INTEGER), .val (.int (1 : Int32)), .unset, .unset] [])) (fun t_ k_ => XS.icmpNo X101.here hx rfl (hb hby at_58) rfl (feq (by decide)).1 k_) ?_
  refine own_step (T' := T101) (g' := (mkF m 62 #[.val (.int p1), .val (.int (2 : Int32)), .val (.ref A_LONG_INTEGER), .val (.int (1 : Int32)), .unset, .unset] [(.int (2 : Int32))])) (fun t_ k_ => XS.iloadN X101.here hx rfl (hb hby at_61) rfl k_) ?_
  refine own_step (T' := T101) (g' := (mkF m 64 #[.val (.int p1), .val (.int (2 : Int32)), .val (.ref A_LONG_INTEGER), .val (.int (1 : Int32)), .unset, .unset] [(.int (9 : Int32)), (.int (2 : Int32))])) (fun t_ k_ => XS.bipush X101.here hx rfl (hb hby at_62) k_) ?_
  refine own_step (T' := T101) (g' := (mkF m 71 #[.val (.int p1), .val (.int (2 : Int32)), .val (.ref A_LONG_INTEGER), .val (.int (1 : Int32)), .unset, .unset] [])) (fun t_ k_ => XS.icmpYes X101.here hx rfl (pc0 := 64) (pc' := 71) rfl (hb hby at_64) rfl (feq (by decide)).2 (by decide) (by decide) k_) ?_
  refine own_step (T' := T101) (g' := (mkF m 73 #[.val (.int p1), .val (.int (2 : Int32)), .val (.ref A_LONG_INTEGER), .val (.int (1 : Int32)), .unset, .unset] [(.int (8 : Int32))])) (fun t_ k_ => XS.bipush X101.here hx rfl (hb hby at_71) k_) ?_
  refine own_step (T' := T101) (g' := (mkF m 75 #[.val (.int p1), .val (.int (2 : Int32)), .val (.ref A_LONG_INTEGER), .val (.int (1 : Int32)), .val (.int (8 : Int32)), .unset] [])) (fun t_ k_ => XS.istore X101.here hx rfl (hb hby at_73) rfl (l' := #[.val (.int p1), .val (.int (2 : Int32)), .val (.ref A_LONG_INTEGER), .val (.int (1 : Int32)), .val (.int (8 : Int32)), .unset]) rfl k_) ?_
  refine own_step (T' := T101) (g' := (mkF m 76 #[.val (.int p1), .val (.int (2 : Int32)), .val (.ref A_LONG_INTEGER), .val (.int (1 : Int32)), .val (.int (8 : Int32)), .unset] [(.ref A_LONG_INTEGER)])) (fun t_ k_ => XS.aloadN X101.here hx rfl (hb hby at_75) rfl rfl k_) ?_
  obtain ⟨cq102, kq102, q102a, q102b, q102c⟩ := isOf hZ e101 E_LONG_INTEGER
  obtain ⟨_, _, ⟨T102, L102, k102, n102⟩, -, X102, ⟨Lc102, hQ102, l102, y102, z102⟩, st102⟩ := X101.virtualBack hx (y := (⟨"com/example/upright_custodian/uprightcustodian/kmip/TtlvType", "hasFixedLength", "()Z"⟩ : MethodName)) (z := (⟨"com/example/upright_custodian/uprightcustodian/kmip/TtlvType", "hasFixedLength", "()Z"⟩ : MethodName)) hown (mvT hZ (hw _ (List.mem_of_getElem? (i := 8) rfl))) (mvT hZ (hw _ (List.mem_of_getElem? (i := 9) rfl))) (notFace_of_selects (args := #[]) (mvT hZ (hw _ (List.mem_of_getElem? (i := 11) rfl)))) (mvT hZ (hw _ (List.mem_of_getElem? (i := 11) rfl))) (mvT hZ (hw _ (List.mem_of_getElem? (i := 10) rfl))) (by decide) (backOf (W := 0) (rm2 l Z a0 hw [] A_LONG_INTEGER (8 : Int32) (1 : Int32) h0 n0 Z0 F_LONG_INTEGER_fixedLength (by decide)) hZ (hw _ (List.mem_of_getElem? (i := 12) rfl)) (hw _ (List.mem_of_getElem? (i := 6) rfl)) (by decide) (by decide)) q102a q102c (g := (mkF m 76 #[.val (.int p1), .val (.int (2 : Int32)), .val (.ref A_LONG_INTEGER), .val (.int (1 : Int32)), .val (.int (8 : Int32)), .unset] [(.ref A_LONG_INTEGER)])) rfl (by rw [hml]; rfl) (Steps.refl _) (argsL := []) (rest := []) (lenOf (by decide +kernel : parseMethodDescriptor "()Z" = some ⟨[], some .boolean⟩) rfl) rfl (by show 2 * 0 + _ ≤ _; exact Nat.le_of_eq rfl) (hb hby at_76) (fun _ _ => ⟨rfl, e101, (by decide : 0 + 0 ≤ _), (by decide : 0 + 0 ≤ _)⟩)
  dsimp only [Pt.U, Pt.locs, Pt.cells, Pt.slots] at X102 l102 y102 z102 st102 hQ102
  subst l102 y102 z102
  obtain ⟨rfl, Nq102, e102⟩ := hQ102
  have N102 := Fr.app N101 Nq102
  refine own_to (T' := T102) (g' := (mkF m 79 #[.val (.int p1), .val (.int (2 : Int32)), .val (.ref A_LONG_INTEGER), .val (.int (1 : Int32)), .val (.int (8 : Int32)), .unset] [(.int (1 : Int32))])) st102 ?_
  refine own_step (T' := T102) (g' := (mkF m 81 #[.val (.int p1), .val (.int (2 : Int32)), .val (.ref A_LONG_INTEGER), .val (.int (1 : Int32)), .val (.int (8 : Int32)), .val (.int (1 : Int32))] [])) (fun t_ k_ => XS.istore X102.here hx rfl (hb hby at_79) rfl (l' := #[.val (.int p1), .val (.int (2 : Int32)), .val (.ref A_LONG_INTEGER), .val (.int (1 : Int32)), .val (.int (8 : Int32)), .val (.int (1 : Int32))]) rfl k_) ?_
  refine own_step (T' := T102) (g' := (mkF m 83 #[.val (.int p1), .val (.int (2 : Int32)), .val (.ref A_LONG_INTEGER), .val (.int (1 : Int32)), .val (.int (8 : Int32)), .val (.int (1 : Int32))] [(.int (1 : Int32))])) (fun t_ k_ => XS.iload X102.here hx rfl (hb hby at_81) rfl k_) ?_
  refine own_step (T' := T102) (g' := (mkF m 84 #[.val (.int p1), .val (.int (2 : Int32)), .val (.ref A_LONG_INTEGER), .val (.int (1 : Int32)), .val (.int (8 : Int32)), .val (.int (1 : Int32))] [(.int (1 : Int32)), (.int (1 : Int32))])) (fun t_ k_ => XS.iloadN X102.here hx rfl (hb hby at_83) rfl k_) ?_
  refine own_step (T' := T102) (g' := (mkF m 89 #[.val (.int p1), .val (.int (2 : Int32)), .val (.ref A_LONG_INTEGER), .val (.int (1 : Int32)), .val (.int (8 : Int32)), .val (.int (1 : Int32))] [])) (fun t_ k_ => XS.icmpYes X102.here hx rfl (pc0 := 84) (pc' := 89) rfl (hb hby at_84) rfl (teq (by decide)).1 (by decide) (by decide) k_) ?_
  refine own_step (T' := T102) (g' := (mkF m 91 #[.val (.int p1), .val (.int (2 : Int32)), .val (.ref A_LONG_INTEGER), .val (.int (1 : Int32)), .val (.int (8 : Int32)), .val (.int (1 : Int32))] [(.int (1 : Int32))])) (fun t_ k_ => XS.iload X102.here hx rfl (hb hby at_89) rfl k_) ?_
  refine own_step (T' := T102) (g' := (mkF m 96 #[.val (.int p1), .val (.int (2 : Int32)), .val (.ref A_LONG_INTEGER), .val (.int (1 : Int32)), .val (.int (8 : Int32)), .val (.int (1 : Int32))] [])) (fun t_ k_ => XS.ifYes X102.here hx rfl (pc0 := 91) (pc' := 96) rfl (hb hby at_91) rfl ((if0 _ _).trans (feq (by decide)).2) (by decide) (by decide) k_) ?_
  refine own_step (T' := T102) (g' := (mkF m 97 #[.val (.int p1), .val (.int (2 : Int32)), .val (.ref A_LONG_INTEGER), .val (.int (1 : Int32)), .val (.int (8 : Int32)), .val (.int (1 : Int32))] [(.ref A_LONG_INTEGER)])) (fun t_ k_ => XS.aloadN X102.here hx rfl (hb hby at_96) rfl rfl k_) ?_
  obtain ⟨cq103, kq103, q103a, q103b, q103c⟩ := isOf hZ e102 E_LONG_INTEGER
  obtain ⟨_, _, ⟨T103, L103, k103, n103⟩, -, X103, ⟨Lc103, hQ103, l103, y103, z103⟩, st103⟩ := X102.virtualBack hx (y := (⟨"com/example/upright_custodian/uprightcustodian/kmip/TtlvType", "fixedLength", "()I"⟩ : MethodName)) (z := (⟨"com/example/upright_custodian/uprightcustodian/kmip/TtlvType", "fixedLength", "()I"⟩ : MethodName)) hown (mvT hZ (hw _ (List.mem_of_getElem? (i := 19) rfl))) (mvT hZ (hw _ (List.mem_of_getElem? (i := 20) rfl))) (notFace_of_selects (args := #[]) (mvT hZ (hw _ (List.mem_of_getElem? (i := 22) rfl)))) (mvT hZ (hw _ (List.mem_of_getElem? (i := 22) rfl))) (mvT hZ (hw _ (List.mem_of_getElem? (i := 21) rfl))) (by decide) (backOf (W := 0) (rm3 l Z a0 hw [] A_LONG_INTEGER (8 : Int32) h0 n0 Z0 F_LONG_INTEGER_fixedLength E_LONG_INTEGER (by decide)) hZ (hw _ (List.mem_of_getElem? (i := 23) rfl)) (hw _ (List.mem_of_getElem? (i := 6) rfl)) (by decide) (by decide)) q103a q103c (g := (mkF m 97 #[.val (.int p1), .val (.int (2 : Int32)), .val (.ref A_LONG_INTEGER), .val (.int (1 : Int32)), .val (.int (8 : Int32)), .val (.int (1 : Int32))] [(.ref A_LONG_INTEGER)])) rfl (by rw [hml]; rfl) (Steps.refl _) (argsL := []) (rest := []) (lenOf (by decide +kernel : parseMethodDescriptor "()I" = some ⟨[], some .int⟩) rfl) rfl (by show 2 * 0 + _ ≤ _; exact Nat.le_of_eq rfl) (hb hby at_97) (fun _ _ => ⟨rfl, e102, (by decide : 0 + 0 ≤ _), (by decide : 0 + 0 ≤ _)⟩)
  dsimp only [Pt.U, Pt.locs, Pt.cells, Pt.slots] at X103 l103 y103 z103 st103 hQ103
  subst l103 y103 z103
  obtain ⟨rfl, Nq103, e103⟩ := hQ103
  have N103 := Fr.app N102 Nq103
  refine own_to (T' := T103) (g' := (mkF m 100 #[.val (.int p1), .val (.int (2 : Int32)), .val (.ref A_LONG_INTEGER), .val (.int (1 : Int32)), .val (.int (8 : Int32)), .val (.int (1 : Int32))] [(.int (8 : Int32))])) st103 ?_
  refine own_step (T' := T103) (g' := (mkF m 102 #[.val (.int p1), .val (.int (2 : Int32)), .val (.ref A_LONG_INTEGER), .val (.int (1 : Int32)), .val (.int (8 : Int32)), .val (.int (1 : Int32))] [(.int (8 : Int32)), (.int (8 : Int32))])) (fun t_ k_ => XS.iload X103.here hx rfl (hb hby at_100) rfl k_) ?_
  refine own_step (T' := T103) (g' := (mkF m 105 #[.val (.int p1), .val (.int (2 : Int32)), .val (.ref A_LONG_INTEGER), .val (.int (1 : Int32)), .val (.int (8 : Int32)), .val (.int (1 : Int32))] [])) (fun t_ k_ => XS.icmpNo X103.here hx rfl (hb hby at_102) rfl (teq (by decide)).2 k_) ?_
  refine own_step (T' := T103) (g' := (mkF m 106 #[.val (.int p1), .val (.int (2 : Int32)), .val (.ref A_LONG_INTEGER), .val (.int (1 : Int32)), .val (.int (8 : Int32)), .val (.int (1 : Int32))] [(.int (1 : Int32))])) (fun t_ k_ => XS.iconst X103.here hx rfl (hb hby at_105) k_) ?_
  refine own_step (T' := T103) (g' := (mkF m 110 #[.val (.int p1), .val (.int (2 : Int32)), .val (.ref A_LONG_INTEGER), .val (.int (1 : Int32)), .val (.int (8 : Int32)), .val (.int (1 : Int32))] [(.int (1 : Int32))])) (fun t_ k_ => XS.goto X103.here hx rfl (pc0 := 106) (pc' := 110) rfl (hb hby at_106) (by decide) (by decide) k_) ?_
  obtain ⟨fs, hrR, hrun, hended, hWW, hsame⟩ := X103.leave (v := some (.int (1 : Int32))) (fun h => by rw [Bd.returns] at h; cases h)
  refine ⟨_, _, own_retZ X103 hx (t := .boolean) Bd.returns (by simp) (by decide) (hb hby at_110) hrR, hrun, hended, hPP _ _ ⟨_, _, rfl, ?_, ⟨_, rfl⟩, hWW, hsame.mono (by decide) (by decide)⟩⟩
  show Q0 n0 _ T103.heap _
  rw [e103]
  exact ⟨rfl, N103⟩
set_option maxRecDepth 65536 in
set_option maxHeartbeats 40000000 in
theorem rm0_3 (l : Launch) (Z : State) (a0 : Array Value) (hw : ∀ d ∈ tables_1, d.before a0 Z = true) (ws : List Jvm.Cond) (p1 : Int32) (A_BIG_INTEGER : Addr) (h0 : Heap) (n0 : Nat) (Z0 : n0 ≤ h0.size) (hk : (p1 &&& 2147483647) % 10 = 3) (E_BIG_INTEGER : Exa Z h0 A_BIG_INTEGER "com/example/upright_custodian/uprightcustodian/kmip/TtlvType") (S_BIG_INTEGER : Sta Z h0 "com/example/upright_custodian/uprightcustodian/kmip/TtlvType" "BIG_INTEGER" "Lcom/example/upright_custodian/uprightcustodian/kmip/TtlvType;" (.ref A_BIG_INTEGER)) (F_BIG_INTEGER_fixedLength : Fld Z h0 A_BIG_INTEGER "com/example/upright_custodian/uprightcustodian/kmip/TtlvType" "fixedLength" "I" (.int (-1 : Int32))) :
    MetFree l x (head1 (Jvm.Cond.code x code maxLocals ret :: ws) room_1) (fun a U => a = #[(.int p1)] ∧ Z.Warmed39 U.vm ∧ U.heap = h0) (fun _ _ _ _ _ => True) (fun _ U o U' => ∃ v L, o = .returned v ∧ Q0 n0 v U'.heap L ∧ FrameEnd U o U' L 0 0) := by
  refine MetFree.of_bodySF (plainFor_of_name (by first | (simp [plainName, overriddenIn]; done) | decide +kernel)) hisR ?_
  intro p e s m args below meth c s₁ Bd hml0 hP hK
  obtain ⟨rfl, hZ, hh⟩ := hP
  have hx := Bd.exec
  have hby := Bd.bytes
  have hml : c.maxLocals = 6 := hml0
  have hown : s.vm.findClass "com/example/upright_custodian/uprightcustodian/kmip/TtlvTypeHasFixedLengthPinLaw" = some m.cls := findClass_of_methodNamed Bd.named
  have hnm := (name_of_methodNamed Bd.named Bd.method).1
  have X0 : Stand p l e room_1 s m #[(.int p1)] below meth c s₁ [] 0 0 := Stand.of_body Bd
  have e0 : s₁.heap = h0 := by rw [← hh, Bd.state]; rfl
  have N0 := Fr.nil n0
  have ef : entryFrame m #[(.int p1)] maxLocals = (mkF m 0 #[.val (.int p1), .unset, .unset, .unset, .unset, .unset] []) := by first | (simp [entryFrame, mkF, argsToLocals, Value.category, maxLocals]; done) | rfl
  refine own_start (fun P hPP => ?_)
  refine own_step (T' := s₁) (g' := (mkF m 0 #[.val (.int p1), .unset, .unset, .unset, .unset, .unset] [])) (fun t_ k_ => castTop ef k_) ?_
  refine own_step (T' := s₁) (g' := (mkF m 1 #[.val (.int p1), .unset, .unset, .unset, .unset, .unset] [(.int p1)])) (fun t_ k_ => XS.iloadN X0.here hx rfl (hb hby at_0) rfl k_) ?_
  refine own_step (T' := s₁) (g' := (mkF m 3 #[.val (.int p1), .unset, .unset, .unset, .unset, .unset] [(.int (2147483647 : Int32)), (.int p1)])) (fun t_ k_ => X0.ldcInt hx hown (mvT hZ (hw _ (List.mem_of_getElem? (i := 0) rfl))) (g := (mkF m 1 #[.val (.int p1), .unset, .unset, .unset, .unset, .unset] [(.int p1)])) rfl (hb hby at_1) _ k_) ?_
  refine own_step (T' := s₁) (g' := (mkF m 4 #[.val (.int p1), .unset, .unset, .unset, .unset, .unset] [(.int (p1 &&& (2147483647 : Int32)))])) (fun t_ k_ => XS.iand X0.here hx rfl (hb hby at_3) rfl k_) ?_
  refine own_step (T' := s₁) (g' := (mkF m 6 #[.val (.int p1), .unset, .unset, .unset, .unset, .unset] [(.int (10 : Int32)), (.int (p1 &&& (2147483647 : Int32)))])) (fun t_ k_ => XS.bipush X0.here hx rfl (hb hby at_4) k_) ?_
  refine own_step (T' := s₁) (g' := (mkF m 7 #[.val (.int p1), .unset, .unset, .unset, .unset, .unset] [(.int ((p1 &&& (2147483647 : Int32)) % (10 : Int32)))])) (fun t_ k_ => iremM X0 hx rfl (hb hby at_6) rfl (by decide) k_) ?_
  rw [hk]
  refine own_step (T' := s₁) (g' := (mkF m 8 #[.val (.int p1), .val (.int (3 : Int32)), .unset, .unset, .unset, .unset] [])) (fun t_ k_ => XS.istoreN X0.here hx rfl (hb hby at_7) rfl (l' := #[.val (.int p1), .val (.int (3 : Int32)), .unset, .unset, .unset, .unset]) rfl k_) ?_
  refine own_step (T' := s₁) (g' := (mkF m 9 #[.val (.int p1), .val (.int (3 : Int32)), .unset, .unset, .unset, .unset] [(.int (3 : Int32))])) (fun t_ k_ => XS.iloadN X0.here hx rfl (hb hby at_8) rfl k_) ?_
  obtain ⟨_, _, ⟨T101, L101, k101, n101⟩, -, X101, ⟨Lc101, hQ101, l101, y101, z101⟩, st101⟩ := Jvm.LawKit.callS X0 hx (y := (⟨"com/example/upright_custodian/uprightcustodian/kmip/TtlvTypeHasFixedLengthPinLaw", "pick", "(I)Lcom/example/upright_custodian/uprightcustodian/kmip/TtlvType;"⟩ : MethodName)) hown (mvT hZ (hw _ (List.mem_of_getElem? (i := 1) rfl))) (mvT hZ (hw _ (List.mem_of_getElem? (i := 2) rfl))) (mvT hZ (hw _ (List.mem_of_getElem? (i := 3) rfl))) (mvT hZ (hw _ (List.mem_of_getElem? (i := 4) rfl))) (by decide) (backOf (W := 0) (rm1_3 l Z a0 hw [] A_BIG_INTEGER h0 n0 Z0 S_BIG_INTEGER) hZ (hw _ (List.mem_of_getElem? (i := 4) rfl)) (hw _ (List.mem_of_getElem? (i := 3) rfl)) (by decide) (by decide)) (g := (mkF m 9 #[.val (.int p1), .val (.int (3 : Int32)), .unset, .unset, .unset, .unset] [(.int (3 : Int32))])) rfl (by rw [hml]; rfl) (argsL := [(.int (3 : Int32))]) (rest := []) (lenOf (by decide +kernel : parseMethodDescriptor "(I)Lcom/example/upright_custodian/uprightcustodian/kmip/TtlvType;" = some ⟨[.int], some (.object "com/example/upright_custodian/uprightcustodian/kmip/TtlvType")⟩) rfl) rfl (by show 2 * 0 + _ ≤ _; exact Nat.le_of_eq rfl) (hb hby at_9) (fun _ _ => ⟨rfl, e0, (by decide : 0 + 0 ≤ _), (by decide : 0 + 0 ≤ _)⟩)
  dsimp only [Pt.U, Pt.locs, Pt.cells, Pt.slots] at X101 l101 y101 z101 st101 hQ101
  subst l101 y101 z101
  obtain ⟨rfl, Nq101, e101⟩ := hQ101
  have N101 := Fr.app N0 Nq101
  refine own_step (T' := T101) (g' := (mkF m 12 #[.val (.int p1), .val (.int (3 : Int32)), .unset, .unset, .unset, .unset] [(.ref A_BIG_INTEGER)])) st101 ?_
  refine own_step (T' := T101) (g' := (mkF m 13 #[.val (.int p1), .val (.int (3 : Int32)), .val (.ref A_BIG_INTEGER), .unset, .unset, .unset] [])) (fun t_ k_ => XS.astoreN X101.here hx rfl (hb hby at_12) rfl rfl (l' := #[.val (.int p1), .val (.int (3 : Int32)), .val (.ref A_BIG_INTEGER), .unset, .unset, .unset]) rfl k_) ?_
  refine own_step (T' := T101) (g' := (mkF m 14 #[.val (.int p1), .val (.int (3 : Int32)), .val (.ref A_BIG_INTEGER), .unset, .unset, .unset] [(.int (3 : Int32))])) (fun t_ k_ => XS.iloadN X101.here hx rfl (hb hby at_13) rfl k_) ?_
  refine own_step (T' := T101) (g' := (mkF m 15 #[.val (.int p1), .val (.int (3 : Int32)), .val (.ref A_BIG_INTEGER), .unset, .unset, .unset] [(.int (1 : Int32)), (.int (3 : Int32))])) (fun t_ k_ => XS.iconst X101.here hx rfl (hb hby at_14) k_) ?_
  refine own_step (T' := T101) (g' := (mkF m 18 #[.val (.int p1), .val (.int (3 : Int32)), .val (.ref A_BIG_INTEGER), .unset, .unset, .unset] [])) (fun t_ k_ => XS.icmpNo X101.here hx rfl (hb hby at_15) rfl (feq (by decide)).1 k_) ?_
  refine own_step (T' := T101) (g' := (mkF m 19 #[.val (.int p1), .val (.int (3 : Int32)), .val (.ref A_BIG_INTEGER), .unset, .unset, .unset] [(.int (3 : Int32))])) (fun t_ k_ => XS.iloadN X101.here hx rfl (hb hby at_18) rfl k_) ?_
  refine own_step (T' := T101) (g' := (mkF m 20 #[.val (.int p1), .val (.int (3 : Int32)), .val (.ref A_BIG_INTEGER), .unset, .unset, .unset] [(.int (2 : Int32)), (.int (3 : Int32))])) (fun t_ k_ => XS.iconst X101.here hx rfl (hb hby at_19) k_) ?_
  refine own_step (T' := T101) (g' := (mkF m 23 #[.val (.int p1), .val (.int (3 : Int32)), .val (.ref A_BIG_INTEGER), .unset, .unset, .unset] [])) (fun t_ k_ => XS.icmpNo X101.here hx rfl (hb hby at_20) rfl (feq (by decide)).1 k_) ?_
  refine own_step (T' := T101) (g' := (mkF m 24 #[.val (.int p1), .val (.int (3 : Int32)), .val (.ref A_BIG_INTEGER), .unset, .unset, .unset] [(.int (3 : Int32))])) (fun t_ k_ => XS.iloadN X101.here hx rfl (hb hby at_23) rfl k_) ?_
  refine own_step (T' := T101) (g' := (mkF m 25 #[.val (.int p1), .val (.int (3 : Int32)), .val (.ref A_BIG_INTEGER), .unset, .unset, .unset] [(.int (4 : Int32)), (.int (3 : Int32))])) (fun t_ k_ => XS.iconst X101.here hx rfl (hb hby at_24) k_) ?_
  refine own_step (T' := T101) (g' := (mkF m 28 #[.val (.int p1), .val (.int (3 : Int32)), .val (.ref A_BIG_INTEGER), .unset, .unset, .unset] [])) (fun t_ k_ => XS.icmpNo X101.here hx rfl (hb hby at_25) rfl (feq (by decide)).1 k_) ?_
  refine own_step (T' := T101) (g' := (mkF m 29 #[.val (.int p1), .val (.int (3 : Int32)), .val (.ref A_BIG_INTEGER), .unset, .unset, .unset] [(.int (3 : Int32))])) (fun t_ k_ => XS.iloadN X101.here hx rfl (hb hby at_28) rfl k_) ?_
  refine own_step (T' := T101) (g' := (mkF m 30 #[.val (.int p1), .val (.int (3 : Int32)), .val (.ref A_BIG_INTEGER), .unset, .unset, .unset] [(.int (5 : Int32)), (.int (3 : Int32))])) (fun t_ k_ => XS.iconst X101.here hx rfl (hb hby at_29) k_) ?_
  refine own_step (T' := T101) (g' := (mkF m 33 #[.val (.int p1), .val (.int (3 : Int32)), .val (.ref A_BIG_INTEGER), .unset, .unset, .unset] [])) (fun t_ k_ => XS.icmpNo X101.here hx rfl (hb hby at_30) rfl (feq (by decide)).1 k_) ?_
  refine own_step (T' := T101) (g' := (mkF m 34 #[.val (.int p1), .val (.int (3 : Int32)), .val (.ref A_BIG_INTEGER), .unset, .unset, .unset] [(.int (3 : Int32))])) (fun t_ k_ => XS.iloadN X101.here hx rfl (hb hby at_33) rfl k_) ?_
  refine own_step (T' := T101) (g' := (mkF m 36 #[.val (.int p1), .val (.int (3 : Int32)), .val (.ref A_BIG_INTEGER), .unset, .unset, .unset] [(.int (8 : Int32)), (.int (3 : Int32))])) (fun t_ k_ => XS.bipush X101.here hx rfl (hb hby at_34) k_) ?_
  refine own_step (T' := T101) (g' := (mkF m 39 #[.val (.int p1), .val (.int (3 : Int32)), .val (.ref A_BIG_INTEGER), .unset, .unset, .unset] [])) (fun t_ k_ => XS.icmpNo X101.here hx rfl (hb hby at_36) rfl (feq (by decide)).1 k_) ?_
  refine own_step (T' := T101) (g' := (mkF m 40 #[.val (.int p1), .val (.int (3 : Int32)), .val (.ref A_BIG_INTEGER), .unset, .unset, .unset] [(.int (3 : Int32))])) (fun t_ k_ => XS.iloadN X101.here hx rfl (hb hby at_39) rfl k_) ?_
  refine own_step (T' := T101) (g' := (mkF m 42 #[.val (.int p1), .val (.int (3 : Int32)), .val (.ref A_BIG_INTEGER), .unset, .unset, .unset] [(.int (9 : Int32)), (.int (3 : Int32))])) (fun t_ k_ => XS.bipush X101.here hx rfl (hb hby at_40) k_) ?_
  refine own_step (T' := T101) (g' := (mkF m 49 #[.val (.int p1), .val (.int (3 : Int32)), .val (.ref A_BIG_INTEGER), .unset, .unset, .unset] [])) (fun t_ k_ => XS.icmpYes X101.here hx rfl (pc0 := 42) (pc' := 49) rfl (hb hby at_42) rfl (feq (by decide)).2 (by decide) (by decide) k_) ?_
  refine own_step (T' := T101) (g' := (mkF m 50 #[.val (.int p1), .val (.int (3 : Int32)), .val (.ref A_BIG_INTEGER), .unset, .unset, .unset] [(.int (0 : Int32))])) (fun t_ k_ => XS.iconst X101.here hx rfl (hb hby at_49) k_) ?_
  refine own_step (T' := T101) (g' := (mkF m 51 #[.val (.int p1), .val (.int (3 : Int32)), .val (.ref A_BIG_INTEGER), .val (.int (0 : Int32)), .unset, .unset] [])) (fun t_ k_ => XS.istoreN X101.here hx rfl (hb hby at_50) rfl (l' := #[.val (.int p1), .val (.int (3 : Int32)), .val (.ref A_BIG_INTEGER), .val (.int (0 : Int32)), .unset, .unset]) rfl k_) ?_
  refine own_step (T' := T101) (g' := (mkF m 52 #[.val (.int p1), .val (.int (3 : Int32)), .val (.ref A_BIG_INTEGER), .val (.int (0 : Int32)), .unset, .unset] [(.int (3 : Int32))])) (fun t_ k_ => XS.iloadN X101.here hx rfl (hb hby at_51) rfl k_) ?_
  refine own_step (T' := T101) (g' := (mkF m 53 #[.val (.int p1), .val (.int (3 : Int32)), .val (.ref A_BIG_INTEGER), .val (.int (0 : Int32)), .unset, .unset] [(.int (1 : Int32)), (.int (3 : Int32))])) (fun t_ k_ => XS.iconst X101.here hx rfl (hb hby at_52) k_) ?_
  refine own_step (T' := T101) (g' := (mkF m 56 #[.val (.int p1), .val (.int (3 : Int32)), .val (.ref A_BIG_INTEGER), .val (.int (0 : Int32)), .unset, .unset] [])) (fun t_ k_ => XS.icmpNo X101.here hx rfl (hb hby at_53) rfl (feq (by decide)).1 k_) ?_
  refine own_step (T' := T101) (g' := (mkF m 57 #[.val (.int p1), .val (.int (3 : Int32)), .val (.ref A_BIG_INTEGER), .val (.int (0 : Int32)), .unset, .unset] [(.int (3 : Int32))])) (fun t_ k_ => XS.iloadN X101.here hx rfl (hb hby at_56) rfl k_) ?_
  refine own_step (T' := T101) (g' := (mkF m 58 #[.val (.int p1), .val (.int (3 : Int32)), .val (.ref A_BIG_INTEGER), .val (.int (0 : Int32)), .unset, .unset] [(.int (4 : Int32)), (.int (3 : Int32))])) (fun t_ k_ => XS.iconst X101.here hx rfl (hb hby at_57) k_) ?_
  refine own_step (T' := T101) (g' := (mkF m 61 #[.val (.int p1), .val (.int (3 : Int32)), .val (.ref A_BIG_INTEGER), .val (.int (0 : Int32)), .unset, .unset] [])) (fun t_ k_ => XS.icmpNo X101.here hx rfl (hb hby at_58) rfl (feq (by decide)).1 k_) ?_
  refine own_step (T' := T101) (g' := (mkF m 62 #[.val (.int p1), .val (.int (3 : Int32)), .val (.ref A_BIG_INTEGER), .val (.int (0 : Int32)), .unset, .unset] [(.int (3 : Int32))])) (fun t_ k_ => XS.iloadN X101.here hx rfl (hb hby at_61) rfl k_) ?_
  refine own_step (T' := T101) (g' := (mkF m 64 #[.val (.int p1), .val (.int (3 : Int32)), .val (.ref A_BIG_INTEGER), .val (.int (0 : Int32)), .unset, .unset] [(.int (9 : Int32)), (.int (3 : Int32))])) (fun t_ k_ => XS.bipush X101.here hx rfl (hb hby at_62) k_) ?_
  refine own_step (T' := T101) (g' := (mkF m 71 #[.val (.int p1), .val (.int (3 : Int32)), .val (.ref A_BIG_INTEGER), .val (.int (0 : Int32)), .unset, .unset] [])) (fun t_ k_ => XS.icmpYes X101.here hx rfl (pc0 := 64) (pc' := 71) rfl (hb hby at_64) rfl (feq (by decide)).2 (by decide) (by decide) k_) ?_
  refine own_step (T' := T101) (g' := (mkF m 73 #[.val (.int p1), .val (.int (3 : Int32)), .val (.ref A_BIG_INTEGER), .val (.int (0 : Int32)), .unset, .unset] [(.int (8 : Int32))])) (fun t_ k_ => XS.bipush X101.here hx rfl (hb hby at_71) k_) ?_
  refine own_step (T' := T101) (g' := (mkF m 75 #[.val (.int p1), .val (.int (3 : Int32)), .val (.ref A_BIG_INTEGER), .val (.int (0 : Int32)), .val (.int (8 : Int32)), .unset] [])) (fun t_ k_ => XS.istore X101.here hx rfl (hb hby at_73) rfl (l' := #[.val (.int p1), .val (.int (3 : Int32)), .val (.ref A_BIG_INTEGER), .val (.int (0 : Int32)), .val (.int (8 : Int32)), .unset]) rfl k_) ?_
  refine own_step (T' := T101) (g' := (mkF m 76 #[.val (.int p1), .val (.int (3 : Int32)), .val (.ref A_BIG_INTEGER), .val (.int (0 : Int32)), .val (.int (8 : Int32)), .unset] [(.ref A_BIG_INTEGER)])) (fun t_ k_ => XS.aloadN X101.here hx rfl (hb hby at_75) rfl rfl k_) ?_
  obtain ⟨cq102, kq102, q102a, q102b, q102c⟩ := isOf hZ e101 E_BIG_INTEGER
  obtain ⟨_, _, ⟨T102, L102, k102, n102⟩, -, X102, ⟨Lc102, hQ102, l102, y102, z102⟩, st102⟩ := X101.virtualBack hx (y := (⟨"com/example/upright_custodian/uprightcustodian/kmip/TtlvType", "hasFixedLength", "()Z"⟩ : MethodName)) (z := (⟨"com/example/upright_custodian/uprightcustodian/kmip/TtlvType", "hasFixedLength", "()Z"⟩ : MethodName)) hown (mvT hZ (hw _ (List.mem_of_getElem? (i := 8) rfl))) (mvT hZ (hw _ (List.mem_of_getElem? (i := 9) rfl))) (notFace_of_selects (args := #[]) (mvT hZ (hw _ (List.mem_of_getElem? (i := 11) rfl)))) (mvT hZ (hw _ (List.mem_of_getElem? (i := 11) rfl))) (mvT hZ (hw _ (List.mem_of_getElem? (i := 10) rfl))) (by decide) (backOf (W := 0) (rm2 l Z a0 hw [] A_BIG_INTEGER (-1 : Int32) (0 : Int32) h0 n0 Z0 F_BIG_INTEGER_fixedLength (by decide)) hZ (hw _ (List.mem_of_getElem? (i := 12) rfl)) (hw _ (List.mem_of_getElem? (i := 6) rfl)) (by decide) (by decide)) q102a q102c (g := (mkF m 76 #[.val (.int p1), .val (.int (3 : Int32)), .val (.ref A_BIG_INTEGER), .val (.int (0 : Int32)), .val (.int (8 : Int32)), .unset] [(.ref A_BIG_INTEGER)])) rfl (by rw [hml]; rfl) (Steps.refl _) (argsL := []) (rest := []) (lenOf (by decide +kernel : parseMethodDescriptor "()Z" = some ⟨[], some .boolean⟩) rfl) rfl (by show 2 * 0 + _ ≤ _; exact Nat.le_of_eq rfl) (hb hby at_76) (fun _ _ => ⟨rfl, e101, (by decide : 0 + 0 ≤ _), (by decide : 0 + 0 ≤ _)⟩)
  dsimp only [Pt.U, Pt.locs, Pt.cells, Pt.slots] at X102 l102 y102 z102 st102 hQ102
  subst l102 y102 z102
  obtain ⟨rfl, Nq102, e102⟩ := hQ102
  have N102 := Fr.app N101 Nq102
  refine own_to (T' := T102) (g' := (mkF m 79 #[.val (.int p1), .val (.int (3 : Int32)), .val (.ref A_BIG_INTEGER), .val (.int (0 : Int32)), .val (.int (8 : Int32)), .unset] [(.int (0 : Int32))])) st102 ?_
  refine own_step (T' := T102) (g' := (mkF m 81 #[.val (.int p1), .val (.int (3 : Int32)), .val (.ref A_BIG_INTEGER), .val (.int (0 : Int32)), .val (.int (8 : Int32)), .val (.int (0 : Int32))] [])) (fun t_ k_ => XS.istore X102.here hx rfl (hb hby at_79) rfl (l' := #[.val (.int p1), .val (.int (3 : Int32)), .val (.ref A_BIG_INTEGER), .val (.int (0 : Int32)), .val (.int (8 : Int32)), .val (.int (0 : Int32))]) rfl k_) ?_
  refine own_step (T' := T102) (g' := (mkF m 83 #[.val (.int p1), .val (.int (3 : Int32)), .val (.ref A_BIG_INTEGER), .val (.int (0 : Int32)), .val (.int (8 : Int32)), .val (.int (0 : Int32))] [(.int (0 : Int32))])) (fun t_ k_ => XS.iload X102.here hx rfl (hb hby at_81) rfl k_) ?_
  refine own_step (T' := T102) (g' := (mkF m 84 #[.val (.int p1), .val (.int (3 : Int32)), .val (.ref A_BIG_INTEGER), .val (.int (0 : Int32)), .val (.int (8 : Int32)), .val (.int (0 : Int32))] [(.int (0 : Int32)), (.int (0 : Int32))])) (fun t_ k_ => XS.iloadN X102.here hx rfl (hb hby at_83) rfl k_) ?_
  refine own_step (T' := T102) (g' := (mkF m 89 #[.val (.int p1), .val (.int (3 : Int32)), .val (.ref A_BIG_INTEGER), .val (.int (0 : Int32)), .val (.int (8 : Int32)), .val (.int (0 : Int32))] [])) (fun t_ k_ => XS.icmpYes X102.here hx rfl (pc0 := 84) (pc' := 89) rfl (hb hby at_84) rfl (teq (by decide)).1 (by decide) (by decide) k_) ?_
  refine own_step (T' := T102) (g' := (mkF m 91 #[.val (.int p1), .val (.int (3 : Int32)), .val (.ref A_BIG_INTEGER), .val (.int (0 : Int32)), .val (.int (8 : Int32)), .val (.int (0 : Int32))] [(.int (0 : Int32))])) (fun t_ k_ => XS.iload X102.here hx rfl (hb hby at_89) rfl k_) ?_
  refine own_step (T' := T102) (g' := (mkF m 94 #[.val (.int p1), .val (.int (3 : Int32)), .val (.ref A_BIG_INTEGER), .val (.int (0 : Int32)), .val (.int (8 : Int32)), .val (.int (0 : Int32))] [])) (fun t_ k_ => XS.ifNo X102.here hx rfl (hb hby at_91) rfl ((if0 _ _).trans (teq (by decide)).2) k_) ?_
  refine own_step (T' := T102) (g' := (mkF m 95 #[.val (.int p1), .val (.int (3 : Int32)), .val (.ref A_BIG_INTEGER), .val (.int (0 : Int32)), .val (.int (8 : Int32)), .val (.int (0 : Int32))] [(.int (1 : Int32))])) (fun t_ k_ => XS.iconst X102.here hx rfl (hb hby at_94) k_) ?_
  obtain ⟨fs, hrR, hrun, hended, hWW, hsame⟩ := X102.leave (v := some (.int (1 : Int32))) (fun h => by rw [Bd.returns] at h; cases h)
  refine ⟨_, _, own_retZ X102 hx (t := .boolean) Bd.returns (by simp) (by decide) (hb hby at_95) hrR, hrun, hended, hPP _ _ ⟨_, _, rfl, ?_, ⟨_, rfl⟩, hWW, hsame.mono (by decide) (by decide)⟩⟩
  show Q0 n0 _ T102.heap _
  rw [e102]
  exact ⟨rfl, N102⟩
set_option maxRecDepth 65536 in
set_option maxHeartbeats 40000000 in
theorem rm0_4 (l : Launch) (Z : State) (a0 : Array Value) (hw : ∀ d ∈ tables_1, d.before a0 Z = true) (ws : List Jvm.Cond) (p1 : Int32) (A_ENUMERATION : Addr) (h0 : Heap) (n0 : Nat) (Z0 : n0 ≤ h0.size) (hk : (p1 &&& 2147483647) % 10 = 4) (E_ENUMERATION : Exa Z h0 A_ENUMERATION "com/example/upright_custodian/uprightcustodian/kmip/TtlvType") (S_ENUMERATION : Sta Z h0 "com/example/upright_custodian/uprightcustodian/kmip/TtlvType" "ENUMERATION" "Lcom/example/upright_custodian/uprightcustodian/kmip/TtlvType;" (.ref A_ENUMERATION)) (F_ENUMERATION_fixedLength : Fld Z h0 A_ENUMERATION "com/example/upright_custodian/uprightcustodian/kmip/TtlvType" "fixedLength" "I" (.int (4 : Int32))) :
    MetFree l x (head1 (Jvm.Cond.code x code maxLocals ret :: ws) room_1) (fun a U => a = #[(.int p1)] ∧ Z.Warmed39 U.vm ∧ U.heap = h0) (fun _ _ _ _ _ => True) (fun _ U o U' => ∃ v L, o = .returned v ∧ Q0 n0 v U'.heap L ∧ FrameEnd U o U' L 0 0) := by
  refine MetFree.of_bodySF (plainFor_of_name (by first | (simp [plainName, overriddenIn]; done) | decide +kernel)) hisR ?_
  intro p e s m args below meth c s₁ Bd hml0 hP hK
  obtain ⟨rfl, hZ, hh⟩ := hP
  have hx := Bd.exec
  have hby := Bd.bytes
  have hml : c.maxLocals = 6 := hml0
  have hown : s.vm.findClass "com/example/upright_custodian/uprightcustodian/kmip/TtlvTypeHasFixedLengthPinLaw" = some m.cls := findClass_of_methodNamed Bd.named
  have hnm := (name_of_methodNamed Bd.named Bd.method).1
  have X0 : Stand p l e room_1 s m #[(.int p1)] below meth c s₁ [] 0 0 := Stand.of_body Bd
  have e0 : s₁.heap = h0 := by rw [← hh, Bd.state]; rfl
  have N0 := Fr.nil n0
  have ef : entryFrame m #[(.int p1)] maxLocals = (mkF m 0 #[.val (.int p1), .unset, .unset, .unset, .unset, .unset] []) := by first | (simp [entryFrame, mkF, argsToLocals, Value.category, maxLocals]; done) | rfl
  refine own_start (fun P hPP => ?_)
  refine own_step (T' := s₁) (g' := (mkF m 0 #[.val (.int p1), .unset, .unset, .unset, .unset, .unset] [])) (fun t_ k_ => castTop ef k_) ?_
  refine own_step (T' := s₁) (g' := (mkF m 1 #[.val (.int p1), .unset, .unset, .unset, .unset, .unset] [(.int p1)])) (fun t_ k_ => XS.iloadN X0.here hx rfl (hb hby at_0) rfl k_) ?_
  refine own_step (T' := s₁) (g' := (mkF m 3 #[.val (.int p1), .unset, .unset, .unset, .unset, .unset] [(.int (2147483647 : Int32)), (.int p1)])) (fun t_ k_ => X0.ldcInt hx hown (mvT hZ (hw _ (List.mem_of_getElem? (i := 0) rfl))) (g := (mkF m 1 #[.val (.int p1), .unset, .unset, .unset, .unset, .unset] [(.int p1)])) rfl (hb hby at_1) _ k_) ?_
  refine own_step (T' := s₁) (g' := (mkF m 4 #[.val (.int p1), .unset, .unset, .unset, .unset, .unset] [(.int (p1 &&& (2147483647 : Int32)))])) (fun t_ k_ => XS.iand X0.here hx rfl (hb hby at_3) rfl k_) ?_
  refine own_step (T' := s₁) (g' := (mkF m 6 #[.val (.int p1), .unset, .unset, .unset, .unset, .unset] [(.int (10 : Int32)), (.int (p1 &&& (2147483647 : Int32)))])) (fun t_ k_ => XS.bipush X0.here hx rfl (hb hby at_4) k_) ?_
  refine own_step (T' := s₁) (g' := (mkF m 7 #[.val (.int p1), .unset, .unset, .unset, .unset, .unset] [(.int ((p1 &&& (2147483647 : Int32)) % (10 : Int32)))])) (fun t_ k_ => iremM X0 hx rfl (hb hby at_6) rfl (by decide) k_) ?_
  rw [hk]
  refine own_step (T' := s₁) (g' := (mkF m 8 #[.val (.int p1), .val (.int (4 : Int32)), .unset, .unset, .unset, .unset] [])) (fun t_ k_ => XS.istoreN X0.here hx rfl (hb hby at_7) rfl (l' := #[.val (.int p1), .val (.int (4 : Int32)), .unset, .unset, .unset, .unset]) rfl k_) ?_
  refine own_step (T' := s₁) (g' := (mkF m 9 #[.val (.int p1), .val (.int (4 : Int32)), .unset, .unset, .unset, .unset] [(.int (4 : Int32))])) (fun t_ k_ => XS.iloadN X0.here hx rfl (hb hby at_8) rfl k_) ?_
  obtain ⟨_, _, ⟨T101, L101, k101, n101⟩, -, X101, ⟨Lc101, hQ101, l101, y101, z101⟩, st101⟩ := Jvm.LawKit.callS X0 hx (y := (⟨"com/example/upright_custodian/uprightcustodian/kmip/TtlvTypeHasFixedLengthPinLaw", "pick", "(I)Lcom/example/upright_custodian/uprightcustodian/kmip/TtlvType;"⟩ : MethodName)) hown (mvT hZ (hw _ (List.mem_of_getElem? (i := 1) rfl))) (mvT hZ (hw _ (List.mem_of_getElem? (i := 2) rfl))) (mvT hZ (hw _ (List.mem_of_getElem? (i := 3) rfl))) (mvT hZ (hw _ (List.mem_of_getElem? (i := 4) rfl))) (by decide) (backOf (W := 0) (rm1_4 l Z a0 hw [] A_ENUMERATION h0 n0 Z0 S_ENUMERATION) hZ (hw _ (List.mem_of_getElem? (i := 4) rfl)) (hw _ (List.mem_of_getElem? (i := 3) rfl)) (by decide) (by decide)) (g := (mkF m 9 #[.val (.int p1), .val (.int (4 : Int32)), .unset, .unset, .unset, .unset] [(.int (4 : Int32))])) rfl (by rw [hml]; rfl) (argsL := [(.int (4 : Int32))]) (rest := []) (lenOf (by decide +kernel : parseMethodDescriptor "(I)Lcom/example/upright_custodian/uprightcustodian/kmip/TtlvType;" = some ⟨[.int], some (.object "com/example/upright_custodian/uprightcustodian/kmip/TtlvType")⟩) rfl) rfl (by show 2 * 0 + _ ≤ _; exact Nat.le_of_eq rfl) (hb hby at_9) (fun _ _ => ⟨rfl, e0, (by decide : 0 + 0 ≤ _), (by decide : 0 + 0 ≤ _)⟩)
  dsimp only [Pt.U, Pt.locs, Pt.cells, Pt.slots] at X101 l101 y101 z101 st101 hQ101
  subst l101 y101 z101
  obtain ⟨rfl, Nq101, e101⟩ := hQ101
  have N101 := Fr.app N0 Nq101
  refine own_step (T' := T101) (g' := (mkF m 12 #[.val (.int p1), .val (.int (4 : Int32)), .unset, .unset, .unset, .unset] [(.ref A_ENUMERATION)])) st101 ?_
  refine own_step (T' := T101) (g' := (mkF m 13 #[.val (.int p1), .val (.int (4 : Int32)), .val (.ref A_ENUMERATION), .unset, .unset, .unset] [])) (fun t_ k_ => XS.astoreN X101.here hx rfl (hb hby at_12) rfl rfl (l' := #[.val (.int p1), .val (.int (4 : Int32)), .val (.ref A_ENUMERATION), .unset, .unset, .unset]) rfl k_) ?_
  refine own_step (T' := T101) (g' := (mkF m 14 #[.val (.int p1), .val (.int (4 : Int32)), .val (.ref A_ENUMERATION), .unset, .unset, .unset] [(.int (4 : Int32))])) (fun t_ k_ => XS.iloadN X101.here hx rfl (hb hby at_13) rfl k_) ?_
  refine own_step (T' := T101) (g' := (mkF m 15 #[.val (.int p1), .val (.int (4 : Int32)), .val (.ref A_ENUMERATION), .unset, .unset, .unset] [(.int (1 : Int32)), (.int (4 : Int32))])) (fun t_ k_ => XS.iconst X101.here hx rfl (hb hby at_14) k_) ?_
  refine own_step (T' := T101) (g' := (mkF m 18 #[.val (.int p1), .val (.int (4 : Int32)), .val (.ref A_ENUMERATION), .unset, .unset, .unset] [])) (fun t_ k_ => XS.icmpNo X101.here hx rfl (hb hby at_15) rfl (feq (by decide)).1 k_) ?_
  refine own_step (T' := T101) (g' := (mkF m 19 #[.val (.int p1), .val (.int (4 : Int32)), .val (.ref A_ENUMERATION), .unset, .unset, .unset] [(.int (4 : Int32))])) (fun t_ k_ => XS.iloadN X101.here hx rfl (hb hby at_18) rfl k_) ?_
  refine own_step (T' := T101) (g' := (mkF m 20 #[.val (.int p1), .val (.int (4 : Int32)), .val (.ref A_ENUMERATION), .unset, .unset, .unset] [(.int (2 : Int32)), (.int (4 : Int32))])) (fun t_ k_ => XS.iconst X101.here hx rfl (hb hby at_19) k_) ?_
  refine own_step (T' := T101) (g' := (mkF m 23 #[.val (.int p1), .val (.int (4 : Int32)), .val (.ref A_ENUMERATION), .unset, .unset, .unset] [])) (fun t_ k_ => XS.icmpNo X101.here hx rfl (hb hby at_20) rfl (feq (by decide)).1 k_) ?_
  refine own_step (T' := T101) (g' := (mkF m 24 #[.val (.int p1), .val (.int (4 : Int32)), .val (.ref A_ENUMERATION), .unset, .unset, .unset] [(.int (4 : Int32))])) (fun t_ k_ => XS.iloadN X101.here hx rfl (hb hby at_23) rfl k_) ?_
  refine own_step (T' := T101) (g' := (mkF m 25 #[.val (.int p1), .val (.int (4 : Int32)), .val (.ref A_ENUMERATION), .unset, .unset, .unset] [(.int (4 : Int32)), (.int (4 : Int32))])) (fun t_ k_ => XS.iconst X101.here hx rfl (hb hby at_24) k_) ?_
  refine own_step (T' := T101) (g' := (mkF m 45 #[.val (.int p1), .val (.int (4 : Int32)), .val (.ref A_ENUMERATION), .unset, .unset, .unset] [])) (fun t_ k_ => XS.icmpYes X101.here hx rfl (pc0 := 25) (pc' := 45) rfl (hb hby at_25) rfl (teq (by decide)).1 (by decide) (by decide) k_) ?_
  refine own_step (T' := T101) (g' := (mkF m 46 #[.val (.int p1), .val (.int (4 : Int32)), .val (.ref A_ENUMERATION), .unset, .unset, .unset] [(.int (1 : Int32))])) (fun t_ k_ => XS.iconst X101.here hx rfl (hb hby at_45) k_) ?_
  refine own_step (T' := T101) (g' := (mkF m 50 #[.val (.int p1), .val (.int (4 : Int32)), .val (.ref A_ENUMERATION), .unset, .unset, .unset] [(.int (1 : Int32))])) (fun t_ k_ => XS.goto X101.here hx rfl (pc0 := 46) (pc' := 50) rfl (hb hby at_46) (by decide) (by decide) k_) ?_
  refine own_step (T' := T101) (g' := (mkF m 51 #[.val (.int p1), .val (.int (4 : Int32)), .val (.ref A_ENUMERATION), .val (.int (1 : Int32)), .unset, .unset] [])) (fun t_ k_ => XS.istoreN X101.here hx rfl (hb hby at_50) rfl (l' := #[.val (.int p1), .val (.int (4 : Int32)), .val (.ref A_ENUMERATION), .val (.int (1 : Int32)), .unset, .unset]) rfl k_) ?_
  refine own_step (T' := T101) (g' := (mkF m 52 #[.val (.int p1), .val (.int (4 : Int32)), .val (.ref A_ENUMERATION), .val (.int (1 : Int32)), .unset, .unset] [(.int (4 : Int32))])) (fun t_ k_ => XS.iloadN X101.here hx rfl (hb hby at_51) rfl k_) ?_
  refine own_step (T' := T101) (g' := (mkF m 53 #[.val (.int p1), .val (.int (4 : Int32)), .val (.ref A_ENUMERATION), .val (.int (1 : Int32)), .unset, .unset] [(.int (1 : Int32)), (.int (4 : Int32))])) (fun t_ k_ => XS.iconst X101.here hx rfl (hb hby at_52) k_) ?_
  refine own_step (T' := T101) (g' := (mkF m 56 #[.val (.int p1), .val (.int (4 : Int32)), .val (.ref A_ENUMERATION), .val (.int (1 : Int32)), .unset, .unset] [])) (fun t_ k_ => XS.icmpNo X101.here hx rfl (hb hby at_53) rfl (feq (by decide)).1 k_) ?_
  refine own_step (T' := T101) (g' := (mkF m 57 #[.val (.int p1), .val (.int (4 : Int32)), .val (.ref A_ENUMERATION), .val (.int (1 : Int32)), .unset, .unset] [(.int (4 : Int32))])) (fun t_ k_ => XS.iloadN X101.here hx rfl (hb hby at_56) rfl k_) ?_
  refine own_step (T' := T101) (g' := (mkF m 58 #[.val (.int p1), .val (.int (4 : Int32)), .val (.ref A_ENUMERATION), .val (.int (1 : Int32)), .unset, .unset] [(.int (4 : Int32)), (.int (4 : Int32))])) (fun t_ k_ => XS.iconst X101.here hx rfl (hb hby at_57) k_) ?_
  refine own_step (T' := T101) (g' := (mkF m 67 #[.val (.int p1), .val (.int (4 : Int32)), .val (.ref A_ENUMERATION), .val (.int (1 : Int32)), .unset, .unset] [])) (fun t_ k_ => XS.icmpYes X101.here hx rfl (pc0 := 58) (pc' := 67) rfl (hb hby at_58) rfl (teq (by decide)).1 (by decide) (by decide) k_) ?_
  refine own_step (T' := T101) (g' := (mkF m 68 #[.val (.int p1), .val (.int (4 : Int32)), .val (.ref A_ENUMERATION), .val (.int (1 : Int32)), .unset, .unset] [(.int (4 : Int32))])) (fun t_ k_ => XS.iconst X101.here hx rfl (hb hby at_67) k_) ?_
  refine own_step (T' := T101) (g' := (mkF m 73 #[.val (.int p1), .val (.int (4 : Int32)), .val (.ref A_ENUMERATION), .val (.int (1 : Int32)), .unset, .unset] [(.int (4 : Int32))])) (fun t_ k_ => XS.goto X101.here hx rfl (pc0 := 68) (pc' := 73) rfl (hb hby at_68) (by decide) (by decide) k_) ?_
  refine own_step (T' := T101) (g' := (mkF m 75 #[.val (.int p1), .val (.int (4 : Int32)), .val (.ref A_ENUMERATION), .val (.int (1 : Int32)), .val (.int (4 : Int32)), .unset] [])) (fun t_ k_ => XS.istore X101.here hx rfl (hb hby at_73) rfl (l' := #[.val (.int p1), .val (.int (4 : Int32)), .val (.ref A_ENUMERATION), .val (.int (1 : Int32)), .val (.int (4 : Int32)), .unset]) rfl k_) ?_
  refine own_step (T' := T101) (g' := (mkF m 76 #[.val (.int p1), .val (.int (4 : Int32)), .val (.ref A_ENUMERATION), .val (.int (1 : Int32)), .val (.int (4 : Int32)), .unset] [(.ref A_ENUMERATION)])) (fun t_ k_ => XS.aloadN X101.here hx rfl (hb hby at_75) rfl rfl k_) ?_
  obtain ⟨cq102, kq102, q102a, q102b, q102c⟩ := isOf hZ e101 E_ENUMERATION
  obtain ⟨_, _, ⟨T102, L102, k102, n102⟩, -, X102, ⟨Lc102, hQ102, l102, y102, z102⟩, st102⟩ := X101.virtualBack hx (y := (⟨"com/example/upright_custodian/uprightcustodian/kmip/TtlvType", "hasFixedLength", "()Z"⟩ : MethodName)) (z := (⟨"com/example/upright_custodian/uprightcustodian/kmip/TtlvType", "hasFixedLength", "()Z"⟩ : MethodName)) hown (mvT hZ (hw _ (List.mem_of_getElem? (i := 8) rfl))) (mvT hZ (hw _ (List.mem_of_getElem? (i := 9) rfl))) (notFace_of_selects (args := #[]) (mvT hZ (hw _ (List.mem_of_getElem? (i := 11) rfl)))) (mvT hZ (hw _ (List.mem_of_getElem? (i := 11) rfl))) (mvT hZ (hw _ (List.mem_of_getElem? (i := 10) rfl))) (by decide) (backOf (W := 0) (rm2 l Z a0 hw [] A_ENUMERATION (4 : Int32) (1 : Int32) h0 n0 Z0 F_ENUMERATION_fixedLength (by decide)) hZ (hw _ (List.mem_of_getElem? (i := 12) rfl)) (hw _ (List.mem_of_getElem? (i := 6) rfl)) (by decide) (by decide)) q102a q102c (g := (mkF m 76 #[.val (.int p1), .val (.int (4 : Int32)), .val (.ref A_ENUMERATION), .val (.int (1 : Int32)), .val (.int (4 : Int32)), .unset] [(.ref A_ENUMERATION)])) rfl (by rw [hml]; rfl) (Steps.refl _) (argsL := []) (rest := []) (lenOf (by decide +kernel : parseMethodDescriptor "()Z" = some ⟨[], some .boolean⟩) rfl) rfl (by show 2 * 0 + _ ≤ _; exact Nat.le_of_eq rfl) (hb hby at_76) (fun _ _ => ⟨rfl, e101, (by decide : 0 + 0 ≤ _), (by decide : 0 + 0 ≤ _)⟩)
  dsimp only [Pt.U, Pt.locs, Pt.cells, Pt.slots] at X102 l102 y102 z102 st102 hQ102
  subst l102 y102 z102
  obtain ⟨rfl, Nq102, e102⟩ := hQ102
  have N102 := Fr.app N101 Nq102
  refine own_to (T' := T102) (g' := (mkF m 79 #[.val (.int p1), .val (.int (4 : Int32)), .val (.ref A_ENUMERATION), .val (.int (1 : Int32)), .val (.int (4 : Int32)), .unset] [(.int (1 : Int32))])) st102 ?_
  refine own_step (T' := T102) (g' := (mkF m 81 #[.val (.int p1), .val (.int (4 : Int32)), .val (.ref A_ENUMERATION), .val (.int (1 : Int32)), .val (.int (4 : Int32)), .val (.int (1 : Int32))] [])) (fun t_ k_ => XS.istore X102.here hx rfl (hb hby at_79) rfl (l' := #[.val (.int p1), .val (.int (4 : Int32)), .val (.ref A_ENUMERATION), .val (.int (1 : Int32)), .val (.int (4 : Int32)), .val (.int (1 : Int32))]) rfl k_) ?_
  refine own_step (T' := T102) (g' := (mkF m 83 #[.val (.int p1), .val (.int (4 : Int32)), .val (.ref A_ENUMERATION), .val (.int (1 : Int32)), .val (.int (4 : Int32)), .val (.int (1 : Int32))] [(.int (1 : Int32))])) (fun t_ k_ => XS.iload X102.here hx rfl (hb hby at_81) rfl k_) ?_
  refine own_step (T' := T102) (g' := (mkF m 84 #[.val (.int p1), .val (.int (4 : Int32)), .val (.ref A_ENUMERATION), .val (.int (1 : Int32)), .val (.int (4 : Int32)), .val (.int (1 : Int32))] [(.int (1 : Int32)), (.int (1 : Int32))])) (fun t_ k_ => XS.iloadN X102.here hx rfl (hb hby at_83) rfl k_) ?_
  refine own_step (T' := T102) (g' := (mkF m 89 #[.val (.int p1), .val (.int (4 : Int32)), .val (.ref A_ENUMERATION), .val (.int (1 : Int32)), .val (.int (4 : Int32)), .val (.int (1 : Int32))] [])) (fun t_ k_ => XS.icmpYes X102.here hx rfl (pc0 := 84) (pc' := 89) rfl (hb hby at_84) rfl (teq (by decide)).1 (by decide) (by decide) k_) ?_
  refine own_step (T' := T102) (g' := (mkF m 91 #[.val (.int p1), .val (.int (4 : Int32)), .val (.ref A_ENUMERATION), .val (.int (1 : Int32)), .val (.int (4 : Int32)), .val (.int (1 : Int32))] [(.int (1 : Int32))])) (fun t_ k_ => XS.iload X102.here hx rfl (hb hby at_89) rfl k_) ?_
  refine own_step (T' := T102) (g' := (mkF m 96 #[.val (.int p1), .val (.int (4 : Int32)), .val (.ref A_ENUMERATION), .val (.int (1 : Int32)), .val (.int (4 : Int32)), .val (.int (1 : Int32))] [])) (fun t_ k_ => XS.ifYes X102.here hx rfl (pc0 := 91) (pc' := 96) rfl (hb hby at_91) rfl ((if0 _ _).trans (feq (by decide)).2) (by decide) (by decide) k_) ?_
  refine own_step (T' := T102) (g' := (mkF m 97 #[.val (.int p1), .val (.int (4 : Int32)), .val (.ref A_ENUMERATION), .val (.int (1 : Int32)), .val (.int (4 : Int32)), .val (.int (1 : Int32))] [(.ref A_ENUMERATION)])) (fun t_ k_ => XS.aloadN X102.here hx rfl (hb hby at_96) rfl rfl k_) ?_
  obtain ⟨cq103, kq103, q103a, q103b, q103c⟩ := isOf hZ e102 E_ENUMERATION
  obtain ⟨_, _, ⟨T103, L103, k103, n103⟩, -, X103, ⟨Lc103, hQ103, l103, y103, z103⟩, st103⟩ := X102.virtualBack hx (y := (⟨"com/example/upright_custodian/uprightcustodian/kmip/TtlvType", "fixedLength", "()I"⟩ : MethodName)) (z := (⟨"com/example/upright_custodian/uprightcustodian/kmip/TtlvType", "fixedLength", "()I"⟩ : MethodName)) hown (mvT hZ (hw _ (List.mem_of_getElem? (i := 19) rfl))) (mvT hZ (hw _ (List.mem_of_getElem? (i := 20) rfl))) (notFace_of_selects (args := #[]) (mvT hZ (hw _ (List.mem_of_getElem? (i := 22) rfl)))) (mvT hZ (hw _ (List.mem_of_getElem? (i := 22) rfl))) (mvT hZ (hw _ (List.mem_of_getElem? (i := 21) rfl))) (by decide) (backOf (W := 0) (rm3 l Z a0 hw [] A_ENUMERATION (4 : Int32) h0 n0 Z0 F_ENUMERATION_fixedLength E_ENUMERATION (by decide)) hZ (hw _ (List.mem_of_getElem? (i := 23) rfl)) (hw _ (List.mem_of_getElem? (i := 6) rfl)) (by decide) (by decide)) q103a q103c (g := (mkF m 97 #[.val (.int p1), .val (.int (4 : Int32)), .val (.ref A_ENUMERATION), .val (.int (1 : Int32)), .val (.int (4 : Int32)), .val (.int (1 : Int32))] [(.ref A_ENUMERATION)])) rfl (by rw [hml]; rfl) (Steps.refl _) (argsL := []) (rest := []) (lenOf (by decide +kernel : parseMethodDescriptor "()I" = some ⟨[], some .int⟩) rfl) rfl (by show 2 * 0 + _ ≤ _; exact Nat.le_of_eq rfl) (hb hby at_97) (fun _ _ => ⟨rfl, e102, (by decide : 0 + 0 ≤ _), (by decide : 0 + 0 ≤ _)⟩)
  dsimp only [Pt.U, Pt.locs, Pt.cells, Pt.slots] at X103 l103 y103 z103 st103 hQ103
  subst l103 y103 z103
  obtain ⟨rfl, Nq103, e103⟩ := hQ103
  have N103 := Fr.app N102 Nq103
  refine own_to (T' := T103) (g' := (mkF m 100 #[.val (.int p1), .val (.int (4 : Int32)), .val (.ref A_ENUMERATION), .val (.int (1 : Int32)), .val (.int (4 : Int32)), .val (.int (1 : Int32))] [(.int (4 : Int32))])) st103 ?_
  refine own_step (T' := T103) (g' := (mkF m 102 #[.val (.int p1), .val (.int (4 : Int32)), .val (.ref A_ENUMERATION), .val (.int (1 : Int32)), .val (.int (4 : Int32)), .val (.int (1 : Int32))] [(.int (4 : Int32)), (.int (4 : Int32))])) (fun t_ k_ => XS.iload X103.here hx rfl (hb hby at_100) rfl k_) ?_
  refine own_step (T' := T103) (g' := (mkF m 105 #[.val (.int p1), .val (.int (4 : Int32)), .val (.ref A_ENUMERATION), .val (.int (1 : Int32)), .val (.int (4 : Int32)), .val (.int (1 : Int32))] [])) (fun t_ k_ => XS.icmpNo X103.here hx rfl (hb hby at_102) rfl (teq (by decide)).2 k_) ?_
  refine own_step (T' := T103) (g' := (mkF m 106 #[.val (.int p1), .val (.int (4 : Int32)), .val (.ref A_ENUMERATION), .val (.int (1 : Int32)), .val (.int (4 : Int32)), .val (.int (1 : Int32))] [(.int (1 : Int32))])) (fun t_ k_ => XS.iconst X103.here hx rfl (hb hby at_105) k_) ?_
  refine own_step (T' := T103) (g' := (mkF m 110 #[.val (.int p1), .val (.int (4 : Int32)), .val (.ref A_ENUMERATION), .val (.int (1 : Int32)), .val (.int (4 : Int32)), .val (.int (1 : Int32))] [(.int (1 : Int32))])) (fun t_ k_ => XS.goto X103.here hx rfl (pc0 := 106) (pc' := 110) rfl (hb hby at_106) (by decide) (by decide) k_) ?_
  obtain ⟨fs, hrR, hrun, hended, hWW, hsame⟩ := X103.leave (v := some (.int (1 : Int32))) (fun h => by rw [Bd.returns] at h; cases h)
  refine ⟨_, _, own_retZ X103 hx (t := .boolean) Bd.returns (by simp) (by decide) (hb hby at_110) hrR, hrun, hended, hPP _ _ ⟨_, _, rfl, ?_, ⟨_, rfl⟩, hWW, hsame.mono (by decide) (by decide)⟩⟩
  show Q0 n0 _ T103.heap _
  rw [e103]
  exact ⟨rfl, N103⟩
set_option maxRecDepth 65536 in
set_option maxHeartbeats 40000000 in
theorem rm0_5 (l : Launch) (Z : State) (a0 : Array Value) (hw : ∀ d ∈ tables_1, d.before a0 Z = true) (ws : List Jvm.Cond) (p1 : Int32) (A_BOOLEAN : Addr) (h0 : Heap) (n0 : Nat) (Z0 : n0 ≤ h0.size) (hk : (p1 &&& 2147483647) % 10 = 5) (E_BOOLEAN : Exa Z h0 A_BOOLEAN "com/example/upright_custodian/uprightcustodian/kmip/TtlvType") (S_BOOLEAN : Sta Z h0 "com/example/upright_custodian/uprightcustodian/kmip/TtlvType" "BOOLEAN" "Lcom/example/upright_custodian/uprightcustodian/kmip/TtlvType;" (.ref A_BOOLEAN)) (F_BOOLEAN_fixedLength : Fld Z h0 A_BOOLEAN "com/example/upright_custodian/uprightcustodian/kmip/TtlvType" "fixedLength" "I" (.int (8 : Int32))) :
    MetFree l x (head1 (Jvm.Cond.code x code maxLocals ret :: ws) room_1) (fun a U => a = #[(.int p1)] ∧ Z.Warmed39 U.vm ∧ U.heap = h0) (fun _ _ _ _ _ => True) (fun _ U o U' => ∃ v L, o = .returned v ∧ Q0 n0 v U'.heap L ∧ FrameEnd U o U' L 0 0) := by
  refine MetFree.of_bodySF (plainFor_of_name (by first | (simp [plainName, overriddenIn]; done) | decide +kernel)) hisR ?_
  intro p e s m args below meth c s₁ Bd hml0 hP hK
  obtain ⟨rfl, hZ, hh⟩ := hP
  have hx := Bd.exec
  have hby := Bd.bytes
  have hml : c.maxLocals = 6 := hml0
  have hown : s.vm.findClass "com/example/upright_custodian/uprightcustodian/kmip/TtlvTypeHasFixedLengthPinLaw" = some m.cls := findClass_of_methodNamed Bd.named
  have hnm := (name_of_methodNamed Bd.named Bd.method).1
  have X0 : Stand p l e room_1 s m #[(.int p1)] below meth c s₁ [] 0 0 := Stand.of_body Bd
  have e0 : s₁.heap = h0 := by rw [← hh, Bd.state]; rfl
  have N0 := Fr.nil n0
  have ef : entryFrame m #[(.int p1)] maxLocals = (mkF m 0 #[.val (.int p1), .unset, .unset, .unset, .unset, .unset] []) := by first | (simp [entryFrame, mkF, argsToLocals, Value.category, maxLocals]; done) | rfl
  refine own_start (fun P hPP => ?_)
  refine own_step (T' := s₁) (g' := (mkF m 0 #[.val (.int p1), .unset, .unset, .unset, .unset, .unset] [])) (fun t_ k_ => castTop ef k_) ?_
  refine own_step (T' := s₁) (g' := (mkF m 1 #[.val (.int p1), .unset, .unset, .unset, .unset, .unset] [(.int p1)])) (fun t_ k_ => XS.iloadN X0.here hx rfl (hb hby at_0) rfl k_) ?_
  refine own_step (T' := s₁) (g' := (mkF m 3 #[.val (.int p1), .unset, .unset, .unset, .unset, .unset] [(.int (2147483647 : Int32)), (.int p1)])) (fun t_ k_ => X0.ldcInt hx hown (mvT hZ (hw _ (List.mem_of_getElem? (i := 0) rfl))) (g := (mkF m 1 #[.val (.int p1), .unset, .unset, .unset, .unset, .unset] [(.int p1)])) rfl (hb hby at_1) _ k_) ?_
  refine own_step (T' := s₁) (g' := (mkF m 4 #[.val (.int p1), .unset, .unset, .unset, .unset, .unset] [(.int (p1 &&& (2147483647 : Int32)))])) (fun t_ k_ => XS.iand X0.here hx rfl (hb hby at_3) rfl k_) ?_
  refine own_step (T' := s₁) (g' := (mkF m 6 #[.val (.int p1), .unset, .unset, .unset, .unset, .unset] [(.int (10 : Int32)), (.int (p1 &&& (2147483647 : Int32)))])) (fun t_ k_ => XS.bipush X0.here hx rfl (hb hby at_4) k_) ?_
  refine own_step (T' := s₁) (g' := (mkF m 7 #[.val (.int p1), .unset, .unset, .unset, .unset, .unset] [(.int ((p1 &&& (2147483647 : Int32)) % (10 : Int32)))])) (fun t_ k_ => iremM X0 hx rfl (hb hby at_6) rfl (by decide) k_) ?_
  rw [hk]
  refine own_step (T' := s₁) (g' := (mkF m 8 #[.val (.int p1), .val (.int (5 : Int32)), .unset, .unset, .unset, .unset] [])) (fun t_ k_ => XS.istoreN X0.here hx rfl (hb hby at_7) rfl (l' := #[.val (.int p1), .val (.int (5 : Int32)), .unset, .unset, .unset, .unset]) rfl k_) ?_
  refine own_step (T' := s₁) (g' := (mkF m 9 #[.val (.int p1), .val (.int (5 : Int32)), .unset, .unset, .unset, .unset] [(.int (5 : Int32))])) (fun t_ k_ => XS.iloadN X0.here hx rfl (hb hby at_8) rfl k_) ?_
  obtain ⟨_, _, ⟨T101, L101, k101, n101⟩, -, X101, ⟨Lc101, hQ101, l101, y101, z101⟩, st101⟩ := Jvm.LawKit.callS X0 hx (y := (⟨"com/example/upright_custodian/uprightcustodian/kmip/TtlvTypeHasFixedLengthPinLaw", "pick", "(I)Lcom/example/upright_custodian/uprightcustodian/kmip/TtlvType;"⟩ : MethodName)) hown (mvT hZ (hw _ (List.mem_of_getElem? (i := 1) rfl))) (mvT hZ (hw _ (List.mem_of_getElem? (i := 2) rfl))) (mvT hZ (hw _ (List.mem_of_getElem? (i := 3) rfl))) (mvT hZ (hw _ (List.mem_of_getElem? (i := 4) rfl))) (by decide) (backOf (W := 0) (rm1_5 l Z a0 hw [] A_BOOLEAN h0 n0 Z0 S_BOOLEAN) hZ (hw _ (List.mem_of_getElem? (i := 4) rfl)) (hw _ (List.mem_of_getElem? (i := 3) rfl)) (by decide) (by decide)) (g := (mkF m 9 #[.val (.int p1), .val (.int (5 : Int32)), .unset, .unset, .unset, .unset] [(.int (5 : Int32))])) rfl (by rw [hml]; rfl) (argsL := [(.int (5 : Int32))]) (rest := []) (lenOf (by decide +kernel : parseMethodDescriptor "(I)Lcom/example/upright_custodian/uprightcustodian/kmip/TtlvType;" = some ⟨[.int], some (.object "com/example/upright_custodian/uprightcustodian/kmip/TtlvType")⟩) rfl) rfl (by show 2 * 0 + _ ≤ _; exact Nat.le_of_eq rfl) (hb hby at_9) (fun _ _ => ⟨rfl, e0, (by decide : 0 + 0 ≤ _), (by decide : 0 + 0 ≤ _)⟩)
  dsimp only [Pt.U, Pt.locs, Pt.cells, Pt.slots] at X101 l101 y101 z101 st101 hQ101
  subst l101 y101 z101
  obtain ⟨rfl, Nq101, e101⟩ := hQ101
  have N101 := Fr.app N0 Nq101
  refine own_step (T' := T101) (g' := (mkF m 12 #[.val (.int p1), .val (.int (5 : Int32)), .unset, .unset, .unset, .unset] [(.ref A_BOOLEAN)])) st101 ?_
  refine own_step (T' := T101) (g' := (mkF m 13 #[.val (.int p1), .val (.int (5 : Int32)), .val (.ref A_BOOLEAN), .unset, .unset, .unset] [])) (fun t_ k_ => XS.astoreN X101.here hx rfl (hb hby at_12) rfl rfl (l' := #[.val (.int p1), .val (.int (5 : Int32)), .val (.ref A_BOOLEAN), .unset, .unset, .unset]) rfl k_) ?_
  refine own_step (T' := T101) (g' := (mkF m 14 #[.val (.int p1), .val (.int (5 : Int32)), .val (.ref A_BOOLEAN), .unset, .unset, .unset] [(.int (5 : Int32))])) (fun t_ k_ => XS.iloadN X101.here hx rfl (hb hby at_13) rfl k_) ?_
  refine own_step (T' := T101) (g' := (mkF m 15 #[.val (.int p1), .val (.int (5 : Int32)), .val (.ref A_BOOLEAN), .unset, .unset, .unset] [(.int (1 : Int32)), (.int (5 : Int32))])) (fun t_ k_ => XS.iconst X101.here hx rfl (hb hby at_14) k_) ?_
  refine own_step (T' := T101) (g' := (mkF m 18 #[.val (.int p1), .val (.int (5 : Int32)), .val (.ref A_BOOLEAN), .unset, .unset, .unset] [])) (fun t_ k_ => XS.icmpNo X101.here hx rfl (hb hby at_15) rfl (feq (by decide)).1 k_) ?_
  refine own_step (T' := T101) (g' := (mkF m 19 #[.val (.int p1), .val (.int (5 : Int32)), .val (.ref A_BOOLEAN), .unset, .unset, .unset] [(.int (5 : Int32))])) (fun t_ k_ => XS.iloadN X101.here hx rfl (hb hby at_18) rfl k_) ?_
  refine own_step (T' := T101) (g' := (mkF m 20 #[.val (.int p1), .val (.int (5 : Int32)), .val (.ref A_BOOLEAN), .unset, .unset, .unset] [(.int (2 : Int32)), (.int (5 : Int32))])) (fun t_ k_ => XS.iconst X101.here hx rfl (hb hby at_19) k_) ?_
  refine own_step (T' := T101) (g' := (mkF m 23 #[.val (.int p1), .val (.int (5 : Int32)), .val (.ref A_BOOLEAN), .unset, .unset, .unset] [])) (fun t_ k_ => XS.icmpNo X101.here hx rfl (hb hby at_20) rfl (feq (by decide)).1 k_) ?_
  refine own_step (T' := T101) (g' := (mkF m 24 #[.val (.int p1), .val (.int (5 : Int32)), .val (.ref A_BOOLEAN), .unset, .unset, .unset] [(.int (5 : Int32))])) (fun t_ k_ => XS.iloadN X101.here hx rfl (hb hby at_23) rfl k_) ?_
  refine own_step (T' := T101) (g' := (mkF m 25 #[.val (.int p1), .val (.int (5 : Int32)), .val (.ref A_BOOLEAN), .unset, .unset, .unset] [(.int (4 : Int32)), (.int (5 : Int32))])) (fun t_ k_ => XS.iconst X101.here hx rfl (hb hby at_24) k_) ?_
  refine own_step (T' := T101) (g' := (mkF m 28 #[.val (.int p1), .val (.int (5 : Int32)), .val (.ref A_BOOLEAN), .unset, .unset, .unset] [])) (fun t_ k_ => XS.icmpNo X101.here hx rfl (hb hby at_25) rfl (feq (by decide)).1 k_) ?_
  refine own_step (T' := T101) (g' := (mkF m 29 #[.val (.int p1), .val (.int (5 : Int32)), .val (.ref A_BOOLEAN), .unset, .unset, .unset] [(.int (5 : Int32))])) (fun t_ k_ => XS.iloadN X101.here hx rfl (hb hby at_28) rfl k_) ?_
  refine own_step (T' := T101) (g' := (mkF m 30 #[.val (.int p1), .val (.int (5 : Int32)), .val (.ref A_BOOLEAN), .unset, .unset, .unset] [(.int (5 : Int32)), (.int (5 : Int32))])) (fun t_ k_ => XS.iconst X101.here hx rfl (hb hby at_29) k_) ?_
  refine own_step (T' := T101) (g' := (mkF m 45 #[.val (.int p1), .val (.int (5 : Int32)), .val (.ref A_BOOLEAN), .unset, .unset, .unset] [])) (fun t_ k_ => XS.icmpYes X101.here hx rfl (pc0 := 30) (pc' := 45) rfl (hb hby at_30) rfl (teq (by decide)).1 (by decide) (by decide) k_) ?_
  refine own_step (T' := T101) (g' := (mkF m 46 #[.val (.int p1), .val (.int (5 : Int32)), .val (.ref A_BOOLEAN), .unset, .unset, .unset] [(.int (1 : Int32))])) (fun t_ k_ => XS.iconst X101.here hx rfl (hb hby at_45) k_) ?_
  refine own_step (T' := T101) (g' := (mkF m 50 #[.val (.int p1), .val (.int (5 : Int32)), .val (.ref A_BOOLEAN), .unset, .unset, .unset] [(.int (1 : Int32))])) (fun t_ k_ => XS.goto X101.here hx rfl (pc0 := 46) (pc' := 50) rfl (hb hby at_46) (by decide) (by decide) k_) ?_
  refine own_step (T' := T101) (g' := (mkF m 51 #[.val (.int p1), .val (.int (5 : Int32)), .val (.ref A_BOOLEAN), .val (.int (1 : Int32)), .unset, .unset] [])) (fun t_ k_ => XS.istoreN X101.here hx rfl (hb hby at_50) rfl (l' := #[.val (.int p1), .val (.int (5 : Int32)), .val (.ref A_BOOLEAN), .val (.int (1 : Int32)), .unset, .unset]) rfl k_) ?_
  refine own_step (T' := T101) (g' := (mkF m 52 #[.val (.int p1), .val (.int (5 : Int32)), .val (.ref A_BOOLEAN), .val (.int (1 : Int32)), .unset, .unset] [(.int (5 : Int32))])) (fun t_ k_ => XS.iloadN X101.here hx rfl (hb hby at_51) rfl k_) ?_
  refine own_step (T' := T101) (g' := (mkF m 53 #[.val (.int p1), .val (.int (5 : Int32)), .val (.ref A_BOOLEAN), .val (.int (1 : Int32)), .unset, .unset] [(.int (1 : Int32)), (.int (5 : Int32))])) (fun t_ k_ => XS.iconst X101.here hx rfl (hb hby at_52) k_) ?_
  refine own_step (T' := T101) (g' := (mkF m 56 #[.val (.int p1), .val (.int (5 : Int32)), .val (.ref A_BOOLEAN), .val (.int (1 : Int32)), .unset, .unset] [])) (fun t_ k_ => XS.icmpNo X101.here hx rfl (hb hby at_53) rfl (feq (by decide)).1 k_) ?_
  refine own_step (T' := T101) (g' := (mkF m 57 #[.val (.int p1), .val (.int (5 : Int32)), .val (.ref A_BOOLEAN), .val (.int (1 : Int32)), .unset, .unset] [(.int (5 : Int32))])) (fun t_ k_ => XS.iloadN X101.here hx rfl (hb hby at_56) rfl k_) ?_
  refine own_step (T' := T101) (g' := (mkF m 58 #[.val (.int p1), .val (.int (5 : Int32)), .val (.ref A_BOOLEAN), .val (.int (1 : Int32)), .unset, .unset] [(.int (4 : Int32)), (.int (5 : Int32))])) (fun t_ k_ => XS.iconst X101.here hx rfl (hb hby at_57) k_) ?_
  refine own_step (T' := T101) (g' := (mkF m 61 #[.val (.int p1), .val (.int (5 : Int32)), .val (.ref A_BOOLEAN), .val (.int (1 : Int32)), .unset, .unset] [])) (fun t_ k_ => XS.icmpNo X101.here hx rfl (hb hby at_58) rfl (feq (by decide)).1 k_) ?_
  refine own_step (T' := T101) (g' := (mkF m 62 #[.val (.int p1), .val (.int (5 : Int32)), .val (.ref A_BOOLEAN), .val (.int (1 : Int32)), .unset, .unset] [(.int (5 : Int32))])) (fun t_ k_ => XS.iloadN X101.here hx rfl (hb hby at_61) rfl k_) ?_
  refine own_step (T' := T101) (g' := (mkF m 64 #[.val (.int p1), .val (.int (5 : Int32)), .val (.ref A_BOOLEAN), .val (.int (1 : Int32)), .unset, .unset] [(.int (9 : Int32)), (.int (5 : Int32))])) (fun t_ k_ => XS.bipush X101.here hx rfl (hb hby at_62) k_) ?_
  refine own_step (T' := T101) (g' := (mkF m 71 #[.val (.int p1), .val (.int (5 : Int32)), .val (.ref A_BOOLEAN), .val (.int (1 : Int32)), .unset, .unset] [])) (fun t_ k_ => XS.icmpYes X101.here hx rfl (pc0 := 64) (pc' := 71) rfl (hb hby at_64) rfl (feq (by decide)).2 (by decide) (by decide) k_) ?_
  refine own_step (T' := T101) (g' := (mkF m 73 #[.val (.int p1), .val (.int (5 : Int32)), .val (.ref A_BOOLEAN), .val (.int (1 : Int32)), .unset, .unset] [(.int (8 : Int32))])) (fun t_ k_ => XS.bipush X101.here hx rfl (hb hby at_71) k_) ?_
  refine own_step (T' := T101) (g' := (mkF m 75 #[.val (.int p1), .val (.int (5 : Int32)), .val (.ref A_BOOLEAN), .val (.int (1 : Int32)), .val (.int (8 : Int32)), .unset] [])) (fun t_ k_ => XS.istore X101.here hx rfl (hb hby at_73) rfl (l' := #[.val (.int p1), .val (.int (5 : Int32)), .val (.ref A_BOOLEAN), .val (.int (1 : Int32)), .val (.int (8 : Int32)), .unset]) rfl k_) ?_
  refine own_step (T' := T101) (g' := (mkF m 76 #[.val (.int p1), .val (.int (5 : Int32)), .val (.ref A_BOOLEAN), .val (.int (1 : Int32)), .val (.int (8 : Int32)), .unset] [(.ref A_BOOLEAN)])) (fun t_ k_ => XS.aloadN X101.here hx rfl (hb hby at_75) rfl rfl k_) ?_
  obtain ⟨cq102, kq102, q102a, q102b, q102c⟩ := isOf hZ e101 E_BOOLEAN
  obtain ⟨_, _, ⟨T102, L102, k102, n102⟩, -, X102, ⟨Lc102, hQ102, l102, y102, z102⟩, st102⟩ := X101.virtualBack hx (y := (⟨"com/example/upright_custodian/uprightcustodian/kmip/TtlvType", "hasFixedLength", "()Z"⟩ : MethodName)) (z := (⟨"com/example/upright_custodian/uprightcustodian/kmip/TtlvType", "hasFixedLength", "()Z"⟩ : MethodName)) hown (mvT hZ (hw _ (List.mem_of_getElem? (i := 8) rfl))) (mvT hZ (hw _ (List.mem_of_getElem? (i := 9) rfl))) (notFace_of_selects (args := #[]) (mvT hZ (hw _ (List.mem_of_getElem? (i := 11) rfl)))) (mvT hZ (hw _ (List.mem_of_getElem? (i := 11) rfl))) (mvT hZ (hw _ (List.mem_of_getElem? (i := 10) rfl))) (by decide) (backOf (W := 0) (rm2 l Z a0 hw [] A_BOOLEAN (8 : Int32) (1 : Int32) h0 n0 Z0 F_BOOLEAN_fixedLength (by decide)) hZ (hw _ (List.mem_of_getElem? (i := 12) rfl)) (hw _ (List.mem_of_getElem? (i := 6) rfl)) (by decide) (by decide)) q102a q102c (g := (mkF m 76 #[.val (.int p1), .val (.int (5 : Int32)), .val (.ref A_BOOLEAN), .val (.int (1 : Int32)), .val (.int (8 : Int32)), .unset] [(.ref A_BOOLEAN)])) rfl (by rw [hml]; rfl) (Steps.refl _) (argsL := []) (rest := []) (lenOf (by decide +kernel : parseMethodDescriptor "()Z" = some ⟨[], some .boolean⟩) rfl) rfl (by show 2 * 0 + _ ≤ _; exact Nat.le_of_eq rfl) (hb hby at_76) (fun _ _ => ⟨rfl, e101, (by decide : 0 + 0 ≤ _), (by decide : 0 + 0 ≤ _)⟩)
  dsimp only [Pt.U, Pt.locs, Pt.cells, Pt.slots] at X102 l102 y102 z102 st102 hQ102
  subst l102 y102 z102
  obtain ⟨rfl, Nq102, e102⟩ := hQ102
  have N102 := Fr.app N101 Nq102
  refine own_to (T' := T102) (g' := (mkF m 79 #[.val (.int p1), .val (.int (5 : Int32)), .val (.ref A_BOOLEAN), .val (.int (1 : Int32)), .val (.int (8 : Int32)), .unset] [(.int (1 : Int32))])) st102 ?_
  refine own_step (T' := T102) (g' := (mkF m 81 #[.val (.int p1), .val (.int (5 : Int32)), .val (.ref A_BOOLEAN), .val (.int (1 : Int32)), .val (.int (8 : Int32)), .val (.int (1 : Int32))] [])) (fun t_ k_ => XS.istore X102.here hx rfl (hb hby at_79) rfl (l' := #[.val (.int p1), .val (.int (5 : Int32)), .val (.ref A_BOOLEAN), .val (.int (1 : Int32)), .val (.int (8 : Int32)), .val (.int (1 : Int32))]) rfl k_) ?_
  refine own_step (T' := T102) (g' := (mkF m 83 #[.val (.int p1), .val (.int (5 : Int32)), .val (.ref A_BOOLEAN), .val (.int (1 : Int32)), .val (.int (8 : Int32)), .val (.int (1 : Int32))] [(.int (1 : Int32))])) (fun t_ k_ => XS.iload X102.here hx rfl (hb hby at_81) rfl k_) ?_
  refine own_step (T' := T102) (g' := (mkF m 84 #[.val (.int p1), .val (.int (5 : Int32)), .val (.ref A_BOOLEAN), .val (.int (1 : Int32)), .val (.int (8 : Int32)), .val (.int (1 : Int32))] [(.int (1 : Int32)), (.int (1 : Int32))])) (fun t_ k_ => XS.iloadN X102.here hx rfl (hb hby at_83) rfl k_) ?_
  refine own_step (T' := T102) (g' := (mkF m 89 #[.val (.int p1), .val (.int (5 : Int32)), .val (.ref A_BOOLEAN), .val (.int (1 : Int32)), .val (.int (8 : Int32)), .val (.int (1 : Int32))] [])) (fun t_ k_ => XS.icmpYes X102.here hx rfl (pc0 := 84) (pc' := 89) rfl (hb hby at_84) rfl (teq (by decide)).1 (by decide) (by decide) k_) ?_
  refine own_step (T' := T102) (g' := (mkF m 91 #[.val (.int p1), .val (.int (5 : Int32)), .val (.ref A_BOOLEAN), .val (.int (1 : Int32)), .val (.int (8 : Int32)), .val (.int (1 : Int32))] [(.int (1 : Int32))])) (fun t_ k_ => XS.iload X102.here hx rfl (hb hby at_89) rfl k_) ?_
  refine own_step (T' := T102) (g' := (mkF m 96 #[.val (.int p1), .val (.int (5 : Int32)), .val (.ref A_BOOLEAN), .val (.int (1 : Int32)), .val (.int (8 : Int32)), .val (.int (1 : Int32))] [])) (fun t_ k_ => XS.ifYes X102.here hx rfl (pc0 := 91) (pc' := 96) rfl (hb hby at_91) rfl ((if0 _ _).trans (feq (by decide)).2) (by decide) (by decide) k_) ?_
  refine own_step (T' := T102) (g' := (mkF m 97 #[.val (.int p1), .val (.int (5 : Int32)), .val (.ref A_BOOLEAN), .val (.int (1 : Int32)), .val (.int (8 : Int32)), .val (.int (1 : Int32))] [(.ref A_BOOLEAN)])) (fun t_ k_ => XS.aloadN X102.here hx rfl (hb hby at_96) rfl rfl k_) ?_
  obtain ⟨cq103, kq103, q103a, q103b, q103c⟩ := isOf hZ e102 E_BOOLEAN
  obtain ⟨_, _, ⟨T103, L103, k103, n103⟩, -, X103, ⟨Lc103, hQ103, l103, y103, z103⟩, st103⟩ := X102.virtualBack hx (y := (⟨"com/example/upright_custodian/uprightcustodian/kmip/TtlvType", "fixedLength", "()I"⟩ : MethodName)) (z := (⟨"com/example/upright_custodian/uprightcustodian/kmip/TtlvType", "fixedLength", "()I"⟩ : MethodName)) hown (mvT hZ (hw _ (List.mem_of_getElem? (i := 19) rfl))) (mvT hZ (hw _ (List.mem_of_getElem? (i := 20) rfl))) (notFace_of_selects (args := #[]) (mvT hZ (hw _ (List.mem_of_getElem? (i := 22) rfl)))) (mvT hZ (hw _ (List.mem_of_getElem? (i := 22) rfl))) (mvT hZ (hw _ (List.mem_of_getElem? (i := 21) rfl))) (by decide) (backOf (W := 0) (rm3 l Z a0 hw [] A_BOOLEAN (8 : Int32) h0 n0 Z0 F_BOOLEAN_fixedLength E_BOOLEAN (by decide)) hZ (hw _ (List.mem_of_getElem? (i := 23) rfl)) (hw _ (List.mem_of_getElem? (i := 6) rfl)) (by decide) (by decide)) q103a q103c (g := (mkF m 97 #[.val (.int p1), .val (.int (5 : Int32)), .val (.ref A_BOOLEAN), .val (.int (1 : Int32)), .val (.int (8 : Int32)), .val (.int (1 : Int32))] [(.ref A_BOOLEAN)])) rfl (by rw [hml]; rfl) (Steps.refl _) (argsL := []) (rest := []) (lenOf (by decide +kernel : parseMethodDescriptor "()I" = some ⟨[], some .int⟩) rfl) rfl (by show 2 * 0 + _ ≤ _; exact Nat.le_of_eq rfl) (hb hby at_97) (fun _ _ => ⟨rfl, e102, (by decide : 0 + 0 ≤ _), (by decide : 0 + 0 ≤ _)⟩)
  dsimp only [Pt.U, Pt.locs, Pt.cells, Pt.slots] at X103 l103 y103 z103 st103 hQ103
  subst l103 y103 z103
  obtain ⟨rfl, Nq103, e103⟩ := hQ103
  have N103 := Fr.app N102 Nq103
  refine own_to (T' := T103) (g' := (mkF m 100 #[.val (.int p1), .val (.int (5 : Int32)), .val (.ref A_BOOLEAN), .val (.int (1 : Int32)), .val (.int (8 : Int32)), .val (.int (1 : Int32))] [(.int (8 : Int32))])) st103 ?_
  refine own_step (T' := T103) (g' := (mkF m 102 #[.val (.int p1), .val (.int (5 : Int32)), .val (.ref A_BOOLEAN), .val (.int (1 : Int32)), .val (.int (8 : Int32)), .val (.int (1 : Int32))] [(.int (8 : Int32)), (.int (8 : Int32))])) (fun t_ k_ => XS.iload X103.here hx rfl (hb hby at_100) rfl k_) ?_
  refine own_step (T' := T103) (g' := (mkF m 105 #[.val (.int p1), .val (.int (5 : Int32)), .val (.ref A_BOOLEAN), .val (.int (1 : Int32)), .val (.int (8 : Int32)), .val (.int (1 : Int32))] [])) (fun t_ k_ => XS.icmpNo X103.here hx rfl (hb hby at_102) rfl (teq (by decide)).2 k_) ?_
  refine own_step (T' := T103) (g' := (mkF m 106 #[.val (.int p1), .val (.int (5 : Int32)), .val (.ref A_BOOLEAN), .val (.int (1 : Int32)), .val (.int (8 : Int32)), .val (.int (1 : Int32))] [(.int (1 : Int32))])) (fun t_ k_ => XS.iconst X103.here hx rfl (hb hby at_105) k_) ?_
  refine own_step (T' := T103) (g' := (mkF m 110 #[.val (.int p1), .val (.int (5 : Int32)), .val (.ref A_BOOLEAN), .val (.int (1 : Int32)), .val (.int (8 : Int32)), .val (.int (1 : Int32))] [(.int (1 : Int32))])) (fun t_ k_ => XS.goto X103.here hx rfl (pc0 := 106) (pc' := 110) rfl (hb hby at_106) (by decide) (by decide) k_) ?_
  obtain ⟨fs, hrR, hrun, hended, hWW, hsame⟩ := X103.leave (v := some (.int (1 : Int32))) (fun h => by rw [Bd.returns] at h; cases h)
  refine ⟨_, _, own_retZ X103 hx (t := .boolean) Bd.returns (by simp) (by decide) (hb hby at_110) hrR, hrun, hended, hPP _ _ ⟨_, _, rfl, ?_, ⟨_, rfl⟩, hWW, hsame.mono (by decide) (by decide)⟩⟩
  show Q0 n0 _ T103.heap _
  rw [e103]
  exact ⟨rfl, N103⟩
set_option maxRecDepth 65536 in
set_option maxHeartbeats 40000000 in
theorem rm0_6 (l : Launch) (Z : State) (a0 : Array Value) (hw : ∀ d ∈ tables_1, d.before a0 Z = true) (ws : List Jvm.Cond) (p1 : Int32) (A_TEXT_STRING : Addr) (h0 : Heap) (n0 : Nat) (Z0 : n0 ≤ h0.size) (hk : (p1 &&& 2147483647) % 10 = 6) (E_TEXT_STRING : Exa Z h0 A_TEXT_STRING "com/example/upright_custodian/uprightcustodian/kmip/TtlvType") (S_TEXT_STRING : Sta Z h0 "com/example/upright_custodian/uprightcustodian/kmip/TtlvType" "TEXT_STRING" "Lcom/example/upright_custodian/uprightcustodian/kmip/TtlvType;" (.ref A_TEXT_STRING)) (F_TEXT_STRING_fixedLength : Fld Z h0 A_TEXT_STRING "com/example/upright_custodian/uprightcustodian/kmip/TtlvType" "fixedLength" "I" (.int (-1 : Int32))) :
    MetFree l x (head1 (Jvm.Cond.code x code maxLocals ret :: ws) room_1) (fun a U => a = #[(.int p1)] ∧ Z.Warmed39 U.vm ∧ U.heap = h0) (fun _ _ _ _ _ => True) (fun _ U o U' => ∃ v L, o = .returned v ∧ Q0 n0 v U'.heap L ∧ FrameEnd U o U' L 0 0) := by
  refine MetFree.of_bodySF (plainFor_of_name (by first | (simp [plainName, overriddenIn]; done) | decide +kernel)) hisR ?_
  intro p e s m args below meth c s₁ Bd hml0 hP hK
  obtain ⟨rfl, hZ, hh⟩ := hP
  have hx := Bd.exec
  have hby := Bd.bytes
  have hml : c.maxLocals = 6 := hml0
  have hown : s.vm.findClass "com/example/upright_custodian/uprightcustodian/kmip/TtlvTypeHasFixedLengthPinLaw" = some m.cls := findClass_of_methodNamed Bd.named
  have hnm := (name_of_methodNamed Bd.named Bd.method).1
  have X0 : Stand p l e room_1 s m #[(.int p1)] below meth c s₁ [] 0 0 := Stand.of_body Bd
  have e0 : s₁.heap = h0 := by rw [← hh, Bd.state]; rfl
  have N0 := Fr.nil n0
  have ef : entryFrame m #[(.int p1)] maxLocals = (mkF m 0 #[.val (.int p1), .unset, .unset, .unset, .unset, .unset] []) := by first | (simp [entryFrame, mkF, argsToLocals, Value.category, maxLocals]; done) | rfl
  refine own_start (fun P hPP => ?_)
  refine own_step (T' := s₁) (g' := (mkF m 0 #[.val (.int p1), .unset, .unset, .unset, .unset, .unset] [])) (fun t_ k_ => castTop ef k_) ?_
  refine own_step (T' := s₁) (g' := (mkF m 1 #[.val (.int p1), .unset, .unset, .unset, .unset, .unset] [(.int p1)])) (fun t_ k_ => XS.iloadN X0.here hx rfl (hb hby at_0) rfl k_) ?_
  refine own_step (T' := s₁) (g' := (mkF m 3 #[.val (.int p1), .unset, .unset, .unset, .unset, .unset] [(.int (2147483647 : Int32)), (.int p1)])) (fun t_ k_ => X0.ldcInt hx hown (mvT hZ (hw _ (List.mem_of_getElem? (i := 0) rfl))) (g := (mkF m 1 #[.val (.int p1), .unset, .unset, .unset, .unset, .unset] [(.int p1)])) rfl (hb hby at_1) _ k_) ?_
  refine own_step (T' := s₁) (g' := (mkF m 4 #[.val (.int p1), .unset, .unset, .unset, .unset, .unset] [(.int (p1 &&& (2147483647 : Int32)))])) (fun t_ k_ => XS.iand X0.here hx rfl (hb hby at_3) rfl k_) ?_
  refine own_step (T' := s₁) (g' := (mkF m 6 #[.val (.int p1), .unset, .unset, .unset, .unset, .unset] [(.int (10 : Int32)), (.int (p1 &&& (2147483647 : Int32)))])) (fun t_ k_ => XS.bipush X0.here hx rfl (hb hby at_4) k_) ?_
  refine own_step (T' := s₁) (g' := (mkF m 7 #[.val (.int p1), .unset, .unset, .unset, .unset, .unset] [(.int ((p1 &&& (2147483647 : Int32)) % (10 : Int32)))])) (fun t_ k_ => iremM X0 hx rfl (hb hby at_6) rfl (by decide) k_) ?_
  rw [hk]
  refine own_step (T' := s₁) (g' := (mkF m 8 #[.val (.int p1), .val (.int (6 : Int32)), .unset, .unset, .unset, .unset] [])) (fun t_ k_ => XS.istoreN X0.here hx rfl (hb hby at_7) rfl (l' := #[.val (.int p1), .val (.int (6 : Int32)), .unset, .unset, .unset, .unset]) rfl k_) ?_
  refine own_step (T' := s₁) (g' := (mkF m 9 #[.val (.int p1), .val (.int (6 : Int32)), .unset, .unset, .unset, .unset] [(.int (6 : Int32))])) (fun t_ k_ => XS.iloadN X0.here hx rfl (hb hby at_8) rfl k_) ?_
  obtain ⟨_, _, ⟨T101, L101, k101, n101⟩, -, X101, ⟨Lc101, hQ101, l101, y101, z101⟩, st101⟩ := Jvm.LawKit.callS X0 hx (y := (⟨"com/example/upright_custodian/uprightcustodian/kmip/TtlvTypeHasFixedLengthPinLaw", "pick", "(I)Lcom/example/upright_custodian/uprightcustodian/kmip/TtlvType;"⟩ : MethodName)) hown (mvT hZ (hw _ (List.mem_of_getElem? (i := 1) rfl))) (mvT hZ (hw _ (List.mem_of_getElem? (i := 2) rfl))) (mvT hZ (hw _ (List.mem_of_getElem? (i := 3) rfl))) (mvT hZ (hw _ (List.mem_of_getElem? (i := 4) rfl))) (by decide) (backOf (W := 0) (rm1_6 l Z a0 hw [] A_TEXT_STRING h0 n0 Z0 S_TEXT_STRING) hZ (hw _ (List.mem_of_getElem? (i := 4) rfl)) (hw _ (List.mem_of_getElem? (i := 3) rfl)) (by decide) (by decide)) (g := (mkF m 9 #[.val (.int p1), .val (.int (6 : Int32)), .unset, .unset, .unset, .unset] [(.int (6 : Int32))])) rfl (by rw [hml]; rfl) (argsL := [(.int (6 : Int32))]) (rest := []) (lenOf (by decide +kernel : parseMethodDescriptor "(I)Lcom/example/upright_custodian/uprightcustodian/kmip/TtlvType;" = some ⟨[.int], some (.object "com/example/upright_custodian/uprightcustodian/kmip/TtlvType")⟩) rfl) rfl (by show 2 * 0 + _ ≤ _; exact Nat.le_of_eq rfl) (hb hby at_9) (fun _ _ => ⟨rfl, e0, (by decide : 0 + 0 ≤ _), (by decide : 0 + 0 ≤ _)⟩)
  dsimp only [Pt.U, Pt.locs, Pt.cells, Pt.slots] at X101 l101 y101 z101 st101 hQ101
  subst l101 y101 z101
  obtain ⟨rfl, Nq101, e101⟩ := hQ101
  have N101 := Fr.app N0 Nq101
  refine own_step (T' := T101) (g' := (mkF m 12 #[.val (.int p1), .val (.int (6 : Int32)), .unset, .unset, .unset, .unset] [(.ref A_TEXT_STRING)])) st101 ?_
  refine own_step (T' := T101) (g' := (mkF m 13 #[.val (.int p1), .val (.int (6 : Int32)), .val (.ref A_TEXT_STRING), .unset, .unset, .unset] [])) (fun t_ k_ => XS.astoreN X101.here hx rfl (hb hby at_12) rfl rfl (l' := #[.val (.int p1), .val (.int (6 : Int32)), .val (.ref A_TEXT_STRING), .unset, .unset, .unset]) rfl k_) ?_
  refine own_step (T' := T101) (g' := (mkF m 14 #[.val (.int p1), .val (.int (6 : Int32)), .val (.ref A_TEXT_STRING), .unset, .unset, .unset] [(.int (6 : Int32))])) (fun t_ k_ => XS.iloadN X101.here hx rfl (hb hby at_13) rfl k_) ?_
  refine own_step (T' := T101) (g' := (mkF m 15 #[.val (.int p1), .val (.int (6 : Int32)), .val (.ref A_TEXT_STRING), .unset, .unset, .unset] [(.int (1 : Int32)), (.int (6 : Int32))])) (fun t_ k_ => XS.iconst X101.here hx rfl (hb hby at_14) k_) ?_
  refine own_step (T' := T101) (g' := (mkF m 18 #[.val (.int p1), .val (.int (6 : Int32)), .val (.ref A_TEXT_STRING), .unset, .unset, .unset] [])) (fun t_ k_ => XS.icmpNo X101.here hx rfl (hb hby at_15) rfl (feq (by decide)).1 k_) ?_
  refine own_step (T' := T101) (g' := (mkF m 19 #[.val (.int p1), .val (.int (6 : Int32)), .val (.ref A_TEXT_STRING), .unset, .unset, .unset] [(.int (6 : Int32))])) (fun t_ k_ => XS.iloadN X101.here hx rfl (hb hby at_18) rfl k_) ?_
  refine own_step (T' := T101) (g' := (mkF m 20 #[.val (.int p1), .val (.int (6 : Int32)), .val (.ref A_TEXT_STRING), .unset, .unset, .unset] [(.int (2 : Int32)), (.int (6 : Int32))])) (fun t_ k_ => XS.iconst X101.here hx rfl (hb hby at_19) k_) ?_
  refine own_step (T' := T101) (g' := (mkF m 23 #[.val (.int p1), .val (.int (6 : Int32)), .val (.ref A_TEXT_STRING), .unset, .unset, .unset] [])) (fun t_ k_ => XS.icmpNo X101.here hx rfl (hb hby at_20) rfl (feq (by decide)).1 k_) ?_
  refine own_step (T' := T101) (g' := (mkF m 24 #[.val (.int p1), .val (.int (6 : Int32)), .val (.ref A_TEXT_STRING), .unset, .unset, .unset] [(.int (6 : Int32))])) (fun t_ k_ => XS.iloadN X101.here hx rfl (hb hby at_23) rfl k_) ?_
  refine own_step (T' := T101) (g' := (mkF m 25 #[.val (.int p1), .val (.int (6 : Int32)), .val (.ref A_TEXT_STRING), .unset, .unset, .unset] [(.int (4 : Int32)), (.int (6 : Int32))])) (fun t_ k_ => XS.iconst X101.here hx rfl (hb hby at_24) k_) ?_
  refine own_step (T' := T101) (g' := (mkF m 28 #[.val (.int p1), .val (.int (6 : Int32)), .val (.ref A_TEXT_STRING), .unset, .unset, .unset] [])) (fun t_ k_ => XS.icmpNo X101.here hx rfl (hb hby at_25) rfl (feq (by decide)).1 k_) ?_
  refine own_step (T' := T101) (g' := (mkF m 29 #[.val (.int p1), .val (.int (6 : Int32)), .val (.ref A_TEXT_STRING), .unset, .unset, .unset] [(.int (6 : Int32))])) (fun t_ k_ => XS.iloadN X101.here hx rfl (hb hby at_28) rfl k_) ?_
  refine own_step (T' := T101) (g' := (mkF m 30 #[.val (.int p1), .val (.int (6 : Int32)), .val (.ref A_TEXT_STRING), .unset, .unset, .unset] [(.int (5 : Int32)), (.int (6 : Int32))])) (fun t_ k_ => XS.iconst X101.here hx rfl (hb hby at_29) k_) ?_
  refine own_step (T' := T101) (g' := (mkF m 33 #[.val (.int p1), .val (.int (6 : Int32)), .val (.ref A_TEXT_STRING), .unset, .unset, .unset] [])) (fun t_ k_ => XS.icmpNo X101.here hx rfl (hb hby at_30) rfl (feq (by decide)).1 k_) ?_
  refine own_step (T' := T101) (g' := (mkF m 34 #[.val (.int p1), .val (.int (6 : Int32)), .val (.ref A_TEXT_STRING), .unset, .unset, .unset] [(.int (6 : Int32))])) (fun t_ k_ => XS.iloadN X101.here hx rfl (hb hby at_33) rfl k_) ?_
  refine own_step (T' := T101) (g' := (mkF m 36 #[.val (.int p1), .val (.int (6 : Int32)), .val (.ref A_TEXT_STRING), .unset, .unset, .unset] [(.int (8 : Int32)), (.int (6 : Int32))])) (fun t_ k_ => XS.bipush X101.here hx rfl (hb hby at_34) k_) ?_
  refine own_step (T' := T101) (g' := (mkF m 39 #[.val (.int p1), .val (.int (6 : Int32)), .val (.ref A_TEXT_STRING), .unset, .unset, .unset] [])) (fun t_ k_ => XS.icmpNo X101.here hx rfl (hb hby at_36) rfl (feq (by decide)).1 k_) ?_
  refine own_step (T' := T101) (g' := (mkF m 40 #[.val (.int p1), .val (.int (6 : Int32)), .val (.ref A_TEXT_STRING), .unset, .unset, .unset] [(.int (6 : Int32))])) (fun t_ k_ => XS.iloadN X101.here hx rfl (hb hby at_39) rfl k_) ?_
  refine own_step (T' := T101) (g' := (mkF m 42 #[.val (.int p1), .val (.int (6 : Int32)), .val (.ref A_TEXT_STRING), .unset, .unset, .unset] [(.int (9 : Int32)), (.int (6 : Int32))])) (fun t_ k_ => XS.bipush X101.here hx rfl (hb hby at_40) k_) ?_
  refine own_step (T' := T101) (g' := (mkF m 49 #[.val (.int p1), .val (.int (6 : Int32)), .val (.ref A_TEXT_STRING), .unset, .unset, .unset] [])) (fun t_ k_ => XS.icmpYes X101.here hx rfl (pc0 := 42) (pc' := 49) rfl (hb hby at_42) rfl (feq (by decide)).2 (by decide) (by decide) k_) ?_
  refine own_step (T' := T101) (g' := (mkF m 50 #[.val (.int p1), .val (.int (6 : Int32)), .val (.ref A_TEXT_STRING), .unset, .unset, .unset] [(.int (0 : Int32))])) (fun t_ k_ => XS.iconst X101.here hx rfl (hb hby at_49) k_) ?_
  refine own_step (T' := T101) (g' := (mkF m 51 #[.val (.int p1), .val (.int (6 : Int32)), .val (.ref A_TEXT_STRING), .val (.int (0 : Int32)), .unset, .unset] [])) (fun t_ k_ => XS.istoreN X101.here hx rfl (hb hby at_50) rfl (l' := #[.val (.int p1), .val (.int (6 : Int32)), .val (.ref A_TEXT_STRING), .val (.int (0 : Int32)), .unset, .unset]) rfl k_) ?_
  refine own_step (T' := T101) (g' := (mkF m 52 #[.val (.int p1), .val (.int (6 : Int32)), .val (.ref A_TEXT_STRING), .val (.int (0 : Int32)), .unset, .unset] [(.int (6 : Int32))])) (fun t_ k_ => XS.iloadN X101.here hx rfl (hb hby at_51) rfl k_) ?_
  refine own_step (T' := T101) (g' := (mkF m 53 #[.val (.int p1), .val (.int (6 : Int32)), .val (.ref A_TEXT_STRING), .val (.int (0 : Int32)), .unset, .unset] [(.int (1 : Int32)), (.int (6 : Int32))])) (fun t_ k_ => XS.iconst X101.here hx rfl (hb hby at_52) k_) ?_
  refine own_step (T' := T101) (g' := (mkF m 56 #[.val (.int p1), .val (.int (6 : Int32)), .val (.ref A_TEXT_STRING), .val (.int (0 : Int32)), .unset, .unset] [])) (fun t_ k_ => XS.icmpNo X101.here hx rfl (hb hby at_53) rfl (feq (by decide)).1 k_) ?_
  refine own_step (T' := T101) (g' := (mkF m 57 #[.val (.int p1), .val (.int (6 : Int32)), .val (.ref A_TEXT_STRING), .val (.int (0 : Int32)), .unset, .unset] [(.int (6 : Int32))])) (fun t_ k_ => XS.iloadN X101.here hx rfl (hb hby at_56) rfl k_) ?_
  refine own_step (T' := T101) (g' := (mkF m 58 #[.val (.int p1), .val (.int (6 : Int32)), .val (.ref A_TEXT_STRING), .val (.int (0 : Int32)), .unset, .unset] [(.int (4 : Int32)), (.int (6 : Int32))])) (fun t_ k_ => XS.iconst X101.here hx rfl (hb hby at_57) k_) ?_
  refine own_step (T' := T101) (g' := (mkF m 61 #[.val (.int p1), .val (.int (6 : Int32)), .val (.ref A_TEXT_STRING), .val (.int (0 : Int32)), .unset, .unset] [])) (fun t_ k_ => XS.icmpNo X101.here hx rfl (hb hby at_58) rfl (feq (by decide)).1 k_) ?_
  refine own_step (T' := T101) (g' := (mkF m 62 #[.val (.int p1), .val (.int (6 : Int32)), .val (.ref A_TEXT_STRING), .val (.int (0 : Int32)), .unset, .unset] [(.int (6 : Int32))])) (fun t_ k_ => XS.iloadN X101.here hx rfl (hb hby at_61) rfl k_) ?_
  refine own_step (T' := T101) (g' := (mkF m 64 #[.val (.int p1), .val (.int (6 : Int32)), .val (.ref A_TEXT_STRING), .val (.int (0 : Int32)), .unset, .unset] [(.int (9 : Int32)), (.int (6 : Int32))])) (fun t_ k_ => XS.bipush X101.here hx rfl (hb hby at_62) k_) ?_
  refine own_step (T' := T101) (g' := (mkF m 71 #[.val (.int p1), .val (.int (6 : Int32)), .val (.ref A_TEXT_STRING), .val (.int (0 : Int32)), .unset, .unset] [])) (fun t_ k_ => XS.icmpYes X101.here hx rfl (pc0 := 64) (pc' := 71) rfl (hb hby at_64) rfl (feq (by decide)).2 (by decide) (by decide) k_) ?_
  refine own_step (T' := T101) (g' := (mkF m 73 #[.val (.int p1), .val (.int (6 : Int32)), .val (.ref A_TEXT_STRING), .val (.int (0 : Int32)), .unset, .unset] [(.int (8 : Int32))])) (fun t_ k_ => XS.bipush X101.here hx rfl (hb hby at_71) k_) ?_
  refine own_step (T' := T101) (g' := (mkF m 75 #[.val (.int p1), .val (.int (6 : Int32)), .val (.ref A_TEXT_STRING), .val (.int (0 : Int32)), .val (.int (8 : Int32)), .unset] [])) (fun t_ k_ => XS.istore X101.here hx rfl (hb hby at_73) rfl (l' := #[.val (.int p1), .val (.int (6 : Int32)), .val (.ref A_TEXT_STRING), .val (.int (0 : Int32)), .val (.int (8 : Int32)), .unset]) rfl k_) ?_
  refine own_step (T' := T101) (g' := (mkF m 76 #[.val (.int p1), .val (.int (6 : Int32)), .val (.ref A_TEXT_STRING), .val (.int (0 : Int32)), .val (.int (8 : Int32)), .unset] [(.ref A_TEXT_STRING)])) (fun t_ k_ => XS.aloadN X101.here hx rfl (hb hby at_75) rfl rfl k_) ?_
  obtain ⟨cq102, kq102, q102a, q102b, q102c⟩ := isOf hZ e101 E_TEXT_STRING
  obtain ⟨_, _, ⟨T102, L102, k102, n102⟩, -, X102, ⟨Lc102, hQ102, l102, y102, z102⟩, st102⟩ := X101.virtualBack hx (y := (⟨"com/example/upright_custodian/uprightcustodian/kmip/TtlvType", "hasFixedLength", "()Z"⟩ : MethodName)) (z := (⟨"com/example/upright_custodian/uprightcustodian/kmip/TtlvType", "hasFixedLength", "()Z"⟩ : MethodName)) hown (mvT hZ (hw _ (List.mem_of_getElem? (i := 8) rfl))) (mvT hZ (hw _ (List.mem_of_getElem? (i := 9) rfl))) (notFace_of_selects (args := #[]) (mvT hZ (hw _ (List.mem_of_getElem? (i := 11) rfl)))) (mvT hZ (hw _ (List.mem_of_getElem? (i := 11) rfl))) (mvT hZ (hw _ (List.mem_of_getElem? (i := 10) rfl))) (by decide) (backOf (W := 0) (rm2 l Z a0 hw [] A_TEXT_STRING (-1 : Int32) (0 : Int32) h0 n0 Z0 F_TEXT_STRING_fixedLength (by decide)) hZ (hw _ (List.mem_of_getElem? (i := 12) rfl)) (hw _ (List.mem_of_getElem? (i := 6) rfl)) (by decide) (by decide)) q102a q102c (g := (mkF m 76 #[.val (.int p1), .val (.int (6 : Int32)), .val (.ref A_TEXT_STRING), .val (.int (0 : Int32)), .val (.int (8 : Int32)), .unset] [(.ref A_TEXT_STRING)])) rfl (by rw [hml]; rfl) (Steps.refl _) (argsL := []) (rest := []) (lenOf (by decide +kernel : parseMethodDescriptor "()Z" = some ⟨[], some .boolean⟩) rfl) rfl (by show 2 * 0 + _ ≤ _; exact Nat.le_of_eq rfl) (hb hby at_76) (fun _ _ => ⟨rfl, e101, (by decide : 0 + 0 ≤ _), (by decide : 0 + 0 ≤ _)⟩)
  dsimp only [Pt.U, Pt.locs, Pt.cells, Pt.slots] at X102 l102 y102 z102 st102 hQ102
  subst l102 y102 z102
  obtain ⟨rfl, Nq102, e102⟩ := hQ102
  have N102 := Fr.app N101 Nq102
  refine own_to (T' := T102) (g' := (mkF m 79 #[.val (.int p1), .val (.int (6 : Int32)), .val (.ref A_TEXT_STRING), .val (.int (0 : Int32)), .val (.int (8 : Int32)), .unset] [(.int (0 : Int32))])) st102 ?_
  refine own_step (T' := T102) (g' := (mkF m 81 #[.val (.int p1), .val (.int (6 : Int32)), .val (.ref A_TEXT_STRING), .val (.int (0 : Int32)), .val (.int (8 : Int32)), .val (.int (0 : Int32))] [])) (fun t_ k_ => XS.istore X102.here hx rfl (hb hby at_79) rfl (l' := #[.val (.int p1), .val (.int (6 : Int32)), .val (.ref A_TEXT_STRING), .val (.int (0 : Int32)), .val (.int (8 : Int32)), .val (.int (0 : Int32))]) rfl k_) ?_
  refine own_step (T' := T102) (g' := (mkF m 83 #[.val (.int p1), .val (.int (6 : Int32)), .val (.ref A_TEXT_STRING), .val (.int (0 : Int32)), .val (.int (8 : Int32)), .val (.int (0 : Int32))] [(.int (0 : Int32))])) (fun t_ k_ => XS.iload X102.here hx rfl (hb hby at_81) rfl k_) ?_
  refine own_step (T' := T102) (g' := (mkF m 84 #[.val (.int p1), .val (.int (6 : Int32)), .val (.ref A_TEXT_STRING), .val (.int (0 : Int32)), .val (.int (8 : Int32)), .val (.int (0 : Int32))] [(.int (0 : Int32)), (.int (0 : Int32))])) (fun t_ k_ => XS.iloadN X102.here hx rfl (hb hby at_83) rfl k_) ?_
  refine own_step (T' := T102) (g' := (mkF m 89 #[.val (.int p1), .val (.int (6 : Int32)), .val (.ref A_TEXT_STRING), .val (.int (0 : Int32)), .val (.int (8 : Int32)), .val (.int (0 : Int32))] [])) (fun t_ k_ => XS.icmpYes X102.here hx rfl (pc0 := 84) (pc' := 89) rfl (hb hby at_84) rfl (teq (by decide)).1 (by decide) (by decide) k_) ?_
  refine own_step (T' := T102) (g' := (mkF m 91 #[.val (.int p1), .val (.int (6 : Int32)), .val (.ref A_TEXT_STRING), .val (.int (0 : Int32)), .val (.int (8 : Int32)), .val (.int (0 : Int32))] [(.int (0 : Int32))])) (fun t_ k_ => XS.iload X102.here hx rfl (hb hby at_89) rfl k_) ?_
  refine own_step (T' := T102) (g' := (mkF m 94 #[.val (.int p1), .val (.int (6 : Int32)), .val (.ref A_TEXT_STRING), .val (.int (0 : Int32)), .val (.int (8 : Int32)), .val (.int (0 : Int32))] [])) (fun t_ k_ => XS.ifNo X102.here hx rfl (hb hby at_91) rfl ((if0 _ _).trans (teq (by decide)).2) k_) ?_
  refine own_step (T' := T102) (g' := (mkF m 95 #[.val (.int p1), .val (.int (6 : Int32)), .val (.ref A_TEXT_STRING), .val (.int (0 : Int32)), .val (.int (8 : Int32)), .val (.int (0 : Int32))] [(.int (1 : Int32))])) (fun t_ k_ => XS.iconst X102.here hx rfl (hb hby at_94) k_) ?_
  obtain ⟨fs, hrR, hrun, hended, hWW, hsame⟩ := X102.leave (v := some (.int (1 : Int32))) (fun h => by rw [Bd.returns] at h; cases h)
  refine ⟨_, _, own_retZ X102 hx (t := .boolean) Bd.returns (by simp) (by decide) (hb hby at_95) hrR, hrun, hended, hPP _ _ ⟨_, _, rfl, ?_, ⟨_, rfl⟩, hWW, hsame.mono (by decide) (by decide)⟩⟩
  show Q0 n0 _ T102.heap _
  rw [e102]
  exact ⟨rfl, N102⟩
set_option maxRecDepth 65536 in
set_option maxHeartbeats 40000000 in
theorem rm0_7 (l : Launch) (Z : State) (a0 : Array Value) (hw : ∀ d ∈ tables_1, d.before a0 Z = true) (ws : List Jvm.Cond) (p1 : Int32) (A_BYTE_STRING : Addr) (h0 : Heap) (n0 : Nat) (Z0 : n0 ≤ h0.size) (hk : (p1 &&& 2147483647) % 10 = 7) (E_BYTE_STRING : Exa Z h0 A_BYTE_STRING "com/example/upright_custodian/uprightcustodian/kmip/TtlvType") (S_BYTE_STRING : Sta Z h0 "com/example/upright_custodian/uprightcustodian/kmip/TtlvType" "BYTE_STRING" "Lcom/example/upright_custodian/uprightcustodian/kmip/TtlvType;" (.ref A_BYTE_STRING)) (F_BYTE_STRING_fixedLength : Fld Z h0 A_BYTE_STRING "com/example/upright_custodian/uprightcustodian/kmip/TtlvType" "fixedLength" "I" (.int (-1 : Int32))) :
    MetFree l x (head1 (Jvm.Cond.code x code maxLocals ret :: ws) room_1) (fun a U => a = #[(.int p1)] ∧ Z.Warmed39 U.vm ∧ U.heap = h0) (fun _ _ _ _ _ => True) (fun _ U o U' => ∃ v L, o = .returned v ∧ Q0 n0 v U'.heap L ∧ FrameEnd U o U' L 0 0) := by
  refine MetFree.of_bodySF (plainFor_of_name (by first | (simp [plainName, overriddenIn]; done) | decide +kernel)) hisR ?_
  intro p e s m args below meth c s₁ Bd hml0 hP hK
  obtain ⟨rfl, hZ, hh⟩ := hP
  have hx := Bd.exec
  have hby := Bd.bytes
  have hml : c.maxLocals = 6 := hml0
  have hown : s.vm.findClass "com/example/upright_custodian/uprightcustodian/kmip/TtlvTypeHasFixedLengthPinLaw" = some m.cls := findClass_of_methodNamed Bd.named
  have hnm := (name_of_methodNamed Bd.named Bd.method).1
  have X0 : Stand p l e room_1 s m #[(.int p1)] below meth c s₁ [] 0 0 := Stand.of_body Bd
  have e0 : s₁.heap = h0 := by rw [← hh, Bd.state]; rfl
  have N0 := Fr.nil n0
  have ef : entryFrame m #[(.int p1)] maxLocals = (mkF m 0 #[.val (.int p1), .unset, .unset, .unset, .unset, .unset] []) := by first | (simp [entryFrame, mkF, argsToLocals, Value.category, maxLocals]; done) | rfl
  refine own_start (fun P hPP => ?_)
  refine own_step (T' := s₁) (g' := (mkF m 0 #[.val (.int p1), .unset, .unset, .unset, .unset, .unset] [])) (fun t_ k_ => castTop ef k_) ?_
  refine own_step (T' := s₁) (g' := (mkF m 1 #[.val (.int p1), .unset, .unset, .unset, .unset, .unset] [(.int p1)])) (fun t_ k_ => XS.iloadN X0.here hx rfl (hb hby at_0) rfl k_) ?_
  refine own_step (T' := s₁) (g' := (mkF m 3 #[.val (.int p1), .unset, .unset, .unset, .unset, .unset] [(.int (2147483647 : Int32)), (.int p1)])) (fun t_ k_ => X0.ldcInt hx hown (mvT hZ (hw _ (List.mem_of_getElem? (i := 0) rfl))) (g := (mkF m 1 #[.val (.int p1), .unset, .unset, .unset, .unset, .unset] [(.int p1)])) rfl (hb hby at_1) _ k_) ?_
  refine own_step (T' := s₁) (g' := (mkF m 4 #[.val (.int p1), .unset, .unset, .unset, .unset, .unset] [(.int (p1 &&& (2147483647 : Int32)))])) (fun t_ k_ => XS.iand X0.here hx rfl (hb hby at_3) rfl k_) ?_
  refine own_step (T' := s₁) (g' := (mkF m 6 #[.val (.int p1), .unset, .unset, .unset, .unset, .unset] [(.int (10 : Int32)), (.int (p1 &&& (2147483647 : Int32)))])) (fun t_ k_ => XS.bipush X0.here hx rfl (hb hby at_4) k_) ?_
  refine own_step (T' := s₁) (g' := (mkF m 7 #[.val (.int p1), .unset, .unset, .unset, .unset, .unset] [(.int ((p1 &&& (2147483647 : Int32)) % (10 : Int32)))])) (fun t_ k_ => iremM X0 hx rfl (hb hby at_6) rfl (by decide) k_) ?_
  rw [hk]
  refine own_step (T' := s₁) (g' := (mkF m 8 #[.val (.int p1), .val (.int (7 : Int32)), .unset, .unset, .unset, .unset] [])) (fun t_ k_ => XS.istoreN X0.here hx rfl (hb hby at_7) rfl (l' := #[.val (.int p1), .val (.int (7 : Int32)), .unset, .unset, .unset, .unset]) rfl k_) ?_
  refine own_step (T' := s₁) (g' := (mkF m 9 #[.val (.int p1), .val (.int (7 : Int32)), .unset, .unset, .unset, .unset] [(.int (7 : Int32))])) (fun t_ k_ => XS.iloadN X0.here hx rfl (hb hby at_8) rfl k_) ?_
  obtain ⟨_, _, ⟨T101, L101, k101, n101⟩, -, X101, ⟨Lc101, hQ101, l101, y101, z101⟩, st101⟩ := Jvm.LawKit.callS X0 hx (y := (⟨"com/example/upright_custodian/uprightcustodian/kmip/TtlvTypeHasFixedLengthPinLaw", "pick", "(I)Lcom/example/upright_custodian/uprightcustodian/kmip/TtlvType;"⟩ : MethodName)) hown (mvT hZ (hw _ (List.mem_of_getElem? (i := 1) rfl))) (mvT hZ (hw _ (List.mem_of_getElem? (i := 2) rfl))) (mvT hZ (hw _ (List.mem_of_getElem? (i := 3) rfl))) (mvT hZ (hw _ (List.mem_of_getElem? (i := 4) rfl))) (by decide) (backOf (W := 0) (rm1_7 l Z a0 hw [] A_BYTE_STRING h0 n0 Z0 S_BYTE_STRING) hZ (hw _ (List.mem_of_getElem? (i := 4) rfl)) (hw _ (List.mem_of_getElem? (i := 3) rfl)) (by decide) (by decide)) (g := (mkF m 9 #[.val (.int p1), .val (.int (7 : Int32)), .unset, .unset, .unset, .unset] [(.int (7 : Int32))])) rfl (by rw [hml]; rfl) (argsL := [(.int (7 : Int32))]) (rest := []) (lenOf (by decide +kernel : parseMethodDescriptor "(I)Lcom/example/upright_custodian/uprightcustodian/kmip/TtlvType;" = some ⟨[.int], some (.object "com/example/upright_custodian/uprightcustodian/kmip/TtlvType")⟩) rfl) rfl (by show 2 * 0 + _ ≤ _; exact Nat.le_of_eq rfl) (hb hby at_9) (fun _ _ => ⟨rfl, e0, (by decide : 0 + 0 ≤ _), (by decide : 0 + 0 ≤ _)⟩)
  dsimp only [Pt.U, Pt.locs, Pt.cells, Pt.slots] at X101 l101 y101 z101 st101 hQ101
  subst l101 y101 z101
  obtain ⟨rfl, Nq101, e101⟩ := hQ101
  have N101 := Fr.app N0 Nq101
  refine own_step (T' := T101) (g' := (mkF m 12 #[.val (.int p1), .val (.int (7 : Int32)), .unset, .unset, .unset, .unset] [(.ref A_BYTE_STRING)])) st101 ?_
  refine own_step (T' := T101) (g' := (mkF m 13 #[.val (.int p1), .val (.int (7 : Int32)), .val (.ref A_BYTE_STRING), .unset, .unset, .unset] [])) (fun t_ k_ => XS.astoreN X101.here hx rfl (hb hby at_12) rfl rfl (l' := #[.val (.int p1), .val (.int (7 : Int32)), .val (.ref A_BYTE_STRING), .unset, .unset, .unset]) rfl k_) ?_
  refine own_step (T' := T101) (g' := (mkF m 14 #[.val (.int p1), .val (.int (7 : Int32)), .val (.ref A_BYTE_STRING), .unset, .unset, .unset] [(.int (7 : Int32))])) (fun t_ k_ => XS.iloadN X101.here hx rfl (hb hby at_13) rfl k_) ?_
  refine own_step (T' := T101) (g' := (mkF m 15 #[.val (.int p1), .val (.int (7 : Int32)), .val (.ref A_BYTE_STRING), .unset, .unset, .unset] [(.int (1 : Int32)), (.int (7 : Int32))])) (fun t_ k_ => XS.iconst X101.here hx rfl (hb hby at_14) k_) ?_
  refine own_step (T' := T101) (g' := (mkF m 18 #[.val (.int p1), .val (.int (7 : Int32)), .val (.ref A_BYTE_STRING), .unset, .unset, .unset] [])) (fun t_ k_ => XS.icmpNo X101.here hx rfl (hb hby at_15) rfl (feq (by decide)).1 k_) ?_
  refine own_step (T' := T101) (g' := (mkF m 19 #[.val (.int p1), .val (.int (7 : Int32)), .val (.ref A_BYTE_STRING), .unset, .unset, .unset] [(.int (7 : Int32))])) (fun t_ k_ => XS.iloadN X101.here hx rfl (hb hby at_18) rfl k_) ?_
  refine own_step (T' := T101) (g' := (mkF m 20 #[.val (.int p1), .val (.int (7 : Int32)), .val (.ref A_BYTE_STRING), .unset, .unset, .unset] [(.int (2 : Int32)), (.int (7 : Int32))])) (fun t_ k_ => XS.iconst X101.here hx rfl (hb hby at_19) k_) ?_
  refine own_step (T' := T101) (g' := (mkF m 23 #[.val (.int p1), .val (.int (7 : Int32)), .val (.ref A_BYTE_STRING), .unset, .unset, .unset] [])) (fun t_ k_ => XS.icmpNo X101.here hx rfl (hb hby at_20) rfl (feq (by decide)).1 k_) ?_
  refine own_step (T' := T101) (g' := (mkF m 24 #[.val (.int p1), .val (.int (7 : Int32)), .val (.ref A_BYTE_STRING), .unset, .unset, .unset] [(.int (7 : Int32))])) (fun t_ k_ => XS.iloadN X101.here hx rfl (hb hby at_23) rfl k_) ?_
  refine own_step (T' := T101) (g' := (mkF m 25 #[.val (.int p1), .val (.int (7 : Int32)), .val (.ref A_BYTE_STRING), .unset, .unset, .unset] [(.int (4 : Int32)), (.int (7 : Int32))])) (fun t_ k_ => XS.iconst X101.here hx rfl (hb hby at_24) k_) ?_
  refine own_step (T' := T101) (g' := (mkF m 28 #[.val (.int p1), .val (.int (7 : Int32)), .val (.ref A_BYTE_STRING), .unset, .unset, .unset] [])) (fun t_ k_ => XS.icmpNo X101.here hx rfl (hb hby at_25) rfl (feq (by decide)).1 k_) ?_
  refine own_step (T' := T101) (g' := (mkF m 29 #[.val (.int p1), .val (.int (7 : Int32)), .val (.ref A_BYTE_STRING), .unset, .unset, .unset] [(.int (7 : Int32))])) (fun t_ k_ => XS.iloadN X101.here hx rfl (hb hby at_28) rfl k_) ?_
  refine own_step (T' := T101) (g' := (mkF m 30 #[.val (.int p1), .val (.int (7 : Int32)), .val (.ref A_BYTE_STRING), .unset, .unset, .unset] [(.int (5 : Int32)), (.int (7 : Int32))])) (fun t_ k_ => XS.iconst X101.here hx rfl (hb hby at_29) k_) ?_
  refine own_step (T' := T101) (g' := (mkF m 33 #[.val (.int p1), .val (.int (7 : Int32)), .val (.ref A_BYTE_STRING), .unset, .unset, .unset] [])) (fun t_ k_ => XS.icmpNo X101.here hx rfl (hb hby at_30) rfl (feq (by decide)).1 k_) ?_
  refine own_step (T' := T101) (g' := (mkF m 34 #[.val (.int p1), .val (.int (7 : Int32)), .val (.ref A_BYTE_STRING), .unset, .unset, .unset] [(.int (7 : Int32))])) (fun t_ k_ => XS.iloadN X101.here hx rfl (hb hby at_33) rfl k_) ?_
  refine own_step (T' := T101) (g' := (mkF m 36 #[.val (.int p1), .val (.int (7 : Int32)), .val (.ref A_BYTE_STRING), .unset, .unset, .unset] [(.int (8 : Int32)), (.int (7 : Int32))])) (fun t_ k_ => XS.bipush X101.here hx rfl (hb hby at_34) k_) ?_
  refine own_step (T' := T101) (g' := (mkF m 39 #[.val (.int p1), .val (.int (7 : Int32)), .val (.ref A_BYTE_STRING), .unset, .unset, .unset] [])) (fun t_ k_ => XS.icmpNo X101.here hx rfl (hb hby at_36) rfl (feq (by decide)).1 k_) ?_
  refine own_step (T' := T101) (g' := (mkF m 40 #[.val (.int p1), .val (.int (7 : Int32)), .val (.ref A_BYTE_STRING), .unset, .unset, .unset] [(.int (7 : Int32))])) (fun t_ k_ => XS.iloadN X101.here hx rfl (hb hby at_39) rfl k_) ?_
  refine own_step (T' := T101) (g' := (mkF m 42 #[.val (.int p1), .val (.int (7 : Int32)), .val (.ref A_BYTE_STRING), .unset, .unset, .unset] [(.int (9 : Int32)), (.int (7 : Int32))])) (fun t_ k_ => XS.bipush X101.here hx rfl (hb hby at_40) k_) ?_
  refine own_step (T' := T101) (g' := (mkF m 49 #[.val (.int p1), .val (.int (7 : Int32)), .val (.ref A_BYTE_STRING), .unset, .unset, .unset] [])) (fun t_ k_ => XS.icmpYes X101.here hx rfl (pc0 := 42) (pc' := 49) rfl (hb hby at_42) rfl (feq (by decide)).2 (by decide) (by decide) k_) ?_
  refine own_step (T' := T101) (g' := (mkF m 50 #[.val (.int p1), .val (.int (7 : Int32)), .val (.ref A_BYTE_STRING), .unset, .unset, .unset] [(.int (0 : Int32))])) (fun t_ k_ => XS.iconst X101.here hx rfl (hb hby at_49) k_) ?_
  refine own_step (T' := T101) (g' := (mkF m 51 #[.val (.int p1), .val (.int (7 : Int32)), .val (.ref A_BYTE_STRING), .val (.int (0 : Int32)), .unset, .unset] [])) (fun t_ k_ => XS.istoreN X101.here hx rfl (hb hby at_50) rfl (l' := #[.val (.int p1), .val (.int (7 : Int32)), .val (.ref A_BYTE_STRING), .val (.int (0 : Int32)), .unset, .unset]) rfl k_) ?_
  refine own_step (T' := T101) (g' := (mkF m 52 #[.val (.int p1), .val (.int (7 : Int32)), .val (.ref A_BYTE_STRING), .val (.int (0 : Int32)), .unset, .unset] [(.int (7 : Int32))])) (fun t_ k_ => XS.iloadN X101.here hx rfl (hb hby at_51) rfl k_) ?_
  refine own_step (T' := T101) (g' := (mkF m 53 #[.val (.int p1), .val (.int (7 : Int32)), .val (.ref A_BYTE_STRING), .val (.int (0 : Int32)), .unset, .unset] [(.int (1 : Int32)), (.int (7 : Int32))])) (fun t_ k_ => XS.iconst X101.here hx rfl (hb hby at_52) k_) ?_
  refine own_step (T' := T101) (g' := (mkF m 56 #[.val (.int p1), .val (.int (7 : Int32)), .val (.ref A_BYTE_STRING), .val (.int (0 : Int32)), .unset, .unset] [])) (fun t_ k_ => XS.icmpNo X101.here hx rfl (hb hby at_53) rfl (feq (by decide)).1 k_) ?_
  refine own_step (T' := T101) (g' := (mkF m 57 #[.val (.int p1), .val (.int (7 : Int32)), .val (.ref A_BYTE_STRING), .val (.int (0 : Int32)), .unset, .unset] [(.int (7 : Int32))])) (fun t_ k_ => XS.iloadN X101.here hx rfl (hb hby at_56) rfl k_) ?_
  refine own_step (T' := T101) (g' := (mkF m 58 #[.val (.int p1), .val (.int (7 : Int32)), .val (.ref A_BYTE_STRING), .val (.int (0 : Int32)), .unset, .unset] [(.int (4 : Int32)), (.int (7 : Int32))])) (fun t_ k_ => XS.iconst X101.here hx rfl (hb hby at_57) k_) ?_
  refine own_step (T' := T101) (g' := (mkF m 61 #[.val (.int p1), .val (.int (7 : Int32)), .val (.ref A_BYTE_STRING), .val (.int (0 : Int32)), .unset, .unset] [])) (fun t_ k_ => XS.icmpNo X101.here hx rfl (hb hby at_58) rfl (feq (by decide)).1 k_) ?_
  refine own_step (T' := T101) (g' := (mkF m 62 #[.val (.int p1), .val (.int (7 : Int32)), .val (.ref A_BYTE_STRING), .val (.int (0 : Int32)), .unset, .unset] [(.int (7 : Int32))])) (fun t_ k_ => XS.iloadN X101.here hx rfl (hb hby at_61) rfl k_) ?_
  refine own_step (T' := T101) (g' := (mkF m 64 #[.val (.int p1), .val (.int (7 : Int32)), .val (.ref A_BYTE_STRING), .val (.int (0 : Int32)), .unset, .unset] [(.int (9 : Int32)), (.int (7 : Int32))])) (fun t_ k_ => XS.bipush X101.here hx rfl (hb hby at_62) k_) ?_
  refine own_step (T' := T101) (g' := (mkF m 71 #[.val (.int p1), .val (.int (7 : Int32)), .val (.ref A_BYTE_STRING), .val (.int (0 : Int32)), .unset, .unset] [])) (fun t_ k_ => XS.icmpYes X101.here hx rfl (pc0 := 64) (pc' := 71) rfl (hb hby at_64) rfl (feq (by decide)).2 (by decide) (by decide) k_) ?_
  refine own_step (T' := T101) (g' := (mkF m 73 #[.val (.int p1), .val (.int (7 : Int32)), .val (.ref A_BYTE_STRING), .val (.int (0 : Int32)), .unset, .unset] [(.int (8 : Int32))])) (fun t_ k_ => XS.bipush X101.here hx rfl (hb hby at_71) k_) ?_
  refine own_step (T' := T101) (g' := (mkF m 75 #[.val (.int p1), .val (.int (7 : Int32)), .val (.ref A_BYTE_STRING), .val (.int (0 : Int32)), .val (.int (8 : Int32)), .unset] [])) (fun t_ k_ => XS.istore X101.here hx rfl (hb hby at_73) rfl (l' := #[.val (.int p1), .val (.int (7 : Int32)), .val (.ref A_BYTE_STRING), .val (.int (0 : Int32)), .val (.int (8 : Int32)), .unset]) rfl k_) ?_
  refine own_step (T' := T101) (g' := (mkF m 76 #[.val (.int p1), .val (.int (7 : Int32)), .val (.ref A_BYTE_STRING), .val (.int (0 : Int32)), .val (.int (8 : Int32)), .unset] [(.ref A_BYTE_STRING)])) (fun t_ k_ => XS.aloadN X101.here hx rfl (hb hby at_75) rfl rfl k_) ?_
  obtain ⟨cq102, kq102, q102a, q102b, q102c⟩ := isOf hZ e101 E_BYTE_STRING
  obtain ⟨_, _, ⟨T102, L102, k102, n102⟩, -, X102, ⟨Lc102, hQ102, l102, y102, z102⟩, st102⟩ := X101.virtualBack hx (y := (⟨"com/example/upright_custodian/uprightcustodian/kmip/TtlvType", "hasFixedLength", "()Z"⟩ : MethodName)) (z := (⟨"com/example/upright_custodian/uprightcustodian/kmip/TtlvType", "hasFixedLength", "()Z"⟩ : MethodName)) hown (mvT hZ (hw _ (List.mem_of_getElem? (i := 8) rfl))) (mvT hZ (hw _ (List.mem_of_getElem? (i := 9) rfl))) (notFace_of_selects (args := #[]) (mvT hZ (hw _ (List.mem_of_getElem? (i := 11) rfl)))) (mvT hZ (hw _ (List.mem_of_getElem? (i := 11) rfl))) (mvT hZ (hw _ (List.mem_of_getElem? (i := 10) rfl))) (by decide) (backOf (W := 0) (rm2 l Z a0 hw [] A_BYTE_STRING (-1 : Int32) (0 : Int32) h0 n0 Z0 F_BYTE_STRING_fixedLength (by decide)) hZ (hw _ (List.mem_of_getElem? (i := 12) rfl)) (hw _ (List.mem_of_getElem? (i := 6) rfl)) (by decide) (by decide)) q102a q102c (g := (mkF m 76 #[.val (.int p1), .val (.int (7 : Int32)), .val (.ref A_BYTE_STRING), .val (.int (0 : Int32)), .val (.int (8 : Int32)), .unset] [(.ref A_BYTE_STRING)])) rfl (by rw [hml]; rfl) (Steps.refl _) (argsL := []) (rest := []) (lenOf (by decide +kernel : parseMethodDescriptor "()Z" = some ⟨[], some .boolean⟩) rfl) rfl (by show 2 * 0 + _ ≤ _; exact Nat.le_of_eq rfl) (hb hby at_76) (fun _ _ => ⟨rfl, e101, (by decide : 0 + 0 ≤ _), (by decide : 0 + 0 ≤ _)⟩)
  dsimp only [Pt.U, Pt.locs, Pt.cells, Pt.slots] at X102 l102 y102 z102 st102 hQ102
  subst l102 y102 z102
  obtain ⟨rfl, Nq102, e102⟩ := hQ102
  have N102 := Fr.app N101 Nq102
  refine own_to (T' := T102) (g' := (mkF m 79 #[.val (.int p1), .val (.int (7 : Int32)), .val (.ref A_BYTE_STRING), .val (.int (0 : Int32)), .val (.int (8 : Int32)), .unset] [(.int (0 : Int32))])) st102 ?_
  refine own_step (T' := T102) (g' := (mkF m 81 #[.val (.int p1), .val (.int (7 : Int32)), .val (.ref A_BYTE_STRING), .val (.int (0 : Int32)), .val (.int (8 : Int32)), .val (.int (0 : Int32))] [])) (fun t_ k_ => XS.istore X102.here hx rfl (hb hby at_79) rfl (l' := #[.val (.int p1), .val (.int (7 : Int32)), .val (.ref A_BYTE_STRING), .val (.int (0 : Int32)), .val (.int (8 : Int32)), .val (.int (0 : Int32))]) rfl k_) ?_
  refine own_step (T' := T102) (g' := (mkF m 83 #[.val (.int p1), .val (.int (7 : Int32)), .val (.ref A_BYTE_STRING), .val (.int (0 : Int32)), .val (.int (8 : Int32)), .val (.int (0 : Int32))] [(.int (0 : Int32))])) (fun t_ k_ => XS.iload X102.here hx rfl (hb hby at_81) rfl k_) ?_
  refine own_step (T' := T102) (g' := (mkF m 84 #[.val (.int p1), .val (.int (7 : Int32)), .val (.ref A_BYTE_STRING), .val (.int (0 : Int32)), .val (.int (8 : Int32)), .val (.int (0 : Int32))] [(.int (0 : Int32)), (.int (0 : Int32))])) (fun t_ k_ => XS.iloadN X102.here hx rfl (hb hby at_83) rfl k_) ?_
  refine own_step (T' := T102) (g' := (mkF m 89 #[.val (.int p1), .val (.int (7 : Int32)), .val (.ref A_BYTE_STRING), .val (.int (0 : Int32)), .val (.int (8 : Int32)), .val (.int (0 : Int32))] [])) (fun t_ k_ => XS.icmpYes X102.here hx rfl (pc0 := 84) (pc' := 89) rfl (hb hby at_84) rfl (teq (by decide)).1 (by decide) (by decide) k_) ?_
  refine own_step (T' := T102) (g' := (mkF m 91 #[.val (.int p1), .val (.int (7 : Int32)), .val (.ref A_BYTE_STRING), .val (.int (0 : Int32)), .val (.int (8 : Int32)), .val (.int (0 : Int32))] [(.int (0 : Int32))])) (fun t_ k_ => XS.iload X102.here hx rfl (hb hby at_89) rfl k_) ?_
  refine own_step (T' := T102) (g' := (mkF m 94 #[.val (.int p1), .val (.int (7 : Int32)), .val (.ref A_BYTE_STRING), .val (.int (0 : Int32)), .val (.int (8 : Int32)), .val (.int (0 : Int32))] [])) (fun t_ k_ => XS.ifNo X102.here hx rfl (hb hby at_91) rfl ((if0 _ _).trans (teq (by decide)).2) k_) ?_
  refine own_step (T' := T102) (g' := (mkF m 95 #[.val (.int p1), .val (.int (7 : Int32)), .val (.ref A_BYTE_STRING), .val (.int (0 : Int32)), .val (.int (8 : Int32)), .val (.int (0 : Int32))] [(.int (1 : Int32))])) (fun t_ k_ => XS.iconst X102.here hx rfl (hb hby at_94) k_) ?_
  obtain ⟨fs, hrR, hrun, hended, hWW, hsame⟩ := X102.leave (v := some (.int (1 : Int32))) (fun h => by rw [Bd.returns] at h; cases h)
  refine ⟨_, _, own_retZ X102 hx (t := .boolean) Bd.returns (by simp) (by decide) (hb hby at_95) hrR, hrun, hended, hPP _ _ ⟨_, _, rfl, ?_, ⟨_, rfl⟩, hWW, hsame.mono (by decide) (by decide)⟩⟩
  show Q0 n0 _ T102.heap _
  rw [e102]
  exact ⟨rfl, N102⟩
set_option maxRecDepth 65536 in
set_option maxHeartbeats 40000000 in
theorem rm0_8 (l : Launch) (Z : State) (a0 : Array Value) (hw : ∀ d ∈ tables_1, d.before a0 Z = true) (ws : List Jvm.Cond) (p1 : Int32) (A_DATE_TIME : Addr) (h0 : Heap) (n0 : Nat) (Z0 : n0 ≤ h0.size) (hk : (p1 &&& 2147483647) % 10 = 8) (E_DATE_TIME : Exa Z h0 A_DATE_TIME "com/example/upright_custodian/uprightcustodian/kmip/TtlvType") (S_DATE_TIME : Sta Z h0 "com/example/upright_custodian/uprightcustodian/kmip/TtlvType" "DATE_TIME" "Lcom/example/upright_custodian/uprightcustodian/kmip/TtlvType;" (.ref A_DATE_TIME)) (F_DATE_TIME_fixedLength : Fld Z h0 A_DATE_TIME "com/example/upright_custodian/uprightcustodian/kmip/TtlvType" "fixedLength" "I" (.int (8 : Int32))) :
    MetFree l x (head1 (Jvm.Cond.code x code maxLocals ret :: ws) room_1) (fun a U => a = #[(.int p1)] ∧ Z.Warmed39 U.vm ∧ U.heap = h0) (fun _ _ _ _ _ => True) (fun _ U o U' => ∃ v L, o = .returned v ∧ Q0 n0 v U'.heap L ∧ FrameEnd U o U' L 0 0) := by
  refine MetFree.of_bodySF (plainFor_of_name (by first | (simp [plainName, overriddenIn]; done) | decide +kernel)) hisR ?_
  intro p e s m args below meth c s₁ Bd hml0 hP hK
  obtain ⟨rfl, hZ, hh⟩ := hP
  have hx := Bd.exec
  have hby := Bd.bytes
  have hml : c.maxLocals = 6 := hml0
  have hown : s.vm.findClass "com/example/upright_custodian/uprightcustodian/kmip/TtlvTypeHasFixedLengthPinLaw" = some m.cls := findClass_of_methodNamed Bd.named
  have hnm := (name_of_methodNamed Bd.named Bd.method).1
  have X0 : Stand p l e room_1 s m #[(.int p1)] below meth c s₁ [] 0 0 := Stand.of_body Bd
  have e0 : s₁.heap = h0 := by rw [← hh, Bd.state]; rfl
  have N0 := Fr.nil n0
  have ef : entryFrame m #[(.int p1)] maxLocals = (mkF m 0 #[.val (.int p1), .unset, .unset, .unset, .unset, .unset] []) := by first | (simp [entryFrame, mkF, argsToLocals, Value.category, maxLocals]; done) | rfl
  refine own_start (fun P hPP => ?_)
  refine own_step (T' := s₁) (g' := (mkF m 0 #[.val (.int p1), .unset, .unset, .unset, .unset, .unset] [])) (fun t_ k_ => castTop ef k_) ?_
  refine own_step (T' := s₁) (g' := (mkF m 1 #[.val (.int p1), .unset, .unset, .unset, .unset, .unset] [(.int p1)])) (fun t_ k_ => XS.iloadN X0.here hx rfl (hb hby at_0) rfl k_) ?_
  refine own_step (T' := s₁) (g' := (mkF m 3 #[.val (.int p1), .unset, .unset, .unset, .unset, .unset] [(.int (2147483647 : Int32)), (.int p1)])) (fun t_ k_ => X0.ldcInt hx hown (mvT hZ (hw _ (List.mem_of_getElem? (i := 0) rfl))) (g := (mkF m 1 #[.val (.int p1), .unset, .unset, .unset, .unset, .unset] [(.int p1)])) rfl (hb hby at_1) _ k_) ?_
  refine own_step (T' := s₁) (g' := (mkF m 4 #[.val (.int p1), .unset, .unset, .unset, .unset, .unset] [(.int (p1 &&& (2147483647 : Int32)))])) (fun t_ k_ => XS.iand X0.here hx rfl (hb hby at_3) rfl k_) ?_
  refine own_step (T' := s₁) (g' := (mkF m 6 #[.val (.int p1), .unset, .unset, .unset, .unset, .unset] [(.int (10 : Int32)), (.int (p1 &&& (2147483647 : Int32)))])) (fun t_ k_ => XS.bipush X0.here hx rfl (hb hby at_4) k_) ?_
  refine own_step (T' := s₁) (g' := (mkF m 7 #[.val (.int p1), .unset, .unset, .unset, .unset, .unset] [(.int ((p1 &&& (2147483647 : Int32)) % (10 : Int32)))])) (fun t_ k_ => iremM X0 hx rfl (hb hby at_6) rfl (by decide) k_) ?_
  rw [hk]
  refine own_step (T' := s₁) (g' := (mkF m 8 #[.val (.int p1), .val (.int (8 : Int32)), .unset, .unset, .unset, .unset] [])) (fun t_ k_ => XS.istoreN X0.here hx rfl (hb hby at_7) rfl (l' := #[.val (.int p1), .val (.int (8 : Int32)), .unset, .unset, .unset, .unset]) rfl k_) ?_
  refine own_step (T' := s₁) (g' := (mkF m 9 #[.val (.int p1), .val (.int (8 : Int32)), .unset, .unset, .unset, .unset] [(.int (8 : Int32))])) (fun t_ k_ => XS.iloadN X0.here hx rfl (hb hby at_8) rfl k_) ?_
  obtain ⟨_, _, ⟨T101, L101, k101, n101⟩, -, X101, ⟨Lc101, hQ101, l101, y101, z101⟩, st101⟩ := Jvm.LawKit.callS X0 hx (y := (⟨"com/example/upright_custodian/uprightcustodian/kmip/TtlvTypeHasFixedLengthPinLaw", "pick", "(I)Lcom/example/upright_custodian/uprightcustodian/kmip/TtlvType;"⟩ : MethodName)) hown (mvT hZ (hw _ (List.mem_of_getElem? (i := 1) rfl))) (mvT hZ (hw _ (List.mem_of_getElem? (i := 2) rfl))) (mvT hZ (hw _ (List.mem_of_getElem? (i := 3) rfl))) (mvT hZ (hw _ (List.mem_of_getElem? (i := 4) rfl))) (by decide) (backOf (W := 0) (rm1_8 l Z a0 hw [] A_DATE_TIME h0 n0 Z0 S_DATE_TIME) hZ (hw _ (List.mem_of_getElem? (i := 4) rfl)) (hw _ (List.mem_of_getElem? (i := 3) rfl)) (by decide) (by decide)) (g := (mkF m 9 #[.val (.int p1), .val (.int (8 : Int32)), .unset, .unset, .unset, .unset] [(.int (8 : Int32))])) rfl (by rw [hml]; rfl) (argsL := [(.int (8 : Int32))]) (rest := []) (lenOf (by decide +kernel : parseMethodDescriptor "(I)Lcom/example/upright_custodian/uprightcustodian/kmip/TtlvType;" = some ⟨[.int], some (.object "com/example/upright_custodian/uprightcustodian/kmip/TtlvType")⟩) rfl) rfl (by show 2 * 0 + _ ≤ _; exact Nat.le_of_eq rfl) (hb hby at_9) (fun _ _ => ⟨rfl, e0, (by decide : 0 + 0 ≤ _), (by decide : 0 + 0 ≤ _)⟩)
  dsimp only [Pt.U, Pt.locs, Pt.cells, Pt.slots] at X101 l101 y101 z101 st101 hQ101
  subst l101 y101 z101
  obtain ⟨rfl, Nq101, e101⟩ := hQ101
  have N101 := Fr.app N0 Nq101
  refine own_step (T' := T101) (g' := (mkF m 12 #[.val (.int p1), .val (.int (8 : Int32)), .unset, .unset, .unset, .unset] [(.ref A_DATE_TIME)])) st101 ?_
  refine own_step (T' := T101) (g' := (mkF m 13 #[.val (.int p1), .val (.int (8 : Int32)), .val (.ref A_DATE_TIME), .unset, .unset, .unset] [])) (fun t_ k_ => XS.astoreN X101.here hx rfl (hb hby at_12) rfl rfl (l' := #[.val (.int p1), .val (.int (8 : Int32)), .val (.ref A_DATE_TIME), .unset, .unset, .unset]) rfl k_) ?_
  refine own_step (T' := T101) (g' := (mkF m 14 #[.val (.int p1), .val (.int (8 : Int32)), .val (.ref A_DATE_TIME), .unset, .unset, .unset] [(.int (8 : Int32))])) (fun t_ k_ => XS.iloadN X101.here hx rfl (hb hby at_13) rfl k_) ?_
  refine own_step (T' := T101) (g' := (mkF m 15 #[.val (.int p1), .val (.int (8 : Int32)), .val (.ref A_DATE_TIME), .unset, .unset, .unset] [(.int (1 : Int32)), (.int (8 : Int32))])) (fun t_ k_ => XS.iconst X101.here hx rfl (hb hby at_14) k_) ?_
  refine own_step (T' := T101) (g' := (mkF m 18 #[.val (.int p1), .val (.int (8 : Int32)), .val (.ref A_DATE_TIME), .unset, .unset, .unset] [])) (fun t_ k_ => XS.icmpNo X101.here hx rfl (hb hby at_15) rfl (feq (by decide)).1 k_) ?_
  refine own_step (T' := T101) (g' := (mkF m 19 #[.val (.int p1), .val (.int (8 : Int32)), .val (.ref A_DATE_TIME), .unset, .unset, .unset] [(.int (8 : Int32))])) (fun t_ k_ => XS.iloadN X101.here hx rfl (hb hby at_18) rfl k_) ?_
  refine own_step (T' := T101) (g' := (mkF m 20 #[.val (.int p1), .val (.int (8 : Int32)), .val (.ref A_DATE_TIME), .unset, .unset, .unset] [(.int (2 : Int32)), (.int (8 : Int32))])) (fun t_ k_ => XS.iconst X101.here hx rfl (hb hby at_19) k_) ?_
  refine own_step (T' := T101) (g' := (mkF m 23 #[.val (.int p1), .val (.int (8 : Int32)), .val (.ref A_DATE_TIME), .unset, .unset, .unset] [])) (fun t_ k_ => XS.icmpNo X101.here hx rfl (hb hby at_20) rfl (feq (by decide)).1 k_) ?_
  refine own_step (T' := T101) (g' := (mkF m 24 #[.val (.int p1), .val (.int (8 : Int32)), .val (.ref A_DATE_TIME), .unset, .unset, .unset] [(.int (8 : Int32))])) (fun t_ k_ => XS.iloadN X101.here hx rfl (hb hby at_23) rfl k_) ?_
  refine own_step (T' := T101) (g' := (mkF m 25 #[.val (.int p1), .val (.int (8 : Int32)), .val (.ref A_DATE_TIME), .unset, .unset, .unset] [(.int (4 : Int32)), (.int (8 : Int32))])) (fun t_ k_ => XS.iconst X101.here hx rfl (hb hby at_24) k_) ?_
  refine own_step (T' := T101) (g' := (mkF m 28 #[.val (.int p1), .val (.int (8 : Int32)), .val (.ref A_DATE_TIME), .unset, .unset, .unset] [])) (fun t_ k_ => XS.icmpNo X101.here hx rfl (hb hby at_25) rfl (feq (by decide)).1 k_) ?_
  refine own_step (T' := T101) (g' := (mkF m 29 #[.val (.int p1), .val (.int (8 : Int32)), .val (.ref A_DATE_TIME), .unset, .unset, .unset] [(.int (8 : Int32))])) (fun t_ k_ => XS.iloadN X101.here hx rfl (hb hby at_28) rfl k_) ?_
  refine own_step (T' := T101) (g' := (mkF m 30 #[.val (.int p1), .val (.int (8 : Int32)), .val (.ref A_DATE_TIME), .unset, .unset, .unset] [(.int (5 : Int32)), (.int (8 : Int32))])) (fun t_ k_ => XS.iconst X101.here hx rfl (hb hby at_29) k_) ?_
  refine own_step (T' := T101) (g' := (mkF m 33 #[.val (.int p1), .val (.int (8 : Int32)), .val (.ref A_DATE_TIME), .unset, .unset, .unset] [])) (fun t_ k_ => XS.icmpNo X101.here hx rfl (hb hby at_30) rfl (feq (by decide)).1 k_) ?_
  refine own_step (T' := T101) (g' := (mkF m 34 #[.val (.int p1), .val (.int (8 : Int32)), .val (.ref A_DATE_TIME), .unset, .unset, .unset] [(.int (8 : Int32))])) (fun t_ k_ => XS.iloadN X101.here hx rfl (hb hby at_33) rfl k_) ?_
  refine own_step (T' := T101) (g' := (mkF m 36 #[.val (.int p1), .val (.int (8 : Int32)), .val (.ref A_DATE_TIME), .unset, .unset, .unset] [(.int (8 : Int32)), (.int (8 : Int32))])) (fun t_ k_ => XS.bipush X101.here hx rfl (hb hby at_34) k_) ?_
  refine own_step (T' := T101) (g' := (mkF m 45 #[.val (.int p1), .val (.int (8 : Int32)), .val (.ref A_DATE_TIME), .unset, .unset, .unset] [])) (fun t_ k_ => XS.icmpYes X101.here hx rfl (pc0 := 36) (pc' := 45) rfl (hb hby at_36) rfl (teq (by decide)).1 (by decide) (by decide) k_) ?_
  refine own_step (T' := T101) (g' := (mkF m 46 #[.val (.int p1), .val (.int (8 : Int32)), .val (.ref A_DATE_TIME), .unset, .unset, .unset] [(.int (1 : Int32))])) (fun t_ k_ => XS.iconst X101.here hx rfl (hb hby at_45) k_) ?_
  refine own_step (T' := T101) (g' := (mkF m 50 #[.val (.int p1), .val (.int (8 : Int32)), .val (.ref A_DATE_TIME), .unset, .unset, .unset] [(.int (1 : Int32))])) (fun t_ k_ => XS.goto X101.here hx rfl (pc0 := 46) (pc' := 50) rfl (hb hby at_46) (by decide) (by decide) k_) ?_
  refine own_step (T' := T101) (g' := (mkF m 51 #[.val (.int p1), .val (.int (8 : Int32)), .val (.ref A_DATE_TIME), .val (.int (1 : Int32)), .unset, .unset] [])) (fun t_ k_ => XS.istoreN X101.here hx rfl (hb hby at_50) rfl (l' := #[.val (.int p1), .val (.int (8 : Int32)), .val (.ref A_DATE_TIME), .val (.int (1 : Int32)), .unset, .unset]) rfl k_) ?_
  refine own_step (T' := T101) (g' := (mkF m 52 #[.val (.int p1), .val (.int (8 : Int32)), .val (.ref A_DATE_TIME), .val (.int (1 : Int32)), .unset, .unset] [(.int (8 : Int32))])) (fun t_ k_ => XS.iloadN X101.here hx rfl (hb hby at_51) rfl k_) ?_
  refine own_step (T' := T101) (g' := (mkF m 53 #[.val (.int p1), .val (.int (8 : Int32)), .val (.ref A_DATE_TIME), .val (.int (1 : Int32)), .unset, .unset] [(.int (1 : Int32)), (.int (8 : Int32))])) (fun t_ k_ => XS.iconst X101.here hx rfl (hb hby at_52) k_) ?_
  refine own_step (T' := T101) (g' := (mkF m 56 #[.val (.int p1), .val (.int (8 : Int32)), .val (.ref A_DATE_TIME), .val (.int (1 : Int32)), .unset, .unset] [])) (fun t_ k_ => XS.icmpNo X101.here hx rfl (hb hby at_53) rfl (feq (by decide)).1 k_) ?_
  refine own_step (T' := T101) (g' := (mkF m 57 #[.val (.int p1), .val (.int (8 : Int32)), .val (.ref A_DATE_TIME), .val (.int (1 : Int32)), .unset, .unset] [(.int (8 : Int32))])) (fun t_ k_ => XS.iloadN X101.here hx rfl (hb hby at_56) rfl k_) ?_
  refine own_step (T' := T101) (g' := (mkF m 58 #[.val (.int p1), .val (.int (8 : Int32)), .val (.ref A_DATE_TIME), .val (.int (1 : Int32)), .unset, .unset] [(.int (4 : Int32)), (.int (8 : Int32))])) (fun t_ k_ => XS.iconst X101.here hx rfl (hb hby at_57) k_) ?_
  refine own_step (T' := T101) (g' := (mkF m 61 #[.val (.int p1), .val (.int (8 : Int32)), .val (.ref A_DATE_TIME), .val (.int (1 : Int32)), .unset, .unset] [])) (fun t_ k_ => XS.icmpNo X101.here hx rfl (hb hby at_58) rfl (feq (by decide)).1 k_) ?_
  refine own_step (T' := T101) (g' := (mkF m 62 #[.val (.int p1), .val (.int (8 : Int32)), .val (.ref A_DATE_TIME), .val (.int (1 : Int32)), .unset, .unset] [(.int (8 : Int32))])) (fun t_ k_ => XS.iloadN X101.here hx rfl (hb hby at_61) rfl k_) ?_
  refine own_step (T' := T101) (g' := (mkF m 64 #[.val (.int p1), .val (.int (8 : Int32)), .val (.ref A_DATE_TIME), .val (.int (1 : Int32)), .unset, .unset] [(.int (9 : Int32)), (.int (8 : Int32))])) (fun t_ k_ => XS.bipush X101.here hx rfl (hb hby at_62) k_) ?_
  refine own_step (T' := T101) (g' := (mkF m 71 #[.val (.int p1), .val (.int (8 : Int32)), .val (.ref A_DATE_TIME), .val (.int (1 : Int32)), .unset, .unset] [])) (fun t_ k_ => XS.icmpYes X101.here hx rfl (pc0 := 64) (pc' := 71) rfl (hb hby at_64) rfl (feq (by decide)).2 (by decide) (by decide) k_) ?_
  refine own_step (T' := T101) (g' := (mkF m 73 #[.val (.int p1), .val (.int (8 : Int32)), .val (.ref A_DATE_TIME), .val (.int (1 : Int32)), .unset, .unset] [(.int (8 : Int32))])) (fun t_ k_ => XS.bipush X101.here hx rfl (hb hby at_71) k_) ?_
  refine own_step (T' := T101) (g' := (mkF m 75 #[.val (.int p1), .val (.int (8 : Int32)), .val (.ref A_DATE_TIME), .val (.int (1 : Int32)), .val (.int (8 : Int32)), .unset] [])) (fun t_ k_ => XS.istore X101.here hx rfl (hb hby at_73) rfl (l' := #[.val (.int p1), .val (.int (8 : Int32)), .val (.ref A_DATE_TIME), .val (.int (1 : Int32)), .val (.int (8 : Int32)), .unset]) rfl k_) ?_
  refine own_step (T' := T101) (g' := (mkF m 76 #[.val (.int p1), .val (.int (8 : Int32)), .val (.ref A_DATE_TIME), .val (.int (1 : Int32)), .val (.int (8 : Int32)), .unset] [(.ref A_DATE_TIME)])) (fun t_ k_ => XS.aloadN X101.here hx rfl (hb hby at_75) rfl rfl k_) ?_
  obtain ⟨cq102, kq102, q102a, q102b, q102c⟩ := isOf hZ e101 E_DATE_TIME
  obtain ⟨_, _, ⟨T102, L102, k102, n102⟩, -, X102, ⟨Lc102, hQ102, l102, y102, z102⟩, st102⟩ := X101.virtualBack hx (y := (⟨"com/example/upright_custodian/uprightcustodian/kmip/TtlvType", "hasFixedLength", "()Z"⟩ : MethodName)) (z := (⟨"com/example/upright_custodian/uprightcustodian/kmip/TtlvType", "hasFixedLength", "()Z"⟩ : MethodName)) hown (mvT hZ (hw _ (List.mem_of_getElem? (i := 8) rfl))) (mvT hZ (hw _ (List.mem_of_getElem? (i := 9) rfl))) (notFace_of_selects (args := #[]) (mvT hZ (hw _ (List.mem_of_getElem? (i := 11) rfl)))) (mvT hZ (hw _ (List.mem_of_getElem? (i := 11) rfl))) (mvT hZ (hw _ (List.mem_of_getElem? (i := 10) rfl))) (by decide) (backOf (W := 0) (rm2 l Z a0 hw [] A_DATE_TIME (8 : Int32) (1 : Int32) h0 n0 Z0 F_DATE_TIME_fixedLength (by decide)) hZ (hw _ (List.mem_of_getElem? (i := 12) rfl)) (hw _ (List.mem_of_getElem? (i := 6) rfl)) (by decide) (by decide)) q102a q102c (g := (mkF m 76 #[.val (.int p1), .val (.int (8 : Int32)), .val (.ref A_DATE_TIME), .val (.int (1 : Int32)), .val (.int (8 : Int32)), .unset] [(.ref A_DATE_TIME)])) rfl (by rw [hml]; rfl) (Steps.refl _) (argsL := []) (rest := []) (lenOf (by decide +kernel : parseMethodDescriptor "()Z" = some ⟨[], some .boolean⟩) rfl) rfl (by show 2 * 0 + _ ≤ _; exact Nat.le_of_eq rfl) (hb hby at_76) (fun _ _ => ⟨rfl, e101, (by decide : 0 + 0 ≤ _), (by decide : 0 + 0 ≤ _)⟩)
  dsimp only [Pt.U, Pt.locs, Pt.cells, Pt.slots] at X102 l102 y102 z102 st102 hQ102
  subst l102 y102 z102
  obtain ⟨rfl, Nq102, e102⟩ := hQ102
  have N102 := Fr.app N101 Nq102
  refine own_to (T' := T102) (g' := (mkF m 79 #[.val (.int p1), .val (.int (8 : Int32)), .val (.ref A_DATE_TIME), .val (.int (1 : Int32)), .val (.int (8 : Int32)), .unset] [(.int (1 : Int32))])) st102 ?_
  refine own_step (T' := T102) (g' := (mkF m 81 #[.val (.int p1), .val (.int (8 : Int32)), .val (.ref A_DATE_TIME), .val (.int (1 : Int32)), .val (.int (8 : Int32)), .val (.int (1 : Int32))] [])) (fun t_ k_ => XS.istore X102.here hx rfl (hb hby at_79) rfl (l' := #[.val (.int p1), .val (.int (8 : Int32)), .val (.ref A_DATE_TIME), .val (.int (1 : Int32)), .val (.int (8 : Int32)), .val (.int (1 : Int32))]) rfl k_) ?_
  refine own_step (T' := T102) (g' := (mkF m 83 #[.val (.int p1), .val (.int (8 : Int32)), .val (.ref A_DATE_TIME), .val (.int (1 : Int32)), .val (.int (8 : Int32)), .val (.int (1 : Int32))] [(.int (1 : Int32))])) (fun t_ k_ => XS.iload X102.here hx rfl (hb hby at_81) rfl k_) ?_
  refine own_step (T' := T102) (g' := (mkF m 84 #[.val (.int p1), .val (.int (8 : Int32)), .val (.ref A_DATE_TIME), .val (.int (1 : Int32)), .val (.int (8 : Int32)), .val (.int (1 : Int32))] [(.int (1 : Int32)), (.int (1 : Int32))])) (fun t_ k_ => XS.iloadN X102.here hx rfl (hb hby at_83) rfl k_) ?_
  refine own_step (T' := T102) (g' := (mkF m 89 #[.val (.int p1), .val (.int (8 : Int32)), .val (.ref A_DATE_TIME), .val (.int (1 : Int32)), .val (.int (8 : Int32)), .val (.int (1 : Int32))] [])) (fun t_ k_ => XS.icmpYes X102.here hx rfl (pc0 := 84) (pc' := 89) rfl (hb hby at_84) rfl (teq (by decide)).1 (by decide) (by decide) k_) ?_
  refine own_step (T' := T102) (g' := (mkF m 91 #[.val (.int p1), .val (.int (8 : Int32)), .val (.ref A_DATE_TIME), .val (.int (1 : Int32)), .val (.int (8 : Int32)), .val (.int (1 : Int32))] [(.int (1 : Int32))])) (fun t_ k_ => XS.iload X102.here hx rfl (hb hby at_89) rfl k_) ?_
  refine own_step (T' := T102) (g' := (mkF m 96 #[.val (.int p1), .val (.int (8 : Int32)), .val (.ref A_DATE_TIME), .val (.int (1 : Int32)), .val (.int (8 : Int32)), .val (.int (1 : Int32))] [])) (fun t_ k_ => XS.ifYes X102.here hx rfl (pc0 := 91) (pc' := 96) rfl (hb hby at_91) rfl ((if0 _ _).trans (feq (by decide)).2) (by decide) (by decide) k_) ?_
  refine own_step (T' := T102) (g' := (mkF m 97 #[.val (.int p1), .val (.int (8 : Int32)), .val (.ref A_DATE_TIME), .val (.int (1 : Int32)), .val (.int (8 : Int32)), .val (.int (1 : Int32))] [(.ref A_DATE_TIME)])) (fun t_ k_ => XS.aloadN X102.here hx rfl (hb hby at_96) rfl rfl k_) ?_
  obtain ⟨cq103, kq103, q103a, q103b, q103c⟩ := isOf hZ e102 E_DATE_TIME
  obtain ⟨_, _, ⟨T103, L103, k103, n103⟩, -, X103, ⟨Lc103, hQ103, l103, y103, z103⟩, st103⟩ := X102.virtualBack hx (y := (⟨"com/example/upright_custodian/uprightcustodian/kmip/TtlvType", "fixedLength", "()I"⟩ : MethodName)) (z := (⟨"com/example/upright_custodian/uprightcustodian/kmip/TtlvType", "fixedLength", "()I"⟩ : MethodName)) hown (mvT hZ (hw _ (List.mem_of_getElem? (i := 19) rfl))) (mvT hZ (hw _ (List.mem_of_getElem? (i := 20) rfl))) (notFace_of_selects (args := #[]) (mvT hZ (hw _ (List.mem_of_getElem? (i := 22) rfl)))) (mvT hZ (hw _ (List.mem_of_getElem? (i := 22) rfl))) (mvT hZ (hw _ (List.mem_of_getElem? (i := 21) rfl))) (by decide) (backOf (W := 0) (rm3 l Z a0 hw [] A_DATE_TIME (8 : Int32) h0 n0 Z0 F_DATE_TIME_fixedLength E_DATE_TIME (by decide)) hZ (hw _ (List.mem_of_getElem? (i := 23) rfl)) (hw _ (List.mem_of_getElem? (i := 6) rfl)) (by decide) (by decide)) q103a q103c (g := (mkF m 97 #[.val (.int p1), .val (.int (8 : Int32)), .val (.ref A_DATE_TIME), .val (.int (1 : Int32)), .val (.int (8 : Int32)), .val (.int (1 : Int32))] [(.ref A_DATE_TIME)])) rfl (by rw [hml]; rfl) (Steps.refl _) (argsL := []) (rest := []) (lenOf (by decide +kernel : parseMethodDescriptor "()I" = some ⟨[], some .int⟩) rfl) rfl (by show 2 * 0 + _ ≤ _; exact Nat.le_of_eq rfl) (hb hby at_97) (fun _ _ => ⟨rfl, e102, (by decide : 0 + 0 ≤ _), (by decide : 0 + 0 ≤ _)⟩)
  dsimp only [Pt.U, Pt.locs, Pt.cells, Pt.slots] at X103 l103 y103 z103 st103 hQ103
  subst l103 y103 z103
  obtain ⟨rfl, Nq103, e103⟩ := hQ103
  have N103 := Fr.app N102 Nq103
  refine own_to (T' := T103) (g' := (mkF m 100 #[.val (.int p1), .val (.int (8 : Int32)), .val (.ref A_DATE_TIME), .val (.int (1 : Int32)), .val (.int (8 : Int32)), .val (.int (1 : Int32))] [(.int (8 : Int32))])) st103 ?_
  refine own_step (T' := T103) (g' := (mkF m 102 #[.val (.int p1), .val (.int (8 : Int32)), .val (.ref A_DATE_TIME), .val (.int (1 : Int32)), .val (.int (8 : Int32)), .val (.int (1 : Int32))] [(.int (8 : Int32)), (.int (8 : Int32))])) (fun t_ k_ => XS.iload X103.here hx rfl (hb hby at_100) rfl k_) ?_
  refine own_step (T' := T103) (g' := (mkF m 105 #[.val (.int p1), .val (.int (8 : Int32)), .val (.ref A_DATE_TIME), .val (.int (1 : Int32)), .val (.int (8 : Int32)), .val (.int (1 : Int32))] [])) (fun t_ k_ => XS.icmpNo X103.here hx rfl (hb hby at_102) rfl (teq (by decide)).2 k_) ?_
  refine own_step (T' := T103) (g' := (mkF m 106 #[.val (.int p1), .val (.int (8 : Int32)), .val (.ref A_DATE_TIME), .val (.int (1 : Int32)), .val (.int (8 : Int32)), .val (.int (1 : Int32))] [(.int (1 : Int32))])) (fun t_ k_ => XS.iconst X103.here hx rfl (hb hby at_105) k_) ?_
  refine own_step (T' := T103) (g' := (mkF m 110 #[.val (.int p1), .val (.int (8 : Int32)), .val (.ref A_DATE_TIME), .val (.int (1 : Int32)), .val (.int (8 : Int32)), .val (.int (1 : Int32))] [(.int (1 : Int32))])) (fun t_ k_ => XS.goto X103.here hx rfl (pc0 := 106) (pc' := 110) rfl (hb hby at_106) (by decide) (by decide) k_) ?_
  obtain ⟨fs, hrR, hrun, hended, hWW, hsame⟩ := X103.leave (v := some (.int (1 : Int32))) (fun h => by rw [Bd.returns] at h; cases h)
  refine ⟨_, _, own_retZ X103 hx (t := .boolean) Bd.returns (by simp) (by decide) (hb hby at_110) hrR, hrun, hended, hPP _ _ ⟨_, _, rfl, ?_, ⟨_, rfl⟩, hWW, hsame.mono (by decide) (by decide)⟩⟩
  show Q0 n0 _ T103.heap _
  rw [e103]
  exact ⟨rfl, N103⟩
set_option maxRecDepth 65536 in
set_option maxHeartbeats 40000000 in
theorem rm0_9 (l : Launch) (Z : State) (a0 : Array Value) (hw : ∀ d ∈ tables_1, d.before a0 Z = true) (ws : List Jvm.Cond) (p1 : Int32) (A_INTERVAL : Addr) (h0 : Heap) (n0 : Nat) (Z0 : n0 ≤ h0.size) (hk : (p1 &&& 2147483647) % 10 = 9) (E_INTERVAL : Exa Z h0 A_INTERVAL "com/example/upright_custodian/uprightcustodian/kmip/TtlvType") (S_INTERVAL : Sta Z h0 "com/example/upright_custodian/uprightcustodian/kmip/TtlvType" "INTERVAL" "Lcom/example/upright_custodian/uprightcustodian/kmip/TtlvType;" (.ref A_INTERVAL)) (F_INTERVAL_fixedLength : Fld Z h0 A_INTERVAL "com/example/upright_custodian/uprightcustodian/kmip/TtlvType" "fixedLength" "I" (.int (4 : Int32))) :
    MetFree l x (head1 (Jvm.Cond.code x code maxLocals ret :: ws) room_1) (fun a U => a = #[(.int p1)] ∧ Z.Warmed39 U.vm ∧ U.heap = h0) (fun _ _ _ _ _ => True) (fun _ U o U' => ∃ v L, o = .returned v ∧ Q0 n0 v U'.heap L ∧ FrameEnd U o U' L 0 0) := by
  refine MetFree.of_bodySF (plainFor_of_name (by first | (simp [plainName, overriddenIn]; done) | decide +kernel)) hisR ?_
  intro p e s m args below meth c s₁ Bd hml0 hP hK
  obtain ⟨rfl, hZ, hh⟩ := hP
  have hx := Bd.exec
  have hby := Bd.bytes
  have hml : c.maxLocals = 6 := hml0
  have hown : s.vm.findClass "com/example/upright_custodian/uprightcustodian/kmip/TtlvTypeHasFixedLengthPinLaw" = some m.cls := findClass_of_methodNamed Bd.named
  have hnm := (name_of_methodNamed Bd.named Bd.method).1
  have X0 : Stand p l e room_1 s m #[(.int p1)] below meth c s₁ [] 0 0 := Stand.of_body Bd
  have e0 : s₁.heap = h0 := by rw [← hh, Bd.state]; rfl
  have N0 := Fr.nil n0
  have ef : entryFrame m #[(.int p1)] maxLocals = (mkF m 0 #[.val (.int p1), .unset, .unset, .unset, .unset, .unset] []) := by first | (simp [entryFrame, mkF, argsToLocals, Value.category, maxLocals]; done) | rfl
  refine own_start (fun P hPP => ?_)
  refine own_step (T' := s₁) (g' := (mkF m 0 #[.val (.int p1), .unset, .unset, .unset, .unset, .unset] [])) (fun t_ k_ => castTop ef k_) ?_
  refine own_step (T' := s₁) (g' := (mkF m 1 #[.val (.int p1), .unset, .unset, .unset, .unset, .unset] [(.int p1)])) (fun t_ k_ => XS.iloadN X0.here hx rfl (hb hby at_0) rfl k_) ?_
  refine own_step (T' := s₁) (g' := (mkF m 3 #[.val (.int p1), .unset, .unset, .unset, .unset, .unset] [(.int (2147483647 : Int32)), (.int p1)])) (fun t_ k_ => X0.ldcInt hx hown (mvT hZ (hw _ (List.mem_of_getElem? (i := 0) rfl))) (g := (mkF m 1 #[.val (.int p1), .unset, .unset, .unset, .unset, .unset] [(.int p1)])) rfl (hb hby at_1) _ k_) ?_
  refine own_step (T' := s₁) (g' := (mkF m 4 #[.val (.int p1), .unset, .unset, .unset, .unset, .unset] [(.int (p1 &&& (2147483647 : Int32)))])) (fun t_ k_ => XS.iand X0.here hx rfl (hb hby at_3) rfl k_) ?_
  refine own_step (T' := s₁) (g' := (mkF m 6 #[.val (.int p1), .unset, .unset, .unset, .unset, .unset] [(.int (10 : Int32)), (.int (p1 &&& (2147483647 : Int32)))])) (fun t_ k_ => XS.bipush X0.here hx rfl (hb hby at_4) k_) ?_
  refine own_step (T' := s₁) (g' := (mkF m 7 #[.val (.int p1), .unset, .unset, .unset, .unset, .unset] [(.int ((p1 &&& (2147483647 : Int32)) % (10 : Int32)))])) (fun t_ k_ => iremM X0 hx rfl (hb hby at_6) rfl (by decide) k_) ?_
  rw [hk]
  refine own_step (T' := s₁) (g' := (mkF m 8 #[.val (.int p1), .val (.int (9 : Int32)), .unset, .unset, .unset, .unset] [])) (fun t_ k_ => XS.istoreN X0.here hx rfl (hb hby at_7) rfl (l' := #[.val (.int p1), .val (.int (9 : Int32)), .unset, .unset, .unset, .unset]) rfl k_) ?_
  refine own_step (T' := s₁) (g' := (mkF m 9 #[.val (.int p1), .val (.int (9 : Int32)), .unset, .unset, .unset, .unset] [(.int (9 : Int32))])) (fun t_ k_ => XS.iloadN X0.here hx rfl (hb hby at_8) rfl k_) ?_
  obtain ⟨_, _, ⟨T101, L101, k101, n101⟩, -, X101, ⟨Lc101, hQ101, l101, y101, z101⟩, st101⟩ := Jvm.LawKit.callS X0 hx (y := (⟨"com/example/upright_custodian/uprightcustodian/kmip/TtlvTypeHasFixedLengthPinLaw", "pick", "(I)Lcom/example/upright_custodian/uprightcustodian/kmip/TtlvType;"⟩ : MethodName)) hown (mvT hZ (hw _ (List.mem_of_getElem? (i := 1) rfl))) (mvT hZ (hw _ (List.mem_of_getElem? (i := 2) rfl))) (mvT hZ (hw _ (List.mem_of_getElem? (i := 3) rfl))) (mvT hZ (hw _ (List.mem_of_getElem? (i := 4) rfl))) (by decide) (backOf (W := 0) (rm1_9 l Z a0 hw [] A_INTERVAL h0 n0 Z0 S_INTERVAL) hZ (hw _ (List.mem_of_getElem? (i := 4) rfl)) (hw _ (List.mem_of_getElem? (i := 3) rfl)) (by decide) (by decide)) (g := (mkF m 9 #[.val (.int p1), .val (.int (9 : Int32)), .unset, .unset, .unset, .unset] [(.int (9 : Int32))])) rfl (by rw [hml]; rfl) (argsL := [(.int (9 : Int32))]) (rest := []) (lenOf (by decide +kernel : parseMethodDescriptor "(I)Lcom/example/upright_custodian/uprightcustodian/kmip/TtlvType;" = some ⟨[.int], some (.object "com/example/upright_custodian/uprightcustodian/kmip/TtlvType")⟩) rfl) rfl (by show 2 * 0 + _ ≤ _; exact Nat.le_of_eq rfl) (hb hby at_9) (fun _ _ => ⟨rfl, e0, (by decide : 0 + 0 ≤ _), (by decide : 0 + 0 ≤ _)⟩)
  dsimp only [Pt.U, Pt.locs, Pt.cells, Pt.slots] at X101 l101 y101 z101 st101 hQ101
  subst l101 y101 z101
  obtain ⟨rfl, Nq101, e101⟩ := hQ101
  have N101 := Fr.app N0 Nq101
  refine own_step (T' := T101) (g' := (mkF m 12 #[.val (.int p1), .val (.int (9 : Int32)), .unset, .unset, .unset, .unset] [(.ref A_INTERVAL)])) st101 ?_
  refine own_step (T' := T101) (g' := (mkF m 13 #[.val (.int p1), .val (.int (9 : Int32)), .val (.ref A_INTERVAL), .unset, .unset, .unset] [])) (fun t_ k_ => XS.astoreN X101.here hx rfl (hb hby at_12) rfl rfl (l' := #[.val (.int p1), .val (.int (9 : Int32)), .val (.ref A_INTERVAL), .unset, .unset, .unset]) rfl k_) ?_
  refine own_step (T' := T101) (g' := (mkF m 14 #[.val (.int p1), .val (.int (9 : Int32)), .val (.ref A_INTERVAL), .unset, .unset, .unset] [(.int (9 : Int32))])) (fun t_ k_ => XS.iloadN X101.here hx rfl (hb hby at_13) rfl k_) ?_
  refine own_step (T' := T101) (g' := (mkF m 15 #[.val (.int p1), .val (.int (9 : Int32)), .val (.ref A_INTERVAL), .unset, .unset, .unset] [(.int (1 : Int32)), (.int (9 : Int32))])) (fun t_ k_ => XS.iconst X101.here hx rfl (hb hby at_14) k_) ?_
  refine own_step (T' := T101) (g' := (mkF m 18 #[.val (.int p1), .val (.int (9 : Int32)), .val (.ref A_INTERVAL), .unset, .unset, .unset] [])) (fun t_ k_ => XS.icmpNo X101.here hx rfl (hb hby at_15) rfl (feq (by decide)).1 k_) ?_
  refine own_step (T' := T101) (g' := (mkF m 19 #[.val (.int p1), .val (.int (9 : Int32)), .val (.ref A_INTERVAL), .unset, .unset, .unset] [(.int (9 : Int32))])) (fun t_ k_ => XS.iloadN X101.here hx rfl (hb hby at_18) rfl k_) ?_
  refine own_step (T' := T101) (g' := (mkF m 20 #[.val (.int p1), .val (.int (9 : Int32)), .val (.ref A_INTERVAL), .unset, .unset, .unset] [(.int (2 : Int32)), (.int (9 : Int32))])) (fun t_ k_ => XS.iconst X101.here hx rfl (hb hby at_19) k_) ?_
  refine own_step (T' := T101) (g' := (mkF m 23 #[.val (.int p1), .val (.int (9 : Int32)), .val (.ref A_INTERVAL), .unset, .unset, .unset] [])) (fun t_ k_ => XS.icmpNo X101.here hx rfl (hb hby at_20) rfl (feq (by decide)).1 k_) ?_
  refine own_step (T' := T101) (g' := (mkF m 24 #[.val (.int p1), .val (.int (9 : Int32)), .val (.ref A_INTERVAL), .unset, .unset, .unset] [(.int (9 : Int32))])) (fun t_ k_ => XS.iloadN X101.here hx rfl (hb hby at_23) rfl k_) ?_
  refine own_step (T' := T101) (g' := (mkF m 25 #[.val (.int p1), .val (.int (9 : Int32)), .val (.ref A_INTERVAL), .unset, .unset, .unset] [(.int (4 : Int32)), (.int (9 : Int32))])) (fun t_ k_ => XS.iconst X101.here hx rfl (hb hby at_24) k_) ?_
  refine own_step (T' := T101) (g' := (mkF m 28 #[.val (.int p1), .val (.int (9 : Int32)), .val (.ref A_INTERVAL), .unset, .unset, .unset] [])) (fun t_ k_ => XS.icmpNo X101.here hx rfl (hb hby at_25) rfl (feq (by decide)).1 k_) ?_
  refine own_step (T' := T101) (g' := (mkF m 29 #[.val (.int p1), .val (.int (9 : Int32)), .val (.ref A_INTERVAL), .unset, .unset, .unset] [(.int (9 : Int32))])) (fun t_ k_ => XS.iloadN X101.here hx rfl (hb hby at_28) rfl k_) ?_
  refine own_step (T' := T101) (g' := (mkF m 30 #[.val (.int p1), .val (.int (9 : Int32)), .val (.ref A_INTERVAL), .unset, .unset, .unset] [(.int (5 : Int32)), (.int (9 : Int32))])) (fun t_ k_ => XS.iconst X101.here hx rfl (hb hby at_29) k_) ?_
  refine own_step (T' := T101) (g' := (mkF m 33 #[.val (.int p1), .val (.int (9 : Int32)), .val (.ref A_INTERVAL), .unset, .unset, .unset] [])) (fun t_ k_ => XS.icmpNo X101.here hx rfl (hb hby at_30) rfl (feq (by decide)).1 k_) ?_
  refine own_step (T' := T101) (g' := (mkF m 34 #[.val (.int p1), .val (.int (9 : Int32)), .val (.ref A_INTERVAL), .unset, .unset, .unset] [(.int (9 : Int32))])) (fun t_ k_ => XS.iloadN X101.here hx rfl (hb hby at_33) rfl k_) ?_
  refine own_step (T' := T101) (g' := (mkF m 36 #[.val (.int p1), .val (.int (9 : Int32)), .val (.ref A_INTERVAL), .unset, .unset, .unset] [(.int (8 : Int32)), (.int (9 : Int32))])) (fun t_ k_ => XS.bipush X101.here hx rfl (hb hby at_34) k_) ?_
  refine own_step (T' := T101) (g' := (mkF m 39 #[.val (.int p1), .val (.int (9 : Int32)), .val (.ref A_INTERVAL), .unset, .unset, .unset] [])) (fun t_ k_ => XS.icmpNo X101.here hx rfl (hb hby at_36) rfl (feq (by decide)).1 k_) ?_
  refine own_step (T' := T101) (g' := (mkF m 40 #[.val (.int p1), .val (.int (9 : Int32)), .val (.ref A_INTERVAL), .unset, .unset, .unset] [(.int (9 : Int32))])) (fun t_ k_ => XS.iloadN X101.here hx rfl (hb hby at_39) rfl k_) ?_
  refine own_step (T' := T101) (g' := (mkF m 42 #[.val (.int p1), .val (.int (9 : Int32)), .val (.ref A_INTERVAL), .unset, .unset, .unset] [(.int (9 : Int32)), (.int (9 : Int32))])) (fun t_ k_ => XS.bipush X101.here hx rfl (hb hby at_40) k_) ?_
  refine own_step (T' := T101) (g' := (mkF m 45 #[.val (.int p1), .val (.int (9 : Int32)), .val (.ref A_INTERVAL), .unset, .unset, .unset] [])) (fun t_ k_ => XS.icmpNo X101.here hx rfl (hb hby at_42) rfl (teq (by decide)).2 k_) ?_
  refine own_step (T' := T101) (g' := (mkF m 46 #[.val (.int p1), .val (.int (9 : Int32)), .val (.ref A_INTERVAL), .unset, .unset, .unset] [(.int (1 : Int32))])) (fun t_ k_ => XS.iconst X101.here hx rfl (hb hby at_45) k_) ?_
  refine own_step (T' := T101) (g' := (mkF m 50 #[.val (.int p1), .val (.int (9 : Int32)), .val (.ref A_INTERVAL), .unset, .unset, .unset] [(.int (1 : Int32))])) (fun t_ k_ => XS.goto X101.here hx rfl (pc0 := 46) (pc' := 50) rfl (hb hby at_46) (by decide) (by decide) k_) ?_
  refine own_step (T' := T101) (g' := (mkF m 51 #[.val (.int p1), .val (.int (9 : Int32)), .val (.ref A_INTERVAL), .val (.int (1 : Int32)), .unset, .unset] [])) (fun t_ k_ => XS.istoreN X101.here hx rfl (hb hby at_50) rfl (l' := #[.val (.int p1), .val (.int (9 : Int32)), .val (.ref A_INTERVAL), .val (.int (1 : Int32)), .unset, .unset]) rfl k_) ?_
  refine own_step (T' := T101) (g' := (mkF m 52 #[.val (.int p1), .val (.int (9 : Int32)), .val (.ref A_INTERVAL), .val (.int (1 : Int32)), .unset, .unset] [(.int (9 : Int32))])) (fun t_ k_ => XS.iloadN X101.here hx rfl (hb hby at_51) rfl k_) ?_
  refine own_step (T' := T101) (g' := (mkF m 53 #[.val (.int p1), .val (.int (9 : Int32)), .val (.ref A_INTERVAL), .val (.int (1 : Int32)), .unset, .unset] [(.int (1 : Int32)), (.int (9 : Int32))])) (fun t_ k_ => XS.iconst X101.here hx rfl (hb hby at_52) k_) ?_
  refine own_step (T' := T101) (g' := (mkF m 56 #[.val (.int p1), .val (.int (9 : Int32)), .val (.ref A_INTERVAL), .val (.int (1 : Int32)), .unset, .unset] [])) (fun t_ k_ => XS.icmpNo X101.here hx rfl (hb hby at_53) rfl (feq (by decide)).1 k_) ?_
  refine own_step (T' := T101) (g' := (mkF m 57 #[.val (.int p1), .val (.int (9 : Int32)), .val (.ref A_INTERVAL), .val (.int (1 : Int32)), .unset, .unset] [(.int (9 : Int32))])) (fun t_ k_ => XS.iloadN X101.here hx rfl (hb hby at_56) rfl k_) ?_
  refine own_step (T' := T101) (g' := (mkF m 58 #[.val (.int p1), .val (.int (9 : Int32)), .val (.ref A_INTERVAL), .val (.int (1 : Int32)), .unset, .unset] [(.int (4 : Int32)), (.int (9 : Int32))])) (fun t_ k_ => XS.iconst X101.here hx rfl (hb hby at_57) k_) ?_
  refine own_step (T' := T101) (g' := (mkF m 61 #[.val (.int p1), .val (.int (9 : Int32)), .val (.ref A_INTERVAL), .val (.int (1 : Int32)), .unset, .unset] [])) (fun t_ k_ => XS.icmpNo X101.here hx rfl (hb hby at_58) rfl (feq (by decide)).1 k_) ?_
  refine own_step (T' := T101) (g' := (mkF m 62 #[.val (.int p1), .val (.int (9 : Int32)), .val (.ref A_INTERVAL), .val (.int (1 : Int32)), .unset, .unset] [(.int (9 : Int32))])) (fun t_ k_ => XS.iloadN X101.here hx rfl (hb hby at_61) rfl k_) ?_
  refine own_step (T' := T101) (g' := (mkF m 64 #[.val (.int p1), .val (.int (9 : Int32)), .val (.ref A_INTERVAL), .val (.int (1 : Int32)), .unset, .unset] [(.int (9 : Int32)), (.int (9 : Int32))])) (fun t_ k_ => XS.bipush X101.here hx rfl (hb hby at_62) k_) ?_
  refine own_step (T' := T101) (g' := (mkF m 67 #[.val (.int p1), .val (.int (9 : Int32)), .val (.ref A_INTERVAL), .val (.int (1 : Int32)), .unset, .unset] [])) (fun t_ k_ => XS.icmpNo X101.here hx rfl (hb hby at_64) rfl (teq (by decide)).2 k_) ?_
  refine own_step (T' := T101) (g' := (mkF m 68 #[.val (.int p1), .val (.int (9 : Int32)), .val (.ref A_INTERVAL), .val (.int (1 : Int32)), .unset, .unset] [(.int (4 : Int32))])) (fun t_ k_ => XS.iconst X101.here hx rfl (hb hby at_67) k_) ?_
  refine own_step (T' := T101) (g' := (mkF m 73 #[.val (.int p1), .val (.int (9 : Int32)), .val (.ref A_INTERVAL), .val (.int (1 : Int32)), .unset, .unset] [(.int (4 : Int32))])) (fun t_ k_ => XS.goto X101.here hx rfl (pc0 := 68) (pc' := 73) rfl (hb hby at_68) (by decide) (by decide) k_) ?_
  refine own_step (T' := T101) (g' := (mkF m 75 #[.val (.int p1), .val (.int (9 : Int32)), .val (.ref A_INTERVAL), .val (.int (1 : Int32)), .val (.int (4 : Int32)), .unset] [])) (fun t_ k_ => XS.istore X101.here hx rfl (hb hby at_73) rfl (l' := #[.val (.int p1), .val (.int (9 : Int32)), .val (.ref A_INTERVAL), .val (.int (1 : Int32)), .val (.int (4 : Int32)), .unset]) rfl k_) ?_
  refine own_step (T' := T101) (g' := (mkF m 76 #[.val (.int p1), .val (.int (9 : Int32)), .val (.ref A_INTERVAL), .val (.int (1 : Int32)), .val (.int (4 : Int32)), .unset] [(.ref A_INTERVAL)])) (fun t_ k_ => XS.aloadN X101.here hx rfl (hb hby at_75) rfl rfl k_) ?_
  obtain ⟨cq102, kq102, q102a, q102b, q102c⟩ := isOf hZ e101 E_INTERVAL
  obtain ⟨_, _, ⟨T102, L102, k102, n102⟩, -, X102, ⟨Lc102, hQ102, l102, y102, z102⟩, st102⟩ := X101.virtualBack hx (y := (⟨"com/example/upright_custodian/uprightcustodian/kmip/TtlvType", "hasFixedLength", "()Z"⟩ : MethodName)) (z := (⟨"com/example/upright_custodian/uprightcustodian/kmip/TtlvType", "hasFixedLength", "()Z"⟩ : MethodName)) hown (mvT hZ (hw _ (List.mem_of_getElem? (i := 8) rfl))) (mvT hZ (hw _ (List.mem_of_getElem? (i := 9) rfl))) (notFace_of_selects (args := #[]) (mvT hZ (hw _ (List.mem_of_getElem? (i := 11) rfl)))) (mvT hZ (hw _ (List.mem_of_getElem? (i := 11) rfl))) (mvT hZ (hw _ (List.mem_of_getElem? (i := 10) rfl))) (by decide) (backOf (W := 0) (rm2 l Z a0 hw [] A_INTERVAL (4 : Int32) (1 : Int32) h0 n0 Z0 F_INTERVAL_fixedLength (by decide)) hZ (hw _ (List.mem_of_getElem? (i := 12) rfl)) (hw _ (List.mem_of_getElem? (i := 6) rfl)) (by decide) (by decide)) q102a q102c (g := (mkF m 76 #[.val (.int p1), .val (.int (9 : Int32)), .val (.ref A_INTERVAL), .val (.int (1 : Int32)), .val (.int (4 : Int32)), .unset] [(.ref A_INTERVAL)])) rfl (by rw [hml]; rfl) (Steps.refl _) (argsL := []) (rest := []) (lenOf (by decide +kernel : parseMethodDescriptor "()Z" = some ⟨[], some .boolean⟩) rfl) rfl (by show 2 * 0 + _ ≤ _; exact Nat.le_of_eq rfl) (hb hby at_76) (fun _ _ => ⟨rfl, e101, (by decide : 0 + 0 ≤ _), (by decide : 0 + 0 ≤ _)⟩)
  dsimp only [Pt.U, Pt.locs, Pt.cells, Pt.slots] at X102 l102 y102 z102 st102 hQ102
  subst l102 y102 z102
  obtain ⟨rfl, Nq102, e102⟩ := hQ102
  have N102 := Fr.app N101 Nq102
  refine own_to (T' := T102) (g' := (mkF m 79 #[.val (.int p1), .val (.int (9 : Int32)), .val (.ref A_INTERVAL), .val (.int (1 : Int32)), .val (.int (4 : Int32)), .unset] [(.int (1 : Int32))])) st102 ?_
  refine own_step (T' := T102) (g' := (mkF m 81 #[.val (.int p1), .val (.int (9 : Int32)), .val (.ref A_INTERVAL), .val (.int (1 : Int32)), .val (.int (4 : Int32)), .val (.int (1 : Int32))] [])) (fun t_ k_ => XS.istore X102.here hx rfl (hb hby at_79) rfl (l' := #[.val (.int p1), .val (.int (9 : Int32)), .val (.ref A_INTERVAL), .val (.int (1 : Int32)), .val (.int (4 : Int32)), .val (.int (1 : Int32))]) rfl k_) ?_
  refine own_step (T' := T102) (g' := (mkF m 83 #[.val (.int p1), .val (.int (9 : Int32)), .val (.ref A_INTERVAL), .val (.int (1 : Int32)), .val (.int (4 : Int32)), .val (.int (1 : Int32))] [(.int (1 : Int32))])) (fun t_ k_ => XS.iload X102.here hx rfl (hb hby at_81) rfl k_) ?_
  refine own_step (T' := T102) (g' := (mkF m 84 #[.val (.int p1), .val (.int (9 : Int32)), .val (.ref A_INTERVAL), .val (.int (1 : Int32)), .val (.int (4 : Int32)), .val (.int (1 : Int32))] [(.int (1 : Int32)), (.int (1 : Int32))])) (fun t_ k_ => XS.iloadN X102.here hx rfl (hb hby at_83) rfl k_) ?_
  refine own_step (T' := T102) (g' := (mkF m 89 #[.val (.int p1), .val (.int (9 : Int32)), .val (.ref A_INTERVAL), .val (.int (1 : Int32)), .val (.int (4 : Int32)), .val (.int (1 : Int32))] [])) (fun t_ k_ => XS.icmpYes X102.here hx rfl (pc0 := 84) (pc' := 89) rfl (hb hby at_84) rfl (teq (by decide)).1 (by decide) (by decide) k_) ?_
  refine own_step (T' := T102) (g' := (mkF m 91 #[.val (.int p1), .val (.int (9 : Int32)), .val (.ref A_INTERVAL), .val (.int (1 : Int32)), .val (.int (4 : Int32)), .val (.int (1 : Int32))] [(.int (1 : Int32))])) (fun t_ k_ => XS.iload X102.here hx rfl (hb hby at_89) rfl k_) ?_
  refine own_step (T' := T102) (g' := (mkF m 96 #[.val (.int p1), .val (.int (9 : Int32)), .val (.ref A_INTERVAL), .val (.int (1 : Int32)), .val (.int (4 : Int32)), .val (.int (1 : Int32))] [])) (fun t_ k_ => XS.ifYes X102.here hx rfl (pc0 := 91) (pc' := 96) rfl (hb hby at_91) rfl ((if0 _ _).trans (feq (by decide)).2) (by decide) (by decide) k_) ?_
  refine own_step (T' := T102) (g' := (mkF m 97 #[.val (.int p1), .val (.int (9 : Int32)), .val (.ref A_INTERVAL), .val (.int (1 : Int32)), .val (.int (4 : Int32)), .val (.int (1 : Int32))] [(.ref A_INTERVAL)])) (fun t_ k_ => XS.aloadN X102.here hx rfl (hb hby at_96) rfl rfl k_) ?_
  obtain ⟨cq103, kq103, q103a, q103b, q103c⟩ := isOf hZ e102 E_INTERVAL
  obtain ⟨_, _, ⟨T103, L103, k103, n103⟩, -, X103, ⟨Lc103, hQ103, l103, y103, z103⟩, st103⟩ := X102.virtualBack hx (y := (⟨"com/example/upright_custodian/uprightcustodian/kmip/TtlvType", "fixedLength", "()I"⟩ : MethodName)) (z := (⟨"com/example/upright_custodian/uprightcustodian/kmip/TtlvType", "fixedLength", "()I"⟩ : MethodName)) hown (mvT hZ (hw _ (List.mem_of_getElem? (i := 19) rfl))) (mvT hZ (hw _ (List.mem_of_getElem? (i := 20) rfl))) (notFace_of_selects (args := #[]) (mvT hZ (hw _ (List.mem_of_getElem? (i := 22) rfl)))) (mvT hZ (hw _ (List.mem_of_getElem? (i := 22) rfl))) (mvT hZ (hw _ (List.mem_of_getElem? (i := 21) rfl))) (by decide) (backOf (W := 0) (rm3 l Z a0 hw [] A_INTERVAL (4 : Int32) h0 n0 Z0 F_INTERVAL_fixedLength E_INTERVAL (by decide)) hZ (hw _ (List.mem_of_getElem? (i := 23) rfl)) (hw _ (List.mem_of_getElem? (i := 6) rfl)) (by decide) (by decide)) q103a q103c (g := (mkF m 97 #[.val (.int p1), .val (.int (9 : Int32)), .val (.ref A_INTERVAL), .val (.int (1 : Int32)), .val (.int (4 : Int32)), .val (.int (1 : Int32))] [(.ref A_INTERVAL)])) rfl (by rw [hml]; rfl) (Steps.refl _) (argsL := []) (rest := []) (lenOf (by decide +kernel : parseMethodDescriptor "()I" = some ⟨[], some .int⟩) rfl) rfl (by show 2 * 0 + _ ≤ _; exact Nat.le_of_eq rfl) (hb hby at_97) (fun _ _ => ⟨rfl, e102, (by decide : 0 + 0 ≤ _), (by decide : 0 + 0 ≤ _)⟩)
  dsimp only [Pt.U, Pt.locs, Pt.cells, Pt.slots] at X103 l103 y103 z103 st103 hQ103
  subst l103 y103 z103
  obtain ⟨rfl, Nq103, e103⟩ := hQ103
  have N103 := Fr.app N102 Nq103
  refine own_to (T' := T103) (g' := (mkF m 100 #[.val (.int p1), .val (.int (9 : Int32)), .val (.ref A_INTERVAL), .val (.int (1 : Int32)), .val (.int (4 : Int32)), .val (.int (1 : Int32))] [(.int (4 : Int32))])) st103 ?_
  refine own_step (T' := T103) (g' := (mkF m 102 #[.val (.int p1), .val (.int (9 : Int32)), .val (.ref A_INTERVAL), .val (.int (1 : Int32)), .val (.int (4 : Int32)), .val (.int (1 : Int32))] [(.int (4 : Int32)), (.int (4 : Int32))])) (fun t_ k_ => XS.iload X103.here hx rfl (hb hby at_100) rfl k_) ?_
  refine own_step (T' := T103) (g' := (mkF m 105 #[.val (.int p1), .val (.int (9 : Int32)), .val (.ref A_INTERVAL), .val (.int (1 : Int32)), .val (.int (4 : Int32)), .val (.int (1 : Int32))] [])) (fun t_ k_ => XS.icmpNo X103.here hx rfl (hb hby at_102) rfl (teq (by decide)).2 k_) ?_
  refine own_step (T' := T103) (g' := (mkF m 106 #[.val (.int p1), .val (.int (9 : Int32)), .val (.ref A_INTERVAL), .val (.int (1 : Int32)), .val (.int (4 : Int32)), .val (.int (1 : Int32))] [(.int (1 : Int32))])) (fun t_ k_ => XS.iconst X103.here hx rfl (hb hby at_105) k_) ?_
  refine own_step (T' := T103) (g' := (mkF m 110 #[.val (.int p1), .val (.int (9 : Int32)), .val (.ref A_INTERVAL), .val (.int (1 : Int32)), .val (.int (4 : Int32)), .val (.int (1 : Int32))] [(.int (1 : Int32))])) (fun t_ k_ => XS.goto X103.here hx rfl (pc0 := 106) (pc' := 110) rfl (hb hby at_106) (by decide) (by decide) k_) ?_
  obtain ⟨fs, hrR, hrun, hended, hWW, hsame⟩ := X103.leave (v := some (.int (1 : Int32))) (fun h => by rw [Bd.returns] at h; cases h)
  refine ⟨_, _, own_retZ X103 hx (t := .boolean) Bd.returns (by simp) (by decide) (hb hby at_110) hrR, hrun, hended, hPP _ _ ⟨_, _, rfl, ?_, ⟨_, rfl⟩, hWW, hsame.mono (by decide) (by decide)⟩⟩
  show Q0 n0 _ T103.heap _
  rw [e103]
  exact ⟨rfl, N103⟩
set_option maxRecDepth 65536 in
set_option maxHeartbeats 40000000 in
theorem comes_1 {Post : Tables → Env → Array Value → State → Outcome → State → Prop} (hpost : ∀ tb e args s v u, (limb_1_1.after args s (.returned v) u = true ∧ limb_1_2.after args s (.returned v) u = true ∧ True) → FrameEnd s (.returned v) u (Jvm.fieldLocs frame_1_writes args s ++ Jvm.arrayLocs frame_1_arrays args s ++ Jvm.staticLocs frame_1_statics s) 0 0 → Post tb e args s (.returned v) u) :
    ArmFor flags0 classFile x code maxLocals ret World_1 tables_1 room_1 Calls_1 rest_1 Pre_1 Post := by
  intro l hfl _ _ p e ha hc hk s m args below hf hA hF happ hP
  obtain ⟨hcalls, hrest, hpre⟩ := hP
  obtain ⟨-, -, -, hnamed, -, -, -, hat⟩ := (Spec.applies_iff hf).mp happ
  obtain ⟨hg, hn⟩ := and_e (Cond.before_iff.mp (show (Jvm.Cond.and given_1 narrow_1).before args s = true from hpre))
  obtain ⟨hcount, hq0⟩ := and_e hg
  obtain ⟨w0, rfl⟩ : ∃ w0 : Value, args = #[w0] := by
    have hs : args.size = 1 := by simpa [Cond.value, given_1] using hcount
    obtain ⟨L⟩ := args
    match L, hs with
    | [w0], _ => exact ⟨w0, rfl⟩
  have hw := fun d (hd : d ∈ tables_1) => atoms_spec (ws := Jvm.Cond.code x code maxLocals ret :: tables_1) hat d (List.mem_cons_of_mem _ hd)
  have hfit : Fit s := fun {y c} hc i hi => by
    obtain ⟨ha, rfl⟩ := Array.getElem?_eq_some_iff.mp hc
    have q := List.all_eq_true.mp ((Array.all_eq_true_iff_forall_mem.mp hF) _ (Array.getElem_mem ha)) i (List.mem_range.mpr hi)
    simpa [Array.getElem?_eq_getElem hi] using q
  obtain ⟨i0, ei0⟩ := is_v hq0
  obtain rfl : w0 = (.int i0) := Option.some.inj ei0
  obtain ⟨hn0, hm0⟩ := and_e hn
  obtain ⟨hn1, hm1⟩ := and_e hm0
  obtain ⟨hn2, hm2⟩ := and_e hm1
  obtain ⟨hn3, hm3⟩ := and_e hm2
  obtain ⟨hn4, hm4⟩ := and_e hm3
  obtain ⟨hn5, hm5⟩ := and_e hm4
  obtain ⟨hn6, hm6⟩ := and_e hm5
  obtain ⟨hn7, hm7⟩ := and_e hm6
  obtain ⟨hn8, hm8⟩ := and_e hm7
  obtain ⟨hn9, hm9⟩ := and_e hm8
  obtain ⟨hn10, hm10⟩ := and_e hm9
  obtain ⟨hn11, hm11⟩ := and_e hm10
  obtain ⟨hn12, hm12⟩ := and_e hm11
  obtain ⟨hn13, hm13⟩ := and_e hm12
  obtain ⟨hn14, hm14⟩ := and_e hm13
  obtain ⟨hn15, hm15⟩ := and_e hm14
  obtain ⟨hn16, hm16⟩ := and_e hm15
  obtain ⟨hn17, hm17⟩ := and_e hm16
  obtain ⟨hn18, hm18⟩ := and_e hm17
  have hn19 := hm18
  obtain ⟨A_STRUCTURE, ev_STRUCTURE⟩ := exa_v hn0
  have E_STRUCTURE : Exa s s.heap A_STRUCTURE "com/example/upright_custodian/uprightcustodian/kmip/TtlvType" := Exa.start ev_STRUCTURE hn0
  have S_STRUCTURE : Sta s s.heap "com/example/upright_custodian/uprightcustodian/kmip/TtlvType" "STRUCTURE" "Lcom/example/upright_custodian/uprightcustodian/kmip/TtlvType;" (.ref A_STRUCTURE) := Sta.start ev_STRUCTURE (Or.inr ⟨(hw _ (List.mem_of_getElem? (i := 6) rfl)), (hw _ (List.mem_of_getElem? (i := 7) rfl))⟩)
  have F_STRUCTURE_fixedLength : Fld s s.heap A_STRUCTURE "com/example/upright_custodian/uprightcustodian/kmip/TtlvType" "fixedLength" "I" (.int (-1 : Int32)) := Fld.start ((fld_at ev_STRUCTURE).symm.trans (own_eqI hn1))
  obtain ⟨A_BIG_INTEGER, ev_BIG_INTEGER⟩ := exa_v hn2
  have E_BIG_INTEGER : Exa s s.heap A_BIG_INTEGER "com/example/upright_custodian/uprightcustodian/kmip/TtlvType" := Exa.start ev_BIG_INTEGER hn2
  have S_BIG_INTEGER : Sta s s.heap "com/example/upright_custodian/uprightcustodian/kmip/TtlvType" "BIG_INTEGER" "Lcom/example/upright_custodian/uprightcustodian/kmip/TtlvType;" (.ref A_BIG_INTEGER) := Sta.start ev_BIG_INTEGER (Or.inr ⟨(hw _ (List.mem_of_getElem? (i := 6) rfl)), (hw _ (List.mem_of_getElem? (i := 16) rfl))⟩)
  have F_BIG_INTEGER_fixedLength : Fld s s.heap A_BIG_INTEGER "com/example/upright_custodian/uprightcustodian/kmip/TtlvType" "fixedLength" "I" (.int (-1 : Int32)) := Fld.start ((fld_at ev_BIG_INTEGER).symm.trans (own_eqI hn3))
  obtain ⟨A_INTEGER, ev_INTEGER⟩ := exa_v hn4
  have E_INTEGER : Exa s s.heap A_INTEGER "com/example/upright_custodian/uprightcustodian/kmip/TtlvType" := Exa.start ev_INTEGER hn4
  have S_INTEGER : Sta s s.heap "com/example/upright_custodian/uprightcustodian/kmip/TtlvType" "INTEGER" "Lcom/example/upright_custodian/uprightcustodian/kmip/TtlvType;" (.ref A_INTEGER) := Sta.start ev_INTEGER (Or.inr ⟨(hw _ (List.mem_of_getElem? (i := 6) rfl)), (hw _ (List.mem_of_getElem? (i := 18) rfl))⟩)
  have F_INTEGER_fixedLength : Fld s s.heap A_INTEGER "com/example/upright_custodian/uprightcustodian/kmip/TtlvType" "fixedLength" "I" (.int (4 : Int32)) := Fld.start ((fld_at ev_INTEGER).symm.trans (own_eqI hn5))
  obtain ⟨A_ENUMERATION, ev_ENUMERATION⟩ := exa_v hn6
  have E_ENUMERATION : Exa s s.heap A_ENUMERATION "com/example/upright_custodian/uprightcustodian/kmip/TtlvType" := Exa.start ev_ENUMERATION hn6
  have S_ENUMERATION : Sta s s.heap "com/example/upright_custodian/uprightcustodian/kmip/TtlvType" "ENUMERATION" "Lcom/example/upright_custodian/uprightcustodian/kmip/TtlvType;" (.ref A_ENUMERATION) := Sta.start ev_ENUMERATION (Or.inr ⟨(hw _ (List.mem_of_getElem? (i := 6) rfl)), (hw _ (List.mem_of_getElem? (i := 26) rfl))⟩)
  have F_ENUMERATION_fixedLength : Fld s s.heap A_ENUMERATION "com/example/upright_custodian/uprightcustodian/kmip/TtlvType" "fixedLength" "I" (.int (4 : Int32)) := Fld.start ((fld_at ev_ENUMERATION).symm.trans (own_eqI hn7))
  obtain ⟨A_BYTE_STRING, ev_BYTE_STRING⟩ := exa_v hn8
  have E_BYTE_STRING : Exa s s.heap A_BYTE_STRING "com/example/upright_custodian/uprightcustodian/kmip/TtlvType" := Exa.start ev_BYTE_STRING hn8
  have S_BYTE_STRING : Sta s s.heap "com/example/upright_custodian/uprightcustodian/kmip/TtlvType" "BYTE_STRING" "Lcom/example/upright_custodian/uprightcustodian/kmip/TtlvType;" (.ref A_BYTE_STRING) := Sta.start ev_BYTE_STRING (Or.inr ⟨(hw _ (List.mem_of_getElem? (i := 6) rfl)), (hw _ (List.mem_of_getElem? (i := 28) rfl))⟩)
  have F_BYTE_STRING_fixedLength : Fld s s.heap A_BYTE_STRING "com/example/upright_custodian/uprightcustodian/kmip/TtlvType" "fixedLength" "I" (.int (-1 : Int32)) := Fld.start ((fld_at ev_BYTE_STRING).symm.trans (own_eqI hn9))
  obtain ⟨A_LONG_INTEGER, ev_LONG_INTEGER⟩ := exa_v hn10
  have E_LONG_INTEGER : Exa s s.heap A_LONG_INTEGER "com/example/upright_custodian/uprightcustodian/kmip/TtlvType" := Exa.start ev_LONG_INTEGER hn10
  have S_LONG_INTEGER : Sta s s.heap "com/example/upright_custodian/uprightcustodian/kmip/TtlvType" "LONG_INTEGER" "Lcom/example/upright_custodian/uprightcustodian/kmip/TtlvType;" (.ref A_LONG_INTEGER) := Sta.start ev_LONG_INTEGER (Or.inr ⟨(hw _ (List.mem_of_getElem? (i := 6) rfl)), (hw _ (List.mem_of_getElem? (i := 30) rfl))⟩)
  have F_LONG_INTEGER_fixedLength : Fld s s.heap A_LONG_INTEGER "com/example/upright_custodian/uprightcustodian/kmip/TtlvType" "fixedLength" "I" (.int (8 : Int32)) := Fld.start ((fld_at ev_LONG_INTEGER).symm.trans (own_eqI hn11))
  obtain ⟨A_DATE_TIME, ev_DATE_TIME⟩ := exa_v hn12
  have E_DATE_TIME : Exa s s.heap A_DATE_TIME "com/example/upright_custodian/uprightcustodian/kmip/TtlvType" := Exa.start ev_DATE_TIME hn12
  have S_DATE_TIME : Sta s s.heap "com/example/upright_custodian/uprightcustodian/kmip/TtlvType" "DATE_TIME" "Lcom/example/upright_custodian/uprightcustodian/kmip/TtlvType;" (.ref A_DATE_TIME) := Sta.start ev_DATE_TIME (Or.inr ⟨(hw _ (List.mem_of_getElem? (i := 6) rfl)), (hw _ (List.mem_of_getElem? (i := 32) rfl))⟩)
  have F_DATE_TIME_fixedLength : Fld s s.heap A_DATE_TIME "com/example/upright_custodian/uprightcustodian/kmip/TtlvType" "fixedLength" "I" (.int (8 : Int32)) := Fld.start ((fld_at ev_DATE_TIME).symm.trans (own_eqI hn13))
  obtain ⟨A_INTERVAL, ev_INTERVAL⟩ := exa_v hn14
  have E_INTERVAL : Exa s s.heap A_INTERVAL "com/example/upright_custodian/uprightcustodian/kmip/TtlvType" := Exa.start ev_INTERVAL hn14
  have S_INTERVAL : Sta s s.heap "com/example/upright_custodian/uprightcustodian/kmip/TtlvType" "INTERVAL" "Lcom/example/upright_custodian/uprightcustodian/kmip/TtlvType;" (.ref A_INTERVAL) := Sta.start ev_INTERVAL (Or.inr ⟨(hw _ (List.mem_of_getElem? (i := 6) rfl)), (hw _ (List.mem_of_getElem? (i := 34) rfl))⟩)
  have F_INTERVAL_fixedLength : Fld s s.heap A_INTERVAL "com/example/upright_custodian/uprightcustodian/kmip/TtlvType" "fixedLength" "I" (.int (4 : Int32)) := Fld.start ((fld_at ev_INTERVAL).symm.trans (own_eqI hn15))
  obtain ⟨A_BOOLEAN, ev_BOOLEAN⟩ := exa_v hn16
  have E_BOOLEAN : Exa s s.heap A_BOOLEAN "com/example/upright_custodian/uprightcustodian/kmip/TtlvType" := Exa.start ev_BOOLEAN hn16
  have S_BOOLEAN : Sta s s.heap "com/example/upright_custodian/uprightcustodian/kmip/TtlvType" "BOOLEAN" "Lcom/example/upright_custodian/uprightcustodian/kmip/TtlvType;" (.ref A_BOOLEAN) := Sta.start ev_BOOLEAN (Or.inr ⟨(hw _ (List.mem_of_getElem? (i := 6) rfl)), (hw _ (List.mem_of_getElem? (i := 36) rfl))⟩)
  have F_BOOLEAN_fixedLength : Fld s s.heap A_BOOLEAN "com/example/upright_custodian/uprightcustodian/kmip/TtlvType" "fixedLength" "I" (.int (8 : Int32)) := Fld.start ((fld_at ev_BOOLEAN).symm.trans (own_eqI hn17))
  obtain ⟨A_TEXT_STRING, ev_TEXT_STRING⟩ := exa_v hn18
  have E_TEXT_STRING : Exa s s.heap A_TEXT_STRING "com/example/upright_custodian/uprightcustodian/kmip/TtlvType" := Exa.start ev_TEXT_STRING hn18
  have S_TEXT_STRING : Sta s s.heap "com/example/upright_custodian/uprightcustodian/kmip/TtlvType" "TEXT_STRING" "Lcom/example/upright_custodian/uprightcustodian/kmip/TtlvType;" (.ref A_TEXT_STRING) := Sta.start ev_TEXT_STRING (Or.inr ⟨(hw _ (List.mem_of_getElem? (i := 6) rfl)), (hw _ (List.mem_of_getElem? (i := 38) rfl))⟩)
  have F_TEXT_STRING_fixedLength : Fld s s.heap A_TEXT_STRING "com/example/upright_custodian/uprightcustodian/kmip/TtlvType" "fixedLength" "I" (.int (-1 : Int32)) := Fld.start ((fld_at ev_TEXT_STRING).symm.trans (own_eqI hn19))
  have rmL : MetFree l x (head1 (Jvm.Cond.code x code maxLocals ret :: tables_1) room_1) (fun a U => a = #[(.int i0)] ∧ s.Warmed39 U.vm ∧ U.heap = s.heap) (fun _ _ _ _ _ => True) (fun _ U o U' => ∃ v L, o = .returned v ∧ Q0 s.heap.size v U'.heap L ∧ FrameEnd U o U' L 0 0) := by
    rcases own_mod10 i0 with h | h | h | h | h | h | h | h | h | h
    · exact rm0_0 l s _ hw tables_1 i0 A_STRUCTURE s.heap s.heap.size (Nat.le_refl _) h E_STRUCTURE S_STRUCTURE F_STRUCTURE_fixedLength
    · exact rm0_1 l s _ hw tables_1 i0 A_INTEGER s.heap s.heap.size (Nat.le_refl _) h E_INTEGER S_INTEGER F_INTEGER_fixedLength
    · exact rm0_2 l s _ hw tables_1 i0 A_LONG_INTEGER s.heap s.heap.size (Nat.le_refl _) h E_LONG_INTEGER S_LONG_INTEGER F_LONG_INTEGER_fixedLength
    · exact rm0_3 l s _ hw tables_1 i0 A_BIG_INTEGER s.heap s.heap.size (Nat.le_refl _) h E_BIG_INTEGER S_BIG_INTEGER F_BIG_INTEGER_fixedLength
    · exact rm0_4 l s _ hw tables_1 i0 A_ENUMERATION s.heap s.heap.size (Nat.le_refl _) h E_ENUMERATION S_ENUMERATION F_ENUMERATION_fixedLength
    · exact rm0_5 l s _ hw tables_1 i0 A_BOOLEAN s.heap s.heap.size (Nat.le_refl _) h E_BOOLEAN S_BOOLEAN F_BOOLEAN_fixedLength
    · exact rm0_6 l s _ hw tables_1 i0 A_TEXT_STRING s.heap s.heap.size (Nat.le_refl _) h E_TEXT_STRING S_TEXT_STRING F_TEXT_STRING_fixedLength
    · exact rm0_7 l s _ hw tables_1 i0 A_BYTE_STRING s.heap s.heap.size (Nat.le_refl _) h E_BYTE_STRING S_BYTE_STRING F_BYTE_STRING_fixedLength
    · exact rm0_8 l s _ hw tables_1 i0 A_DATE_TIME s.heap s.heap.size (Nat.le_refl _) h E_DATE_TIME S_DATE_TIME F_DATE_TIME_fixedLength
    · exact rm0_9 l s _ hw tables_1 i0 A_INTERVAL s.heap s.heap.size (Nat.le_refl _) h E_INTERVAL S_INTERVAL F_INTERVAL_fixedLength
  obtain ⟨n, o, h1, h2, h3, _, L, rfl, ⟨rfl, N⟩, hq⟩ := rmL p e ha hc hk s m _ below hf ((Spec.applies_iff_loose hf).mp happ).1 ⟨rfl, State.Warmed39.refl s, rfl⟩ trivial
  exact ⟨n, _, h1, h2, h3, hpost _ _ _ _ _ _ ⟨Cond.after_iff.mpr rfl, Cond.after_iff.mpr (eq_i res_at (Term.int_eval (1)) rfl), trivial⟩ ⟨hq.1, hq.2.1, (hq.2.2.sift fun y hy => Or.inr (N y hy)).mono (by decide) (by decide)⟩⟩
theorem main_1_1 : Claimed_1_1 := comes_1 fun _ _ _ _ _ _ h hF => ⟨h.1, hF⟩
theorem main_1_2 : Claimed_1_2 := comes_1 fun _ _ _ _ _ _ h hF => ⟨h.2.1, hF⟩
end Jvm.Pilot.@@N@@
namespace Jvm.Pilot.@@N@@
open Jvm Jvm.ClassFile Sem Op Lib Jvm.Free Jvm.Stand Jvm.Pilot.@@N@@.Jvm.D
/-! MADE BY PROGRAM (witnessworld.py) out of the Statement's table words and the real class files: 13 classes; the members and pool entries that the words name. The judged class is class 1, her method 2. -/
namespace start1
open Jvm.ClassFile
def u (s : String) : CpInfo := .utf8 (stringToUtf16 s)
/-- a pool by its gaps: so many unusable entries, then the entry; so many at the end -/
def gap : Nat → List CpInfo → List CpInfo
  | 0, r => r
  | n + 1, r => .unusable :: gap n r
def poolList (es : List (Nat × CpInfo)) (last : Nat) : List CpInfo := es.foldr (fun e r => gap e.1 (e.2 :: r)) (gap last [])
def pool (es : List (Nat × CpInfo)) (last : Nat) : Array CpInfo := ⟨poolList es last⟩
def fileOf (pool : Array CpInfo) (this : Nat) (attrs : Array Attribute := #[]) (ms : Array MethodInfo := #[]) (fl : Nat := 33) (sup : Nat := 0) (ifs : Array Nat := #[]) (fds : Array FieldInfo := #[]) : ClassFile where
  minorVersion := 0
  majorVersion := 65
  constantPool := pool
  accessFlags := fl
  thisClass := this
  superClass := sup
  interfaces := ifs
  fields := fds
  methods := ms
  attributes := attrs
def plain (name : String) (sup : Option ClassId) : Class where
  name := name
  kind := .ordinary
  loader := none
  accessFlags := 33
  super := sup
  interfaces := #[]
  cf := none
  fields := #[]
  methods := #[]
  instanceTypes := #[]
  staticTypes := #[]
  resolved := #[]
  callSites := []
  init := .initialized
  statics := none
  mirror := none

def pool0 : Array CpInfo := pool [(5, u "<init>"), (0, u "()V"), (1, .class_ 10), (1, u "java/lang/Object")] 113

def k0m0 : Method := { name := "<init>", desc := "()V", sig := { parameters := [], returnType := none }, accessFlags := 1, code := none }
/-- java/lang/Object -/
def k0 : Class := { plain "java/lang/Object" none with
  accessFlags := 33
  interfaces := #[]
  cf := some (fileOf pool0 8 #[] #[{ accessFlags := 1, nameIndex := 5, descriptorIndex := 6, attributes := #[] }] 33 0 #[] #[])
  fields := #[]
  methods := #[k0m0]
  instanceTypes := #[]
  staticTypes := #[]
  resolved := Array.replicate 124 none
  statics := none }

def pool1 : Array CpInfo := pool [(2, .class_ 4), (1, u "java/lang/Object"), (0, u "<init>"), (0, u "()V"), (0, .fieldref 8 9), (0, .class_ 10), (0, .nameAndType 11 12), (0, u "com/example/upright_custodian/uprightcustodian/kmip/TtlvType"), (0, u "STRUCTURE"), (0, u "Lcom/example/upright_custodian/uprightcustodian/kmip/TtlvType;"), (0, .fieldref 8 14), (0, .nameAndType 15 12), (0, u "INTEGER"), (0, .fieldref 8 17), (0, .nameAndType 18 12), (0, u "LONG_INTEGER"), (0, .fieldref 8 20), (0, .nameAndType 21 12), (0, u "BIG_INTEGER"), (0, .fieldref 8 23), (0, .nameAndType 24 12), (0, u "ENUMERATION"), (0, .fieldref 8 26), (0, .nameAndType 27 12), (0, u "BOOLEAN"), (0, .fieldref 8 29), (0, .nameAndType 30 12), (0, u "TEXT_STRING"), (0, .fieldref 8 32), (0, .nameAndType 33 12), (0, u "BYTE_STRING"), (0, .fieldref 8 35), (0, .nameAndType 36 12), (0, u "DATE_TIME"), (0, .fieldref 8 38), (0, .nameAndType 39 12), (0, u "INTERVAL"), (0, .integer 2147483647), (0, .methodref 42 43), (0, .class_ 44), (0, .nameAndType 45 46), (0, u "com/example/upright_custodian/uprightcustodian/kmip/TtlvTypeHasFixedLengthPinLaw"), (0, u "pick"), (0, u "(I)Lcom/example/upright_custodian/uprightcustodian/kmip/TtlvType;"), (0, .methodref 8 48), (0, .nameAndType 49 50), (0, u "hasFixedLength"), (0, u "()Z"), (0, .methodref 8 52), (0, .nameAndType 53 54), (0, u "fixedLength"), (0, u "()I"), (3, u "law"), (0, u "(I)Z")] 2

def k1m0 : Method := { name := "<init>", desc := "()V", sig := { parameters := [], returnType := none }, accessFlags := 1, code := none }
def k1c1 : Code := { maxStack := 2, maxLocals := 1, code := method_2_code, exceptionTable := #[], attributes := #[] }
def k1m1 : Method := { name := "pick", desc := "(I)Lcom/example/upright_custodian/uprightcustodian/kmip/TtlvType;", sig := { parameters := [.int], returnType := some (.object "com/example/upright_custodian/uprightcustodian/kmip/TtlvType") }, accessFlags := 10, code := some k1c1 }
def k1c2 : Code := { maxStack := 2, maxLocals := 6, code := code, exceptionTable := #[], attributes := #[] }
def k1m2 : Method := { name := "law", desc := "(I)Z", sig := { parameters := [.int], returnType := some .boolean }, accessFlags := 9, code := some k1c2 }
/-- com/example/upright_custodian/uprightcustodian/kmip/TtlvTypeHasFixedLengthPinLaw -/
def k1 : Class := { plain "com/example/upright_custodian/uprightcustodian/kmip/TtlvTypeHasFixedLengthPinLaw" (some 0) with
  accessFlags := 49
  interfaces := #[]
  cf := some (fileOf pool1 42 #[] #[{ accessFlags := 1, nameIndex := 5, descriptorIndex := 6, attributes := #[] }, { accessFlags := 10, nameIndex := 45, descriptorIndex := 46, attributes := #[] }, { accessFlags := 9, nameIndex := 58, descriptorIndex := 59, attributes := #[] }] 49 2 #[] #[])
  fields := #[]
  methods := #[k1m0, k1m1, k1m2]
  instanceTypes := #[]
  staticTypes := #[]
  resolved := Array.replicate 62 none
  statics := none }

def pool2 : Array CpInfo := pool [(1, .class_ 2), (0, u "java/lang/constant/Constable"), (0, .class_ 4), (0, u "java/lang/Object")] 6

/-- java/lang/constant/Constable -/
def k2 : Class := { plain "java/lang/constant/Constable" (some 0) with
  accessFlags := 1537
  interfaces := #[]
  cf := some (fileOf pool2 1 #[] #[] 1537 3 #[] #[])
  fields := #[]
  methods := #[]
  instanceTypes := #[]
  staticTypes := #[]
  resolved := Array.replicate 11 none
  statics := none }

def pool3 : Array CpInfo := pool [(1, .class_ 2), (0, u "java/lang/Comparable"), (0, .class_ 4), (0, u "java/lang/Object")] 7

/-- java/lang/Comparable -/
def k3 : Class := { plain "java/lang/Comparable" (some 0) with
  accessFlags := 1537
  interfaces := #[]
  cf := some (fileOf pool3 1 #[] #[] 1537 3 #[] #[])
  fields := #[]
  methods := #[]
  instanceTypes := #[]
  staticTypes := #[]
  resolved := Array.replicate 12 none
  statics := none }

def pool4 : Array CpInfo := pool [(1, .class_ 2), (0, u "java/io/Serializable"), (0, .class_ 4), (0, u "java/lang/Object")] 2

/-- java/io/Serializable -/
def k4 : Class := { plain "java/io/Serializable" (some 0) with
  accessFlags := 1537
  interfaces := #[]
  cf := some (fileOf pool4 1 #[] #[] 1537 3 #[] #[])
  fields := #[]
  methods := #[]
  instanceTypes := #[]
  staticTypes := #[]
  resolved := Array.replicate 7 none
  statics := none }

def pool5 : Array CpInfo := pool [(2, .class_ 4), (1, u "java/lang/Enum"), (0, u "name"), (0, u "Ljava/lang/String;"), (2, u "ordinal"), (0, u "I"), (1, .class_ 14), (1, u "java/lang/Object"), (4, u "hash"), (86, .class_ 108), (1, u "java/lang/Enum$EnumDesc"), (2, .class_ 112), (0, u "java/lang/constant/Constable"), (0, .class_ 114), (0, u "java/lang/Comparable"), (0, .class_ 116), (0, u "java/io/Serializable")] 87

/-- java/lang/Enum -/
def k5 : Class := { plain "java/lang/Enum" (some 0) with
  accessFlags := 1057
  interfaces := #[2, 3, 4]
  cf := some (fileOf pool5 2 #[.nestMembers #[106]] #[] 1057 12 #[111, 113, 115] #[{ accessFlags := 18, nameIndex := 5, descriptorIndex := 6, attributes := #[] }, { accessFlags := 18, nameIndex := 9, descriptorIndex := 10, attributes := #[] }, { accessFlags := 2, nameIndex := 19, descriptorIndex := 10, attributes := #[] }])
  fields := #[{ name := "name", type := (.object "java/lang/String"), accessFlags := 18, slot := 0, constantValue := 0 }, { name := "ordinal", type := .int, accessFlags := 18, slot := 1, constantValue := 0 }, { name := "hash", type := .int, accessFlags := 2, slot := 2, constantValue := 0 }]
  methods := #[]
  instanceTypes := #[(.object "java/lang/String"), .int, .int]
  staticTypes := #[]
  resolved := Array.replicate 204 none
  statics := none }

def pool6 : Array CpInfo := pool [(8, .class_ 10), (1, u "com/example/upright_custodian/uprightcustodian/kmip/Coded"), (13, .class_ 25), (0, u "java/lang/Object")] 53

/-- com/example/upright_custodian/uprightcustodian/kmip/Coded -/
def k6 : Class := { plain "com/example/upright_custodian/uprightcustodian/kmip/Coded" (some 0) with
  accessFlags := 1537
  interfaces := #[]
  cf := some (fileOf pool6 8 #[] #[] 1537 24 #[] #[])
  fields := #[]
  methods := #[]
  instanceTypes := #[]
  staticTypes := #[]
  resolved := Array.replicate 79 none
  statics := none }

def pool7 : Array CpInfo := pool [(1, .class_ 2), (0, u "com/example/upright_custodian/uprightcustodian/kmip/TtlvType"), (2, u "STRUCTURE"), (0, u "Lcom/example/upright_custodian/uprightcustodian/kmip/TtlvType;"), (2, u "INTEGER"), (2, u "LONG_INTEGER"), (2, u "BIG_INTEGER"), (2, u "ENUMERATION"), (2, u "BOOLEAN"), (2, u "TEXT_STRING"), (2, u "BYTE_STRING"), (2, u "DATE_TIME"), (2, u "INTERVAL"), (2, u "$VALUES"), (0, u "[Lcom/example/upright_custodian/uprightcustodian/kmip/TtlvType;"), (6, .class_ 46), (1, u "java/lang/Enum"), (8, u "code"), (0, u "I"), (2, u "specificationName"), (0, u "Ljava/lang/String;"), (0, .fieldref 1 62), (0, .nameAndType 63 56), (0, u "fixedLength"), (0, .methodref 1 65), (0, .nameAndType 66 67), (0, u "hasFixedLength"), (0, u "()Z"), (46, .class_ 115), (0, u "com/example/upright_custodian/uprightcustodian/kmip/Coded"), (0, u "VARIABLE"), (9, u "()I")] 22

def k7c0 : Code := { maxStack := 2, maxLocals := 1, code := prog_76_method_6_code, exceptionTable := #[], attributes := #[] }
def k7m0 : Method := { name := "hasFixedLength", desc := "()Z", sig := { parameters := [], returnType := some .boolean }, accessFlags := 1, code := some k7c0 }
def k7c1 : Code := { maxStack := 3, maxLocals := 1, code := prog_76_method_7_code, exceptionTable := #[], attributes := #[] }
def k7m1 : Method := { name := "fixedLength", desc := "()I", sig := { parameters := [], returnType := some .int }, accessFlags := 1, code := some k7c1 }
/-- com/example/upright_custodian/uprightcustodian/kmip/TtlvType -/
def k7 : Class := { plain "com/example/upright_custodian/uprightcustodian/kmip/TtlvType" (some 5) with
  accessFlags := 16433
  interfaces := #[6]
  cf := some (fileOf pool7 1 #[] #[{ accessFlags := 1, nameIndex := 66, descriptorIndex := 67, attributes := #[] }, { accessFlags := 1, nameIndex := 63, descriptorIndex := 126, attributes := #[] }] 16433 44 #[114] #[{ accessFlags := 16409, nameIndex := 5, descriptorIndex := 6, attributes := #[] }, { accessFlags := 16409, nameIndex := 9, descriptorIndex := 6, attributes := #[] }, { accessFlags := 16409, nameIndex := 12, descriptorIndex := 6, attributes := #[] }, { accessFlags := 16409, nameIndex := 15, descriptorIndex := 6, attributes := #[] }, { accessFlags := 16409, nameIndex := 18, descriptorIndex := 6, attributes := #[] }, { accessFlags := 16409, nameIndex := 21, descriptorIndex := 6, attributes := #[] }, { accessFlags := 16409, nameIndex := 24, descriptorIndex := 6, attributes := #[] }, { accessFlags := 16409, nameIndex := 27, descriptorIndex := 6, attributes := #[] }, { accessFlags := 16409, nameIndex := 30, descriptorIndex := 6, attributes := #[] }, { accessFlags := 16409, nameIndex := 33, descriptorIndex := 6, attributes := #[] }, { accessFlags := 26, nameIndex := 116, descriptorIndex := 56, attributes := #[] }, { accessFlags := 18, nameIndex := 55, descriptorIndex := 56, attributes := #[] }, { accessFlags := 18, nameIndex := 59, descriptorIndex := 60, attributes := #[] }, { accessFlags := 18, nameIndex := 63, descriptorIndex := 56, attributes := #[] }, { accessFlags := 4122, nameIndex := 36, descriptorIndex := 37, attributes := #[] }])
  fields := #[{ name := "STRUCTURE", type := (.object "com/example/upright_custodian/uprightcustodian/kmip/TtlvType"), accessFlags := 16409, slot := 0, constantValue := 0 }, { name := "INTEGER", type := (.object "com/example/upright_custodian/uprightcustodian/kmip/TtlvType"), accessFlags := 16409, slot := 1, constantValue := 0 }, { name := "LONG_INTEGER", type := (.object "com/example/upright_custodian/uprightcustodian/kmip/TtlvType"), accessFlags := 16409, slot := 2, constantValue := 0 }, { name := "BIG_INTEGER", type := (.object "com/example/upright_custodian/uprightcustodian/kmip/TtlvType"), accessFlags := 16409, slot := 3, constantValue := 0 }, { name := "ENUMERATION", type := (.object "com/example/upright_custodian/uprightcustodian/kmip/TtlvType"), accessFlags := 16409, slot := 4, constantValue := 0 }, { name := "BOOLEAN", type := (.object "com/example/upright_custodian/uprightcustodian/kmip/TtlvType"), accessFlags := 16409, slot := 5, constantValue := 0 }, { name := "TEXT_STRING", type := (.object "com/example/upright_custodian/uprightcustodian/kmip/TtlvType"), accessFlags := 16409, slot := 6, constantValue := 0 }, { name := "BYTE_STRING", type := (.object "com/example/upright_custodian/uprightcustodian/kmip/TtlvType"), accessFlags := 16409, slot := 7, constantValue := 0 }, { name := "DATE_TIME", type := (.object "com/example/upright_custodian/uprightcustodian/kmip/TtlvType"), accessFlags := 16409, slot := 8, constantValue := 0 }, { name := "INTERVAL", type := (.object "com/example/upright_custodian/uprightcustodian/kmip/TtlvType"), accessFlags := 16409, slot := 9, constantValue := 0 }, { name := "VARIABLE", type := .int, accessFlags := 26, slot := 10, constantValue := 0 }, { name := "code", type := .int, accessFlags := 18, slot := 3, constantValue := 0 }, { name := "specificationName", type := (.object "java/lang/String"), accessFlags := 18, slot := 4, constantValue := 0 }, { name := "fixedLength", type := .int, accessFlags := 18, slot := 5, constantValue := 0 }, { name := "$VALUES", type := (.array (.object "com/example/upright_custodian/uprightcustodian/kmip/TtlvType")), accessFlags := 4122, slot := 11, constantValue := 0 }]
  methods := #[k7m0, k7m1]
  instanceTypes := #[(.object "java/lang/String"), .int, .int, .int, (.object "java/lang/String"), .int]
  staticTypes := #[(.object "com/example/upright_custodian/uprightcustodian/kmip/TtlvType"), (.object "com/example/upright_custodian/uprightcustodian/kmip/TtlvType"), (.object "com/example/upright_custodian/uprightcustodian/kmip/TtlvType"), (.object "com/example/upright_custodian/uprightcustodian/kmip/TtlvType"), (.object "com/example/upright_custodian/uprightcustodian/kmip/TtlvType"), (.object "com/example/upright_custodian/uprightcustodian/kmip/TtlvType"), (.object "com/example/upright_custodian/uprightcustodian/kmip/TtlvType"), (.object "com/example/upright_custodian/uprightcustodian/kmip/TtlvType"), (.object "com/example/upright_custodian/uprightcustodian/kmip/TtlvType"), (.object "com/example/upright_custodian/uprightcustodian/kmip/TtlvType"), .int, (.array (.object "com/example/upright_custodian/uprightcustodian/kmip/TtlvType"))]
  resolved := Array.replicate 149 none
  statics := some 0 }

def pool8 : Array CpInfo := pool [(1, u "java/lang/Cloneable"), (0, .class_ 1), (0, u "java/lang/Object"), (0, .class_ 3)] 3

/-- java/lang/Cloneable -/
def k8 : Class := { plain "java/lang/Cloneable" (some 0) with
  accessFlags := 1537
  interfaces := #[]
  cf := some (fileOf pool8 2 #[] #[] 1537 4 #[] #[])
  fields := #[]
  methods := #[]
  instanceTypes := #[]
  staticTypes := #[]
  resolved := Array.replicate 8 none
  statics := none }

/-- the primitive byte -/
def k9 : Class := { plain "byte" none with kind := .primitive 'B', accessFlags := 0x411 }
/-- [B -/
def k10 : Class := { plain "[B" (some 0) with kind := .array 9 .byte, interfaces := #[8, 4], accessFlags := 1041 }

/-- the primitive int -/
def k11 : Class := { plain "int" none with kind := .primitive 'I', accessFlags := 0x411 }
/-- [I -/
def k12 : Class := { plain "[I" (some 0) with kind := .array 11 .int, interfaces := #[8, 4], accessFlags := 1041 }

def heap : Heap := #[{ cls := 7, slots := #[.ref 1, .ref 3, .ref 6, .ref 2, .ref 4, .ref 9, .ref 10, .ref 5, .ref 7, .ref 8, .int 0, .null], vm := .statics 7 },
  { cls := 7, slots := #[.null, .int (0), .int (0), .int (0), .null, .int (-1)], vm := .none },
  { cls := 7, slots := #[.null, .int (0), .int (0), .int (0), .null, .int (-1)], vm := .none },
  { cls := 7, slots := #[.null, .int (0), .int (0), .int (0), .null, .int (4)], vm := .none },
  { cls := 7, slots := #[.null, .int (0), .int (0), .int (0), .null, .int (4)], vm := .none },
  { cls := 7, slots := #[.null, .int (0), .int (0), .int (0), .null, .int (-1)], vm := .none },
  { cls := 7, slots := #[.null, .int (0), .int (0), .int (0), .null, .int (8)], vm := .none },
  { cls := 7, slots := #[.null, .int (0), .int (0), .int (0), .null, .int (8)], vm := .none },
  { cls := 7, slots := #[.null, .int (0), .int (0), .int (0), .null, .int (4)], vm := .none },
  { cls := 7, slots := #[.null, .int (0), .int (0), .int (0), .null, .int (8)], vm := .none },
  { cls := 7, slots := #[.null, .int (0), .int (0), .int (0), .null, .int (-1)], vm := .none }]
def classes : Array Class := #[k0, k1, k2, k3, k4, k5, k6, k7, k8, k9, k10, k11, k12]
def interned : List (Array UInt16 × Addr) := []
def slotsUsed : Nat := 72
def theMethod : MethodId := ⟨1, 2⟩
def args0 : Array Value := #[.int 5]
def aboutOver (below : List Frame) : State where
  vm := { classes := classes, interned := interned.toArray }
  heap := heap
  slotsUsed := slotsUsed
  threads := #[{ frames := .invoking theMethod args0 :: below }]
def below0 : List Frame := [.native { method := ⟨0, 0⟩, args := #[] }]
def about1 : State := aboutOver below0
def p0 : Program := .bare "" "" ""
def e0 : Env := launch0.env 0 0 0
theorem w_frames : about1.frames = Frame.invoking theMethod args0 :: below0 := rfl
set_option maxRecDepth 65536 in
theorem w_args : argsFit about1.vm theMethod args0 = true := by decide +kernel
set_option maxRecDepth 65536 in
theorem w_heap : heapFits about1 = true := by decide +kernel
set_option maxRecDepth 65536 in
theorem w_runnable : about1.curStatus? = some .runnable := by decide +kernel
set_option maxRecDepth 65536 in
theorem w_alone : about1.alone = true := by decide +kernel
set_option maxRecDepth 65536 in
theorem w_named : about1.methodNamed? x = some theMethod := by decide +kernel
set_option maxRecDepth 65536 in
theorem w_hears : about1.hears theMethod below0 = true := by decide +kernel
set_option maxRecDepth 65536 in
theorem w_ripe : about1.ripe theMethod args0 below0 = true := by decide +kernel
theorem w_running : about1.status = .running := rfl
set_option maxRecDepth 65536 in
theorem w_room : about1.hasRoom e0.platform room_1 = true :=
  launch0.hasRoom_least _ room_1 (by decide +kernel) (by decide +kernel) (by decide +kernel) (by decide +kernel) (by decide +kernel) (by decide +kernel)
theorem allAtoms_all (ts : List Jvm.Cond) (a : Array Jvm.Value) (st : Jvm.State) : (allAtoms ts).before a st = ts.all (fun c => c.before a st) := by
  induction ts with
  | nil => rfl
  | cons c t ih =>
    show (Jvm.Cond.and c (allAtoms t)).before a st = _
    rw [Jvm.Cond.before_and, ih, List.all_cons]
def words1 : List Jvm.Cond := Jvm.Cond.code x code maxLocals ret :: tables_1
/-- a 'code' word, met by the world's own term for the bytes: nothing is compared byte by byte -/
theorem code_word {y : MethodName} {bytes : ByteArray} {mx : Nat} {rt : Option FieldType} {a : Array Value} {s : State} {m : MethodId} {meth : Method} {c : Code} (h1 : s.methodNamed? y = some m) (h2 : s.vm.method? m = some meth) (h3 : meth.code = some c) (h4 : c.code = bytes)
    (h5 : (c.maxLocals == mx && c.exceptionTable.isEmpty && decide (c.maxStack ≤ mostOperands) && decide (meth.sig.returnType = rt) && !meth.locks && decide (parseMethodDescriptor y.desc = some meth.sig)) = true) : (Jvm.Cond.code y bytes mx rt).before a s = true := by
  simp only [Bool.and_eq_true, beq_iff_eq, Bool.not_eq_true', decide_eq_true_eq] at h5
  obtain ⟨⟨⟨⟨⟨g1, g2⟩, g3⟩, g4⟩, g5⟩, g6⟩ := h5
  simp [Cond.before, Cond.holds, Cond.value, h1, h2, h3, h4, g1, g2, g3, g4, g5, g6]
def isCode : Jvm.Cond → Bool
  | .code _ _ _ _ => true
  | _ => false
theorem all_split {L : List Jvm.Cond} {P : Jvm.Cond → Bool} (h1 : L.all (fun c => isCode c || P c) = true) (h2 : ∀ c ∈ L.filter isCode, P c = true) : L.all P = true := by
  refine List.all_eq_true.mpr fun c hc => ?_
  have h := List.all_eq_true.mp h1 c hc
  rcases Bool.eq_false_or_eq_true (isCode c) with hi | hi
  · exact h2 c (List.mem_filter.mpr ⟨hc, hi⟩)
  · simpa [hi] using h
set_option maxRecDepth 65536 in
theorem w_c0 : (Jvm.Cond.code x code maxLocals ret).before args0 about1 = true := code_word (m := ⟨1, 2⟩) (meth := k1m2) (c := k1c2) (by decide +kernel) rfl rfl rfl (by decide +kernel)
set_option maxRecDepth 65536 in
theorem w_c1 : (Jvm.Cond.code ({ cls := "com/example/upright_custodian/uprightcustodian/kmip/TtlvTypeHasFixedLengthPinLaw", name := "pick", desc := "(I)Lcom/example/upright_custodian/uprightcustodian/kmip/TtlvType;" } : Jvm.MethodName) method_2_code (1 : Nat) (Option.some (Jvm.ClassFile.FieldType.object "com/example/upright_custodian/uprightcustodian/kmip/TtlvType"))).before args0 about1 = true := code_word (m := ⟨1, 1⟩) (meth := k1m1) (c := k1c1) (by decide +kernel) rfl rfl rfl (by decide +kernel)
set_option maxRecDepth 65536 in
theorem w_c2 : (Jvm.Cond.code ({ cls := "com/example/upright_custodian/uprightcustodian/kmip/TtlvType", name := "hasFixedLength", desc := "()Z" } : Jvm.MethodName) prog_76_method_6_code (1 : Nat) (Option.some Jvm.ClassFile.FieldType.boolean)).before args0 about1 = true := code_word (m := ⟨7, 0⟩) (meth := k7m0) (c := k7c0) (by decide +kernel) rfl rfl rfl (by decide +kernel)
set_option maxRecDepth 65536 in
theorem w_c3 : (Jvm.Cond.code ({ cls := "com/example/upright_custodian/uprightcustodian/kmip/TtlvType", name := "fixedLength", desc := "()I" } : Jvm.MethodName) prog_76_method_7_code (1 : Nat) (Option.some Jvm.ClassFile.FieldType.int)).before args0 about1 = true := code_word (m := ⟨7, 1⟩) (meth := k7m1) (c := k7c1) (by decide +kernel) rfl rfl rfl (by decide +kernel)
def codes1 : List Jvm.Cond := [Jvm.Cond.code x code maxLocals ret, Jvm.Cond.code ({ cls := "com/example/upright_custodian/uprightcustodian/kmip/TtlvTypeHasFixedLengthPinLaw", name := "pick", desc := "(I)Lcom/example/upright_custodian/uprightcustodian/kmip/TtlvType;" } : Jvm.MethodName) method_2_code (1 : Nat) (Option.some (Jvm.ClassFile.FieldType.object "com/example/upright_custodian/uprightcustodian/kmip/TtlvType")), Jvm.Cond.code ({ cls := "com/example/upright_custodian/uprightcustodian/kmip/TtlvType", name := "hasFixedLength", desc := "()Z" } : Jvm.MethodName) prog_76_method_6_code (1 : Nat) (Option.some Jvm.ClassFile.FieldType.boolean), Jvm.Cond.code ({ cls := "com/example/upright_custodian/uprightcustodian/kmip/TtlvType", name := "fixedLength", desc := "()I" } : Jvm.MethodName) prog_76_method_7_code (1 : Nat) (Option.some Jvm.ClassFile.FieldType.int)]
set_option maxRecDepth 65536 in
theorem codes_eq : words1.filter isCode = codes1 := rfl
theorem w_codes : ∀ c ∈ words1.filter isCode, c.before args0 about1 = true := by
  rw [codes_eq]
  intro c hc
  simp only [codes1, List.mem_cons, List.not_mem_nil, or_false] at hc
  rcases hc with rfl | rfl | rfl | rfl
  · exact w_c0
  · exact w_c1
  · exact w_c2
  · exact w_c3
set_option maxRecDepth 65536 in
theorem w_t1 : (words1.take 24).all (fun c => isCode c || c.before args0 about1) = true := by decide +kernel
set_option maxRecDepth 65536 in
theorem w_t2 : (words1.drop 24).all (fun c => isCode c || c.before args0 about1) = true := by decide +kernel
theorem w_tables : (allAtoms (Jvm.Cond.code x code maxLocals ret :: tables_1)).before args0 about1 = true := by
  rw [allAtoms_all]
  show words1.all (fun c => c.before args0 about1) = true
  refine all_split ?_ w_codes
  rw [← List.take_append_drop 24 words1, List.all_append, w_t1, w_t2]
  rfl
set_option maxRecDepth 65536 in
theorem w_case : (Jvm.Cond.and given_1 narrow_1).before args0 about1 = true := by decide +kernel
theorem w_applies : (headSpec (Jvm.Cond.code x code maxLocals ret :: tables_1) room_1).applies x e0.platform about1 = true :=
  (Spec.applies_iff w_frames).mpr ⟨w_running, w_runnable, w_alone, w_named, w_hears, w_ripe, w_room, w_tables⟩
theorem atStart : AtStart classFile x code maxLocals ret World_1 tables_1 room_1 Calls_1 rest_1 Pre_1 launch0 p0 e0 about1 theMethod args0 below0 :=
  ⟨lists_1, trivial, launch0.admits_env _ _ _, launch0.least_env, fairChoices_fair.cas, fairChoices_fair.clock, w_frames, w_args, w_heap, w_applies, trivial, trivial, w_case⟩
end start1
theorem witness_1 : WitnessClaimed_1 := ⟨start1.p0, start1.e0, start1.about1, start1.theMethod, start1.args0, start1.below0, start1.atStart⟩
end Jvm.Pilot.@@N@@
