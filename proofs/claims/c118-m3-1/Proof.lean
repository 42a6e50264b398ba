import JvmDerived
import JvmDerived.Pilot.@@N@@Statement
import JvmDerived.Pilot.@@N@@Code
set_option linter.unusedVariables false
set_option linter.unusedSimpArgs false
@@BLOCK:NumsL.lean.txt@@
namespace Jvm.Pilot.@@N@@
open Jvm Jvm.ClassFile Sem Op Lib Jvm.Free Jvm.Stand Jvm.LawKit Jvm.RoadKit Bundle Jvm.Pilot.@@N@@.Jvm.D
/-- the run from here comes to an end of which P speaks -/
def own_Run (tb : Tables) (e : Env) (below : List Frame) (T : State) (g : JFrame) (P : Outcome → State → Prop) : Prop :=
  ∃ s₂ o, Steps tb e below (T.setTop g) s₂ ∧ s₂.status = .running ∧ Ended s₂ below o ∧ P o s₂
theorem own_start {tb : Tables} {e : Env} {below : List Frame} {T : State} {g : JFrame} {Pd : Outcome → State → Prop} (h : ∀ P : Outcome → State → Prop, (∀ o U, Pd o U → P o U) → own_Run tb e below T g P) : ∃ s₂ o, Steps tb e below (T.setTop g) s₂ ∧ s₂.status = .running ∧ Ended s₂ below o ∧ Pd o s₂ := h Pd fun _ _ q => q
theorem own_step {tb : Tables} {e : Env} {below : List Frame} {T T' : State} {g g' : JFrame} {P : Outcome → State → Prop} (h : ∀ t, Steps tb e below (T'.setTop g') t → Steps tb e below (T.setTop g) t) (k : own_Run tb e below T' g' P) : own_Run tb e below T g P := by
  obtain ⟨a, b, h1, h2⟩ := k
  exact ⟨a, b, h _ h1, h2⟩
theorem own_to {tb : Tables} {e : Env} {below : List Frame} {T T' : State} {g g' : JFrame} {P : Outcome → State → Prop} (h : Steps tb e below (T.setTop g) (T'.setTop g')) (k : own_Run tb e below T' g' P) : own_Run tb e below T g P := by
  obtain ⟨a, b, h1, h2⟩ := k
  exact ⟨a, b, h.trans h1, h2⟩
section Ret
variable {p : Program} {l : Launch} {e : Env} {R : Room} {s : State} {m : MethodId} {args : Array Value} {below : List Frame} {meth : Method} {c : Code} {T : State} {locs : List Loc} {cells slots : Nat}
theorem own_retI (X : Stand p l e R s m args below meth c T locs cells slots) (hx : p.tables.exec = Jvm.exec) {pc : Nat} {Ls : Array Slot} {z : Int32} {rest : List Value} (hret : meth.sig.returnType = some .int) (hd : decode c.code pc = .ok (.ireturn, 1)) {fs : List Frame}
    (hl : ∀ (f : JFrame) (acts : List Action), f.method = m → f.locked = none → f.entered = [] → (doReturn e (T.setTop f) acts (some (.int z))).1 = T.setFrames fs) : Steps p.tables e below (T.setTop (mkF m pc Ls (.int z :: rest))) (T.setFrames fs) :=
  retOut X hx hret rfl (Or.inl ⟨rfl, Or.inl rfl, _, rfl⟩) hd hl
theorem own_retJ (X : Stand p l e R s m args below meth c T locs cells slots) (hx : p.tables.exec = Jvm.exec) {pc : Nat} {Ls : Array Slot} {z : Int64} {rest : List Value} (hret : meth.sig.returnType = some .long) (hd : decode c.code pc = .ok (.lreturn, 1)) {fs : List Frame}
    (hl : ∀ (f : JFrame) (acts : List Action), f.method = m → f.locked = none → f.entered = [] → (doReturn e (T.setTop f) acts (some (.long z))).1 = T.setFrames fs) : Steps p.tables e below (T.setTop (mkF m pc Ls (.long z :: rest))) (T.setFrames fs) :=
  retOut X hx hret rfl (Or.inr (Or.inl ⟨rfl, rfl, _, rfl⟩)) hd hl
theorem own_retR (X : Stand p l e R s m args below meth c T locs cells slots) (hx : p.tables.exec = Jvm.exec) {pc : Nat} {Ls : Array Slot} {w : Value} {t : FieldType} {rest : List Value} (hret : meth.sig.returnType = some t) (ht : t.isReference = true) (hw : w.isRef = true) (hn : narrow t w = w) (hd : decode c.code pc = .ok (.areturn, 1)) {fs : List Frame}
    (hl : ∀ (f : JFrame) (acts : List Action), f.method = m → f.locked = none → f.entered = [] → (doReturn e (T.setTop f) acts (some w)).1 = T.setFrames fs) : Steps p.tables e below (T.setTop (mkF m pc Ls (w :: rest))) (T.setFrames fs) :=
  retOut X hx hret hn (Or.inr (Or.inr (Or.inr (Or.inr ⟨rfl, ht, hw⟩)))) hd hl
theorem own_retZ (X : Stand p l e R s m args below meth c T locs cells slots) (hx : p.tables.exec = Jvm.exec) {pc : Nat} {Ls : Array Slot} {z z' : Int32} {t : FieldType} {rest : List Value} (hret : meth.sig.returnType = some t) (ht : t = .boolean ∨ t = .byte ∨ t = .char ∨ t = .short) (hz : nar t z = z') (hd : decode c.code pc = .ok (.ireturn, 1)) {fs : List Frame}
    (hl : ∀ (f : JFrame) (acts : List Action), f.method = m → f.locked = none → f.entered = [] → (doReturn e (T.setTop f) acts (some (.int z'))).1 = T.setFrames fs) : Steps p.tables e below (T.setTop (mkF m pc Ls (.int z :: rest))) (T.setFrames fs) :=
  retN X hx hret ht hd (by rw [hz]; exact hl)
end Ret
theorem own_eqI {t : Term} {k : Int32} {args : Array Value} {s : State} {idx : List Nat} (h : (Jvm.Cond.eq t (.int k)).value args s none s idx = some true) : t.eval args s none idx s = some (.int k) :=
  Jvm.Cond.eq_int (b := .int k) (by simp [Jvm.Cond.holds, h]) rfl
theorem own_size {args : Array Value} {s : State} {t : Term} {a : Addr} {cell : Cell} {k : Int32} {n : Nat} (ht : t.eval args s none [] s = some (.ref a)) (hc : s.arrayAt? a = some cell) (h : (Term.length t).eval args s none [] s = some (.int k)) (hk : k.toInt = n) : cell.slots.size = n := by
  by_cases q : cell.slots.size < 2 ^ 31
  · rw [len_f ht hc q] at h
    have h2 := congrArg Int32.toInt (Value.int.inj (Option.some.inj h))
    rw [len_toInt q, hk] at h2
    exact Int.ofNat.inj h2
  · simp [Term.eval, ht, hc] at h
    exact absurd h.1 q
theorem own_all {args : Array Value} {s : State} {t : Term} {c : Jvm.Cond} {a : Addr} {cell : Cell} (ht : t.eval args s none [] s = some (.ref a)) (hc : s.arrayAt? a = some cell) (h : (Jvm.Cond.all t c).value args s none s [] = some true) (i : Nat) (hi : i < cell.slots.size) : c.value args s none s [i] = some true := by
  simp only [Jvm.Cond.value, ht, hc] at h
  have key : ∀ (l : List Nat) (acc : Option Bool), l.foldl (fun acc i => match acc with | some true => c.value args s none s [i] | x => x) acc = some true → acc = some true ∧ ∀ i ∈ l, c.value args s none s [i] = some true := by
    intro l
    induction l with
    | nil => intro acc h; exact ⟨h, fun _ q => nomatch q⟩
    | cons x l ih =>
      intro acc h
      obtain ⟨h1, h2⟩ := ih _ h
      match acc, h1 with
      | some true, h1 => exact ⟨rfl, fun i q => (List.mem_cons.mp q).elim (fun u => u ▸ h1) (h2 i)⟩
  exact (key _ _ h).2 i (List.mem_range.mpr hi)
def QE (h0 : Heap) (n0 : Nat) (v : Option Value) (h : Heap) (L : List Loc) : Prop := v = none ∧ Fr n0 L ∧ h = h0
theorem d2_0 : decode jdk_71_method_1_code 0 = .ok (.aload_n 0, 1) := by decide +kernel
theorem d2_1 : decode jdk_71_method_1_code 1 = .ok (.invokespecial 1, 3) := by decide +kernel
theorem d2_4 : decode jdk_71_method_1_code 4 = .ok (.return_, 1) := by decide +kernel
set_option maxRecDepth 65536 in
set_option maxHeartbeats 40000000 in
theorem rm_am (l : Launch) (Z : State) (a0 : Array Value) (hw : ∀ d ∈ tables_1, d.before a0 Z = true) (ws : List Jvm.Cond) (a1 : Addr) (h0 : Heap) (n0 : Nat) (Z0 : n0 ≤ h0.size)  :
    MetFree l (⟨"java/util/AbstractMap", "<init>", "()V"⟩ : MethodName) (head1 (Jvm.Cond.code (⟨"java/util/AbstractMap", "<init>", "()V"⟩ : MethodName) jdk_71_method_1_code 1 none :: ws) ({ frames := 1, cells := 0, slots := 0, locals := 12 } : Room)) (fun a U => a = #[(.ref a1)] ∧ Z.Warmed39 U.vm ∧ U.heap = h0) (fun _ _ _ _ _ => True) (fun _ U o U' => ∃ v L, o = .returned v ∧ QE h0 n0 v U'.heap L ∧ FrameEnd U o U' L 0 0) := by
  refine MetFree.of_bodySF (plainFor_of_name (by first | (simp [plainName, overriddenIn]; done) | decide +kernel)) hisR ?_
  intro p e s m args below meth c s₁ Bd hml0 hP hK
  obtain ⟨rfl, hZ, hh⟩ := hP
  have hx := Bd.exec
  have hby := Bd.bytes
  have hml : c.maxLocals = 1 := hml0
  have hown : s.vm.findClass "java/util/AbstractMap" = some m.cls := findClass_of_methodNamed Bd.named
  have hnm := (name_of_methodNamed Bd.named Bd.method).1
  have X0 : Stand p l e ({ frames := 1, cells := 0, slots := 0, locals := 12 } : Room) s m #[(.ref a1)] below meth c s₁ [] 0 0 := Stand.of_body Bd
  have e0 : s₁.heap = h0 := by rw [← hh, Bd.state]; rfl
  have N0 := Fr.nil n0
  have ef : entryFrame m #[(.ref a1)] 1 = (mkF m 0 #[.val (.ref a1)] []) := by first | (simp [entryFrame, mkF, argsToLocals, Value.category]; done) | rfl
  refine own_start (fun P hPP => ?_)
  refine own_step (T' := s₁) (g' := (mkF m 0 #[.val (.ref a1)] [])) (fun t_ k_ => castTop ef k_) ?_
  refine own_step (T' := s₁) (g' := (mkF m 1 #[.val (.ref a1)] [(.ref a1)])) (fun t_ k_ => XS.aloadN X0.here hx rfl (hb hby d2_0) rfl rfl k_) ?_
  obtain ⟨T101, X101, e101, st101⟩ := initO X0 hx hZ hown (hw _ (List.mem_of_getElem? (i := 12) rfl)) (hw _ (List.mem_of_getElem? (i := 13) rfl)) (hw _ (List.mem_of_getElem? (i := 14) rfl)) e0 (g := (mkF m 1 #[.val (.ref a1)] [(.ref a1)])) rfl (by rw [hml]; rfl) rfl (hb hby d2_1) (by decide) (W := 0) (by show 2 * 0 + _ ≤ _; exact Nat.le_of_eq rfl) (by decide)
  refine own_step (T' := T101) (g' := (mkF m 4 #[.val (.ref a1)] [])) st101 ?_
  obtain ⟨fs, hrR, hrun, hended, hWW, hsame⟩ := X101.leave (v := none) (fun _ => rfl)
  refine ⟨_, _, X101.returnOut hx Bd.returns (hb hby d2_4) hrR, hrun, hended, hPP _ _ ⟨_, _, rfl, ?_, ⟨_, rfl⟩, hWW, hsame.mono (by decide) (by decide)⟩⟩
  show QE h0 n0 _ T101.heap _
  rw [e101]
  exact ⟨rfl, N0, rfl⟩
theorem d13_0 : decode jdk_18_method_1_code 0 = .ok (.aload_n 0, 1) := by decide +kernel
theorem d13_1 : decode jdk_18_method_1_code 1 = .ok (.invokespecial 1, 3) := by decide +kernel
theorem d13_4 : decode jdk_18_method_1_code 4 = .ok (.return_, 1) := by decide +kernel
set_option maxRecDepth 65536 in
set_option maxHeartbeats 40000000 in
theorem rm_nu (l : Launch) (Z : State) (a0 : Array Value) (hw : ∀ d ∈ tables_1, d.before a0 Z = true) (ws : List Jvm.Cond) (a1 : Addr) (h0 : Heap) (n0 : Nat) (Z0 : n0 ≤ h0.size)  :
    MetFree l (⟨"java/lang/Number", "<init>", "()V"⟩ : MethodName) (head1 (Jvm.Cond.code (⟨"java/lang/Number", "<init>", "()V"⟩ : MethodName) jdk_18_method_1_code 1 none :: ws) ({ frames := 1, cells := 0, slots := 0, locals := 12 } : Room)) (fun a U => a = #[(.ref a1)] ∧ Z.Warmed39 U.vm ∧ U.heap = h0) (fun _ _ _ _ _ => True) (fun _ U o U' => ∃ v L, o = .returned v ∧ QE h0 n0 v U'.heap L ∧ FrameEnd U o U' L 0 0) := by
  refine MetFree.of_bodySF (plainFor_of_name (by first | (simp [plainName, overriddenIn]; done) | decide +kernel)) hisR ?_
  intro p e s m args below meth c s₁ Bd hml0 hP hK
  obtain ⟨rfl, hZ, hh⟩ := hP
  have hx := Bd.exec
  have hby := Bd.bytes
  have hml : c.maxLocals = 1 := hml0
  have hown : s.vm.findClass "java/lang/Number" = some m.cls := findClass_of_methodNamed Bd.named
  have hnm := (name_of_methodNamed Bd.named Bd.method).1
  have X0 : Stand p l e ({ frames := 1, cells := 0, slots := 0, locals := 12 } : Room) s m #[(.ref a1)] below meth c s₁ [] 0 0 := Stand.of_body Bd
  have e0 : s₁.heap = h0 := by rw [← hh, Bd.state]; rfl
  have N0 := Fr.nil n0
  have ef : entryFrame m #[(.ref a1)] 1 = (mkF m 0 #[.val (.ref a1)] []) := by first | (simp [entryFrame, mkF, argsToLocals, Value.category]; done) | rfl
  refine own_start (fun P hPP => ?_)
  refine own_step (T' := s₁) (g' := (mkF m 0 #[.val (.ref a1)] [])) (fun t_ k_ => castTop ef k_) ?_
  refine own_step (T' := s₁) (g' := (mkF m 1 #[.val (.ref a1)] [(.ref a1)])) (fun t_ k_ => XS.aloadN X0.here hx rfl (hb hby d13_0) rfl rfl k_) ?_
  obtain ⟨T101, X101, e101, st101⟩ := initO X0 hx hZ hown (hw _ (List.mem_of_getElem? (i := 98) rfl)) (hw _ (List.mem_of_getElem? (i := 13) rfl)) (hw _ (List.mem_of_getElem? (i := 14) rfl)) e0 (g := (mkF m 1 #[.val (.ref a1)] [(.ref a1)])) rfl (by rw [hml]; rfl) rfl (hb hby d13_1) (by decide) (W := 0) (by show 2 * 0 + _ ≤ _; exact Nat.le_of_eq rfl) (by decide)
  refine own_step (T' := T101) (g' := (mkF m 4 #[.val (.ref a1)] [])) st101 ?_
  obtain ⟨fs, hrR, hrun, hended, hWW, hsame⟩ := X101.leave (v := none) (fun _ => rfl)
  refine ⟨_, _, X101.returnOut hx Bd.returns (hb hby d13_4) hrR, hrun, hended, hPP _ _ ⟨_, _, rfl, ?_, ⟨_, rfl⟩, hWW, hsame.mono (by decide) (by decide)⟩⟩
  show QE h0 n0 _ T101.heap _
  rw [e101]
  exact ⟨rfl, N0, rfl⟩
def QK (a1 : Addr) (h0 : Heap) (n0 : Nat) (v : Option Value) (h : Heap) (L : List Loc) : Prop := v = none ∧ Fr n0 L ∧ Keep h0 h [a1]
theorem d1_0 : decode jdk_69_method_7_code 0 = .ok (.aload_n 0, 1) := by decide +kernel
theorem d1_1 : decode jdk_69_method_7_code 1 = .ok (.invokespecial 43, 3) := by decide +kernel
theorem d1_4 : decode jdk_69_method_7_code 4 = .ok (.aload_n 0, 1) := by decide +kernel
theorem d1_5 : decode jdk_69_method_7_code 5 = .ok (.ldc 92, 2) := by decide +kernel
theorem d1_7 : decode jdk_69_method_7_code 7 = .ok (.putfield 81, 3) := by decide +kernel
theorem d1_10 : decode jdk_69_method_7_code 10 = .ok (.return_, 1) := by decide +kernel
set_option maxRecDepth 65536 in
set_option maxHeartbeats 40000000 in
theorem rm_hm (l : Launch) (Z : State) (a0 : Array Value) (hw : ∀ d ∈ tables_1, d.before a0 Z = true) (ws : List Jvm.Cond) (a1 : Addr) (h0 : Heap) (n0 : Nat) (Z0 : n0 ≤ h0.size) (F1 : Fld Z h0 a1 "java/util/HashMap" "loadFactor" "F" (.float (0 : UInt32))) (E1 : Exa Z h0 a1 "java/util/HashMap") (ge1 : n0 ≤ a1) :
    MetFree l (⟨"java/util/HashMap", "<init>", "()V"⟩ : MethodName) (head1 (Jvm.Cond.code (⟨"java/util/HashMap", "<init>", "()V"⟩ : MethodName) jdk_69_method_7_code 1 none :: ws) ({ frames := 2, cells := 0, slots := 0, locals := 24 } : Room)) (fun a U => a = #[(.ref a1)] ∧ Z.Warmed39 U.vm ∧ U.heap = h0) (fun _ _ _ _ _ => True) (fun _ U o U' => ∃ v L, o = .returned v ∧ QK a1 h0 n0 v U'.heap L ∧ FrameEnd U o U' L 0 0) := by
  refine MetFree.of_bodySF (plainFor_of_name (by first | (simp [plainName, overriddenIn]; done) | decide +kernel)) hisR ?_
  intro p e s m args below meth c s₁ Bd hml0 hP hK
  obtain ⟨rfl, hZ, hh⟩ := hP
  have hx := Bd.exec
  have hby := Bd.bytes
  have hml : c.maxLocals = 1 := hml0
  have hown : s.vm.findClass "java/util/HashMap" = some m.cls := findClass_of_methodNamed Bd.named
  have hnm := (name_of_methodNamed Bd.named Bd.method).1
  have X0 : Stand p l e ({ frames := 2, cells := 0, slots := 0, locals := 24 } : Room) s m #[(.ref a1)] below meth c s₁ [] 0 0 := Stand.of_body Bd
  have e0 : s₁.heap = h0 := by rw [← hh, Bd.state]; rfl
  have N0 := Fr.nil n0
  have ef : entryFrame m #[(.ref a1)] 1 = (mkF m 0 #[.val (.ref a1)] []) := by first | (simp [entryFrame, mkF, argsToLocals, Value.category]; done) | rfl
  refine own_start (fun P hPP => ?_)
  refine own_step (T' := s₁) (g' := (mkF m 0 #[.val (.ref a1)] [])) (fun t_ k_ => castTop ef k_) ?_
  have K0 := Keep.refl h0 [a1]
  refine own_step (T' := s₁) (g' := (mkF m 1 #[.val (.ref a1)] [(.ref a1)])) (fun t_ k_ => XS.aloadN X0.here hx rfl (hb hby d1_0) rfl rfl k_) ?_
  obtain ⟨_, _, ⟨T101, L101, k101, n101⟩, -, X101, ⟨Lc101, hQ101, l101, y101, z101⟩, st101⟩ := X0.specialBack hx (y := (⟨"java/util/AbstractMap", "<init>", "()V"⟩ : MethodName)) rfl hown (mvT hZ (hw _ (List.mem_of_getElem? (i := 6) rfl))) (mvT hZ (hw _ (List.mem_of_getElem? (i := 7) rfl))) (mvT hZ (hw _ (List.mem_of_getElem? (i := 11) rfl))) (by decide) (backOf (W := 0) (rm_am l Z a0 hw [] a1 h0 n0 Z0) hZ (hw _ (List.mem_of_getElem? (i := 11) rfl)) (hw _ (List.mem_of_getElem? (i := 10) rfl)) (by decide) (by decide)) (g := (mkF m 1 #[.val (.ref a1)] [(.ref a1)])) rfl (by rw [hml]; rfl) (Steps.refl _) (a := a1) (argsL := []) (rest := []) (lenOf (by decide +kernel : parseMethodDescriptor "()V" = some ⟨[], none⟩) rfl) rfl (by show 2 * 0 + _ ≤ _; exact Nat.le_of_eq rfl) (hb hby d1_1) (fun _ _ => ⟨rfl, e0, (by decide : 0 + 0 ≤ _), (by decide : 0 + 0 ≤ _)⟩)
  dsimp only [Pt.U, Pt.locs, Pt.cells, Pt.slots] at X101 l101 y101 z101 st101 hQ101
  subst l101 y101 z101
  obtain ⟨rfl, Nq101, e101⟩ := hQ101
  have N101 := Fr.app N0 Nq101
  refine own_to (T' := T101) (g' := (mkF m 4 #[.val (.ref a1)] [])) st101 ?_
  refine own_step (T' := T101) (g' := (mkF m 5 #[.val (.ref a1)] [(.ref a1)])) (fun t_ k_ => XS.aloadN X101.here hx rfl (hb hby d1_4) rfl rfl k_) ?_
  refine own_step (T' := T101) (g' := (mkF m 7 #[.val (.ref a1)] [(.float (1061158912 : UInt32)), (.ref a1)])) (fun t_ k_ => X101.ldcFloatC hx hown (mvT hZ (hw _ (List.mem_of_getElem? (i := 15) rfl))) (g := (mkF m 5 #[.val (.ref a1)] [(.ref a1)])) rfl (hb hby d1_5) _ k_) ?_
  obtain ⟨T102, h102, X102, e102, W102, st102⟩ := putF X101 hx hZ hown (host := "") (Or.inl (hw _ (List.mem_of_getElem? (i := 16) rfl))) Via.refl e101 F1 E1 (Or.inr ⟨(hw _ (List.mem_of_getElem? (i := 17) rfl)), rfl, hnm⟩) (hw _ (List.mem_of_getElem? (i := 1) rfl)) (ty := .float) (by decide) rfl rfl (g := (mkF m 7 #[.val (.ref a1)] [(.float (1061158912 : UInt32)), (.ref a1)])) rfl rfl (hb hby d1_7)
  have N102 := Fr.snoc X102 N101 ge1
  have f103 := F1.same W102
  have f104 := E1.wr W102
  have k105 := K0.wr W102 (Or.inl (List.mem_of_getElem? (i := 0) rfl))
  have z106 : n0 ≤ h102.size := Nat.le_trans Z0 (Keep.of_wr W102).1
  refine own_step (T' := T102) (g' := (mkF m 10 #[.val (.ref a1)] [])) st102 ?_
  obtain ⟨fs, hrR, hrun, hended, hWW, hsame⟩ := X102.leave (v := none) (fun _ => rfl)
  refine ⟨_, _, X102.returnOut hx Bd.returns (hb hby d1_10) hrR, hrun, hended, hPP _ _ ⟨_, _, rfl, ?_, ⟨_, rfl⟩, hWW, hsame.mono (by decide) (by decide)⟩⟩
  show QK a1 h0 n0 _ T102.heap _
  rw [e102]
  exact ⟨rfl, N102, k105⟩
theorem d6_0 : decode jdk_2500_method_1_code 0 = .ok (.aload_n 0, 1) := by decide +kernel
theorem d6_1 : decode jdk_2500_method_1_code 1 = .ok (.invokespecial 1, 3) := by decide +kernel
theorem d6_4 : decode jdk_2500_method_1_code 4 = .ok (.aload_n 1, 1) := by decide +kernel
theorem d6_5 : decode jdk_2500_method_1_code 5 = .ok (.ifnonnull 11, 3) := by decide +kernel
theorem d6_16 : decode jdk_2500_method_1_code 16 = .ok (.aload_n 0, 1) := by decide +kernel
theorem d6_17 : decode jdk_2500_method_1_code 17 = .ok (.aload_n 1, 1) := by decide +kernel
theorem d6_18 : decode jdk_2500_method_1_code 18 = .ok (.putfield 10, 3) := by decide +kernel
theorem d6_21 : decode jdk_2500_method_1_code 21 = .ok (.return_, 1) := by decide +kernel
set_option maxRecDepth 65536 in
set_option maxHeartbeats 40000000 in
theorem rm_um (l : Launch) (Z : State) (a0 : Array Value) (hw : ∀ d ∈ tables_1, d.before a0 Z = true) (ws : List Jvm.Cond) (a1 a2 : Addr) (h0 : Heap) (n0 : Nat) (Z0 : n0 ≤ h0.size) (F1 : Fld Z h0 a1 "java/util/Collections$UnmodifiableMap" "m" "Ljava/util/Map;" .null) (E1 : Exa Z h0 a1 "java/util/Collections$UnmodifiableMap") (ge1 : n0 ≤ a1) :
    MetFree l (⟨"java/util/Collections$UnmodifiableMap", "<init>", "(Ljava/util/Map;)V"⟩ : MethodName) (head1 (Jvm.Cond.code (⟨"java/util/Collections$UnmodifiableMap", "<init>", "(Ljava/util/Map;)V"⟩ : MethodName) jdk_2500_method_1_code 2 none :: ws) ({ frames := 1, cells := 0, slots := 0, locals := 12 } : Room)) (fun a U => a = #[(.ref a1), (.ref a2)] ∧ Z.Warmed39 U.vm ∧ U.heap = h0) (fun _ _ _ _ _ => True) (fun _ U o U' => ∃ v L, o = .returned v ∧ QK a1 h0 n0 v U'.heap L ∧ FrameEnd U o U' L 0 0) := by
  refine MetFree.of_bodySF (plainFor_of_name (by first | (simp [plainName, overriddenIn]; done) | decide +kernel)) hisR ?_
  intro p e s m args below meth c s₁ Bd hml0 hP hK
  obtain ⟨rfl, hZ, hh⟩ := hP
  have hx := Bd.exec
  have hby := Bd.bytes
  have hml : c.maxLocals = 2 := hml0
  have hown : s.vm.findClass "java/util/Collections$UnmodifiableMap" = some m.cls := findClass_of_methodNamed Bd.named
  have hnm := (name_of_methodNamed Bd.named Bd.method).1
  have X0 : Stand p l e ({ frames := 1, cells := 0, slots := 0, locals := 12 } : Room) s m #[(.ref a1), (.ref a2)] below meth c s₁ [] 0 0 := Stand.of_body Bd
  have e0 : s₁.heap = h0 := by rw [← hh, Bd.state]; rfl
  have N0 := Fr.nil n0
  have ef : entryFrame m #[(.ref a1), (.ref a2)] 2 = (mkF m 0 #[.val (.ref a1), .val (.ref a2)] []) := by first | (simp [entryFrame, mkF, argsToLocals, Value.category]; done) | rfl
  refine own_start (fun P hPP => ?_)
  refine own_step (T' := s₁) (g' := (mkF m 0 #[.val (.ref a1), .val (.ref a2)] [])) (fun t_ k_ => castTop ef k_) ?_
  have K0 := Keep.refl h0 [a1]
  refine own_step (T' := s₁) (g' := (mkF m 1 #[.val (.ref a1), .val (.ref a2)] [(.ref a1)])) (fun t_ k_ => XS.aloadN X0.here hx rfl (hb hby d6_0) rfl rfl k_) ?_
  obtain ⟨T101, X101, e101, st101⟩ := initO X0 hx hZ hown (hw _ (List.mem_of_getElem? (i := 46) rfl)) (hw _ (List.mem_of_getElem? (i := 13) rfl)) (hw _ (List.mem_of_getElem? (i := 14) rfl)) e0 (g := (mkF m 1 #[.val (.ref a1), .val (.ref a2)] [(.ref a1)])) rfl (by rw [hml]; rfl) rfl (hb hby d6_1) (by decide) (W := 0) (by show 2 * 0 + _ ≤ _; exact Nat.le_of_eq rfl) (by decide)
  refine own_step (T' := T101) (g' := (mkF m 4 #[.val (.ref a1), .val (.ref a2)] [])) st101 ?_
  refine own_step (T' := T101) (g' := (mkF m 5 #[.val (.ref a1), .val (.ref a2)] [(.ref a2)])) (fun t_ k_ => XS.aloadN X101.here hx rfl (hb hby d6_4) rfl rfl k_) ?_
  refine own_step (T' := T101) (g' := (mkF m 16 #[.val (.ref a1), .val (.ref a2)] [])) (fun t_ k_ => XS.ifnonnullYes X101.here hx rfl (pc0 := 5) (pc' := 16) rfl (hb hby d6_5) rfl (by decide) (by decide) k_) ?_
  refine own_step (T' := T101) (g' := (mkF m 17 #[.val (.ref a1), .val (.ref a2)] [(.ref a1)])) (fun t_ k_ => XS.aloadN X101.here hx rfl (hb hby d6_16) rfl rfl k_) ?_
  refine own_step (T' := T101) (g' := (mkF m 18 #[.val (.ref a1), .val (.ref a2)] [(.ref a2), (.ref a1)])) (fun t_ k_ => XS.aloadN X101.here hx rfl (hb hby d6_17) rfl rfl k_) ?_
  obtain ⟨T102, h102, X102, e102, W102, st102⟩ := putF X101 hx hZ hown (host := "") (Or.inl (hw _ (List.mem_of_getElem? (i := 47) rfl))) Via.refl e101 F1 E1 (Or.inr ⟨(hw _ (List.mem_of_getElem? (i := 48) rfl)), rfl, hnm⟩) (hw _ (List.mem_of_getElem? (i := 41) rfl)) (ty := (.object "java/util/Map")) (by decide) rfl rfl (g := (mkF m 18 #[.val (.ref a1), .val (.ref a2)] [(.ref a2), (.ref a1)])) rfl rfl (hb hby d6_18)
  have N102 := Fr.snoc X102 N0 ge1
  have f103 := F1.same W102
  have f104 := E1.wr W102
  have k105 := K0.wr W102 (Or.inl (List.mem_of_getElem? (i := 0) rfl))
  have z106 : n0 ≤ h102.size := Nat.le_trans Z0 (Keep.of_wr W102).1
  refine own_step (T' := T102) (g' := (mkF m 21 #[.val (.ref a1), .val (.ref a2)] [])) st102 ?_
  obtain ⟨fs, hrR, hrun, hended, hWW, hsame⟩ := X102.leave (v := none) (fun _ => rfl)
  refine ⟨_, _, X102.returnOut hx Bd.returns (hb hby d6_21) hrR, hrun, hended, hPP _ _ ⟨_, _, rfl, ?_, ⟨_, rfl⟩, hWW, hsame.mono (by decide) (by decide)⟩⟩
  show QK a1 h0 n0 _ T102.heap _
  rw [e102]
  exact ⟨rfl, N102, k105⟩
theorem d12_0 : decode jdk_33_method_23_code 0 = .ok (.aload_n 0, 1) := by decide +kernel
theorem d12_1 : decode jdk_33_method_23_code 1 = .ok (.invokespecial 202, 3) := by decide +kernel
theorem d12_4 : decode jdk_33_method_23_code 4 = .ok (.aload_n 0, 1) := by decide +kernel
theorem d12_5 : decode jdk_33_method_23_code 5 = .ok (.iload_n 1, 1) := by decide +kernel
theorem d12_6 : decode jdk_33_method_23_code 6 = .ok (.putfield 205, 3) := by decide +kernel
theorem d12_9 : decode jdk_33_method_23_code 9 = .ok (.return_, 1) := by decide +kernel
set_option maxRecDepth 65536 in
set_option maxHeartbeats 40000000 in
theorem rm_in (l : Launch) (Z : State) (a0 : Array Value) (hw : ∀ d ∈ tables_1, d.before a0 Z = true) (ws : List Jvm.Cond) (a1 : Addr) (p1 : Int32) (h0 : Heap) (n0 : Nat) (Z0 : n0 ≤ h0.size) (F1 : Fld Z h0 a1 "java/lang/Integer" "value" "I" (.int (0 : Int32))) (E1 : Exa Z h0 a1 "java/lang/Integer") (ge1 : n0 ≤ a1) :
    MetFree l (⟨"java/lang/Integer", "<init>", "(I)V"⟩ : MethodName) (head1 (Jvm.Cond.code (⟨"java/lang/Integer", "<init>", "(I)V"⟩ : MethodName) jdk_33_method_23_code 2 none :: ws) ({ frames := 2, cells := 0, slots := 0, locals := 24 } : Room)) (fun a U => a = #[(.ref a1), (.int p1)] ∧ Z.Warmed39 U.vm ∧ U.heap = h0) (fun _ _ _ _ _ => True) (fun _ U o U' => ∃ v L, o = .returned v ∧ QK a1 h0 n0 v U'.heap L ∧ FrameEnd U o U' L 0 0) := by
  refine MetFree.of_bodySF (plainFor_of_name (by first | (simp [plainName, overriddenIn]; done) | decide +kernel)) hisR ?_
  intro p e s m args below meth c s₁ Bd hml0 hP hK
  obtain ⟨rfl, hZ, hh⟩ := hP
  have hx := Bd.exec
  have hby := Bd.bytes
  have hml : c.maxLocals = 2 := hml0
  have hown : s.vm.findClass "java/lang/Integer" = some m.cls := findClass_of_methodNamed Bd.named
  have hnm := (name_of_methodNamed Bd.named Bd.method).1
  have X0 : Stand p l e ({ frames := 2, cells := 0, slots := 0, locals := 24 } : Room) s m #[(.ref a1), (.int p1)] below meth c s₁ [] 0 0 := Stand.of_body Bd
  have e0 : s₁.heap = h0 := by rw [← hh, Bd.state]; rfl
  have N0 := Fr.nil n0
  have ef : entryFrame m #[(.ref a1), (.int p1)] 2 = (mkF m 0 #[.val (.ref a1), .val (.int p1)] []) := by first | (simp [entryFrame, mkF, argsToLocals, Value.category]; done) | rfl
  refine own_start (fun P hPP => ?_)
  refine own_step (T' := s₁) (g' := (mkF m 0 #[.val (.ref a1), .val (.int p1)] [])) (fun t_ k_ => castTop ef k_) ?_
  have K0 := Keep.refl h0 [a1]
  refine own_step (T' := s₁) (g' := (mkF m 1 #[.val (.ref a1), .val (.int p1)] [(.ref a1)])) (fun t_ k_ => XS.aloadN X0.here hx rfl (hb hby d12_0) rfl rfl k_) ?_
  obtain ⟨_, _, ⟨T101, L101, k101, n101⟩, -, X101, ⟨Lc101, hQ101, l101, y101, z101⟩, st101⟩ := X0.specialBack hx (y := (⟨"java/lang/Number", "<init>", "()V"⟩ : MethodName)) rfl hown (mvT hZ (hw _ (List.mem_of_getElem? (i := 92) rfl))) (mvT hZ (hw _ (List.mem_of_getElem? (i := 93) rfl))) (mvT hZ (hw _ (List.mem_of_getElem? (i := 97) rfl))) (by decide) (backOf (W := 0) (rm_nu l Z a0 hw [] a1 h0 n0 Z0) hZ (hw _ (List.mem_of_getElem? (i := 97) rfl)) (hw _ (List.mem_of_getElem? (i := 96) rfl)) (by decide) (by decide)) (g := (mkF m 1 #[.val (.ref a1), .val (.int p1)] [(.ref a1)])) rfl (by rw [hml]; rfl) (Steps.refl _) (a := a1) (argsL := []) (rest := []) (lenOf (by decide +kernel : parseMethodDescriptor "()V" = some ⟨[], none⟩) rfl) rfl (by show 2 * 0 + _ ≤ _; exact Nat.le_of_eq rfl) (hb hby d12_1) (fun _ _ => ⟨rfl, e0, (by decide : 0 + 0 ≤ _), (by decide : 0 + 0 ≤ _)⟩)
  dsimp only [Pt.U, Pt.locs, Pt.cells, Pt.slots] at X101 l101 y101 z101 st101 hQ101
  subst l101 y101 z101
  obtain ⟨rfl, Nq101, e101⟩ := hQ101
  have N101 := Fr.app N0 Nq101
  refine own_to (T' := T101) (g' := (mkF m 4 #[.val (.ref a1), .val (.int p1)] [])) st101 ?_
  refine own_step (T' := T101) (g' := (mkF m 5 #[.val (.ref a1), .val (.int p1)] [(.ref a1)])) (fun t_ k_ => XS.aloadN X101.here hx rfl (hb hby d12_4) rfl rfl k_) ?_
  refine own_step (T' := T101) (g' := (mkF m 6 #[.val (.ref a1), .val (.int p1)] [(.int p1), (.ref a1)])) (fun t_ k_ => XS.iloadN X101.here hx rfl (hb hby d12_5) rfl k_) ?_
  obtain ⟨T102, h102, X102, e102, W102, st102⟩ := putF X101 hx hZ hown (host := "") (Or.inl (hw _ (List.mem_of_getElem? (i := 99) rfl))) Via.refl e101 F1 E1 (Or.inr ⟨(hw _ (List.mem_of_getElem? (i := 100) rfl)), rfl, hnm⟩) (hw _ (List.mem_of_getElem? (i := 87) rfl)) (ty := .int) (by decide) rfl rfl (g := (mkF m 6 #[.val (.ref a1), .val (.int p1)] [(.int p1), (.ref a1)])) rfl rfl (hb hby d12_6)
  have N102 := Fr.snoc X102 N101 ge1
  have f103 := F1.same W102
  have f104 := E1.wr W102
  have k105 := K0.wr W102 (Or.inl (List.mem_of_getElem? (i := 0) rfl))
  have z106 : n0 ≤ h102.size := Nat.le_trans Z0 (Keep.of_wr W102).1
  refine own_step (T' := T102) (g' := (mkF m 9 #[.val (.ref a1), .val (.int p1)] [])) st102 ?_
  obtain ⟨fs, hrR, hrun, hended, hWW, hsame⟩ := X102.leave (v := none) (fun _ => rfl)
  refine ⟨_, _, X102.returnOut hx Bd.returns (hb hby d12_9) hrR, hrun, hended, hPP _ _ ⟨_, _, rfl, ?_, ⟨_, rfl⟩, hWW, hsame.mono (by decide) (by decide)⟩⟩
  show QK a1 h0 n0 _ T102.heap _
  rw [e102]
  exact ⟨rfl, N102, k105⟩
def QN (Z : State) (a1 : Addr) (h0 : Heap) (n0 : Nat) (v : Option Value) (h : Heap) (L : List Loc) : Prop := v = none ∧ Fr n0 L ∧ Keep h0 h [a1] ∧ Fld Z h a1 "com/example/rigger/rigger/container/Equality$Kept" "numbered" "Ljava/lang/Object;" .null
theorem d9_0 : decode prog_78_method_1_code 0 = .ok (.aload_n 0, 1) := by decide +kernel
theorem d9_1 : decode prog_78_method_1_code 1 = .ok (.invokespecial 1, 3) := by decide +kernel
theorem d9_4 : decode prog_78_method_1_code 4 = .ok (.aload_n 0, 1) := by decide +kernel
theorem d9_5 : decode prog_78_method_1_code 5 = .ok (.iconst 0, 1) := by decide +kernel
theorem d9_6 : decode prog_78_method_1_code 6 = .ok (.putfield 9, 3) := by decide +kernel
theorem d9_9 : decode prog_78_method_1_code 9 = .ok (.return_, 1) := by decide +kernel
set_option maxRecDepth 65536 in
set_option maxHeartbeats 40000000 in
theorem rm_ki (l : Launch) (Z : State) (a0 : Array Value) (hw : ∀ d ∈ tables_1, d.before a0 Z = true) (ws : List Jvm.Cond) (a1 : Addr) (h0 : Heap) (n0 : Nat) (Z0 : n0 ≤ h0.size) (F1 : Fld Z h0 a1 "com/example/rigger/rigger/container/Equality$Kept" "fixed" "B" (.int (0 : Int32))) (F2 : Fld Z h0 a1 "com/example/rigger/rigger/container/Equality$Kept" "numbered" "Ljava/lang/Object;" .null) (E1 : Exa Z h0 a1 "com/example/rigger/rigger/container/Equality$Kept") (ge1 : n0 ≤ a1) :
    MetFree l (⟨"com/example/rigger/rigger/container/Equality$Kept", "<init>", "()V"⟩ : MethodName) (head1 (Jvm.Cond.code (⟨"com/example/rigger/rigger/container/Equality$Kept", "<init>", "()V"⟩ : MethodName) prog_78_method_1_code 1 none :: ws) ({ frames := 1, cells := 0, slots := 0, locals := 12 } : Room)) (fun a U => a = #[(.ref a1)] ∧ Z.Warmed39 U.vm ∧ U.heap = h0) (fun _ _ _ _ _ => True) (fun _ U o U' => ∃ v L, o = .returned v ∧ QN Z a1 h0 n0 v U'.heap L ∧ FrameEnd U o U' L 0 0) := by
  refine MetFree.of_bodySF (plainFor_of_name (by first | (simp [plainName, overriddenIn]; done) | decide +kernel)) hisR ?_
  intro p e s m args below meth c s₁ Bd hml0 hP hK
  obtain ⟨rfl, hZ, hh⟩ := hP
  have hx := Bd.exec
  have hby := Bd.bytes
  have hml : c.maxLocals = 1 := hml0
  have hown : s.vm.findClass "com/example/rigger/rigger/container/Equality$Kept" = some m.cls := findClass_of_methodNamed Bd.named
  have hnm := (name_of_methodNamed Bd.named Bd.method).1
  have X0 : Stand p l e ({ frames := 1, cells := 0, slots := 0, locals := 12 } : Room) s m #[(.ref a1)] below meth c s₁ [] 0 0 := Stand.of_body Bd
  have e0 : s₁.heap = h0 := by rw [← hh, Bd.state]; rfl
  have N0 := Fr.nil n0
  have ef : entryFrame m #[(.ref a1)] 1 = (mkF m 0 #[.val (.ref a1)] []) := by first | (simp [entryFrame, mkF, argsToLocals, Value.category]; done) | rfl
  refine own_start (fun P hPP => ?_)
  refine own_step (T' := s₁) (g' := (mkF m 0 #[.val (.ref a1)] [])) (fun t_ k_ => castTop ef k_) ?_
  have K0 := Keep.refl h0 [a1]
  refine own_step (T' := s₁) (g' := (mkF m 1 #[.val (.ref a1)] [(.ref a1)])) (fun t_ k_ => XS.aloadN X0.here hx rfl (hb hby d9_0) rfl rfl k_) ?_
  obtain ⟨T101, X101, e101, st101⟩ := initO X0 hx hZ hown (hw _ (List.mem_of_getElem? (i := 71) rfl)) (hw _ (List.mem_of_getElem? (i := 13) rfl)) (hw _ (List.mem_of_getElem? (i := 14) rfl)) e0 (g := (mkF m 1 #[.val (.ref a1)] [(.ref a1)])) rfl (by rw [hml]; rfl) rfl (hb hby d9_1) (by decide) (W := 0) (by show 2 * 0 + _ ≤ _; exact Nat.le_of_eq rfl) (by decide)
  refine own_step (T' := T101) (g' := (mkF m 4 #[.val (.ref a1)] [])) st101 ?_
  refine own_step (T' := T101) (g' := (mkF m 5 #[.val (.ref a1)] [(.ref a1)])) (fun t_ k_ => XS.aloadN X101.here hx rfl (hb hby d9_4) rfl rfl k_) ?_
  refine own_step (T' := T101) (g' := (mkF m 6 #[.val (.ref a1)] [(.int (0 : Int32)), (.ref a1)])) (fun t_ k_ => XS.iconst X101.here hx rfl (hb hby d9_5) k_) ?_
  obtain ⟨T102, h102, X102, e102, W102, st102⟩ := putFN X101 hx hZ hown (hw _ (List.mem_of_getElem? (i := 72) rfl)) Via.refl e101 F1 E1 (Or.inl (hw _ (List.mem_of_getElem? (i := 73) rfl))) (hw _ (List.mem_of_getElem? (i := 66) rfl)) (ty := .byte) (v' := (.int (0 : Int32))) (by decide) (by decide) (by decide) (g := (mkF m 6 #[.val (.ref a1)] [(.int (0 : Int32)), (.ref a1)])) rfl rfl (hb hby d9_6)
  have N102 := Fr.snoc X102 N0 ge1
  have f103 := F1.same W102
  have f104 := F2.other W102 (Or.inr (slot_ne (Or.inl (hw _ (List.mem_of_getElem? (i := 80) rfl))) (Or.inl (hw _ (List.mem_of_getElem? (i := 73) rfl))) (by decide) (t := (.object "java/lang/Object")) (t' := .byte) (by decide) (by decide)))
  have f105 := E1.wr W102
  have k106 := K0.wr W102 (Or.inl (List.mem_of_getElem? (i := 0) rfl))
  have z107 : n0 ≤ h102.size := Nat.le_trans Z0 (Keep.of_wr W102).1
  refine own_step (T' := T102) (g' := (mkF m 9 #[.val (.ref a1)] [])) st102 ?_
  obtain ⟨fs, hrR, hrun, hended, hWW, hsame⟩ := X102.leave (v := none) (fun _ => rfl)
  refine ⟨_, _, X102.returnOut hx Bd.returns (hb hby d9_9) hrR, hrun, hended, hPP _ _ ⟨_, _, rfl, ?_, ⟨_, rfl⟩, hWW, hsame.mono (by decide) (by decide)⟩⟩
  show QN Z a1 h0 n0 _ T102.heap _
  rw [e102]
  exact ⟨rfl, N102, k106, f104⟩
def QV (r : Value) (h0 : Heap) (n0 : Nat) (v : Option Value) (h : Heap) (L : List Loc) : Prop := v = some r ∧ Fr n0 L ∧ h = h0
theorem d10_0 : decode prog_78_method_2_code 0 = .ok (.aload_n 0, 1) := by decide +kernel
theorem d10_1 : decode prog_78_method_2_code 1 = .ok (.getfield 13, 3) := by decide +kernel
theorem d10_4 : decode prog_78_method_2_code 4 = .ok (.areturn, 1) := by decide +kernel
set_option maxRecDepth 65536 in
set_option maxHeartbeats 40000000 in
theorem rm_num0 (l : Launch) (Z : State) (a0 : Array Value) (hw : ∀ d ∈ tables_1, d.before a0 Z = true) (ws : List Jvm.Cond) (a1 : Addr) (h0 : Heap) (n0 : Nat) (Z0 : n0 ≤ h0.size) (F1 : Fld Z h0 a1 "com/example/rigger/rigger/container/Equality$Kept" "numbered" "Ljava/lang/Object;" .null) :
    MetFree l (⟨"com/example/rigger/rigger/container/Equality$Kept", "numbered", "()Ljava/lang/Object;"⟩ : MethodName) (head1 (Jvm.Cond.code (⟨"com/example/rigger/rigger/container/Equality$Kept", "numbered", "()Ljava/lang/Object;"⟩ : MethodName) prog_78_method_2_code 1 (some (.object "java/lang/Object")) :: ws) ({ frames := 0, cells := 0, slots := 0, locals := 0 } : Room)) (fun a U => a = #[(.ref a1)] ∧ Z.Warmed39 U.vm ∧ U.heap = h0) (fun _ _ _ _ _ => True) (fun _ U o U' => ∃ v L, o = .returned v ∧ QV .null h0 n0 v U'.heap L ∧ FrameEnd U o U' L 0 0) := by
  refine MetFree.of_bodySF (plainFor_of_name (by first | (simp [plainName, overriddenIn]; done) | decide +kernel)) hisR ?_
  intro p e s m args below meth c s₁ Bd hml0 hP hK
  obtain ⟨rfl, hZ, hh⟩ := hP
  have hx := Bd.exec
  have hby := Bd.bytes
  have hml : c.maxLocals = 1 := hml0
  have hown : s.vm.findClass "com/example/rigger/rigger/container/Equality$Kept" = some m.cls := findClass_of_methodNamed Bd.named
  have hnm := (name_of_methodNamed Bd.named Bd.method).1
  have X0 : Stand p l e ({ frames := 0, cells := 0, slots := 0, locals := 0 } : Room) s m #[(.ref a1)] below meth c s₁ [] 0 0 := Stand.of_body Bd
  have e0 : s₁.heap = h0 := by rw [← hh, Bd.state]; rfl
  have N0 := Fr.nil n0
  have ef : entryFrame m #[(.ref a1)] 1 = (mkF m 0 #[.val (.ref a1)] []) := by first | (simp [entryFrame, mkF, argsToLocals, Value.category]; done) | rfl
  refine own_start (fun P hPP => ?_)
  refine own_step (T' := s₁) (g' := (mkF m 0 #[.val (.ref a1)] [])) (fun t_ k_ => castTop ef k_) ?_
  refine own_step (T' := s₁) (g' := (mkF m 1 #[.val (.ref a1)] [(.ref a1)])) (fun t_ k_ => XS.aloadN X0.here hx rfl (hb hby d10_0) rfl rfl k_) ?_
  obtain ⟨T101, X101, e101, st101⟩ := getF X0 hx hZ hown (host := "") (Or.inl (hw _ (List.mem_of_getElem? (i := 79) rfl))) Via.refl e0 F1 (g := (mkF m 1 #[.val (.ref a1)] [(.ref a1)])) rfl rfl (hb hby d10_1)
  refine own_step (T' := T101) (g' := (mkF m 4 #[.val (.ref a1)] [.null])) st101 ?_
  obtain ⟨fs, hrR, hrun, hended, hWW, hsame⟩ := X101.leave (v := some .null) (fun h => by rw [Bd.returns] at h; cases h)
  refine ⟨_, _, own_retR X101 hx Bd.returns rfl rfl rfl (hb hby d10_4) hrR, hrun, hended, hPP _ _ ⟨_, _, rfl, ?_, ⟨_, rfl⟩, hWW, hsame.mono (by decide) (by decide)⟩⟩
  show QV .null h0 n0 _ T101.heap _
  rw [e101]
  exact ⟨rfl, N0, rfl⟩
set_option maxRecDepth 65536 in
set_option maxHeartbeats 40000000 in
theorem rm_num1 (l : Launch) (Z : State) (a0 : Array Value) (hw : ∀ d ∈ tables_1, d.before a0 Z = true) (ws : List Jvm.Cond) (a1 : Addr) (r : Addr) (h0 : Heap) (n0 : Nat) (Z0 : n0 ≤ h0.size) (F1 : Fld Z h0 a1 "com/example/rigger/rigger/container/Equality$Kept" "numbered" "Ljava/lang/Object;" (.ref r)) :
    MetFree l (⟨"com/example/rigger/rigger/container/Equality$Kept", "numbered", "()Ljava/lang/Object;"⟩ : MethodName) (head1 (Jvm.Cond.code (⟨"com/example/rigger/rigger/container/Equality$Kept", "numbered", "()Ljava/lang/Object;"⟩ : MethodName) prog_78_method_2_code 1 (some (.object "java/lang/Object")) :: ws) ({ frames := 0, cells := 0, slots := 0, locals := 0 } : Room)) (fun a U => a = #[(.ref a1)] ∧ Z.Warmed39 U.vm ∧ U.heap = h0) (fun _ _ _ _ _ => True) (fun _ U o U' => ∃ v L, o = .returned v ∧ QV (.ref r) h0 n0 v U'.heap L ∧ FrameEnd U o U' L 0 0) := by
  refine MetFree.of_bodySF (plainFor_of_name (by first | (simp [plainName, overriddenIn]; done) | decide +kernel)) hisR ?_
  intro p e s m args below meth c s₁ Bd hml0 hP hK
  obtain ⟨rfl, hZ, hh⟩ := hP
  have hx := Bd.exec
  have hby := Bd.bytes
  have hml : c.maxLocals = 1 := hml0
  have hown : s.vm.findClass "com/example/rigger/rigger/container/Equality$Kept" = some m.cls := findClass_of_methodNamed Bd.named
  have hnm := (name_of_methodNamed Bd.named Bd.method).1
  have X0 : Stand p l e ({ frames := 0, cells := 0, slots := 0, locals := 0 } : Room) s m #[(.ref a1)] below meth c s₁ [] 0 0 := Stand.of_body Bd
  have e0 : s₁.heap = h0 := by rw [← hh, Bd.state]; rfl
  have N0 := Fr.nil n0
  have ef : entryFrame m #[(.ref a1)] 1 = (mkF m 0 #[.val (.ref a1)] []) := by first | (simp [entryFrame, mkF, argsToLocals, Value.category]; done) | rfl
  refine own_start (fun P hPP => ?_)
  refine own_step (T' := s₁) (g' := (mkF m 0 #[.val (.ref a1)] [])) (fun t_ k_ => castTop ef k_) ?_
  refine own_step (T' := s₁) (g' := (mkF m 1 #[.val (.ref a1)] [(.ref a1)])) (fun t_ k_ => XS.aloadN X0.here hx rfl (hb hby d10_0) rfl rfl k_) ?_
  obtain ⟨T101, X101, e101, st101⟩ := getF X0 hx hZ hown (host := "") (Or.inl (hw _ (List.mem_of_getElem? (i := 79) rfl))) Via.refl e0 F1 (g := (mkF m 1 #[.val (.ref a1)] [(.ref a1)])) rfl rfl (hb hby d10_1)
  refine own_step (T' := T101) (g' := (mkF m 4 #[.val (.ref a1)] [(.ref r)])) st101 ?_
  obtain ⟨fs, hrR, hrun, hended, hWW, hsame⟩ := X101.leave (v := some (.ref r)) (fun h => by rw [Bd.returns] at h; cases h)
  refine ⟨_, _, own_retR X101 hx Bd.returns rfl rfl rfl (hb hby d10_4) hrR, hrun, hended, hPP _ _ ⟨_, _, rfl, ?_, ⟨_, rfl⟩, hWW, hsame.mono (by decide) (by decide)⟩⟩
  show QV (.ref r) h0 n0 _ T101.heap _
  rw [e101]
  exact ⟨rfl, N0, rfl⟩
def QM (Z : State) (a1 a2 : Addr) (h0 : Heap) (n0 : Nat) (v : Option Value) (h : Heap) (L : List Loc) : Prop := v = none ∧ Fr n0 L ∧ Keep h0 h [a1] ∧ Fld Z h a1 "com/example/rigger/rigger/container/Equality$Kept" "numbered" "Ljava/lang/Object;" (.ref a2)
theorem d11_0 : decode prog_78_method_3_code 0 = .ok (.aload_n 0, 1) := by decide +kernel
theorem d11_1 : decode prog_78_method_3_code 1 = .ok (.aload_n 1, 1) := by decide +kernel
theorem d11_2 : decode prog_78_method_3_code 2 = .ok (.putfield 13, 3) := by decide +kernel
theorem d11_5 : decode prog_78_method_3_code 5 = .ok (.return_, 1) := by decide +kernel
set_option maxRecDepth 65536 in
set_option maxHeartbeats 40000000 in
theorem rm_keep (l : Launch) (Z : State) (a0 : Array Value) (hw : ∀ d ∈ tables_1, d.before a0 Z = true) (ws : List Jvm.Cond) (a1 a2 : Addr) (h0 : Heap) (n0 : Nat) (Z0 : n0 ≤ h0.size) (F1 : Fld Z h0 a1 "com/example/rigger/rigger/container/Equality$Kept" "numbered" "Ljava/lang/Object;" .null) (E1 : Exa Z h0 a1 "com/example/rigger/rigger/container/Equality$Kept") (ge1 : n0 ≤ a1) :
    MetFree l (⟨"com/example/rigger/rigger/container/Equality$Kept", "keepNumbered", "(Ljava/lang/Object;)V"⟩ : MethodName) (head1 (Jvm.Cond.code (⟨"com/example/rigger/rigger/container/Equality$Kept", "keepNumbered", "(Ljava/lang/Object;)V"⟩ : MethodName) prog_78_method_3_code 2 none :: ws) ({ frames := 0, cells := 0, slots := 0, locals := 0 } : Room)) (fun a U => a = #[(.ref a1), (.ref a2)] ∧ Z.Warmed39 U.vm ∧ U.heap = h0) (fun _ _ _ _ _ => True) (fun _ U o U' => ∃ v L, o = .returned v ∧ QM Z a1 a2 h0 n0 v U'.heap L ∧ FrameEnd U o U' L 0 0) := by
  refine MetFree.of_bodySF (plainFor_of_name (by first | (simp [plainName, overriddenIn]; done) | decide +kernel)) hisR ?_
  intro p e s m args below meth c s₁ Bd hml0 hP hK
  obtain ⟨rfl, hZ, hh⟩ := hP
  have hx := Bd.exec
  have hby := Bd.bytes
  have hml : c.maxLocals = 2 := hml0
  have hown : s.vm.findClass "com/example/rigger/rigger/container/Equality$Kept" = some m.cls := findClass_of_methodNamed Bd.named
  have hnm := (name_of_methodNamed Bd.named Bd.method).1
  have X0 : Stand p l e ({ frames := 0, cells := 0, slots := 0, locals := 0 } : Room) s m #[(.ref a1), (.ref a2)] below meth c s₁ [] 0 0 := Stand.of_body Bd
  have e0 : s₁.heap = h0 := by rw [← hh, Bd.state]; rfl
  have N0 := Fr.nil n0
  have ef : entryFrame m #[(.ref a1), (.ref a2)] 2 = (mkF m 0 #[.val (.ref a1), .val (.ref a2)] []) := by first | (simp [entryFrame, mkF, argsToLocals, Value.category]; done) | rfl
  refine own_start (fun P hPP => ?_)
  refine own_step (T' := s₁) (g' := (mkF m 0 #[.val (.ref a1), .val (.ref a2)] [])) (fun t_ k_ => castTop ef k_) ?_
  have K0 := Keep.refl h0 [a1]
  refine own_step (T' := s₁) (g' := (mkF m 1 #[.val (.ref a1), .val (.ref a2)] [(.ref a1)])) (fun t_ k_ => XS.aloadN X0.here hx rfl (hb hby d11_0) rfl rfl k_) ?_
  refine own_step (T' := s₁) (g' := (mkF m 2 #[.val (.ref a1), .val (.ref a2)] [(.ref a2), (.ref a1)])) (fun t_ k_ => XS.aloadN X0.here hx rfl (hb hby d11_1) rfl rfl k_) ?_
  obtain ⟨T101, h101, X101, e101, W101, st101⟩ := putF X0 hx hZ hown (host := "") (Or.inl (hw _ (List.mem_of_getElem? (i := 79) rfl))) Via.refl e0 F1 E1 (Or.inl (hw _ (List.mem_of_getElem? (i := 80) rfl))) (hw _ (List.mem_of_getElem? (i := 66) rfl)) (ty := (.object "java/lang/Object")) (by decide) rfl rfl (g := (mkF m 2 #[.val (.ref a1), .val (.ref a2)] [(.ref a2), (.ref a1)])) rfl rfl (hb hby d11_2)
  have N101 := Fr.snoc X101 N0 ge1
  have f102 := F1.same W101
  have f103 := E1.wr W101
  have k104 := K0.wr W101 (Or.inl (List.mem_of_getElem? (i := 0) rfl))
  have z105 : n0 ≤ h101.size := Nat.le_trans Z0 (Keep.of_wr W101).1
  refine own_step (T' := T101) (g' := (mkF m 5 #[.val (.ref a1), .val (.ref a2)] [])) st101 ?_
  obtain ⟨fs, hrR, hrun, hended, hWW, hsame⟩ := X101.leave (v := none) (fun _ => rfl)
  refine ⟨_, _, X101.returnOut hx Bd.returns (hb hby d11_5) hrR, hrun, hended, hPP _ _ ⟨_, _, rfl, ?_, ⟨_, rfl⟩, hWW, hsame.mono (by decide) (by decide)⟩⟩
  show QM Z a1 a2 h0 n0 _ T101.heap _
  rw [e101]
  exact ⟨rfl, N101, k104, f102⟩
def QKn (Z : State) (a1 : Addr) (h0 : Heap) (n0 : Nat) (v : Option Value) (h : Heap) (L : List Loc) : Prop := ∃ b : Addr, v = some (.ref b) ∧ Fr n0 L ∧ n0 ≤ b ∧ h0.size ≤ b ∧ Keep h0 h [a1] ∧ Exa Z h b "com/example/rigger/rigger/container/Equality$Kept" ∧ Fld Z h a1 "com/example/rigger/rigger/container/DefinedMap" "kept" "Lcom/example/rigger/rigger/container/Equality$Kept;" (.ref b) ∧ Fld Z h b "com/example/rigger/rigger/container/Equality$Kept" "numbered" "Ljava/lang/Object;" .null
theorem d8_0 : decode prog_42_method_13_code 0 = .ok (.aload_n 0, 1) := by decide +kernel
theorem d8_1 : decode prog_42_method_13_code 1 = .ok (.getfield 64, 3) := by decide +kernel
theorem d8_4 : decode prog_42_method_13_code 4 = .ok (.ifnonnull 14, 3) := by decide +kernel
theorem d8_7 : decode prog_42_method_13_code 7 = .ok (.aload_n 0, 1) := by decide +kernel
theorem d8_8 : decode prog_42_method_13_code 8 = .ok (.new 68, 3) := by decide +kernel
theorem d8_11 : decode prog_42_method_13_code 11 = .ok (.dup, 1) := by decide +kernel
theorem d8_12 : decode prog_42_method_13_code 12 = .ok (.invokespecial 70, 3) := by decide +kernel
theorem d8_15 : decode prog_42_method_13_code 15 = .ok (.putfield 64, 3) := by decide +kernel
theorem d8_18 : decode prog_42_method_13_code 18 = .ok (.aload_n 0, 1) := by decide +kernel
theorem d8_19 : decode prog_42_method_13_code 19 = .ok (.getfield 64, 3) := by decide +kernel
theorem d8_22 : decode prog_42_method_13_code 22 = .ok (.areturn, 1) := by decide +kernel
set_option maxRecDepth 65536 in
set_option maxHeartbeats 40000000 in
theorem rm_kept0 (l : Launch) (Z : State) (a0 : Array Value) (hw : ∀ d ∈ tables_1, d.before a0 Z = true) (ws : List Jvm.Cond) (a1 : Addr) (h0 : Heap) (n0 : Nat) (Z0 : n0 ≤ h0.size) (F1 : Fld Z h0 a1 "com/example/rigger/rigger/container/DefinedMap" "kept" "Lcom/example/rigger/rigger/container/Equality$Kept;" .null) (E1 : Exa Z h0 a1 "com/example/rigger/rigger/container/DefinedMap") (ge1 : n0 ≤ a1) :
    MetFree l (⟨"com/example/rigger/rigger/container/DefinedMap", "kept", "()Lcom/example/rigger/rigger/container/Equality$Kept;"⟩ : MethodName) (head1 (Jvm.Cond.code (⟨"com/example/rigger/rigger/container/DefinedMap", "kept", "()Lcom/example/rigger/rigger/container/Equality$Kept;"⟩ : MethodName) prog_42_method_13_code 1 (some (.object "com/example/rigger/rigger/container/Equality$Kept")) :: ws) ({ frames := 2, cells := 1, slots := 4, locals := 26 } : Room)) (fun a U => a = #[(.ref a1)] ∧ Z.Warmed39 U.vm ∧ U.heap = h0) (fun _ _ _ _ _ => True) (fun _ U o U' => ∃ v L, o = .returned v ∧ QKn Z a1 h0 n0 v U'.heap L ∧ FrameEnd U o U' L 1 4) := by
  refine MetFree.of_bodySF (plainFor_of_name (by first | (simp [plainName, overriddenIn]; done) | decide +kernel)) hisR ?_
  intro p e s m args below meth c s₁ Bd hml0 hP hK
  obtain ⟨rfl, hZ, hh⟩ := hP
  have hx := Bd.exec
  have hby := Bd.bytes
  have hml : c.maxLocals = 1 := hml0
  have hown : s.vm.findClass "com/example/rigger/rigger/container/DefinedMap" = some m.cls := findClass_of_methodNamed Bd.named
  have hnm := (name_of_methodNamed Bd.named Bd.method).1
  have X0 : Stand p l e ({ frames := 2, cells := 1, slots := 4, locals := 26 } : Room) s m #[(.ref a1)] below meth c s₁ [] 0 0 := Stand.of_body Bd
  have e0 : s₁.heap = h0 := by rw [← hh, Bd.state]; rfl
  have N0 := Fr.nil n0
  have ef : entryFrame m #[(.ref a1)] 1 = (mkF m 0 #[.val (.ref a1)] []) := by first | (simp [entryFrame, mkF, argsToLocals, Value.category]; done) | rfl
  refine own_start (fun P hPP => ?_)
  refine own_step (T' := s₁) (g' := (mkF m 0 #[.val (.ref a1)] [])) (fun t_ k_ => castTop ef k_) ?_
  have K0 := Keep.refl h0 [a1]
  refine own_step (T' := s₁) (g' := (mkF m 1 #[.val (.ref a1)] [(.ref a1)])) (fun t_ k_ => XS.aloadN X0.here hx rfl (hb hby d8_0) rfl rfl k_) ?_
  obtain ⟨T101, X101, e101, st101⟩ := getF X0 hx hZ hown (host := "") (Or.inl (hw _ (List.mem_of_getElem? (i := 63) rfl))) Via.refl e0 F1 (g := (mkF m 1 #[.val (.ref a1)] [(.ref a1)])) rfl rfl (hb hby d8_1)
  refine own_step (T' := T101) (g' := (mkF m 4 #[.val (.ref a1)] [.null])) st101 ?_
  refine own_step (T' := T101) (g' := (mkF m 7 #[.val (.ref a1)] [])) (fun t_ k_ => XS.ifnonnullNo X101.here hx rfl (hb hby d8_4) rfl k_) ?_
  refine own_step (T' := T101) (g' := (mkF m 8 #[.val (.ref a1)] [(.ref a1)])) (fun t_ k_ => XS.aloadN X101.here hx rfl (hb hby d8_7) rfl rfl k_) ?_
  obtain ⟨T102, h102, X102, e102, E102, A102, D102, -, st102⟩ := newO X101 hx hZ hown (hw _ (List.mem_of_getElem? (i := 65) rfl)) (hw _ (List.mem_of_getElem? (i := 66) rfl)) (hw _ (List.mem_of_getElem? (i := 67) rfl)) e101 (g := (mkF m 8 #[.val (.ref a1)] [(.ref a1)])) rfl (hb hby d8_8) (by decide) (by decide)
  obtain ⟨b102, g102⟩ : ∃ z, z = h0.size := ⟨_, rfl⟩
  rw [← g102] at A102 D102 st102
  have ge_b102 : n0 ≤ b102 := Nat.le_trans Z0 (Nat.le_of_eq g102.symm)
  have sz_b102 : h0.size ≤ b102 := Nat.le_trans K0.1 (Nat.le_of_eq g102.symm)
  have ne_a1_b102 : a1 ≠ b102 := Nat.ne_of_lt (Nat.lt_of_lt_of_le F1.lt (Nat.le_of_eq g102.symm))
  have f103 := F1.ext E102
  have f104 := E1.ext E102
  have k105 := K0.ext E102
  have z106 : n0 ≤ h102.size := Nat.le_trans Z0 E102.1
  have F_fixed_b102 : Fld Z h102 b102 "com/example/rigger/rigger/container/Equality$Kept" "fixed" "B" (.int (0 : Int32)) := D102 (Or.inl (hw _ (List.mem_of_getElem? (i := 73) rfl))) (ty := .byte) (by decide)
  have F_numbered_b102 : Fld Z h102 b102 "com/example/rigger/rigger/container/Equality$Kept" "numbered" "Ljava/lang/Object;" .null := D102 (Or.inl (hw _ (List.mem_of_getElem? (i := 80) rfl))) (ty := (.object "java/lang/Object")) (by decide)
  refine own_step (T' := T102) (g' := (mkF m 11 #[.val (.ref a1)] [(.ref b102), (.ref a1)])) st102 ?_
  refine own_step (T' := T102) (g' := (mkF m 12 #[.val (.ref a1)] [(.ref b102), (.ref b102), (.ref a1)])) (fun t_ k_ => XS.dup X102.here hx rfl (hb hby d8_11) rfl rfl k_) ?_
  obtain ⟨_, _, ⟨T107, L107, k107, n107⟩, -, X107, ⟨Lc107, hQ107, l107, y107, z107⟩, st107⟩ := X102.specialBack hx (y := (⟨"com/example/rigger/rigger/container/Equality$Kept", "<init>", "()V"⟩ : MethodName)) rfl hown (mvT hZ (hw _ (List.mem_of_getElem? (i := 68) rfl))) (mvT hZ (hw _ (List.mem_of_getElem? (i := 69) rfl))) (mvT hZ (hw _ (List.mem_of_getElem? (i := 70) rfl))) (by decide) (backOf (W := 2) (rm_ki l Z a0 hw [] b102 h102 n0 z106 F_fixed_b102 F_numbered_b102 A102 ge_b102) hZ (hw _ (List.mem_of_getElem? (i := 70) rfl)) (hw _ (List.mem_of_getElem? (i := 67) rfl)) (by decide) (by decide)) (g := (mkF m 12 #[.val (.ref a1)] [(.ref b102), (.ref b102), (.ref a1)])) rfl (by rw [hml]; rfl) (Steps.refl _) (a := b102) (argsL := []) (rest := [(.ref b102), (.ref a1)]) (lenOf (by decide +kernel : parseMethodDescriptor "()V" = some ⟨[], none⟩) rfl) rfl (by show 2 * 0 + _ ≤ _; exact Nat.le_of_eq rfl) (hb hby d8_12) (fun _ _ => ⟨rfl, e102, (by decide : 1 + 0 ≤ _), (by decide : 4 + 0 ≤ _)⟩)
  dsimp only [Pt.U, Pt.locs, Pt.cells, Pt.slots] at X107 l107 y107 z107 st107 hQ107
  subst l107 y107 z107
  obtain ⟨rfl, Nq107, K107, Fn107⟩ := hQ107
  have f108 := f103.keep K107 (ninS ne_a1_b102 nin0)
  have f109 := f104.keep K107
  have f110 := A102.keep K107
  have k111 := k105.trans K107 (allS (Or.inr sz_b102) all0)
  have z112 : n0 ≤ T107.heap.size := Nat.le_trans z106 K107.1
  have N107 := Fr.app N0 Nq107
  refine own_to (T' := T107) (g' := (mkF m 15 #[.val (.ref a1)] [(.ref b102), (.ref a1)])) st107 ?_
  obtain ⟨T113, h113, X113, e113, W113, st113⟩ := putF X107 hx hZ hown (host := "") (Or.inl (hw _ (List.mem_of_getElem? (i := 63) rfl))) Via.refl rfl f108 f109 (Or.inl (hw _ (List.mem_of_getElem? (i := 64) rfl))) (hw _ (List.mem_of_getElem? (i := 19) rfl)) (ty := (.object "com/example/rigger/rigger/container/Equality$Kept")) (by decide) rfl rfl (g := (mkF m 15 #[.val (.ref a1)] [(.ref b102), (.ref a1)])) rfl rfl (hb hby d8_15)
  have N113 := Fr.snoc X113 N107 ge1
  have f114 := f108.same W113
  have f115 := f109.wr W113
  have f116 := f110.wr W113
  have f117 := Fn107.other W113 (Or.inl (Ne.symm ne_a1_b102))
  have k118 := k111.wr W113 (Or.inl (List.mem_of_getElem? (i := 0) rfl))
  have z119 : n0 ≤ h113.size := Nat.le_trans z112 (Keep.of_wr W113).1
  refine own_step (T' := T113) (g' := (mkF m 18 #[.val (.ref a1)] [])) st113 ?_
  refine own_step (T' := T113) (g' := (mkF m 19 #[.val (.ref a1)] [(.ref a1)])) (fun t_ k_ => XS.aloadN X113.here hx rfl (hb hby d8_18) rfl rfl k_) ?_
  obtain ⟨T120, X120, e120, st120⟩ := getF X113 hx hZ hown (host := "") (Or.inl (hw _ (List.mem_of_getElem? (i := 63) rfl))) Via.refl e113 f114 (g := (mkF m 19 #[.val (.ref a1)] [(.ref a1)])) rfl rfl (hb hby d8_19)
  refine own_step (T' := T120) (g' := (mkF m 22 #[.val (.ref a1)] [(.ref b102)])) st120 ?_
  obtain ⟨fs, hrR, hrun, hended, hWW, hsame⟩ := X120.leave (v := some (.ref b102)) (fun h => by rw [Bd.returns] at h; cases h)
  refine ⟨_, _, own_retR X120 hx Bd.returns rfl rfl rfl (hb hby d8_22) hrR, hrun, hended, hPP _ _ ⟨_, _, rfl, ?_, ⟨_, rfl⟩, hWW, hsame.mono (by decide) (by decide)⟩⟩
  show QKn Z a1 h0 n0 _ T120.heap _
  rw [e120]
  exact ⟨_, rfl, N113, ge_b102, sz_b102, k118, f116, f114, f117⟩
set_option maxRecDepth 65536 in
set_option maxHeartbeats 40000000 in
theorem rm_kept1 (l : Launch) (Z : State) (a0 : Array Value) (hw : ∀ d ∈ tables_1, d.before a0 Z = true) (ws : List Jvm.Cond) (a1 b : Addr) (h0 : Heap) (n0 : Nat) (Z0 : n0 ≤ h0.size) (F1 : Fld Z h0 a1 "com/example/rigger/rigger/container/DefinedMap" "kept" "Lcom/example/rigger/rigger/container/Equality$Kept;" (.ref b)) :
    MetFree l (⟨"com/example/rigger/rigger/container/DefinedMap", "kept", "()Lcom/example/rigger/rigger/container/Equality$Kept;"⟩ : MethodName) (head1 (Jvm.Cond.code (⟨"com/example/rigger/rigger/container/DefinedMap", "kept", "()Lcom/example/rigger/rigger/container/Equality$Kept;"⟩ : MethodName) prog_42_method_13_code 1 (some (.object "com/example/rigger/rigger/container/Equality$Kept")) :: ws) ({ frames := 2, cells := 1, slots := 4, locals := 26 } : Room)) (fun a U => a = #[(.ref a1)] ∧ Z.Warmed39 U.vm ∧ U.heap = h0) (fun _ _ _ _ _ => True) (fun _ U o U' => ∃ v L, o = .returned v ∧ QV (.ref b) h0 n0 v U'.heap L ∧ FrameEnd U o U' L 1 4) := by
  refine MetFree.of_bodySF (plainFor_of_name (by first | (simp [plainName, overriddenIn]; done) | decide +kernel)) hisR ?_
  intro p e s m args below meth c s₁ Bd hml0 hP hK
  obtain ⟨rfl, hZ, hh⟩ := hP
  have hx := Bd.exec
  have hby := Bd.bytes
  have hml : c.maxLocals = 1 := hml0
  have hown : s.vm.findClass "com/example/rigger/rigger/container/DefinedMap" = some m.cls := findClass_of_methodNamed Bd.named
  have hnm := (name_of_methodNamed Bd.named Bd.method).1
  have X0 : Stand p l e ({ frames := 2, cells := 1, slots := 4, locals := 26 } : Room) s m #[(.ref a1)] below meth c s₁ [] 0 0 := Stand.of_body Bd
  have e0 : s₁.heap = h0 := by rw [← hh, Bd.state]; rfl
  have N0 := Fr.nil n0
  have ef : entryFrame m #[(.ref a1)] 1 = (mkF m 0 #[.val (.ref a1)] []) := by first | (simp [entryFrame, mkF, argsToLocals, Value.category]; done) | rfl
  refine own_start (fun P hPP => ?_)
  refine own_step (T' := s₁) (g' := (mkF m 0 #[.val (.ref a1)] [])) (fun t_ k_ => castTop ef k_) ?_
  refine own_step (T' := s₁) (g' := (mkF m 1 #[.val (.ref a1)] [(.ref a1)])) (fun t_ k_ => XS.aloadN X0.here hx rfl (hb hby d8_0) rfl rfl k_) ?_
  obtain ⟨T101, X101, e101, st101⟩ := getF X0 hx hZ hown (host := "") (Or.inl (hw _ (List.mem_of_getElem? (i := 63) rfl))) Via.refl e0 F1 (g := (mkF m 1 #[.val (.ref a1)] [(.ref a1)])) rfl rfl (hb hby d8_1)
  refine own_step (T' := T101) (g' := (mkF m 4 #[.val (.ref a1)] [(.ref b)])) st101 ?_
  refine own_step (T' := T101) (g' := (mkF m 18 #[.val (.ref a1)] [])) (fun t_ k_ => XS.ifnonnullYes X101.here hx rfl (pc0 := 4) (pc' := 18) rfl (hb hby d8_4) rfl (by decide) (by decide) k_) ?_
  refine own_step (T' := T101) (g' := (mkF m 19 #[.val (.ref a1)] [(.ref a1)])) (fun t_ k_ => XS.aloadN X101.here hx rfl (hb hby d8_18) rfl rfl k_) ?_
  obtain ⟨T102, X102, e102, st102⟩ := getF X101 hx hZ hown (host := "") (Or.inl (hw _ (List.mem_of_getElem? (i := 63) rfl))) Via.refl e101 F1 (g := (mkF m 19 #[.val (.ref a1)] [(.ref a1)])) rfl rfl (hb hby d8_19)
  refine own_step (T' := T102) (g' := (mkF m 22 #[.val (.ref a1)] [(.ref b)])) st102 ?_
  obtain ⟨fs, hrR, hrun, hended, hWW, hsame⟩ := X102.leave (v := some (.ref b)) (fun h => by rw [Bd.returns] at h; cases h)
  refine ⟨_, _, own_retR X102 hx Bd.returns rfl rfl rfl (hb hby d8_22) hrR, hrun, hended, hPP _ _ ⟨_, _, rfl, ?_, ⟨_, rfl⟩, hWW, hsame.mono (by decide) (by decide)⟩⟩
  show QV (.ref b) h0 n0 _ T102.heap _
  rw [e102]
  exact ⟨rfl, N0, rfl⟩
def QU (h0 : Heap) (n0 : Nat) (v : Option Value) (h : Heap) (L : List Loc) : Prop := ∃ b : Addr, v = some (.ref b) ∧ Fr n0 L ∧ Keep h0 h []
theorem d5_0 : decode jdk_79_method_36_code 0 = .ok (.aload_n 0, 1) := by decide +kernel
theorem d5_1 : decode jdk_79_method_36_code 1 = .ok (.invokeinterface 220 1, 5) := by decide +kernel
theorem d5_6 : decode jdk_79_method_36_code 6 = .ok (.ldc 223, 2) := by decide +kernel
theorem d5_8 : decode jdk_79_method_36_code 8 = .ok (.if_acmp .ne 5, 3) := by decide +kernel
theorem d5_11 : decode jdk_79_method_36_code 11 = .ok (.aload_n 0, 1) := by decide +kernel
theorem d5_12 : decode jdk_79_method_36_code 12 = .ok (.areturn, 1) := by decide +kernel
theorem d5_13 : decode jdk_79_method_36_code 13 = .ok (.new 223, 3) := by decide +kernel
theorem d5_16 : decode jdk_79_method_36_code 16 = .ok (.dup, 1) := by decide +kernel
theorem d5_17 : decode jdk_79_method_36_code 17 = .ok (.aload_n 0, 1) := by decide +kernel
theorem d5_18 : decode jdk_79_method_36_code 18 = .ok (.invokespecial 225, 3) := by decide +kernel
theorem d5_21 : decode jdk_79_method_36_code 21 = .ok (.areturn, 1) := by decide +kernel
set_option maxRecDepth 65536 in
set_option maxHeartbeats 40000000 in
theorem rm_un (l : Launch) (Z : State) (a0 : Array Value) (hw : ∀ d ∈ tables_1, d.before a0 Z = true) (ws : List Jvm.Cond) (a1 : Addr) (h0 : Heap) (n0 : Nat) (Z0 : n0 ≤ h0.size) (E1 : Exa Z h0 a1 "java/util/HashMap") (MH : Jvm.D.MirrorMade Z "java/util/HashMap") (MU : Jvm.D.MirrorMade Z "java/util/Collections$UnmodifiableMap") :
    MetFree l (⟨"java/util/Collections", "unmodifiableMap", "(Ljava/util/Map;)Ljava/util/Map;"⟩ : MethodName) (head1 (Jvm.Cond.code (⟨"java/util/Collections", "unmodifiableMap", "(Ljava/util/Map;)Ljava/util/Map;"⟩ : MethodName) jdk_79_method_36_code 1 (some (.object "java/util/Map")) :: ws) ({ frames := 2, cells := 1, slots := 4, locals := 26 } : Room)) (fun a U => a = #[(.ref a1)] ∧ Z.Warmed39 U.vm ∧ U.heap = h0) (fun _ _ _ _ _ => True) (fun _ U o U' => ∃ v L, o = .returned v ∧ QU h0 n0 v U'.heap L ∧ FrameEnd U o U' L 1 4) := by
  refine MetFree.of_bodySF (plainFor_of_name (by first | (simp [plainName, overriddenIn]; done) | decide +kernel)) hisR ?_
  intro p e s m args below meth c s₁ Bd hml0 hP hK
  obtain ⟨rfl, hZ, hh⟩ := hP
  have hx := Bd.exec
  have hby := Bd.bytes
  have hml : c.maxLocals = 1 := hml0
  have hown : s.vm.findClass "java/util/Collections" = some m.cls := findClass_of_methodNamed Bd.named
  have hnm := (name_of_methodNamed Bd.named Bd.method).1
  have X0 : Stand p l e ({ frames := 2, cells := 1, slots := 4, locals := 26 } : Room) s m #[(.ref a1)] below meth c s₁ [] 0 0 := Stand.of_body Bd
  have e0 : s₁.heap = h0 := by rw [← hh, Bd.state]; rfl
  have N0 := Fr.nil n0
  have ef : entryFrame m #[(.ref a1)] 1 = (mkF m 0 #[.val (.ref a1)] []) := by first | (simp [entryFrame, mkF, argsToLocals, Value.category]; done) | rfl
  refine own_start (fun P hPP => ?_)
  refine own_step (T' := s₁) (g' := (mkF m 0 #[.val (.ref a1)] [])) (fun t_ k_ => castTop ef k_) ?_
  have K0 := Keep.refl h0 []
  obtain ⟨cH, kH, mh, fH1, fH2, fH3, -⟩ := MH
  obtain ⟨cU, kU, mu, fU1, fU2, fU3, -⟩ := MU
  have gH1 : s.vm.findClass "java/util/HashMap" = some cH := (hZ.alike.findClass "java/util/HashMap" none).trans fH1
  obtain ⟨kH', gH2, gH3⟩ := hZ.alike.2.2 _ _ fH2
  have gH4 : kH'.mirror = some mh := by rw [gH3]; exact fH3
  have gU1 : s.vm.findClass "java/util/Collections$UnmodifiableMap" = some cU := (hZ.alike.findClass "java/util/Collections$UnmodifiableMap" none).trans fU1
  obtain ⟨kU', gU2, gU3⟩ := hZ.alike.2.2 _ _ fU2
  have gU4 : kU'.mirror = some mu := by rw [gU3]; exact fU3
  refine own_step (T' := s₁) (g' := (mkF m 1 #[.val (.ref a1)] [(.ref a1)])) (fun t_ k_ => XS.aloadN X0.here hx rfl (hb hby d5_0) rfl rfl k_) ?_
  obtain ⟨cq, kq, qa, qb, qc⟩ := isOf hZ e0 E1
  obtain rfl : cq = cH := Option.some.inj (qa.symm.trans gH1)
  obtain rfl : kq = kH' := Option.some.inj (qb.symm.trans gH2)
  obtain ⟨vmA, XA, stA⟩ := X0.getClassOfI hx (own := "java/util/Collections") (C := "java/util/HashMap") (xi := (⟨"java/util/Map", "getClass", "()Ljava/lang/Class;"⟩ : MethodName)) hown (mvT hZ (hw _ (List.mem_of_getElem? (i := 29) rfl))) (mvT hZ (hw _ (List.mem_of_getElem? (i := 30) rfl))) (Jvm.Free.ULB.iface_rides hZ.alike (hw _ (List.mem_of_getElem? (i := 31) rfl))) (mvT hZ (hw _ (List.mem_of_getElem? (i := 32) rfl))) (mvT hZ (hw _ (List.mem_of_getElem? (i := 33) rfl))) (mvT hZ (hw _ (List.mem_of_getElem? (i := 34) rfl))) (mvT hZ (hw _ (List.mem_of_getElem? (i := 35) rfl))) (mvT hZ (hw _ (List.mem_of_getElem? (i := 36) rfl))) (mvT hZ (hw _ (List.mem_of_getElem? (i := 37) rfl))) (by decide) (by decide) rfl rfl qa qb qc gH4 (g := (mkF m 1 #[.val (.ref a1)] [(.ref a1)])) rfl (by rw [hml]; rfl) rfl (hb hby d5_1) (by decide) (by show 2 * 0 + 0 + (nativeFrameWords "java/lang/Object" "getClass" 1 + 11) ≤ 26; decide)
  have eA : (s₁.setVm vmA).heap = h0 := e0
  refine own_step (T' := (s₁.setVm vmA)) (g' := (mkF m 6 #[.val (.ref a1)] [(.ref mh)])) stA ?_
  have hev : (Term.mirror "java/util/Collections$UnmodifiableMap").eval #[(.ref a1)] s none [] s = some (.ref mu) := by simp [Term.eval, gU1, gU2, gU4]
  obtain ⟨vmB, XB, stB⟩ := XA.ldcMirror hx hown (mvT hZ (hw _ (List.mem_of_getElem? (i := 39) rfl))) hev (g := (mkF m 6 #[.val (.ref a1)] [(.ref mh)])) rfl (hb hby d5_6)
  have eB : ((s₁.setVm vmA).setVm vmB).heap = h0 := e0
  refine own_step (T' := ((s₁.setVm vmA).setVm vmB)) (g' := (mkF m 8 #[.val (.ref a1)] [(.ref mu), (.ref mh)])) stB ?_
  by_cases hm : mh = mu
  · refine own_step (T' := ((s₁.setVm vmA).setVm vmB)) (g' := (mkF m 11 #[.val (.ref a1)] [])) (fun t_ k_ => Jvm.RoadKit.acmp (g := (mkF m 8 #[.val (.ref a1)] [(.ref mu), (.ref mh)])) XB hx rfl rfl rfl (pc0 := 8) (pc' := 11) (same := true) rfl (hb hby d5_8) rfl (decide_eq_true (congrArg Value.ref hm)) (by decide) (by decide) k_) ?_
    refine own_step (T' := ((s₁.setVm vmA).setVm vmB)) (g' := (mkF m 12 #[.val (.ref a1)] [(.ref a1)])) (fun t_ k_ => XS.aloadN XB.here hx rfl (hb hby d5_11) rfl rfl k_) ?_
    obtain ⟨fs, hrR, hrun, hended, hWW, hsame⟩ := XB.leave (v := some (.ref a1)) (fun h => by rw [Bd.returns] at h; cases h)
    refine ⟨_, _, own_retR XB hx Bd.returns rfl rfl rfl (hb hby d5_12) hrR, hrun, hended, hPP _ _ ⟨_, _, rfl, ?_, ⟨_, rfl⟩, hWW, hsame.mono (by decide) (by decide)⟩⟩
    show QU h0 n0 _ ((s₁.setVm vmA).setVm vmB).heap _
    rw [eB]
    exact ⟨_, rfl, N0, K0⟩
  · refine own_step (T' := ((s₁.setVm vmA).setVm vmB)) (g' := (mkF m 13 #[.val (.ref a1)] [])) (fun t_ k_ => Jvm.RoadKit.acmp (g := (mkF m 8 #[.val (.ref a1)] [(.ref mu), (.ref mh)])) XB hx rfl rfl rfl (pc0 := 8) (pc' := 13) (same := false) rfl (hb hby d5_8) rfl (decide_eq_false fun q => hm (Value.ref.inj q)) (by decide) (by decide) k_) ?_
    obtain ⟨T101, h101, X101, e101, E101, A101, D101, -, st101⟩ := newO XB hx hZ hown (hw _ (List.mem_of_getElem? (i := 39) rfl)) (hw _ (List.mem_of_getElem? (i := 41) rfl)) (hw _ (List.mem_of_getElem? (i := 42) rfl)) eB (g := (mkF m 13 #[.val (.ref a1)] [])) rfl (hb hby d5_13) (by decide) (by decide)
    obtain ⟨b101, g101⟩ : ∃ z, z = h0.size := ⟨_, rfl⟩
    rw [← g101] at A101 D101 st101
    have ge_b101 : n0 ≤ b101 := Nat.le_trans Z0 (Nat.le_of_eq g101.symm)
    have sz_b101 : h0.size ≤ b101 := Nat.le_trans K0.1 (Nat.le_of_eq g101.symm)
    have ne_a1_b101 : a1 ≠ b101 := Nat.ne_of_lt (Nat.lt_of_lt_of_le E1.lt (Nat.le_of_eq g101.symm))
    have f102 := E1.ext E101
    have k103 := K0.ext E101
    have z104 : n0 ≤ h101.size := Nat.le_trans Z0 E101.1
    have F_m_b101 : Fld Z h101 b101 "java/util/Collections$UnmodifiableMap" "m" "Ljava/util/Map;" .null := D101 (Or.inr (hw _ (List.mem_of_getElem? (i := 48) rfl))) (ty := (.object "java/util/Map")) (by decide)
    refine own_step (T' := T101) (g' := (mkF m 16 #[.val (.ref a1)] [(.ref b101)])) st101 ?_
    refine own_step (T' := T101) (g' := (mkF m 17 #[.val (.ref a1)] [(.ref b101), (.ref b101)])) (fun t_ k_ => XS.dup X101.here hx rfl (hb hby d5_16) rfl rfl k_) ?_
    refine own_step (T' := T101) (g' := (mkF m 18 #[.val (.ref a1)] [(.ref a1), (.ref b101), (.ref b101)])) (fun t_ k_ => XS.aloadN X101.here hx rfl (hb hby d5_17) rfl rfl k_) ?_
    obtain ⟨_, _, ⟨T105, L105, k105, n105⟩, -, X105, ⟨Lc105, hQ105, l105, y105, z105⟩, st105⟩ := X101.specialBack hx (y := (⟨"java/util/Collections$UnmodifiableMap", "<init>", "(Ljava/util/Map;)V"⟩ : MethodName)) rfl hown (mvT hZ (hw _ (List.mem_of_getElem? (i := 43) rfl))) (mvT hZ (hw _ (List.mem_of_getElem? (i := 44) rfl))) (mvT hZ (hw _ (List.mem_of_getElem? (i := 45) rfl))) (by decide) (backOf (W := 1) (rm_um l Z a0 hw [] b101 a1 h101 n0 z104 F_m_b101 A101 ge_b101) hZ (hw _ (List.mem_of_getElem? (i := 45) rfl)) (hw _ (List.mem_of_getElem? (i := 42) rfl)) (by decide) (by decide)) (g := (mkF m 18 #[.val (.ref a1)] [(.ref a1), (.ref b101), (.ref b101)])) rfl (by rw [hml]; rfl) (Steps.refl _) (a := b101) (argsL := [(.ref a1)]) (rest := [(.ref b101)]) (lenOf (by decide +kernel : parseMethodDescriptor "(Ljava/util/Map;)V" = some ⟨[(.object "java/util/Map")], none⟩) rfl) rfl (by show 2 * 0 + _ ≤ _; exact Nat.le_of_eq rfl) (hb hby d5_18) (fun _ _ => ⟨rfl, e101, (by decide : 1 + 0 ≤ _), (by decide : 4 + 0 ≤ _)⟩)
    dsimp only [Pt.U, Pt.locs, Pt.cells, Pt.slots] at X105 l105 y105 z105 st105 hQ105
    subst l105 y105 z105
    obtain ⟨rfl, Nq105, K105⟩ := hQ105
    have f106 := f102.keep K105
    have f107 := A101.keep K105
    have k108 := k103.trans K105 (allS (Or.inr sz_b101) all0)
    have z109 : n0 ≤ T105.heap.size := Nat.le_trans z104 K105.1
    have N105 := Fr.app N0 Nq105
    refine own_to (T' := T105) (g' := (mkF m 21 #[.val (.ref a1)] [(.ref b101)])) st105 ?_
    obtain ⟨fs, hrR, hrun, hended, hWW, hsame⟩ := X105.leave (v := some (.ref b101)) (fun h => by rw [Bd.returns] at h; cases h)
    refine ⟨_, _, own_retR X105 hx Bd.returns rfl rfl rfl (hb hby d5_21) hrR, hrun, hended, hPP _ _ ⟨_, _, rfl, ?_, ⟨_, rfl⟩, hWW, hsame.mono (by decide) (by decide)⟩⟩
    show QU h0 n0 _ T105.heap _
    exact ⟨_, rfl, N105, k108⟩
def QD (Z : State) (a1 : Addr) (h0 : Heap) (n0 : Nat) (v : Option Value) (h : Heap) (L : List Loc) : Prop := v = none ∧ Fr n0 L ∧ Keep h0 h [a1] ∧ Fld Z h a1 "com/example/rigger/rigger/container/DefinedMap" "kept" "Lcom/example/rigger/rigger/container/Equality$Kept;" .null
theorem d4_0 : decode prog_42_method_1_code 0 = .ok (.aload_n 0, 1) := by decide +kernel
theorem d4_1 : decode prog_42_method_1_code 1 = .ok (.invokespecial 1, 3) := by decide +kernel
theorem d4_4 : decode prog_42_method_1_code 4 = .ok (.aload_n 0, 1) := by decide +kernel
theorem d4_5 : decode prog_42_method_1_code 5 = .ok (.aload_n 1, 1) := by decide +kernel
theorem d4_6 : decode prog_42_method_1_code 6 = .ok (.invokestatic 7, 3) := by decide +kernel
theorem d4_9 : decode prog_42_method_1_code 9 = .ok (.putfield 13, 3) := by decide +kernel
theorem d4_12 : decode prog_42_method_1_code 12 = .ok (.return_, 1) := by decide +kernel
set_option maxRecDepth 65536 in
set_option maxHeartbeats 40000000 in
theorem rm_dm (l : Launch) (Z : State) (a0 : Array Value) (hw : ∀ d ∈ tables_1, d.before a0 Z = true) (ws : List Jvm.Cond) (a1 a2 : Addr) (h0 : Heap) (n0 : Nat) (Z0 : n0 ≤ h0.size) (F1 : Fld Z h0 a1 "com/example/rigger/rigger/container/DefinedMap" "entries" "Ljava/util/Map;" .null) (F2 : Fld Z h0 a1 "com/example/rigger/rigger/container/DefinedMap" "kept" "Lcom/example/rigger/rigger/container/Equality$Kept;" .null) (E1 : Exa Z h0 a1 "com/example/rigger/rigger/container/DefinedMap") (E2 : Exa Z h0 a2 "java/util/HashMap") (ge1 : n0 ≤ a1) (MH : Jvm.D.MirrorMade Z "java/util/HashMap") (MU : Jvm.D.MirrorMade Z "java/util/Collections$UnmodifiableMap") :
    MetFree l (⟨"com/example/rigger/rigger/container/DefinedMap", "<init>", "(Ljava/util/Map;)V"⟩ : MethodName) (head1 (Jvm.Cond.code (⟨"com/example/rigger/rigger/container/DefinedMap", "<init>", "(Ljava/util/Map;)V"⟩ : MethodName) prog_42_method_1_code 2 none :: ws) ({ frames := 3, cells := 1, slots := 4, locals := 39 } : Room)) (fun a U => a = #[(.ref a1), (.ref a2)] ∧ Z.Warmed39 U.vm ∧ U.heap = h0) (fun _ _ _ _ _ => True) (fun _ U o U' => ∃ v L, o = .returned v ∧ QD Z a1 h0 n0 v U'.heap L ∧ FrameEnd U o U' L 1 4) := by
  refine MetFree.of_bodySF (plainFor_of_name (by first | (simp [plainName, overriddenIn]; done) | decide +kernel)) hisR ?_
  intro p e s m args below meth c s₁ Bd hml0 hP hK
  obtain ⟨rfl, hZ, hh⟩ := hP
  have hx := Bd.exec
  have hby := Bd.bytes
  have hml : c.maxLocals = 2 := hml0
  have hown : s.vm.findClass "com/example/rigger/rigger/container/DefinedMap" = some m.cls := findClass_of_methodNamed Bd.named
  have hnm := (name_of_methodNamed Bd.named Bd.method).1
  have X0 : Stand p l e ({ frames := 3, cells := 1, slots := 4, locals := 39 } : Room) s m #[(.ref a1), (.ref a2)] below meth c s₁ [] 0 0 := Stand.of_body Bd
  have e0 : s₁.heap = h0 := by rw [← hh, Bd.state]; rfl
  have N0 := Fr.nil n0
  have ef : entryFrame m #[(.ref a1), (.ref a2)] 2 = (mkF m 0 #[.val (.ref a1), .val (.ref a2)] []) := by first | (simp [entryFrame, mkF, argsToLocals, Value.category]; done) | rfl
  refine own_start (fun P hPP => ?_)
  refine own_step (T' := s₁) (g' := (mkF m 0 #[.val (.ref a1), .val (.ref a2)] [])) (fun t_ k_ => castTop ef k_) ?_
  have K0 := Keep.refl h0 [a1]
  refine own_step (T' := s₁) (g' := (mkF m 1 #[.val (.ref a1), .val (.ref a2)] [(.ref a1)])) (fun t_ k_ => XS.aloadN X0.here hx rfl (hb hby d4_0) rfl rfl k_) ?_
  obtain ⟨_, _, ⟨T101, L101, k101, n101⟩, -, X101, ⟨Lc101, hQ101, l101, y101, z101⟩, st101⟩ := X0.specialBack hx (y := (⟨"java/util/AbstractMap", "<init>", "()V"⟩ : MethodName)) rfl hown (mvT hZ (hw _ (List.mem_of_getElem? (i := 24) rfl))) (mvT hZ (hw _ (List.mem_of_getElem? (i := 7) rfl))) (mvT hZ (hw _ (List.mem_of_getElem? (i := 11) rfl))) (by decide) (backOf (W := 0) (rm_am l Z a0 hw [] a1 h0 n0 Z0) hZ (hw _ (List.mem_of_getElem? (i := 11) rfl)) (hw _ (List.mem_of_getElem? (i := 10) rfl)) (by decide) (by decide)) (g := (mkF m 1 #[.val (.ref a1), .val (.ref a2)] [(.ref a1)])) rfl (by rw [hml]; rfl) (Steps.refl _) (a := a1) (argsL := []) (rest := []) (lenOf (by decide +kernel : parseMethodDescriptor "()V" = some ⟨[], none⟩) rfl) rfl (by show 2 * 0 + _ ≤ _; exact Nat.le_of_eq rfl) (hb hby d4_1) (fun _ _ => ⟨rfl, e0, (by decide : 0 + 0 ≤ _), (by decide : 0 + 0 ≤ _)⟩)
  dsimp only [Pt.U, Pt.locs, Pt.cells, Pt.slots] at X101 l101 y101 z101 st101 hQ101
  subst l101 y101 z101
  obtain ⟨rfl, Nq101, e101⟩ := hQ101
  have N101 := Fr.app N0 Nq101
  refine own_to (T' := T101) (g' := (mkF m 4 #[.val (.ref a1), .val (.ref a2)] [])) st101 ?_
  refine own_step (T' := T101) (g' := (mkF m 5 #[.val (.ref a1), .val (.ref a2)] [(.ref a1)])) (fun t_ k_ => XS.aloadN X101.here hx rfl (hb hby d4_4) rfl rfl k_) ?_
  refine own_step (T' := T101) (g' := (mkF m 6 #[.val (.ref a1), .val (.ref a2)] [(.ref a2), (.ref a1)])) (fun t_ k_ => XS.aloadN X101.here hx rfl (hb hby d4_5) rfl rfl k_) ?_
  obtain ⟨_, _, ⟨T102, L102, k102, n102⟩, -, X102, ⟨Lc102, hQ102, l102, y102, z102⟩, st102⟩ := Jvm.LawKit.callS X101 hx (y := (⟨"java/util/Collections", "unmodifiableMap", "(Ljava/util/Map;)Ljava/util/Map;"⟩ : MethodName)) hown (mvT hZ (hw _ (List.mem_of_getElem? (i := 25) rfl))) (mvT hZ (hw _ (List.mem_of_getElem? (i := 26) rfl))) (mvT hZ (hw _ (List.mem_of_getElem? (i := 27) rfl))) (mvT hZ (hw _ (List.mem_of_getElem? (i := 28) rfl))) (by decide) (backOf (W := 1) (rm_un l Z a0 hw [] a2 h0 n0 Z0 E2 MH MU) hZ (hw _ (List.mem_of_getElem? (i := 28) rfl)) (hw _ (List.mem_of_getElem? (i := 27) rfl)) (by decide) (by decide)) (g := (mkF m 6 #[.val (.ref a1), .val (.ref a2)] [(.ref a2), (.ref a1)])) rfl (by rw [hml]; rfl) (argsL := [(.ref a2)]) (rest := [(.ref a1)]) (lenOf (by decide +kernel : parseMethodDescriptor "(Ljava/util/Map;)Ljava/util/Map;" = some ⟨[(.object "java/util/Map")], some (.object "java/util/Map")⟩) rfl) rfl (by show 2 * 0 + _ ≤ _; exact Nat.le_of_eq rfl) (hb hby d4_6) (fun _ _ => ⟨rfl, e101, (by decide : 0 + 1 ≤ _), (by decide : 0 + 4 ≤ _)⟩)
  dsimp only [Pt.U, Pt.locs, Pt.cells, Pt.slots] at X102 l102 y102 z102 st102 hQ102
  subst l102 y102 z102
  obtain ⟨b102, rfl, Nq102, K102⟩ := hQ102
  have f103 := F1.keep K102 nin0
  have f104 := F2.keep K102 nin0
  have f105 := E1.keep K102
  have f106 := E2.keep K102
  have z107 : n0 ≤ T102.heap.size := Nat.le_trans Z0 K102.1
  have k108 := K0.trans K102 all0
  have N102 := Fr.app N101 Nq102
  refine own_step (T' := T102) (g' := (mkF m 9 #[.val (.ref a1), .val (.ref a2)] [(.ref b102), (.ref a1)])) st102 ?_
  obtain ⟨T109, h109, X109, e109, W109, st109⟩ := putF X102 hx hZ hown (host := "") (Or.inl (hw _ (List.mem_of_getElem? (i := 49) rfl))) Via.refl rfl f103 f105 (Or.inr ⟨(hw _ (List.mem_of_getElem? (i := 50) rfl)), rfl, hnm⟩) (hw _ (List.mem_of_getElem? (i := 19) rfl)) (ty := (.object "java/util/Map")) (by decide) rfl rfl (g := (mkF m 9 #[.val (.ref a1), .val (.ref a2)] [(.ref b102), (.ref a1)])) rfl rfl (hb hby d4_9)
  have N109 := Fr.snoc X109 N102 ge1
  have f110 := f103.same W109
  have f111 := f104.other W109 (Or.inr (slot_ne (Or.inl (hw _ (List.mem_of_getElem? (i := 64) rfl))) (Or.inr (hw _ (List.mem_of_getElem? (i := 50) rfl))) (by decide) (t := (.object "com/example/rigger/rigger/container/Equality$Kept")) (t' := (.object "java/util/Map")) (by decide) (by decide)))
  have f112 := f105.wr W109
  have f113 := f106.wr W109
  have k114 := k108.wr W109 (Or.inl (List.mem_of_getElem? (i := 0) rfl))
  have z115 : n0 ≤ h109.size := Nat.le_trans z107 (Keep.of_wr W109).1
  refine own_step (T' := T109) (g' := (mkF m 12 #[.val (.ref a1), .val (.ref a2)] [])) st109 ?_
  obtain ⟨fs, hrR, hrun, hended, hWW, hsame⟩ := X109.leave (v := none) (fun _ => rfl)
  refine ⟨_, _, X109.returnOut hx Bd.returns (hb hby d4_12) hrR, hrun, hended, hPP _ _ ⟨_, _, rfl, ?_, ⟨_, rfl⟩, hWW, hsame.mono (by decide) (by decide)⟩⟩
  show QD Z a1 h0 n0 _ T109.heap _
  rw [e109]
  exact ⟨rfl, N109, k114, f111⟩
theorem own_idx {p : Int32} (h1 : ¬ p < -128) (h2 : ¬ 127 < p) : ¬ (p + 128) < 0 ∧ (p + 128) < 256 := by
  rw [Int32.lt_iff_toInt_lt] at *
  have e1 : (-128 : Int32).toInt = -128 := rfl
  have e2 : (127 : Int32).toInt = 127 := rfl
  have e3 : (128 : Int32).toInt = 128 := rfl
  have e4 : (256 : Int32).toInt = 256 := rfl
  have e5 : (0 : Int32).toInt = 0 := rfl
  have e : (p + 128).toInt = p.toInt + (128 : Int32).toInt := Jvm.Kit.i32_add (by omega) (by omega)
  rw [Int32.lt_iff_toInt_lt, e]
  omega
theorem d7_0 : decode jdk_33_method_22_code 0 = .ok (.iload_n 0, 1) := by decide +kernel
theorem d7_1 : decode jdk_33_method_22_code 1 = .ok (.bipush (-128), 2) := by decide +kernel
theorem d7_3 : decode jdk_33_method_22_code 3 = .ok (.if_icmp .lt 20, 3) := by decide +kernel
theorem d7_6 : decode jdk_33_method_22_code 6 = .ok (.iload_n 0, 1) := by decide +kernel
theorem d7_7 : decode jdk_33_method_22_code 7 = .ok (.getstatic 191, 3) := by decide +kernel
theorem d7_10 : decode jdk_33_method_22_code 10 = .ok (.if_icmp .gt 13, 3) := by decide +kernel
theorem d7_13 : decode jdk_33_method_22_code 13 = .ok (.getstatic 195, 3) := by decide +kernel
theorem d7_16 : decode jdk_33_method_22_code 16 = .ok (.iload_n 0, 1) := by decide +kernel
theorem d7_17 : decode jdk_33_method_22_code 17 = .ok (.sipush 128, 3) := by decide +kernel
theorem d7_20 : decode jdk_33_method_22_code 20 = .ok (.iadd, 1) := by decide +kernel
theorem d7_21 : decode jdk_33_method_22_code 21 = .ok (.aaload, 1) := by decide +kernel
theorem d7_22 : decode jdk_33_method_22_code 22 = .ok (.areturn, 1) := by decide +kernel
theorem d7_23 : decode jdk_33_method_22_code 23 = .ok (.new 1, 3) := by decide +kernel
theorem d7_26 : decode jdk_33_method_22_code 26 = .ok (.dup, 1) := by decide +kernel
theorem d7_27 : decode jdk_33_method_22_code 27 = .ok (.iload_n 0, 1) := by decide +kernel
theorem d7_28 : decode jdk_33_method_22_code 28 = .ok (.invokespecial 199, 3) := by decide +kernel
theorem d7_31 : decode jdk_33_method_22_code 31 = .ok (.areturn, 1) := by decide +kernel
set_option maxRecDepth 65536 in
set_option maxHeartbeats 40000000 in
theorem rm_val (l : Launch) (Z : State) (a0 : Array Value) (hw : ∀ d ∈ tables_1, d.before a0 Z = true) (ws : List Jvm.Cond) (p1 : Int32) (ca : Addr) (cc : Cell) (h0 : Heap) (n0 : Nat) (Z0 : n0 ≤ h0.size) (S1 : Sta Z h0 "java/lang/Integer$IntegerCache" "high" "I" (.int (127 : Int32))) (S2 : Sta Z h0 "java/lang/Integer$IntegerCache" "cache" "[Ljava/lang/Integer;" (.ref ca)) (Ar : Arr Z h0 ca cc (.object "java/lang/Integer")) (Sz : cc.slots.size = (256 : Int32).toNatClampNeg) (el : ∀ j : Int32, ¬ j < 0 → j < 256 → ∃ r, cc.slots[j.toNatClampNeg]? = some (.ref r)) :
    MetFree l (⟨"java/lang/Integer", "valueOf", "(I)Ljava/lang/Integer;"⟩ : MethodName) (head1 (Jvm.Cond.code (⟨"java/lang/Integer", "valueOf", "(I)Ljava/lang/Integer;"⟩ : MethodName) jdk_33_method_22_code 1 (some (.object "java/lang/Integer")) :: ws) ({ frames := 3, cells := 1, slots := 1, locals := 38 } : Room)) (fun a U => a = #[(.int p1)] ∧ Z.Warmed39 U.vm ∧ U.heap = h0) (fun _ _ _ _ _ => True) (fun _ U o U' => ∃ v L, o = .returned v ∧ QU h0 n0 v U'.heap L ∧ FrameEnd U o U' L 1 1) := by
  refine MetFree.of_bodySF (plainFor_of_name (by first | (simp [plainName, overriddenIn]; done) | decide +kernel)) hisR ?_
  intro p e s m args below meth c s₁ Bd hml0 hP hK
  obtain ⟨rfl, hZ, hh⟩ := hP
  have hx := Bd.exec
  have hby := Bd.bytes
  have hml : c.maxLocals = 1 := hml0
  have hown : s.vm.findClass "java/lang/Integer" = some m.cls := findClass_of_methodNamed Bd.named
  have hnm := (name_of_methodNamed Bd.named Bd.method).1
  have X0 : Stand p l e ({ frames := 3, cells := 1, slots := 1, locals := 38 } : Room) s m #[(.int p1)] below meth c s₁ [] 0 0 := Stand.of_body Bd
  have e0 : s₁.heap = h0 := by rw [← hh, Bd.state]; rfl
  have N0 := Fr.nil n0
  have ef : entryFrame m #[(.int p1)] 1 = (mkF m 0 #[.val (.int p1)] []) := by first | (simp [entryFrame, mkF, argsToLocals, Value.category]; done) | rfl
  refine own_start (fun P hPP => ?_)
  refine own_step (T' := s₁) (g' := (mkF m 0 #[.val (.int p1)] [])) (fun t_ k_ => castTop ef k_) ?_
  have K0 := Keep.refl h0 []
  refine own_step (T' := s₁) (g' := (mkF m 1 #[.val (.int p1)] [(.int p1)])) (fun t_ k_ => XS.iloadN X0.here hx rfl (hb hby d7_0) rfl k_) ?_
  refine own_step (T' := s₁) (g' := (mkF m 3 #[.val (.int p1)] [(.int (-128 : Int32)), (.int p1)])) (fun t_ k_ => XS.bipush X0.here hx rfl (hb hby d7_1) k_) ?_
  by_cases hc3_101 : p1 < (-128 : Int32)
  · refine own_step (T' := s₁) (g' := (mkF m 23 #[.val (.int p1)] [])) (fun t_ k_ => XS.icmpYes X0.here hx rfl (pc0 := 3) (pc' := 23) rfl (hb hby d7_3) rfl (tlt hc3_101).1 (by decide) (by decide) k_) ?_
    obtain ⟨T102, h102, X102, e102, E102, A102, D102, -, st102⟩ := newO X0 hx hZ hown (hw _ (List.mem_of_getElem? (i := 86) rfl)) (hw _ (List.mem_of_getElem? (i := 87) rfl)) (hw _ (List.mem_of_getElem? (i := 53) rfl)) e0 (g := (mkF m 23 #[.val (.int p1)] [])) rfl (hb hby d7_23) (by decide) (by decide)
    obtain ⟨b102, g102⟩ : ∃ z, z = h0.size := ⟨_, rfl⟩
    rw [← g102] at A102 D102 st102
    have ge_b102 : n0 ≤ b102 := Nat.le_trans Z0 (Nat.le_of_eq g102.symm)
    have sz_b102 : h0.size ≤ b102 := Nat.le_trans K0.1 (Nat.le_of_eq g102.symm)
    have k103 := K0.ext E102
    have z104 : n0 ≤ h102.size := Nat.le_trans Z0 E102.1
    have F_value_b102 : Fld Z h102 b102 "java/lang/Integer" "value" "I" (.int (0 : Int32)) := D102 (Or.inr (hw _ (List.mem_of_getElem? (i := 100) rfl))) (ty := .int) (by decide)
    refine own_step (T' := T102) (g' := (mkF m 26 #[.val (.int p1)] [(.ref b102)])) st102 ?_
    refine own_step (T' := T102) (g' := (mkF m 27 #[.val (.int p1)] [(.ref b102), (.ref b102)])) (fun t_ k_ => XS.dup X102.here hx rfl (hb hby d7_26) rfl rfl k_) ?_
    refine own_step (T' := T102) (g' := (mkF m 28 #[.val (.int p1)] [(.int p1), (.ref b102), (.ref b102)])) (fun t_ k_ => XS.iloadN X102.here hx rfl (hb hby d7_27) rfl k_) ?_
    obtain ⟨_, _, ⟨T105, L105, k105, n105⟩, -, X105, ⟨Lc105, hQ105, l105, y105, z105⟩, st105⟩ := X102.specialBack hx (y := (⟨"java/lang/Integer", "<init>", "(I)V"⟩ : MethodName)) rfl hown (mvT hZ (hw _ (List.mem_of_getElem? (i := 88) rfl))) (mvT hZ (hw _ (List.mem_of_getElem? (i := 89) rfl))) (mvT hZ (hw _ (List.mem_of_getElem? (i := 91) rfl))) (by decide) (backOf (W := 1) (rm_in l Z a0 hw [] b102 p1 h102 n0 z104 F_value_b102 A102 ge_b102) hZ (hw _ (List.mem_of_getElem? (i := 91) rfl)) (hw _ (List.mem_of_getElem? (i := 53) rfl)) (by decide) (by decide)) (g := (mkF m 28 #[.val (.int p1)] [(.int p1), (.ref b102), (.ref b102)])) rfl (by rw [hml]; rfl) (Steps.refl _) (a := b102) (argsL := [(.int p1)]) (rest := [(.ref b102)]) (lenOf (by decide +kernel : parseMethodDescriptor "(I)V" = some ⟨[.int], none⟩) rfl) rfl (by show 2 * 0 + _ ≤ _; exact Nat.le_of_eq rfl) (hb hby d7_28) (fun _ _ => ⟨rfl, e102, (by decide : 1 + 0 ≤ _), (by decide : 1 + 0 ≤ _)⟩)
    dsimp only [Pt.U, Pt.locs, Pt.cells, Pt.slots] at X105 l105 y105 z105 st105 hQ105
    subst l105 y105 z105
    obtain ⟨rfl, Nq105, K105⟩ := hQ105
    have f106 := A102.keep K105
    have k107 := k103.trans K105 (allS (Or.inr sz_b102) all0)
    have z108 : n0 ≤ T105.heap.size := Nat.le_trans z104 K105.1
    have N105 := Fr.app N0 Nq105
    refine own_to (T' := T105) (g' := (mkF m 31 #[.val (.int p1)] [(.ref b102)])) st105 ?_
    obtain ⟨fs, hrR, hrun, hended, hWW, hsame⟩ := X105.leave (v := some (.ref b102)) (fun h => by rw [Bd.returns] at h; cases h)
    refine ⟨_, _, own_retR X105 hx Bd.returns rfl rfl rfl (hb hby d7_31) hrR, hrun, hended, hPP _ _ ⟨_, _, rfl, ?_, ⟨_, rfl⟩, hWW, hsame.mono (by decide) (by decide)⟩⟩
    show QU h0 n0 _ T105.heap _
    exact ⟨_, rfl, N105, k107⟩
  · refine own_step (T' := s₁) (g' := (mkF m 6 #[.val (.int p1)] [])) (fun t_ k_ => XS.icmpNo X0.here hx rfl (hb hby d7_3) rfl (flt hc3_101).1 k_) ?_
    refine own_step (T' := s₁) (g' := (mkF m 7 #[.val (.int p1)] [(.int p1)])) (fun t_ k_ => XS.iloadN X0.here hx rfl (hb hby d7_6) rfl k_) ?_
    obtain ⟨T109, X109, e109, st109⟩ := getS2 X0 hx hZ hown (host := "") (Or.inl (hw _ (List.mem_of_getElem? (i := 55) rfl))) Via.refl e0 S1 (g := (mkF m 7 #[.val (.int p1)] [(.int p1)])) rfl (hb hby d7_7)
    refine own_step (T' := T109) (g' := (mkF m 10 #[.val (.int p1)] [(.int (127 : Int32)), (.int p1)])) st109 ?_
    by_cases hc10_110 : (127 : Int32) < p1
    · refine own_step (T' := T109) (g' := (mkF m 23 #[.val (.int p1)] [])) (fun t_ k_ => XS.icmpYes X109.here hx rfl (pc0 := 10) (pc' := 23) rfl (hb hby d7_10) rfl (tlt hc10_110).2.2.1 (by decide) (by decide) k_) ?_
      obtain ⟨T111, h111, X111, e111, E111, A111, D111, -, st111⟩ := newO X109 hx hZ hown (hw _ (List.mem_of_getElem? (i := 86) rfl)) (hw _ (List.mem_of_getElem? (i := 87) rfl)) (hw _ (List.mem_of_getElem? (i := 53) rfl)) e109 (g := (mkF m 23 #[.val (.int p1)] [])) rfl (hb hby d7_23) (by decide) (by decide)
      obtain ⟨b111, g111⟩ : ∃ z, z = h0.size := ⟨_, rfl⟩
      rw [← g111] at A111 D111 st111
      have ge_b111 : n0 ≤ b111 := Nat.le_trans Z0 (Nat.le_of_eq g111.symm)
      have sz_b111 : h0.size ≤ b111 := Nat.le_trans K0.1 (Nat.le_of_eq g111.symm)
      have k112 := K0.ext E111
      have z113 : n0 ≤ h111.size := Nat.le_trans Z0 E111.1
      have F_value_b111 : Fld Z h111 b111 "java/lang/Integer" "value" "I" (.int (0 : Int32)) := D111 (Or.inr (hw _ (List.mem_of_getElem? (i := 100) rfl))) (ty := .int) (by decide)
      refine own_step (T' := T111) (g' := (mkF m 26 #[.val (.int p1)] [(.ref b111)])) st111 ?_
      refine own_step (T' := T111) (g' := (mkF m 27 #[.val (.int p1)] [(.ref b111), (.ref b111)])) (fun t_ k_ => XS.dup X111.here hx rfl (hb hby d7_26) rfl rfl k_) ?_
      refine own_step (T' := T111) (g' := (mkF m 28 #[.val (.int p1)] [(.int p1), (.ref b111), (.ref b111)])) (fun t_ k_ => XS.iloadN X111.here hx rfl (hb hby d7_27) rfl k_) ?_
      obtain ⟨_, _, ⟨T114, L114, k114, n114⟩, -, X114, ⟨Lc114, hQ114, l114, y114, z114⟩, st114⟩ := X111.specialBack hx (y := (⟨"java/lang/Integer", "<init>", "(I)V"⟩ : MethodName)) rfl hown (mvT hZ (hw _ (List.mem_of_getElem? (i := 88) rfl))) (mvT hZ (hw _ (List.mem_of_getElem? (i := 89) rfl))) (mvT hZ (hw _ (List.mem_of_getElem? (i := 91) rfl))) (by decide) (backOf (W := 1) (rm_in l Z a0 hw [] b111 p1 h111 n0 z113 F_value_b111 A111 ge_b111) hZ (hw _ (List.mem_of_getElem? (i := 91) rfl)) (hw _ (List.mem_of_getElem? (i := 53) rfl)) (by decide) (by decide)) (g := (mkF m 28 #[.val (.int p1)] [(.int p1), (.ref b111), (.ref b111)])) rfl (by rw [hml]; rfl) (Steps.refl _) (a := b111) (argsL := [(.int p1)]) (rest := [(.ref b111)]) (lenOf (by decide +kernel : parseMethodDescriptor "(I)V" = some ⟨[.int], none⟩) rfl) rfl (by show 2 * 0 + _ ≤ _; exact Nat.le_of_eq rfl) (hb hby d7_28) (fun _ _ => ⟨rfl, e111, (by decide : 1 + 0 ≤ _), (by decide : 1 + 0 ≤ _)⟩)
      dsimp only [Pt.U, Pt.locs, Pt.cells, Pt.slots] at X114 l114 y114 z114 st114 hQ114
      subst l114 y114 z114
      obtain ⟨rfl, Nq114, K114⟩ := hQ114
      have f115 := A111.keep K114
      have k116 := k112.trans K114 (allS (Or.inr sz_b111) all0)
      have z117 : n0 ≤ T114.heap.size := Nat.le_trans z113 K114.1
      have N114 := Fr.app N0 Nq114
      refine own_to (T' := T114) (g' := (mkF m 31 #[.val (.int p1)] [(.ref b111)])) st114 ?_
      obtain ⟨fs, hrR, hrun, hended, hWW, hsame⟩ := X114.leave (v := some (.ref b111)) (fun h => by rw [Bd.returns] at h; cases h)
      refine ⟨_, _, own_retR X114 hx Bd.returns rfl rfl rfl (hb hby d7_31) hrR, hrun, hended, hPP _ _ ⟨_, _, rfl, ?_, ⟨_, rfl⟩, hWW, hsame.mono (by decide) (by decide)⟩⟩
      show QU h0 n0 _ T114.heap _
      exact ⟨_, rfl, N114, k116⟩
    · refine own_step (T' := T109) (g' := (mkF m 13 #[.val (.int p1)] [])) (fun t_ k_ => XS.icmpNo X109.here hx rfl (hb hby d7_10) rfl (flt hc10_110).2.2.1 k_) ?_
      obtain ⟨T118, X118, e118, st118⟩ := getS2 X109 hx hZ hown (host := "") (Or.inl (hw _ (List.mem_of_getElem? (i := 57) rfl))) Via.refl e109 S2 (g := (mkF m 13 #[.val (.int p1)] [])) rfl (hb hby d7_13)
      refine own_step (T' := T118) (g' := (mkF m 16 #[.val (.int p1)] [(.ref ca)])) st118 ?_
      refine own_step (T' := T118) (g' := (mkF m 17 #[.val (.int p1)] [(.int p1), (.ref ca)])) (fun t_ k_ => XS.iloadN X118.here hx rfl (hb hby d7_16) rfl k_) ?_
      refine own_step (T' := T118) (g' := (mkF m 20 #[.val (.int p1)] [(.int (128 : Int32)), (.int p1), (.ref ca)])) (fun t_ k_ => XS.sipush X118.here hx rfl (hb hby d7_17) k_) ?_
      refine own_step (T' := T118) (g' := (mkF m 21 #[.val (.int p1)] [(.int (p1 + (128 : Int32))), (.ref ca)])) (fun t_ k_ => XS.iadd X118.here hx rfl (hb hby d7_20) rfl k_) ?_
      obtain ⟨r, hr1⟩ := el _ (own_idx hc3_101 hc10_110).1 (own_idx hc3_101 hc10_110).2
      refine own_step (T' := T118) (g' := (mkF m 22 #[.val (.int p1)] [(.ref r)])) (fun t_ k_ => X118.aaload hx (j := (p1 + (128 : Int32))) (v := (.ref r)) (by rw [e118]; exact Ar.1) (State.isArrayOf_alike hZ.alike Ar.2.1) rfl Ar.2.2 (inb_of Sz (own_idx hc3_101 hc10_110)) hr1 (g := (mkF m 21 #[.val (.int p1)] [(.int (p1 + (128 : Int32))), (.ref ca)])) rfl rfl (hb hby d7_21) _ k_) ?_
      obtain ⟨fs, hrR, hrun, hended, hWW, hsame⟩ := X118.leave (v := some (.ref r)) (fun h => by rw [Bd.returns] at h; cases h)
      refine ⟨_, _, own_retR X118 hx Bd.returns rfl rfl rfl (hb hby d7_22) hrR, hrun, hended, hPP _ _ ⟨_, _, rfl, ?_, ⟨_, rfl⟩, hWW, hsame.mono (by decide) (by decide)⟩⟩
      show QU h0 n0 _ T118.heap _
      rw [e118]
      exact ⟨_, rfl, N0, K0⟩
def Q0 (n0 : Nat) (v : Option Value) (h : Heap) (L : List Loc) : Prop := v = some (.int 1) ∧ Fr n0 L
set_option maxRecDepth 65536 in
set_option maxHeartbeats 40000000 in
theorem rm0 (l : Launch) (Z : State) (a0 : Array Value) (hw : ∀ d ∈ tables_1, d.before a0 Z = true) (ws : List Jvm.Cond) (p1 p2 : Int32) (ca : Addr) (cc : Cell) (h0 : Heap) (n0 : Nat) (Z0 : n0 ≤ h0.size) (O0 : Old Z n0 h0) (S1 : Sta Z Z.heap "java/lang/Integer$IntegerCache" "high" "I" (.int (127 : Int32))) (S2 : Sta Z Z.heap "java/lang/Integer$IntegerCache" "cache" "[Ljava/lang/Integer;" (.ref ca)) (Ar : Arr Z Z.heap ca cc (.object "java/lang/Integer")) (Sz : cc.slots.size = (256 : Int32).toNatClampNeg) (el : ∀ j : Int32, ¬ j < 0 → j < 256 → ∃ r, cc.slots[j.toNatClampNeg]? = some (.ref r)) (MH : Jvm.D.MirrorMade Z "java/util/HashMap") (MU : Jvm.D.MirrorMade Z "java/util/Collections$UnmodifiableMap") :
    MetFree l x (head1 (Jvm.Cond.code x code maxLocals ret :: ws) room_1) (fun a U => a = #[(.int p1), (.int p2)] ∧ Z.Warmed39 U.vm ∧ U.heap = h0) (fun _ _ _ _ _ => True) (fun _ U o U' => ∃ v L, o = .returned v ∧ Q0 n0 v U'.heap L ∧ FrameEnd U o U' L 24 192) := by
  refine MetFree.of_bodySF (plainFor_of_name (by first | (simp [plainName, overriddenIn]; done) | decide +kernel)) hisR ?_
  intro p e s m args below meth c s₁ Bd hml0 hP hK
  obtain ⟨rfl, hZ, hh⟩ := hP
  have hx := Bd.exec
  have hby := Bd.bytes
  have hml : c.maxLocals = 11 := hml0
  have hown : s.vm.findClass "com/example/rigger/rigger/container/DefinedMapKeptPinLaw" = some m.cls := findClass_of_methodNamed Bd.named
  have hnm := (name_of_methodNamed Bd.named Bd.method).1
  have X0 : Stand p l e room_1 s m #[(.int p1), (.int p2)] below meth c s₁ [] 0 0 := Stand.of_body Bd
  have e0 : s₁.heap = h0 := by rw [← hh, Bd.state]; rfl
  have N0 := Fr.nil n0
  have ef : entryFrame m #[(.int p1), (.int p2)] maxLocals = (mkF m 0 #[.val (.int p1), .val (.int p2), .unset, .unset, .unset, .unset, .unset, .unset, .unset, .unset, .unset] []) := by first | (simp [entryFrame, mkF, argsToLocals, Value.category, maxLocals]; done) | rfl
  refine own_start (fun P hPP => ?_)
  refine own_step (T' := s₁) (g' := (mkF m 0 #[.val (.int p1), .val (.int p2), .unset, .unset, .unset, .unset, .unset, .unset, .unset, .unset, .unset] [])) (fun t_ k_ => castTop ef k_) ?_
  obtain ⟨T101, h101, X101, e101, E101, A101, D101, -, st101⟩ := newO X0 hx hZ hown (hw _ (List.mem_of_getElem? (i := 0) rfl)) (hw _ (List.mem_of_getElem? (i := 1) rfl)) (hw _ (List.mem_of_getElem? (i := 2) rfl)) e0 (g := (mkF m 0 #[.val (.int p1), .val (.int p2), .unset, .unset, .unset, .unset, .unset, .unset, .unset, .unset, .unset] [])) rfl (hb hby at_0) (by decide) (by decide)
  obtain ⟨b101, g101⟩ : ∃ z, z = h0.size := ⟨_, rfl⟩
  rw [← g101] at A101 D101 st101
  have ge_b101 : n0 ≤ b101 := Nat.le_trans Z0 (Nat.le_of_eq g101.symm)
  have z102 : n0 ≤ h101.size := Nat.le_trans Z0 E101.1
  have o103 : Old Z n0 h101 := O0.ext E101
  have F_loadFactor_b101 : Fld Z h101 b101 "java/util/HashMap" "loadFactor" "F" (.float (0 : UInt32)) := D101 (Or.inr (hw _ (List.mem_of_getElem? (i := 17) rfl))) (ty := .float) (by decide)
  refine own_step (T' := T101) (g' := (mkF m 3 #[.val (.int p1), .val (.int p2), .unset, .unset, .unset, .unset, .unset, .unset, .unset, .unset, .unset] [(.ref b101)])) st101 ?_
  refine own_step (T' := T101) (g' := (mkF m 4 #[.val (.int p1), .val (.int p2), .unset, .unset, .unset, .unset, .unset, .unset, .unset, .unset, .unset] [(.ref b101), (.ref b101)])) (fun t_ k_ => XS.dup X101.here hx rfl (hb hby at_3) rfl rfl k_) ?_
  obtain ⟨_, _, ⟨T104, L104, k104, n104⟩, -, X104, ⟨Lc104, hQ104, l104, y104, z104⟩, st104⟩ := X101.specialBack hx (y := (⟨"java/util/HashMap", "<init>", "()V"⟩ : MethodName)) rfl hown (mvT hZ (hw _ (List.mem_of_getElem? (i := 3) rfl))) (mvT hZ (hw _ (List.mem_of_getElem? (i := 4) rfl))) (mvT hZ (hw _ (List.mem_of_getElem? (i := 5) rfl))) (by decide) (backOf (W := 1) (rm_hm l Z a0 hw [] b101 h101 n0 z102 F_loadFactor_b101 A101 ge_b101) hZ (hw _ (List.mem_of_getElem? (i := 5) rfl)) (hw _ (List.mem_of_getElem? (i := 2) rfl)) (by decide) (by decide)) (g := (mkF m 4 #[.val (.int p1), .val (.int p2), .unset, .unset, .unset, .unset, .unset, .unset, .unset, .unset, .unset] [(.ref b101), (.ref b101)])) rfl (by rw [hml]; rfl) (Steps.refl _) (a := b101) (argsL := []) (rest := [(.ref b101)]) (lenOf (by decide +kernel : parseMethodDescriptor "()V" = some ⟨[], none⟩) rfl) rfl (by show 2 * 0 + _ ≤ _; exact Nat.le_of_eq rfl) (hb hby at_4) (fun _ _ => ⟨rfl, e101, (by decide : 1 + 0 ≤ _), (by decide : 8 + 0 ≤ _)⟩)
  dsimp only [Pt.U, Pt.locs, Pt.cells, Pt.slots] at X104 l104 y104 z104 st104 hQ104
  subst l104 y104 z104
  obtain ⟨rfl, Nq104, K104⟩ := hQ104
  have f105 := A101.keep K104
  have z106 : n0 ≤ T104.heap.size := Nat.le_trans z102 K104.1
  have o107 : Old Z n0 T104.heap := o103.keep K104 (allS ge_b101 all0)
  have N104 := Fr.app N0 Nq104
  refine own_to (T' := T104) (g' := (mkF m 7 #[.val (.int p1), .val (.int p2), .unset, .unset, .unset, .unset, .unset, .unset, .unset, .unset, .unset] [(.ref b101)])) st104 ?_
  refine own_step (T' := T104) (g' := (mkF m 8 #[.val (.int p1), .val (.int p2), .val (.ref b101), .unset, .unset, .unset, .unset, .unset, .unset, .unset, .unset] [])) (fun t_ k_ => XS.astoreN X104.here hx rfl (hb hby at_7) rfl rfl (l' := #[.val (.int p1), .val (.int p2), .val (.ref b101), .unset, .unset, .unset, .unset, .unset, .unset, .unset, .unset]) rfl k_) ?_
  obtain ⟨T108, h108, X108, e108, E108, A108, D108, -, st108⟩ := newO X104 hx hZ hown (hw _ (List.mem_of_getElem? (i := 18) rfl)) (hw _ (List.mem_of_getElem? (i := 19) rfl)) (hw _ (List.mem_of_getElem? (i := 20) rfl)) rfl (g := (mkF m 8 #[.val (.int p1), .val (.int p2), .val (.ref b101), .unset, .unset, .unset, .unset, .unset, .unset, .unset, .unset] [])) rfl (hb hby at_8) (by decide) (by decide)
  obtain ⟨b108, g108⟩ : ∃ z, z = T104.heap.size := ⟨_, rfl⟩
  rw [← g108] at A108 D108 st108
  have ge_b108 : n0 ≤ b108 := Nat.le_trans z106 (Nat.le_of_eq g108.symm)
  have ne_b101_b108 : b101 ≠ b108 := Nat.ne_of_lt (Nat.lt_of_lt_of_le f105.lt (Nat.le_of_eq g108.symm))
  have f109 := f105.ext E108
  have z110 : n0 ≤ h108.size := Nat.le_trans z106 E108.1
  have o111 : Old Z n0 h108 := o107.ext E108
  have F_entries_b108 : Fld Z h108 b108 "com/example/rigger/rigger/container/DefinedMap" "entries" "Ljava/util/Map;" .null := D108 (Or.inr (hw _ (List.mem_of_getElem? (i := 50) rfl))) (ty := (.object "java/util/Map")) (by decide)
  have F_kept_b108 : Fld Z h108 b108 "com/example/rigger/rigger/container/DefinedMap" "kept" "Lcom/example/rigger/rigger/container/Equality$Kept;" .null := D108 (Or.inl (hw _ (List.mem_of_getElem? (i := 64) rfl))) (ty := (.object "com/example/rigger/rigger/container/Equality$Kept")) (by decide)
  refine own_step (T' := T108) (g' := (mkF m 11 #[.val (.int p1), .val (.int p2), .val (.ref b101), .unset, .unset, .unset, .unset, .unset, .unset, .unset, .unset] [(.ref b108)])) st108 ?_
  refine own_step (T' := T108) (g' := (mkF m 12 #[.val (.int p1), .val (.int p2), .val (.ref b101), .unset, .unset, .unset, .unset, .unset, .unset, .unset, .unset] [(.ref b108), (.ref b108)])) (fun t_ k_ => XS.dup X108.here hx rfl (hb hby at_11) rfl rfl k_) ?_
  refine own_step (T' := T108) (g' := (mkF m 13 #[.val (.int p1), .val (.int p2), .val (.ref b101), .unset, .unset, .unset, .unset, .unset, .unset, .unset, .unset] [(.ref b101), (.ref b108), (.ref b108)])) (fun t_ k_ => XS.aloadN X108.here hx rfl (hb hby at_12) rfl rfl k_) ?_
  obtain ⟨_, _, ⟨T112, L112, k112, n112⟩, -, X112, ⟨Lc112, hQ112, l112, y112, z112⟩, st112⟩ := X108.specialBack hx (y := (⟨"com/example/rigger/rigger/container/DefinedMap", "<init>", "(Ljava/util/Map;)V"⟩ : MethodName)) rfl hown (mvT hZ (hw _ (List.mem_of_getElem? (i := 21) rfl))) (mvT hZ (hw _ (List.mem_of_getElem? (i := 22) rfl))) (mvT hZ (hw _ (List.mem_of_getElem? (i := 23) rfl))) (by decide) (backOf (W := 1) (rm_dm l Z a0 hw [] b108 b101 h108 n0 z110 F_entries_b108 F_kept_b108 A108 f109 ge_b108 MH MU) hZ (hw _ (List.mem_of_getElem? (i := 23) rfl)) (hw _ (List.mem_of_getElem? (i := 20) rfl)) (by decide) (by decide)) (g := (mkF m 13 #[.val (.int p1), .val (.int p2), .val (.ref b101), .unset, .unset, .unset, .unset, .unset, .unset, .unset, .unset] [(.ref b101), (.ref b108), (.ref b108)])) rfl (by rw [hml]; rfl) (Steps.refl _) (a := b108) (argsL := [(.ref b101)]) (rest := [(.ref b108)]) (lenOf (by decide +kernel : parseMethodDescriptor "(Ljava/util/Map;)V" = some ⟨[(.object "java/util/Map")], none⟩) rfl) rfl (by show 2 * 0 + _ ≤ _; exact Nat.le_of_eq rfl) (hb hby at_13) (fun _ _ => ⟨rfl, e108, (by decide : 2 + 1 ≤ _), (by decide : 12 + 4 ≤ _)⟩)
  dsimp only [Pt.U, Pt.locs, Pt.cells, Pt.slots] at X112 l112 y112 z112 st112 hQ112
  subst l112 y112 z112
  obtain ⟨rfl, Nq112, K112, Fk112⟩ := hQ112
  have f113 := f109.keep K112
  have f114 := A108.keep K112
  have z115 : n0 ≤ T112.heap.size := Nat.le_trans z110 K112.1
  have o116 : Old Z n0 T112.heap := o111.keep K112 (allS ge_b108 all0)
  have N112 := Fr.app N104 Nq112
  refine own_to (T' := T112) (g' := (mkF m 16 #[.val (.int p1), .val (.int p2), .val (.ref b101), .unset, .unset, .unset, .unset, .unset, .unset, .unset, .unset] [(.ref b108)])) st112 ?_
  refine own_step (T' := T112) (g' := (mkF m 17 #[.val (.int p1), .val (.int p2), .val (.ref b101), .val (.ref b108), .unset, .unset, .unset, .unset, .unset, .unset, .unset] [])) (fun t_ k_ => XS.astoreN X112.here hx rfl (hb hby at_16) rfl rfl (l' := #[.val (.int p1), .val (.int p2), .val (.ref b101), .val (.ref b108), .unset, .unset, .unset, .unset, .unset, .unset, .unset]) rfl k_) ?_
  obtain ⟨T117, h117, X117, e117, E117, A117, D117, -, st117⟩ := newO X112 hx hZ hown (hw _ (List.mem_of_getElem? (i := 18) rfl)) (hw _ (List.mem_of_getElem? (i := 19) rfl)) (hw _ (List.mem_of_getElem? (i := 20) rfl)) rfl (g := (mkF m 17 #[.val (.int p1), .val (.int p2), .val (.ref b101), .val (.ref b108), .unset, .unset, .unset, .unset, .unset, .unset, .unset] [])) rfl (hb hby at_17) (by decide) (by decide)
  obtain ⟨b117, g117⟩ : ∃ z, z = T112.heap.size := ⟨_, rfl⟩
  rw [← g117] at A117 D117 st117
  have ge_b117 : n0 ≤ b117 := Nat.le_trans z115 (Nat.le_of_eq g117.symm)
  have ne_b101_b117 : b101 ≠ b117 := Nat.ne_of_lt (Nat.lt_of_lt_of_le f113.lt (Nat.le_of_eq g117.symm))
  have ne_b108_b117 : b108 ≠ b117 := Nat.ne_of_lt (Nat.lt_of_lt_of_le f114.lt (Nat.le_of_eq g117.symm))
  have f118 := f113.ext E117
  have f119 := f114.ext E117
  have f120 := Fk112.ext E117
  have z121 : n0 ≤ h117.size := Nat.le_trans z115 E117.1
  have o122 : Old Z n0 h117 := o116.ext E117
  have F_entries_b117 : Fld Z h117 b117 "com/example/rigger/rigger/container/DefinedMap" "entries" "Ljava/util/Map;" .null := D117 (Or.inr (hw _ (List.mem_of_getElem? (i := 50) rfl))) (ty := (.object "java/util/Map")) (by decide)
  have F_kept_b117 : Fld Z h117 b117 "com/example/rigger/rigger/container/DefinedMap" "kept" "Lcom/example/rigger/rigger/container/Equality$Kept;" .null := D117 (Or.inl (hw _ (List.mem_of_getElem? (i := 64) rfl))) (ty := (.object "com/example/rigger/rigger/container/Equality$Kept")) (by decide)
  refine own_step (T' := T117) (g' := (mkF m 20 #[.val (.int p1), .val (.int p2), .val (.ref b101), .val (.ref b108), .unset, .unset, .unset, .unset, .unset, .unset, .unset] [(.ref b117)])) st117 ?_
  refine own_step (T' := T117) (g' := (mkF m 21 #[.val (.int p1), .val (.int p2), .val (.ref b101), .val (.ref b108), .unset, .unset, .unset, .unset, .unset, .unset, .unset] [(.ref b117), (.ref b117)])) (fun t_ k_ => XS.dup X117.here hx rfl (hb hby at_20) rfl rfl k_) ?_
  refine own_step (T' := T117) (g' := (mkF m 22 #[.val (.int p1), .val (.int p2), .val (.ref b101), .val (.ref b108), .unset, .unset, .unset, .unset, .unset, .unset, .unset] [(.ref b101), (.ref b117), (.ref b117)])) (fun t_ k_ => XS.aloadN X117.here hx rfl (hb hby at_21) rfl rfl k_) ?_
  obtain ⟨_, _, ⟨T123, L123, k123, n123⟩, -, X123, ⟨Lc123, hQ123, l123, y123, z123⟩, st123⟩ := X117.specialBack hx (y := (⟨"com/example/rigger/rigger/container/DefinedMap", "<init>", "(Ljava/util/Map;)V"⟩ : MethodName)) rfl hown (mvT hZ (hw _ (List.mem_of_getElem? (i := 21) rfl))) (mvT hZ (hw _ (List.mem_of_getElem? (i := 22) rfl))) (mvT hZ (hw _ (List.mem_of_getElem? (i := 23) rfl))) (by decide) (backOf (W := 1) (rm_dm l Z a0 hw [] b117 b101 h117 n0 z121 F_entries_b117 F_kept_b117 A117 f118 ge_b117 MH MU) hZ (hw _ (List.mem_of_getElem? (i := 23) rfl)) (hw _ (List.mem_of_getElem? (i := 20) rfl)) (by decide) (by decide)) (g := (mkF m 22 #[.val (.int p1), .val (.int p2), .val (.ref b101), .val (.ref b108), .unset, .unset, .unset, .unset, .unset, .unset, .unset] [(.ref b101), (.ref b117), (.ref b117)])) rfl (by rw [hml]; rfl) (Steps.refl _) (a := b117) (argsL := [(.ref b101)]) (rest := [(.ref b117)]) (lenOf (by decide +kernel : parseMethodDescriptor "(Ljava/util/Map;)V" = some ⟨[(.object "java/util/Map")], none⟩) rfl) rfl (by show 2 * 0 + _ ≤ _; exact Nat.le_of_eq rfl) (hb hby at_22) (fun _ _ => ⟨rfl, e117, (by decide : 4 + 1 ≤ _), (by decide : 20 + 4 ≤ _)⟩)
  dsimp only [Pt.U, Pt.locs, Pt.cells, Pt.slots] at X123 l123 y123 z123 st123 hQ123
  subst l123 y123 z123
  obtain ⟨rfl, Nq123, K123, Fk123⟩ := hQ123
  have f124 := f118.keep K123
  have f125 := f119.keep K123
  have f126 := f120.keep K123 (ninS ne_b108_b117 nin0)
  have f127 := A117.keep K123
  have z128 : n0 ≤ T123.heap.size := Nat.le_trans z121 K123.1
  have o129 : Old Z n0 T123.heap := o122.keep K123 (allS ge_b117 all0)
  have N123 := Fr.app N112 Nq123
  refine own_to (T' := T123) (g' := (mkF m 25 #[.val (.int p1), .val (.int p2), .val (.ref b101), .val (.ref b108), .unset, .unset, .unset, .unset, .unset, .unset, .unset] [(.ref b117)])) st123 ?_
  refine own_step (T' := T123) (g' := (mkF m 27 #[.val (.int p1), .val (.int p2), .val (.ref b101), .val (.ref b108), .val (.ref b117), .unset, .unset, .unset, .unset, .unset, .unset] [])) (fun t_ k_ => XS.astore X123.here hx rfl (hb hby at_25) rfl rfl (l' := #[.val (.int p1), .val (.int p2), .val (.ref b101), .val (.ref b108), .val (.ref b117), .unset, .unset, .unset, .unset, .unset, .unset]) rfl k_) ?_
  refine own_step (T' := T123) (g' := (mkF m 28 #[.val (.int p1), .val (.int p2), .val (.ref b101), .val (.ref b108), .val (.ref b117), .unset, .unset, .unset, .unset, .unset, .unset] [(.int p1)])) (fun t_ k_ => XS.iloadN X123.here hx rfl (hb hby at_27) rfl k_) ?_
  obtain ⟨_, _, ⟨T130, L130, k130, n130⟩, -, X130, ⟨Lc130, hQ130, l130, y130, z130⟩, st130⟩ := Jvm.LawKit.callS X123 hx (y := (⟨"java/lang/Integer", "valueOf", "(I)Ljava/lang/Integer;"⟩ : MethodName)) hown (mvT hZ (hw _ (List.mem_of_getElem? (i := 51) rfl))) (mvT hZ (hw _ (List.mem_of_getElem? (i := 52) rfl))) (mvT hZ (hw _ (List.mem_of_getElem? (i := 53) rfl))) (mvT hZ (hw _ (List.mem_of_getElem? (i := 54) rfl))) (by decide) (backOf (W := 0) (rm_val l Z a0 hw [] p1 ca cc T123.heap n0 z128 (S1.ext o129.2) (S2.ext o129.2) (Ar.ext o129.2) Sz el) hZ (hw _ (List.mem_of_getElem? (i := 54) rfl)) (hw _ (List.mem_of_getElem? (i := 53) rfl)) (by decide) (by decide)) (g := (mkF m 28 #[.val (.int p1), .val (.int p2), .val (.ref b101), .val (.ref b108), .val (.ref b117), .unset, .unset, .unset, .unset, .unset, .unset] [(.int p1)])) rfl (by rw [hml]; rfl) (argsL := [(.int p1)]) (rest := []) (lenOf (by decide +kernel : parseMethodDescriptor "(I)Ljava/lang/Integer;" = some ⟨[.int], some (.object "java/lang/Integer")⟩) rfl) rfl (by show 2 * 0 + _ ≤ _; exact Nat.le_of_eq rfl) (hb hby at_28) (fun _ _ => ⟨rfl, rfl, (by decide : 5 + 1 ≤ _), (by decide : 24 + 1 ≤ _)⟩)
  dsimp only [Pt.U, Pt.locs, Pt.cells, Pt.slots] at X130 l130 y130 z130 st130 hQ130
  subst l130 y130 z130
  obtain ⟨tag, rfl, Nq130, K130⟩ := hQ130
  have o131 : Old Z n0 T130.heap := o129.keep K130 all0
  have f132 := f124.keep K130
  have f133 := f125.keep K130
  have f134 := f126.keep K130 nin0
  have f135 := f127.keep K130
  have f136 := Fk123.keep K130 nin0
  have z137 : n0 ≤ T130.heap.size := Nat.le_trans z128 K130.1
  have N130 := Fr.app N123 Nq130
  refine own_step (T' := T130) (g' := (mkF m 31 #[.val (.int p1), .val (.int p2), .val (.ref b101), .val (.ref b108), .val (.ref b117), .unset, .unset, .unset, .unset, .unset, .unset] [(.ref tag)])) st130 ?_
  refine own_step (T' := T130) (g' := (mkF m 33 #[.val (.int p1), .val (.int p2), .val (.ref b101), .val (.ref b108), .val (.ref b117), .val (.ref tag), .unset, .unset, .unset, .unset, .unset] [])) (fun t_ k_ => XS.astore X130.here hx rfl (hb hby at_31) rfl rfl (l' := #[.val (.int p1), .val (.int p2), .val (.ref b101), .val (.ref b108), .val (.ref b117), .val (.ref tag), .unset, .unset, .unset, .unset, .unset]) rfl k_) ?_
  refine own_step (T' := T130) (g' := (mkF m 34 #[.val (.int p1), .val (.int p2), .val (.ref b101), .val (.ref b108), .val (.ref b117), .val (.ref tag), .unset, .unset, .unset, .unset, .unset] [(.int p2)])) (fun t_ k_ => XS.iloadN X130.here hx rfl (hb hby at_33) rfl k_) ?_
  refine own_step (T' := T130) (g' := (mkF m 35 #[.val (.int p1), .val (.int p2), .val (.ref b101), .val (.ref b108), .val (.ref b117), .val (.ref tag), .unset, .unset, .unset, .unset, .unset] [(.int (1 : Int32)), (.int p2)])) (fun t_ k_ => XS.iconst X130.here hx rfl (hb hby at_34) k_) ?_
  refine own_step (T' := T130) (g' := (mkF m 36 #[.val (.int p1), .val (.int p2), .val (.ref b101), .val (.ref b108), .val (.ref b117), .val (.ref tag), .unset, .unset, .unset, .unset, .unset] [(.int (p2 &&& (1 : Int32)))])) (fun t_ k_ => XS.iand X130.here hx rfl (hb hby at_35) rfl k_) ?_
  by_cases hc36_138 : (p2 &&& (1 : Int32)) = (0 : Int32)
  · refine own_step (T' := T130) (g' := (mkF m 43 #[.val (.int p1), .val (.int p2), .val (.ref b101), .val (.ref b108), .val (.ref b117), .val (.ref tag), .unset, .unset, .unset, .unset, .unset] [])) (fun t_ k_ => XS.ifYes X130.here hx rfl (pc0 := 36) (pc' := 43) rfl (hb hby at_36) rfl ((if0 _ _).trans (teq hc36_138).1) (by decide) (by decide) k_) ?_
    refine own_step (T' := T130) (g' := (mkF m 44 #[.val (.int p1), .val (.int p2), .val (.ref b101), .val (.ref b108), .val (.ref b117), .val (.ref tag), .unset, .unset, .unset, .unset, .unset] [(.int (0 : Int32))])) (fun t_ k_ => XS.iconst X130.here hx rfl (hb hby at_43) k_) ?_
    refine own_step (T' := T130) (g' := (mkF m 46 #[.val (.int p1), .val (.int p2), .val (.ref b101), .val (.ref b108), .val (.ref b117), .val (.ref tag), .val (.int (0 : Int32)), .unset, .unset, .unset, .unset] [])) (fun t_ k_ => XS.istore X130.here hx rfl (hb hby at_44) rfl (l' := #[.val (.int p1), .val (.int p2), .val (.ref b101), .val (.ref b108), .val (.ref b117), .val (.ref tag), .val (.int (0 : Int32)), .unset, .unset, .unset, .unset]) rfl k_) ?_
    refine own_step (T' := T130) (g' := (mkF m 47 #[.val (.int p1), .val (.int p2), .val (.ref b101), .val (.ref b108), .val (.ref b117), .val (.ref tag), .val (.int (0 : Int32)), .unset, .unset, .unset, .unset] [.null])) (fun t_ k_ => XS.aconstNull X130.here hx rfl (hb hby at_46) k_) ?_
    refine own_step (T' := T130) (g' := (mkF m 49 #[.val (.int p1), .val (.int p2), .val (.ref b101), .val (.ref b108), .val (.ref b117), .val (.ref tag), .val (.int (0 : Int32)), .val .null, .unset, .unset, .unset] [])) (fun t_ k_ => XS.astore X130.here hx rfl (hb hby at_47) rfl rfl (l' := #[.val (.int p1), .val (.int p2), .val (.ref b101), .val (.ref b108), .val (.ref b117), .val (.ref tag), .val (.int (0 : Int32)), .val .null, .unset, .unset, .unset]) rfl k_) ?_
    refine own_step (T' := T130) (g' := (mkF m 51 #[.val (.int p1), .val (.int p2), .val (.ref b101), .val (.ref b108), .val (.ref b117), .val (.ref tag), .val (.int (0 : Int32)), .val .null, .unset, .unset, .unset] [(.int (0 : Int32))])) (fun t_ k_ => XS.iload X130.here hx rfl (hb hby at_49) rfl k_) ?_
    refine own_step (T' := T130) (g' := (mkF m 61 #[.val (.int p1), .val (.int p2), .val (.ref b101), .val (.ref b108), .val (.ref b117), .val (.ref tag), .val (.int (0 : Int32)), .val .null, .unset, .unset, .unset] [])) (fun t_ k_ => XS.ifYes X130.here hx rfl (pc0 := 51) (pc' := 61) rfl (hb hby at_51) rfl ((if0 _ _).trans (teq (by decide)).1) (by decide) (by decide) k_) ?_
    refine own_step (T' := T130) (g' := (mkF m 62 #[.val (.int p1), .val (.int p2), .val (.ref b101), .val (.ref b108), .val (.ref b117), .val (.ref tag), .val (.int (0 : Int32)), .val .null, .unset, .unset, .unset] [(.ref b108)])) (fun t_ k_ => XS.aloadN X130.here hx rfl (hb hby at_61) rfl rfl k_) ?_
    obtain ⟨cq139, kq139, q139a, q139b, q139c⟩ := isOf hZ rfl f133
    obtain ⟨_, _, ⟨T139, L139, k139, n139⟩, -, X139, ⟨Lc139, hQ139, l139, y139, z139⟩, st139⟩ := X130.virtualBack hx (y := (⟨"com/example/rigger/rigger/container/DefinedMap", "kept", "()Lcom/example/rigger/rigger/container/Equality$Kept;"⟩ : MethodName)) (z := (⟨"com/example/rigger/rigger/container/DefinedMap", "kept", "()Lcom/example/rigger/rigger/container/Equality$Kept;"⟩ : MethodName)) hown (mvT hZ (hw _ (List.mem_of_getElem? (i := 58) rfl))) (mvT hZ (hw _ (List.mem_of_getElem? (i := 59) rfl))) (notFace_of_selects (args := #[]) (mvT hZ (hw _ (List.mem_of_getElem? (i := 61) rfl)))) (mvT hZ (hw _ (List.mem_of_getElem? (i := 61) rfl))) (mvT hZ (hw _ (List.mem_of_getElem? (i := 60) rfl))) (by decide) (backOf (W := 0) (rm_kept0 l Z a0 hw [] b108 T130.heap n0 z137 f134 f133 ge_b108) hZ (hw _ (List.mem_of_getElem? (i := 62) rfl)) (hw _ (List.mem_of_getElem? (i := 20) rfl)) (by decide) (by decide)) q139a q139c (g := (mkF m 62 #[.val (.int p1), .val (.int p2), .val (.ref b101), .val (.ref b108), .val (.ref b117), .val (.ref tag), .val (.int (0 : Int32)), .val .null, .unset, .unset, .unset] [(.ref b108)])) rfl (by rw [hml]; rfl) (Steps.refl _) (argsL := []) (rest := []) (lenOf (by decide +kernel : parseMethodDescriptor "()Lcom/example/rigger/rigger/container/Equality$Kept;" = some ⟨[], some (.object "com/example/rigger/rigger/container/Equality$Kept")⟩) rfl) rfl (by show 2 * 0 + _ ≤ _; exact Nat.le_of_eq rfl) (hb hby at_62) (fun _ _ => ⟨rfl, rfl, (by decide : 6 + 1 ≤ _), (by decide : 25 + 4 ≤ _)⟩)
    dsimp only [Pt.U, Pt.locs, Pt.cells, Pt.slots] at X139 l139 y139 z139 st139 hQ139
    subst l139 y139 z139
    obtain ⟨kp139, rfl, Nq139, ge_kp139, sb139, K139, Ek139, Fk139, Fn139⟩ := hQ139
    have ne_b101_kp139 : b101 ≠ kp139 := Nat.ne_of_lt (Nat.lt_of_lt_of_le f132.lt sb139)
    have ne_b108_kp139 : b108 ≠ kp139 := Nat.ne_of_lt (Nat.lt_of_lt_of_le f133.lt sb139)
    have ne_b117_kp139 : b117 ≠ kp139 := Nat.ne_of_lt (Nat.lt_of_lt_of_le f135.lt sb139)
    have f140 := f132.keep K139
    have f141 := f133.keep K139
    have f142 := f135.keep K139
    have f143 := f136.keep K139 (ninS (Ne.symm ne_b108_b117) nin0)
    have z144 : n0 ≤ T139.heap.size := Nat.le_trans z137 K139.1
    have N139 := Fr.app N130 Nq139
    refine own_to (T' := T139) (g' := (mkF m 65 #[.val (.int p1), .val (.int p2), .val (.ref b101), .val (.ref b108), .val (.ref b117), .val (.ref tag), .val (.int (0 : Int32)), .val .null, .unset, .unset, .unset] [(.ref kp139)])) st139 ?_
    refine own_step (T' := T139) (g' := (mkF m 67 #[.val (.int p1), .val (.int p2), .val (.ref b101), .val (.ref b108), .val (.ref b117), .val (.ref tag), .val (.int (0 : Int32)), .val .null, .val (.ref kp139), .unset, .unset] [])) (fun t_ k_ => XS.astore X139.here hx rfl (hb hby at_65) rfl rfl (l' := #[.val (.int p1), .val (.int p2), .val (.ref b101), .val (.ref b108), .val (.ref b117), .val (.ref tag), .val (.int (0 : Int32)), .val .null, .val (.ref kp139), .unset, .unset]) rfl k_) ?_
    refine own_step (T' := T139) (g' := (mkF m 69 #[.val (.int p1), .val (.int p2), .val (.ref b101), .val (.ref b108), .val (.ref b117), .val (.ref tag), .val (.int (0 : Int32)), .val .null, .val (.ref kp139), .unset, .unset] [(.ref kp139)])) (fun t_ k_ => XS.aload X139.here hx rfl (hb hby at_67) rfl rfl k_) ?_
    refine own_step (T' := T139) (g' := (mkF m 74 #[.val (.int p1), .val (.int p2), .val (.ref b101), .val (.ref b108), .val (.ref b117), .val (.ref tag), .val (.int (0 : Int32)), .val .null, .val (.ref kp139), .unset, .unset] [])) (fun t_ k_ => XS.ifnonnullYes X139.here hx rfl (pc0 := 69) (pc' := 74) rfl (hb hby at_69) rfl (by decide) (by decide) k_) ?_
    refine own_step (T' := T139) (g' := (mkF m 76 #[.val (.int p1), .val (.int p2), .val (.ref b101), .val (.ref b108), .val (.ref b117), .val (.ref tag), .val (.int (0 : Int32)), .val .null, .val (.ref kp139), .unset, .unset] [(.ref kp139)])) (fun t_ k_ => XS.aload X139.here hx rfl (hb hby at_74) rfl rfl k_) ?_
    obtain ⟨cq145, kq145, q145a, q145b, q145c⟩ := isOf hZ rfl Ek139
    obtain ⟨_, _, ⟨T145, L145, k145, n145⟩, -, X145, ⟨Lc145, hQ145, l145, y145, z145⟩, st145⟩ := X139.virtualBack hx (y := (⟨"com/example/rigger/rigger/container/Equality$Kept", "numbered", "()Ljava/lang/Object;"⟩ : MethodName)) (z := (⟨"com/example/rigger/rigger/container/Equality$Kept", "numbered", "()Ljava/lang/Object;"⟩ : MethodName)) hown (mvT hZ (hw _ (List.mem_of_getElem? (i := 74) rfl))) (mvT hZ (hw _ (List.mem_of_getElem? (i := 75) rfl))) (notFace_of_selects (args := #[]) (mvT hZ (hw _ (List.mem_of_getElem? (i := 77) rfl)))) (mvT hZ (hw _ (List.mem_of_getElem? (i := 77) rfl))) (mvT hZ (hw _ (List.mem_of_getElem? (i := 76) rfl))) (by decide) (backOf (W := 0) (rm_num0 l Z a0 hw [] kp139 T139.heap n0 z144 Fn139) hZ (hw _ (List.mem_of_getElem? (i := 78) rfl)) (hw _ (List.mem_of_getElem? (i := 67) rfl)) (by decide) (by decide)) q145a q145c (g := (mkF m 76 #[.val (.int p1), .val (.int p2), .val (.ref b101), .val (.ref b108), .val (.ref b117), .val (.ref tag), .val (.int (0 : Int32)), .val .null, .val (.ref kp139), .unset, .unset] [(.ref kp139)])) rfl (by rw [hml]; rfl) (Steps.refl _) (argsL := []) (rest := []) (lenOf (by decide +kernel : parseMethodDescriptor "()Ljava/lang/Object;" = some ⟨[], some (.object "java/lang/Object")⟩) rfl) rfl (by show 2 * 0 + _ ≤ _; exact Nat.le_of_eq rfl) (hb hby at_76) (fun _ _ => ⟨rfl, rfl, (by decide : 7 + 0 ≤ _), (by decide : 29 + 0 ≤ _)⟩)
    dsimp only [Pt.U, Pt.locs, Pt.cells, Pt.slots] at X145 l145 y145 z145 st145 hQ145
    subst l145 y145 z145
    obtain ⟨rfl, Nq145, e145⟩ := hQ145
    have N145 := Fr.app N139 Nq145
    refine own_to (T' := T145) (g' := (mkF m 79 #[.val (.int p1), .val (.int p2), .val (.ref b101), .val (.ref b108), .val (.ref b117), .val (.ref tag), .val (.int (0 : Int32)), .val .null, .val (.ref kp139), .unset, .unset] [.null])) st145 ?_
    refine own_step (T' := T145) (g' := (mkF m 84 #[.val (.int p1), .val (.int p2), .val (.ref b101), .val (.ref b108), .val (.ref b117), .val (.ref tag), .val (.int (0 : Int32)), .val .null, .val (.ref kp139), .unset, .unset] [])) (fun t_ k_ => XS.ifnullYes X145.here hx rfl (pc0 := 79) (pc' := 84) rfl (hb hby at_79) rfl (by decide) (by decide) k_) ?_
    refine own_step (T' := T145) (g' := (mkF m 86 #[.val (.int p1), .val (.int p2), .val (.ref b101), .val (.ref b108), .val (.ref b117), .val (.ref tag), .val (.int (0 : Int32)), .val .null, .val (.ref kp139), .unset, .unset] [(.ref kp139)])) (fun t_ k_ => XS.aload X145.here hx rfl (hb hby at_84) rfl rfl k_) ?_
    refine own_step (T' := T145) (g' := (mkF m 88 #[.val (.int p1), .val (.int p2), .val (.ref b101), .val (.ref b108), .val (.ref b117), .val (.ref tag), .val (.int (0 : Int32)), .val .null, .val (.ref kp139), .unset, .unset] [(.ref tag), (.ref kp139)])) (fun t_ k_ => XS.aload X145.here hx rfl (hb hby at_86) rfl rfl k_) ?_
    obtain ⟨cq146, kq146, q146a, q146b, q146c⟩ := isOf hZ e145 Ek139
    obtain ⟨_, _, ⟨T146, L146, k146, n146⟩, -, X146, ⟨Lc146, hQ146, l146, y146, z146⟩, st146⟩ := X145.virtualBack hx (y := (⟨"com/example/rigger/rigger/container/Equality$Kept", "keepNumbered", "(Ljava/lang/Object;)V"⟩ : MethodName)) (z := (⟨"com/example/rigger/rigger/container/Equality$Kept", "keepNumbered", "(Ljava/lang/Object;)V"⟩ : MethodName)) hown (mvT hZ (hw _ (List.mem_of_getElem? (i := 81) rfl))) (mvT hZ (hw _ (List.mem_of_getElem? (i := 82) rfl))) (notFace_of_selects (args := #[]) (mvT hZ (hw _ (List.mem_of_getElem? (i := 84) rfl)))) (mvT hZ (hw _ (List.mem_of_getElem? (i := 84) rfl))) (mvT hZ (hw _ (List.mem_of_getElem? (i := 83) rfl))) (by decide) (backOf (W := 0) (rm_keep l Z a0 hw [] kp139 tag T139.heap n0 z144 Fn139 Ek139 ge_kp139) hZ (hw _ (List.mem_of_getElem? (i := 85) rfl)) (hw _ (List.mem_of_getElem? (i := 67) rfl)) (by decide) (by decide)) q146a q146c (g := (mkF m 88 #[.val (.int p1), .val (.int p2), .val (.ref b101), .val (.ref b108), .val (.ref b117), .val (.ref tag), .val (.int (0 : Int32)), .val .null, .val (.ref kp139), .unset, .unset] [(.ref tag), (.ref kp139)])) rfl (by rw [hml]; rfl) (Steps.refl _) (argsL := [(.ref tag)]) (rest := []) (lenOf (by decide +kernel : parseMethodDescriptor "(Ljava/lang/Object;)V" = some ⟨[(.object "java/lang/Object")], none⟩) rfl) rfl (by show 2 * 0 + _ ≤ _; exact Nat.le_of_eq rfl) (hb hby at_88) (fun _ _ => ⟨rfl, e145, (by decide : 7 + 0 ≤ _), (by decide : 29 + 0 ≤ _)⟩)
    dsimp only [Pt.U, Pt.locs, Pt.cells, Pt.slots] at X146 l146 y146 z146 st146 hQ146
    subst l146 y146 z146
    obtain ⟨rfl, Nq146, K146, Fn146⟩ := hQ146
    have f147 := f140.keep K146
    have f148 := f141.keep K146
    have f149 := f142.keep K146
    have f150 := f143.keep K146 (ninS ne_b117_kp139 nin0)
    have f151 := Ek139.keep K146
    have f152 := Fk139.keep K146 (ninS ne_b108_kp139 nin0)
    have z153 : n0 ≤ T146.heap.size := Nat.le_trans z144 K146.1
    have N146 := Fr.app N145 Nq146
    refine own_to (T' := T146) (g' := (mkF m 91 #[.val (.int p1), .val (.int p2), .val (.ref b101), .val (.ref b108), .val (.ref b117), .val (.ref tag), .val (.int (0 : Int32)), .val .null, .val (.ref kp139), .unset, .unset] [])) st146 ?_
    refine own_step (T' := T146) (g' := (mkF m 92 #[.val (.int p1), .val (.int p2), .val (.ref b101), .val (.ref b108), .val (.ref b117), .val (.ref tag), .val (.int (0 : Int32)), .val .null, .val (.ref kp139), .unset, .unset] [(.ref b108)])) (fun t_ k_ => XS.aloadN X146.here hx rfl (hb hby at_91) rfl rfl k_) ?_
    obtain ⟨cq154, kq154, q154a, q154b, q154c⟩ := isOf hZ rfl f148
    obtain ⟨_, _, ⟨T154, L154, k154, n154⟩, -, X154, ⟨Lc154, hQ154, l154, y154, z154⟩, st154⟩ := X146.virtualBack hx (y := (⟨"com/example/rigger/rigger/container/DefinedMap", "kept", "()Lcom/example/rigger/rigger/container/Equality$Kept;"⟩ : MethodName)) (z := (⟨"com/example/rigger/rigger/container/DefinedMap", "kept", "()Lcom/example/rigger/rigger/container/Equality$Kept;"⟩ : MethodName)) hown (mvT hZ (hw _ (List.mem_of_getElem? (i := 58) rfl))) (mvT hZ (hw _ (List.mem_of_getElem? (i := 59) rfl))) (notFace_of_selects (args := #[]) (mvT hZ (hw _ (List.mem_of_getElem? (i := 61) rfl)))) (mvT hZ (hw _ (List.mem_of_getElem? (i := 61) rfl))) (mvT hZ (hw _ (List.mem_of_getElem? (i := 60) rfl))) (by decide) (backOf (W := 0) (rm_kept1 l Z a0 hw [] b108 kp139 T146.heap n0 z153 f152) hZ (hw _ (List.mem_of_getElem? (i := 62) rfl)) (hw _ (List.mem_of_getElem? (i := 20) rfl)) (by decide) (by decide)) q154a q154c (g := (mkF m 92 #[.val (.int p1), .val (.int p2), .val (.ref b101), .val (.ref b108), .val (.ref b117), .val (.ref tag), .val (.int (0 : Int32)), .val .null, .val (.ref kp139), .unset, .unset] [(.ref b108)])) rfl (by rw [hml]; rfl) (Steps.refl _) (argsL := []) (rest := []) (lenOf (by decide +kernel : parseMethodDescriptor "()Lcom/example/rigger/rigger/container/Equality$Kept;" = some ⟨[], some (.object "com/example/rigger/rigger/container/Equality$Kept")⟩) rfl) rfl (by show 2 * 0 + _ ≤ _; exact Nat.le_of_eq rfl) (hb hby at_92) (fun _ _ => ⟨rfl, rfl, (by decide : 7 + 1 ≤ _), (by decide : 29 + 4 ≤ _)⟩)
    dsimp only [Pt.U, Pt.locs, Pt.cells, Pt.slots] at X154 l154 y154 z154 st154 hQ154
    subst l154 y154 z154
    obtain ⟨rfl, Nq154, e154⟩ := hQ154
    have N154 := Fr.app N146 Nq154
    refine own_to (T' := T154) (g' := (mkF m 95 #[.val (.int p1), .val (.int p2), .val (.ref b101), .val (.ref b108), .val (.ref b117), .val (.ref tag), .val (.int (0 : Int32)), .val .null, .val (.ref kp139), .unset, .unset] [(.ref kp139)])) st154 ?_
    refine own_step (T' := T154) (g' := (mkF m 97 #[.val (.int p1), .val (.int p2), .val (.ref b101), .val (.ref b108), .val (.ref b117), .val (.ref tag), .val (.int (0 : Int32)), .val .null, .val (.ref kp139), .val (.ref kp139), .unset] [])) (fun t_ k_ => XS.astore X154.here hx rfl (hb hby at_95) rfl rfl (l' := #[.val (.int p1), .val (.int p2), .val (.ref b101), .val (.ref b108), .val (.ref b117), .val (.ref tag), .val (.int (0 : Int32)), .val .null, .val (.ref kp139), .val (.ref kp139), .unset]) rfl k_) ?_
    refine own_step (T' := T154) (g' := (mkF m 99 #[.val (.int p1), .val (.int p2), .val (.ref b101), .val (.ref b108), .val (.ref b117), .val (.ref tag), .val (.int (0 : Int32)), .val .null, .val (.ref kp139), .val (.ref kp139), .unset] [(.ref kp139)])) (fun t_ k_ => XS.aload X154.here hx rfl (hb hby at_97) rfl rfl k_) ?_
    refine own_step (T' := T154) (g' := (mkF m 101 #[.val (.int p1), .val (.int p2), .val (.ref b101), .val (.ref b108), .val (.ref b117), .val (.ref tag), .val (.int (0 : Int32)), .val .null, .val (.ref kp139), .val (.ref kp139), .unset] [(.ref kp139), (.ref kp139)])) (fun t_ k_ => XS.aload X154.here hx rfl (hb hby at_99) rfl rfl k_) ?_
    refine own_step (T' := T154) (g' := (mkF m 106 #[.val (.int p1), .val (.int p2), .val (.ref b101), .val (.ref b108), .val (.ref b117), .val (.ref tag), .val (.int (0 : Int32)), .val .null, .val (.ref kp139), .val (.ref kp139), .unset] [])) (fun t_ k_ => Jvm.RoadKit.acmp (g := (mkF m 101 #[.val (.int p1), .val (.int p2), .val (.ref b101), .val (.ref b108), .val (.ref b117), .val (.ref tag), .val (.int (0 : Int32)), .val .null, .val (.ref kp139), .val (.ref kp139), .unset] [(.ref kp139), (.ref kp139)])) X154 hx rfl rfl rfl (pc0 := 101) (pc' := 106) (same := true) rfl (hb hby at_101) rfl (decide_eq_true rfl) (by decide) (by decide) k_) ?_
    refine own_step (T' := T154) (g' := (mkF m 108 #[.val (.int p1), .val (.int p2), .val (.ref b101), .val (.ref b108), .val (.ref b117), .val (.ref tag), .val (.int (0 : Int32)), .val .null, .val (.ref kp139), .val (.ref kp139), .unset] [(.ref kp139)])) (fun t_ k_ => XS.aload X154.here hx rfl (hb hby at_106) rfl rfl k_) ?_
    obtain ⟨cq155, kq155, q155a, q155b, q155c⟩ := isOf hZ e154 f151
    obtain ⟨_, _, ⟨T155, L155, k155, n155⟩, -, X155, ⟨Lc155, hQ155, l155, y155, z155⟩, st155⟩ := X154.virtualBack hx (y := (⟨"com/example/rigger/rigger/container/Equality$Kept", "numbered", "()Ljava/lang/Object;"⟩ : MethodName)) (z := (⟨"com/example/rigger/rigger/container/Equality$Kept", "numbered", "()Ljava/lang/Object;"⟩ : MethodName)) hown (mvT hZ (hw _ (List.mem_of_getElem? (i := 74) rfl))) (mvT hZ (hw _ (List.mem_of_getElem? (i := 75) rfl))) (notFace_of_selects (args := #[]) (mvT hZ (hw _ (List.mem_of_getElem? (i := 77) rfl)))) (mvT hZ (hw _ (List.mem_of_getElem? (i := 77) rfl))) (mvT hZ (hw _ (List.mem_of_getElem? (i := 76) rfl))) (by decide) (backOf (W := 0) (rm_num1 l Z a0 hw [] kp139 tag T146.heap n0 z153 Fn146) hZ (hw _ (List.mem_of_getElem? (i := 78) rfl)) (hw _ (List.mem_of_getElem? (i := 67) rfl)) (by decide) (by decide)) q155a q155c (g := (mkF m 108 #[.val (.int p1), .val (.int p2), .val (.ref b101), .val (.ref b108), .val (.ref b117), .val (.ref tag), .val (.int (0 : Int32)), .val .null, .val (.ref kp139), .val (.ref kp139), .unset] [(.ref kp139)])) rfl (by rw [hml]; rfl) (Steps.refl _) (argsL := []) (rest := []) (lenOf (by decide +kernel : parseMethodDescriptor "()Ljava/lang/Object;" = some ⟨[], some (.object "java/lang/Object")⟩) rfl) rfl (by show 2 * 0 + _ ≤ _; exact Nat.le_of_eq rfl) (hb hby at_108) (fun _ _ => ⟨rfl, e154, (by decide : 8 + 0 ≤ _), (by decide : 33 + 0 ≤ _)⟩)
    dsimp only [Pt.U, Pt.locs, Pt.cells, Pt.slots] at X155 l155 y155 z155 st155 hQ155
    subst l155 y155 z155
    obtain ⟨rfl, Nq155, e155⟩ := hQ155
    have N155 := Fr.app N154 Nq155
    refine own_to (T' := T155) (g' := (mkF m 111 #[.val (.int p1), .val (.int p2), .val (.ref b101), .val (.ref b108), .val (.ref b117), .val (.ref tag), .val (.int (0 : Int32)), .val .null, .val (.ref kp139), .val (.ref kp139), .unset] [(.ref tag)])) st155 ?_
    refine own_step (T' := T155) (g' := (mkF m 113 #[.val (.int p1), .val (.int p2), .val (.ref b101), .val (.ref b108), .val (.ref b117), .val (.ref tag), .val (.int (0 : Int32)), .val .null, .val (.ref kp139), .val (.ref kp139), .unset] [(.ref tag), (.ref tag)])) (fun t_ k_ => XS.aload X155.here hx rfl (hb hby at_111) rfl rfl k_) ?_
    refine own_step (T' := T155) (g' := (mkF m 118 #[.val (.int p1), .val (.int p2), .val (.ref b101), .val (.ref b108), .val (.ref b117), .val (.ref tag), .val (.int (0 : Int32)), .val .null, .val (.ref kp139), .val (.ref kp139), .unset] [])) (fun t_ k_ => Jvm.RoadKit.acmp (g := (mkF m 113 #[.val (.int p1), .val (.int p2), .val (.ref b101), .val (.ref b108), .val (.ref b117), .val (.ref tag), .val (.int (0 : Int32)), .val .null, .val (.ref kp139), .val (.ref kp139), .unset] [(.ref tag), (.ref tag)])) X155 hx rfl rfl rfl (pc0 := 113) (pc' := 118) (same := true) rfl (hb hby at_113) rfl (decide_eq_true rfl) (by decide) (by decide) k_) ?_
    refine own_step (T' := T155) (g' := (mkF m 120 #[.val (.int p1), .val (.int p2), .val (.ref b101), .val (.ref b108), .val (.ref b117), .val (.ref tag), .val (.int (0 : Int32)), .val .null, .val (.ref kp139), .val (.ref kp139), .unset] [(.ref b117)])) (fun t_ k_ => XS.aload X155.here hx rfl (hb hby at_118) rfl rfl k_) ?_
    obtain ⟨cq156, kq156, q156a, q156b, q156c⟩ := isOf hZ e155 f149
    obtain ⟨_, _, ⟨T156, L156, k156, n156⟩, -, X156, ⟨Lc156, hQ156, l156, y156, z156⟩, st156⟩ := X155.virtualBack hx (y := (⟨"com/example/rigger/rigger/container/DefinedMap", "kept", "()Lcom/example/rigger/rigger/container/Equality$Kept;"⟩ : MethodName)) (z := (⟨"com/example/rigger/rigger/container/DefinedMap", "kept", "()Lcom/example/rigger/rigger/container/Equality$Kept;"⟩ : MethodName)) hown (mvT hZ (hw _ (List.mem_of_getElem? (i := 58) rfl))) (mvT hZ (hw _ (List.mem_of_getElem? (i := 59) rfl))) (notFace_of_selects (args := #[]) (mvT hZ (hw _ (List.mem_of_getElem? (i := 61) rfl)))) (mvT hZ (hw _ (List.mem_of_getElem? (i := 61) rfl))) (mvT hZ (hw _ (List.mem_of_getElem? (i := 60) rfl))) (by decide) (backOf (W := 0) (rm_kept0 l Z a0 hw [] b117 T146.heap n0 z153 f150 f149 ge_b117) hZ (hw _ (List.mem_of_getElem? (i := 62) rfl)) (hw _ (List.mem_of_getElem? (i := 20) rfl)) (by decide) (by decide)) q156a q156c (g := (mkF m 120 #[.val (.int p1), .val (.int p2), .val (.ref b101), .val (.ref b108), .val (.ref b117), .val (.ref tag), .val (.int (0 : Int32)), .val .null, .val (.ref kp139), .val (.ref kp139), .unset] [(.ref b117)])) rfl (by rw [hml]; rfl) (Steps.refl _) (argsL := []) (rest := []) (lenOf (by decide +kernel : parseMethodDescriptor "()Lcom/example/rigger/rigger/container/Equality$Kept;" = some ⟨[], some (.object "com/example/rigger/rigger/container/Equality$Kept")⟩) rfl) rfl (by show 2 * 0 + _ ≤ _; exact Nat.le_of_eq rfl) (hb hby at_120) (fun _ _ => ⟨rfl, e155, (by decide : 8 + 1 ≤ _), (by decide : 33 + 4 ≤ _)⟩)
    dsimp only [Pt.U, Pt.locs, Pt.cells, Pt.slots] at X156 l156 y156 z156 st156 hQ156
    subst l156 y156 z156
    obtain ⟨kp156, rfl, Nq156, ge_kp156, sb156, K156, Ek156, Fk156, Fn156⟩ := hQ156
    have ne_b101_kp156 : b101 ≠ kp156 := Nat.ne_of_lt (Nat.lt_of_lt_of_le f147.lt sb156)
    have ne_b108_kp156 : b108 ≠ kp156 := Nat.ne_of_lt (Nat.lt_of_lt_of_le f148.lt sb156)
    have ne_b117_kp156 : b117 ≠ kp156 := Nat.ne_of_lt (Nat.lt_of_lt_of_le f149.lt sb156)
    have ne_kp139_kp156 : kp139 ≠ kp156 := Nat.ne_of_lt (Nat.lt_of_lt_of_le f151.lt sb156)
    have f157 := f147.keep K156
    have f158 := f148.keep K156
    have f159 := f149.keep K156
    have f160 := f151.keep K156
    have f161 := f152.keep K156 (ninS ne_b108_b117 nin0)
    have f162 := Fn146.keep K156 (ninS (Ne.symm ne_b117_kp139) nin0)
    have z163 : n0 ≤ T156.heap.size := Nat.le_trans z153 K156.1
    have N156 := Fr.app N155 Nq156
    refine own_to (T' := T156) (g' := (mkF m 123 #[.val (.int p1), .val (.int p2), .val (.ref b101), .val (.ref b108), .val (.ref b117), .val (.ref tag), .val (.int (0 : Int32)), .val .null, .val (.ref kp139), .val (.ref kp139), .unset] [(.ref kp156)])) st156 ?_
    refine own_step (T' := T156) (g' := (mkF m 125 #[.val (.int p1), .val (.int p2), .val (.ref b101), .val (.ref b108), .val (.ref b117), .val (.ref tag), .val (.int (0 : Int32)), .val .null, .val (.ref kp139), .val (.ref kp139), .val (.ref kp156)] [])) (fun t_ k_ => XS.astore X156.here hx rfl (hb hby at_123) rfl rfl (l' := #[.val (.int p1), .val (.int p2), .val (.ref b101), .val (.ref b108), .val (.ref b117), .val (.ref tag), .val (.int (0 : Int32)), .val .null, .val (.ref kp139), .val (.ref kp139), .val (.ref kp156)]) rfl k_) ?_
    refine own_step (T' := T156) (g' := (mkF m 127 #[.val (.int p1), .val (.int p2), .val (.ref b101), .val (.ref b108), .val (.ref b117), .val (.ref tag), .val (.int (0 : Int32)), .val .null, .val (.ref kp139), .val (.ref kp139), .val (.ref kp156)] [(.ref kp156)])) (fun t_ k_ => XS.aload X156.here hx rfl (hb hby at_125) rfl rfl k_) ?_
    refine own_step (T' := T156) (g' := (mkF m 130 #[.val (.int p1), .val (.int p2), .val (.ref b101), .val (.ref b108), .val (.ref b117), .val (.ref tag), .val (.int (0 : Int32)), .val .null, .val (.ref kp139), .val (.ref kp139), .val (.ref kp156)] [])) (fun t_ k_ => XS.ifnullNo X156.here hx rfl (hb hby at_127) rfl k_) ?_
    refine own_step (T' := T156) (g' := (mkF m 132 #[.val (.int p1), .val (.int p2), .val (.ref b101), .val (.ref b108), .val (.ref b117), .val (.ref tag), .val (.int (0 : Int32)), .val .null, .val (.ref kp139), .val (.ref kp139), .val (.ref kp156)] [(.ref kp156)])) (fun t_ k_ => XS.aload X156.here hx rfl (hb hby at_130) rfl rfl k_) ?_
    refine own_step (T' := T156) (g' := (mkF m 134 #[.val (.int p1), .val (.int p2), .val (.ref b101), .val (.ref b108), .val (.ref b117), .val (.ref tag), .val (.int (0 : Int32)), .val .null, .val (.ref kp139), .val (.ref kp139), .val (.ref kp156)] [(.ref kp139), (.ref kp156)])) (fun t_ k_ => XS.aload X156.here hx rfl (hb hby at_132) rfl rfl k_) ?_
    refine own_step (T' := T156) (g' := (mkF m 139 #[.val (.int p1), .val (.int p2), .val (.ref b101), .val (.ref b108), .val (.ref b117), .val (.ref tag), .val (.int (0 : Int32)), .val .null, .val (.ref kp139), .val (.ref kp139), .val (.ref kp156)] [])) (fun t_ k_ => Jvm.RoadKit.acmp (g := (mkF m 134 #[.val (.int p1), .val (.int p2), .val (.ref b101), .val (.ref b108), .val (.ref b117), .val (.ref tag), .val (.int (0 : Int32)), .val .null, .val (.ref kp139), .val (.ref kp139), .val (.ref kp156)] [(.ref kp139), (.ref kp156)])) X156 hx rfl rfl rfl (pc0 := 134) (pc' := 139) (same := false) rfl (hb hby at_134) rfl (decide_eq_false fun q => (Ne.symm ne_kp139_kp156) (Value.ref.inj q)) (by decide) (by decide) k_) ?_
    refine own_step (T' := T156) (g' := (mkF m 141 #[.val (.int p1), .val (.int p2), .val (.ref b101), .val (.ref b108), .val (.ref b117), .val (.ref tag), .val (.int (0 : Int32)), .val .null, .val (.ref kp139), .val (.ref kp139), .val (.ref kp156)] [(.int (0 : Int32))])) (fun t_ k_ => XS.iload X156.here hx rfl (hb hby at_139) rfl k_) ?_
    refine own_step (T' := T156) (g' := (mkF m 153 #[.val (.int p1), .val (.int p2), .val (.ref b101), .val (.ref b108), .val (.ref b117), .val (.ref tag), .val (.int (0 : Int32)), .val .null, .val (.ref kp139), .val (.ref kp139), .val (.ref kp156)] [])) (fun t_ k_ => XS.ifYes X156.here hx rfl (pc0 := 141) (pc' := 153) rfl (hb hby at_141) rfl ((if0 _ _).trans (teq (by decide)).1) (by decide) (by decide) k_) ?_
    refine own_step (T' := T156) (g' := (mkF m 155 #[.val (.int p1), .val (.int p2), .val (.ref b101), .val (.ref b108), .val (.ref b117), .val (.ref tag), .val (.int (0 : Int32)), .val .null, .val (.ref kp139), .val (.ref kp139), .val (.ref kp156)] [(.ref kp156)])) (fun t_ k_ => XS.aload X156.here hx rfl (hb hby at_153) rfl rfl k_) ?_
    obtain ⟨cq164, kq164, q164a, q164b, q164c⟩ := isOf hZ rfl Ek156
    obtain ⟨_, _, ⟨T164, L164, k164, n164⟩, -, X164, ⟨Lc164, hQ164, l164, y164, z164⟩, st164⟩ := X156.virtualBack hx (y := (⟨"com/example/rigger/rigger/container/Equality$Kept", "numbered", "()Ljava/lang/Object;"⟩ : MethodName)) (z := (⟨"com/example/rigger/rigger/container/Equality$Kept", "numbered", "()Ljava/lang/Object;"⟩ : MethodName)) hown (mvT hZ (hw _ (List.mem_of_getElem? (i := 74) rfl))) (mvT hZ (hw _ (List.mem_of_getElem? (i := 75) rfl))) (notFace_of_selects (args := #[]) (mvT hZ (hw _ (List.mem_of_getElem? (i := 77) rfl)))) (mvT hZ (hw _ (List.mem_of_getElem? (i := 77) rfl))) (mvT hZ (hw _ (List.mem_of_getElem? (i := 76) rfl))) (by decide) (backOf (W := 0) (rm_num0 l Z a0 hw [] kp156 T156.heap n0 z163 Fn156) hZ (hw _ (List.mem_of_getElem? (i := 78) rfl)) (hw _ (List.mem_of_getElem? (i := 67) rfl)) (by decide) (by decide)) q164a q164c (g := (mkF m 155 #[.val (.int p1), .val (.int p2), .val (.ref b101), .val (.ref b108), .val (.ref b117), .val (.ref tag), .val (.int (0 : Int32)), .val .null, .val (.ref kp139), .val (.ref kp139), .val (.ref kp156)] [(.ref kp156)])) rfl (by rw [hml]; rfl) (Steps.refl _) (argsL := []) (rest := []) (lenOf (by decide +kernel : parseMethodDescriptor "()Ljava/lang/Object;" = some ⟨[], some (.object "java/lang/Object")⟩) rfl) rfl (by show 2 * 0 + _ ≤ _; exact Nat.le_of_eq rfl) (hb hby at_155) (fun _ _ => ⟨rfl, rfl, (by decide : 9 + 0 ≤ _), (by decide : 37 + 0 ≤ _)⟩)
    dsimp only [Pt.U, Pt.locs, Pt.cells, Pt.slots] at X164 l164 y164 z164 st164 hQ164
    subst l164 y164 z164
    obtain ⟨rfl, Nq164, e164⟩ := hQ164
    have N164 := Fr.app N156 Nq164
    refine own_to (T' := T164) (g' := (mkF m 158 #[.val (.int p1), .val (.int p2), .val (.ref b101), .val (.ref b108), .val (.ref b117), .val (.ref tag), .val (.int (0 : Int32)), .val .null, .val (.ref kp139), .val (.ref kp139), .val (.ref kp156)] [.null])) st164 ?_
    refine own_step (T' := T164) (g' := (mkF m 161 #[.val (.int p1), .val (.int p2), .val (.ref b101), .val (.ref b108), .val (.ref b117), .val (.ref tag), .val (.int (0 : Int32)), .val .null, .val (.ref kp139), .val (.ref kp139), .val (.ref kp156)] [])) (fun t_ k_ => XS.ifnonnullNo X164.here hx rfl (hb hby at_158) rfl k_) ?_
    refine own_step (T' := T164) (g' := (mkF m 162 #[.val (.int p1), .val (.int p2), .val (.ref b101), .val (.ref b108), .val (.ref b117), .val (.ref tag), .val (.int (0 : Int32)), .val .null, .val (.ref kp139), .val (.ref kp139), .val (.ref kp156)] [(.int (1 : Int32))])) (fun t_ k_ => XS.iconst X164.here hx rfl (hb hby at_161) k_) ?_
    refine own_step (T' := T164) (g' := (mkF m 166 #[.val (.int p1), .val (.int p2), .val (.ref b101), .val (.ref b108), .val (.ref b117), .val (.ref tag), .val (.int (0 : Int32)), .val .null, .val (.ref kp139), .val (.ref kp139), .val (.ref kp156)] [(.int (1 : Int32))])) (fun t_ k_ => XS.goto X164.here hx rfl (pc0 := 162) (pc' := 166) rfl (hb hby at_162) (by decide) (by decide) k_) ?_
    obtain ⟨fs, hrR, hrun, hended, hWW, hsame⟩ := X164.leave (v := some (.int (1 : Int32))) (fun h => by rw [Bd.returns] at h; cases h)
    refine ⟨_, _, own_retZ X164 hx (t := .boolean) Bd.returns (by simp) (by decide) (hb hby at_166) hrR, hrun, hended, hPP _ _ ⟨_, _, rfl, ?_, ⟨_, rfl⟩, hWW, hsame.mono (by decide) (by decide)⟩⟩
    show Q0 n0 _ T164.heap _
    rw [e164]
    exact ⟨rfl, N164⟩
  · refine own_step (T' := T130) (g' := (mkF m 39 #[.val (.int p1), .val (.int p2), .val (.ref b101), .val (.ref b108), .val (.ref b117), .val (.ref tag), .unset, .unset, .unset, .unset, .unset] [])) (fun t_ k_ => XS.ifNo X130.here hx rfl (hb hby at_36) rfl ((if0 _ _).trans (feq hc36_138).1) k_) ?_
    refine own_step (T' := T130) (g' := (mkF m 40 #[.val (.int p1), .val (.int p2), .val (.ref b101), .val (.ref b108), .val (.ref b117), .val (.ref tag), .unset, .unset, .unset, .unset, .unset] [(.int (1 : Int32))])) (fun t_ k_ => XS.iconst X130.here hx rfl (hb hby at_39) k_) ?_
    refine own_step (T' := T130) (g' := (mkF m 44 #[.val (.int p1), .val (.int p2), .val (.ref b101), .val (.ref b108), .val (.ref b117), .val (.ref tag), .unset, .unset, .unset, .unset, .unset] [(.int (1 : Int32))])) (fun t_ k_ => XS.goto X130.here hx rfl (pc0 := 40) (pc' := 44) rfl (hb hby at_40) (by decide) (by decide) k_) ?_
    refine own_step (T' := T130) (g' := (mkF m 46 #[.val (.int p1), .val (.int p2), .val (.ref b101), .val (.ref b108), .val (.ref b117), .val (.ref tag), .val (.int (1 : Int32)), .unset, .unset, .unset, .unset] [])) (fun t_ k_ => XS.istore X130.here hx rfl (hb hby at_44) rfl (l' := #[.val (.int p1), .val (.int p2), .val (.ref b101), .val (.ref b108), .val (.ref b117), .val (.ref tag), .val (.int (1 : Int32)), .unset, .unset, .unset, .unset]) rfl k_) ?_
    refine own_step (T' := T130) (g' := (mkF m 47 #[.val (.int p1), .val (.int p2), .val (.ref b101), .val (.ref b108), .val (.ref b117), .val (.ref tag), .val (.int (1 : Int32)), .unset, .unset, .unset, .unset] [.null])) (fun t_ k_ => XS.aconstNull X130.here hx rfl (hb hby at_46) k_) ?_
    refine own_step (T' := T130) (g' := (mkF m 49 #[.val (.int p1), .val (.int p2), .val (.ref b101), .val (.ref b108), .val (.ref b117), .val (.ref tag), .val (.int (1 : Int32)), .val .null, .unset, .unset, .unset] [])) (fun t_ k_ => XS.astore X130.here hx rfl (hb hby at_47) rfl rfl (l' := #[.val (.int p1), .val (.int p2), .val (.ref b101), .val (.ref b108), .val (.ref b117), .val (.ref tag), .val (.int (1 : Int32)), .val .null, .unset, .unset, .unset]) rfl k_) ?_
    refine own_step (T' := T130) (g' := (mkF m 51 #[.val (.int p1), .val (.int p2), .val (.ref b101), .val (.ref b108), .val (.ref b117), .val (.ref tag), .val (.int (1 : Int32)), .val .null, .unset, .unset, .unset] [(.int (1 : Int32))])) (fun t_ k_ => XS.iload X130.here hx rfl (hb hby at_49) rfl k_) ?_
    refine own_step (T' := T130) (g' := (mkF m 54 #[.val (.int p1), .val (.int p2), .val (.ref b101), .val (.ref b108), .val (.ref b117), .val (.ref tag), .val (.int (1 : Int32)), .val .null, .unset, .unset, .unset] [])) (fun t_ k_ => XS.ifNo X130.here hx rfl (hb hby at_51) rfl ((if0 _ _).trans (feq (by decide)).1) k_) ?_
    refine own_step (T' := T130) (g' := (mkF m 56 #[.val (.int p1), .val (.int p2), .val (.ref b101), .val (.ref b108), .val (.ref b117), .val (.ref tag), .val (.int (1 : Int32)), .val .null, .unset, .unset, .unset] [(.ref b117)])) (fun t_ k_ => XS.aload X130.here hx rfl (hb hby at_54) rfl rfl k_) ?_
    obtain ⟨cq165, kq165, q165a, q165b, q165c⟩ := isOf hZ rfl f135
    obtain ⟨_, _, ⟨T165, L165, k165, n165⟩, -, X165, ⟨Lc165, hQ165, l165, y165, z165⟩, st165⟩ := X130.virtualBack hx (y := (⟨"com/example/rigger/rigger/container/DefinedMap", "kept", "()Lcom/example/rigger/rigger/container/Equality$Kept;"⟩ : MethodName)) (z := (⟨"com/example/rigger/rigger/container/DefinedMap", "kept", "()Lcom/example/rigger/rigger/container/Equality$Kept;"⟩ : MethodName)) hown (mvT hZ (hw _ (List.mem_of_getElem? (i := 58) rfl))) (mvT hZ (hw _ (List.mem_of_getElem? (i := 59) rfl))) (notFace_of_selects (args := #[]) (mvT hZ (hw _ (List.mem_of_getElem? (i := 61) rfl)))) (mvT hZ (hw _ (List.mem_of_getElem? (i := 61) rfl))) (mvT hZ (hw _ (List.mem_of_getElem? (i := 60) rfl))) (by decide) (backOf (W := 0) (rm_kept0 l Z a0 hw [] b117 T130.heap n0 z137 f136 f135 ge_b117) hZ (hw _ (List.mem_of_getElem? (i := 62) rfl)) (hw _ (List.mem_of_getElem? (i := 20) rfl)) (by decide) (by decide)) q165a q165c (g := (mkF m 56 #[.val (.int p1), .val (.int p2), .val (.ref b101), .val (.ref b108), .val (.ref b117), .val (.ref tag), .val (.int (1 : Int32)), .val .null, .unset, .unset, .unset] [(.ref b117)])) rfl (by rw [hml]; rfl) (Steps.refl _) (argsL := []) (rest := []) (lenOf (by decide +kernel : parseMethodDescriptor "()Lcom/example/rigger/rigger/container/Equality$Kept;" = some ⟨[], some (.object "com/example/rigger/rigger/container/Equality$Kept")⟩) rfl) rfl (by show 2 * 0 + _ ≤ _; exact Nat.le_of_eq rfl) (hb hby at_56) (fun _ _ => ⟨rfl, rfl, (by decide : 6 + 1 ≤ _), (by decide : 25 + 4 ≤ _)⟩)
    dsimp only [Pt.U, Pt.locs, Pt.cells, Pt.slots] at X165 l165 y165 z165 st165 hQ165
    subst l165 y165 z165
    obtain ⟨kp165, rfl, Nq165, ge_kp165, sb165, K165, Ek165, Fk165, Fn165⟩ := hQ165
    have ne_b101_kp165 : b101 ≠ kp165 := Nat.ne_of_lt (Nat.lt_of_lt_of_le f132.lt sb165)
    have ne_b108_kp165 : b108 ≠ kp165 := Nat.ne_of_lt (Nat.lt_of_lt_of_le f133.lt sb165)
    have ne_b117_kp165 : b117 ≠ kp165 := Nat.ne_of_lt (Nat.lt_of_lt_of_le f135.lt sb165)
    have f166 := f132.keep K165
    have f167 := f133.keep K165
    have f168 := f134.keep K165 (ninS ne_b108_b117 nin0)
    have f169 := f135.keep K165
    have z170 : n0 ≤ T165.heap.size := Nat.le_trans z137 K165.1
    have N165 := Fr.app N130 Nq165
    refine own_to (T' := T165) (g' := (mkF m 59 #[.val (.int p1), .val (.int p2), .val (.ref b101), .val (.ref b108), .val (.ref b117), .val (.ref tag), .val (.int (1 : Int32)), .val .null, .unset, .unset, .unset] [(.ref kp165)])) st165 ?_
    refine own_step (T' := T165) (g' := (mkF m 61 #[.val (.int p1), .val (.int p2), .val (.ref b101), .val (.ref b108), .val (.ref b117), .val (.ref tag), .val (.int (1 : Int32)), .val (.ref kp165), .unset, .unset, .unset] [])) (fun t_ k_ => XS.astore X165.here hx rfl (hb hby at_59) rfl rfl (l' := #[.val (.int p1), .val (.int p2), .val (.ref b101), .val (.ref b108), .val (.ref b117), .val (.ref tag), .val (.int (1 : Int32)), .val (.ref kp165), .unset, .unset, .unset]) rfl k_) ?_
    refine own_step (T' := T165) (g' := (mkF m 62 #[.val (.int p1), .val (.int p2), .val (.ref b101), .val (.ref b108), .val (.ref b117), .val (.ref tag), .val (.int (1 : Int32)), .val (.ref kp165), .unset, .unset, .unset] [(.ref b108)])) (fun t_ k_ => XS.aloadN X165.here hx rfl (hb hby at_61) rfl rfl k_) ?_
    obtain ⟨cq171, kq171, q171a, q171b, q171c⟩ := isOf hZ rfl f167
    obtain ⟨_, _, ⟨T171, L171, k171, n171⟩, -, X171, ⟨Lc171, hQ171, l171, y171, z171⟩, st171⟩ := X165.virtualBack hx (y := (⟨"com/example/rigger/rigger/container/DefinedMap", "kept", "()Lcom/example/rigger/rigger/container/Equality$Kept;"⟩ : MethodName)) (z := (⟨"com/example/rigger/rigger/container/DefinedMap", "kept", "()Lcom/example/rigger/rigger/container/Equality$Kept;"⟩ : MethodName)) hown (mvT hZ (hw _ (List.mem_of_getElem? (i := 58) rfl))) (mvT hZ (hw _ (List.mem_of_getElem? (i := 59) rfl))) (notFace_of_selects (args := #[]) (mvT hZ (hw _ (List.mem_of_getElem? (i := 61) rfl)))) (mvT hZ (hw _ (List.mem_of_getElem? (i := 61) rfl))) (mvT hZ (hw _ (List.mem_of_getElem? (i := 60) rfl))) (by decide) (backOf (W := 0) (rm_kept0 l Z a0 hw [] b108 T165.heap n0 z170 f168 f167 ge_b108) hZ (hw _ (List.mem_of_getElem? (i := 62) rfl)) (hw _ (List.mem_of_getElem? (i := 20) rfl)) (by decide) (by decide)) q171a q171c (g := (mkF m 62 #[.val (.int p1), .val (.int p2), .val (.ref b101), .val (.ref b108), .val (.ref b117), .val (.ref tag), .val (.int (1 : Int32)), .val (.ref kp165), .unset, .unset, .unset] [(.ref b108)])) rfl (by rw [hml]; rfl) (Steps.refl _) (argsL := []) (rest := []) (lenOf (by decide +kernel : parseMethodDescriptor "()Lcom/example/rigger/rigger/container/Equality$Kept;" = some ⟨[], some (.object "com/example/rigger/rigger/container/Equality$Kept")⟩) rfl) rfl (by show 2 * 0 + _ ≤ _; exact Nat.le_of_eq rfl) (hb hby at_62) (fun _ _ => ⟨rfl, rfl, (by decide : 7 + 1 ≤ _), (by decide : 29 + 4 ≤ _)⟩)
    dsimp only [Pt.U, Pt.locs, Pt.cells, Pt.slots] at X171 l171 y171 z171 st171 hQ171
    subst l171 y171 z171
    obtain ⟨kp171, rfl, Nq171, ge_kp171, sb171, K171, Ek171, Fk171, Fn171⟩ := hQ171
    have ne_b101_kp171 : b101 ≠ kp171 := Nat.ne_of_lt (Nat.lt_of_lt_of_le f166.lt sb171)
    have ne_b108_kp171 : b108 ≠ kp171 := Nat.ne_of_lt (Nat.lt_of_lt_of_le f167.lt sb171)
    have ne_b117_kp171 : b117 ≠ kp171 := Nat.ne_of_lt (Nat.lt_of_lt_of_le f169.lt sb171)
    have ne_kp165_kp171 : kp165 ≠ kp171 := Nat.ne_of_lt (Nat.lt_of_lt_of_le Ek165.lt sb171)
    have f172 := f166.keep K171
    have f173 := f167.keep K171
    have f174 := f169.keep K171
    have f175 := Ek165.keep K171
    have f176 := Fk165.keep K171 (ninS (Ne.symm ne_b108_b117) nin0)
    have f177 := Fn165.keep K171 (ninS (Ne.symm ne_b108_kp165) nin0)
    have z178 : n0 ≤ T171.heap.size := Nat.le_trans z170 K171.1
    have N171 := Fr.app N165 Nq171
    refine own_to (T' := T171) (g' := (mkF m 65 #[.val (.int p1), .val (.int p2), .val (.ref b101), .val (.ref b108), .val (.ref b117), .val (.ref tag), .val (.int (1 : Int32)), .val (.ref kp165), .unset, .unset, .unset] [(.ref kp171)])) st171 ?_
    refine own_step (T' := T171) (g' := (mkF m 67 #[.val (.int p1), .val (.int p2), .val (.ref b101), .val (.ref b108), .val (.ref b117), .val (.ref tag), .val (.int (1 : Int32)), .val (.ref kp165), .val (.ref kp171), .unset, .unset] [])) (fun t_ k_ => XS.astore X171.here hx rfl (hb hby at_65) rfl rfl (l' := #[.val (.int p1), .val (.int p2), .val (.ref b101), .val (.ref b108), .val (.ref b117), .val (.ref tag), .val (.int (1 : Int32)), .val (.ref kp165), .val (.ref kp171), .unset, .unset]) rfl k_) ?_
    refine own_step (T' := T171) (g' := (mkF m 69 #[.val (.int p1), .val (.int p2), .val (.ref b101), .val (.ref b108), .val (.ref b117), .val (.ref tag), .val (.int (1 : Int32)), .val (.ref kp165), .val (.ref kp171), .unset, .unset] [(.ref kp171)])) (fun t_ k_ => XS.aload X171.here hx rfl (hb hby at_67) rfl rfl k_) ?_
    refine own_step (T' := T171) (g' := (mkF m 74 #[.val (.int p1), .val (.int p2), .val (.ref b101), .val (.ref b108), .val (.ref b117), .val (.ref tag), .val (.int (1 : Int32)), .val (.ref kp165), .val (.ref kp171), .unset, .unset] [])) (fun t_ k_ => XS.ifnonnullYes X171.here hx rfl (pc0 := 69) (pc' := 74) rfl (hb hby at_69) rfl (by decide) (by decide) k_) ?_
    refine own_step (T' := T171) (g' := (mkF m 76 #[.val (.int p1), .val (.int p2), .val (.ref b101), .val (.ref b108), .val (.ref b117), .val (.ref tag), .val (.int (1 : Int32)), .val (.ref kp165), .val (.ref kp171), .unset, .unset] [(.ref kp171)])) (fun t_ k_ => XS.aload X171.here hx rfl (hb hby at_74) rfl rfl k_) ?_
    obtain ⟨cq179, kq179, q179a, q179b, q179c⟩ := isOf hZ rfl Ek171
    obtain ⟨_, _, ⟨T179, L179, k179, n179⟩, -, X179, ⟨Lc179, hQ179, l179, y179, z179⟩, st179⟩ := X171.virtualBack hx (y := (⟨"com/example/rigger/rigger/container/Equality$Kept", "numbered", "()Ljava/lang/Object;"⟩ : MethodName)) (z := (⟨"com/example/rigger/rigger/container/Equality$Kept", "numbered", "()Ljava/lang/Object;"⟩ : MethodName)) hown (mvT hZ (hw _ (List.mem_of_getElem? (i := 74) rfl))) (mvT hZ (hw _ (List.mem_of_getElem? (i := 75) rfl))) (notFace_of_selects (args := #[]) (mvT hZ (hw _ (List.mem_of_getElem? (i := 77) rfl)))) (mvT hZ (hw _ (List.mem_of_getElem? (i := 77) rfl))) (mvT hZ (hw _ (List.mem_of_getElem? (i := 76) rfl))) (by decide) (backOf (W := 0) (rm_num0 l Z a0 hw [] kp171 T171.heap n0 z178 Fn171) hZ (hw _ (List.mem_of_getElem? (i := 78) rfl)) (hw _ (List.mem_of_getElem? (i := 67) rfl)) (by decide) (by decide)) q179a q179c (g := (mkF m 76 #[.val (.int p1), .val (.int p2), .val (.ref b101), .val (.ref b108), .val (.ref b117), .val (.ref tag), .val (.int (1 : Int32)), .val (.ref kp165), .val (.ref kp171), .unset, .unset] [(.ref kp171)])) rfl (by rw [hml]; rfl) (Steps.refl _) (argsL := []) (rest := []) (lenOf (by decide +kernel : parseMethodDescriptor "()Ljava/lang/Object;" = some ⟨[], some (.object "java/lang/Object")⟩) rfl) rfl (by show 2 * 0 + _ ≤ _; exact Nat.le_of_eq rfl) (hb hby at_76) (fun _ _ => ⟨rfl, rfl, (by decide : 8 + 0 ≤ _), (by decide : 33 + 0 ≤ _)⟩)
    dsimp only [Pt.U, Pt.locs, Pt.cells, Pt.slots] at X179 l179 y179 z179 st179 hQ179
    subst l179 y179 z179
    obtain ⟨rfl, Nq179, e179⟩ := hQ179
    have N179 := Fr.app N171 Nq179
    refine own_to (T' := T179) (g' := (mkF m 79 #[.val (.int p1), .val (.int p2), .val (.ref b101), .val (.ref b108), .val (.ref b117), .val (.ref tag), .val (.int (1 : Int32)), .val (.ref kp165), .val (.ref kp171), .unset, .unset] [.null])) st179 ?_
    refine own_step (T' := T179) (g' := (mkF m 84 #[.val (.int p1), .val (.int p2), .val (.ref b101), .val (.ref b108), .val (.ref b117), .val (.ref tag), .val (.int (1 : Int32)), .val (.ref kp165), .val (.ref kp171), .unset, .unset] [])) (fun t_ k_ => XS.ifnullYes X179.here hx rfl (pc0 := 79) (pc' := 84) rfl (hb hby at_79) rfl (by decide) (by decide) k_) ?_
    refine own_step (T' := T179) (g' := (mkF m 86 #[.val (.int p1), .val (.int p2), .val (.ref b101), .val (.ref b108), .val (.ref b117), .val (.ref tag), .val (.int (1 : Int32)), .val (.ref kp165), .val (.ref kp171), .unset, .unset] [(.ref kp171)])) (fun t_ k_ => XS.aload X179.here hx rfl (hb hby at_84) rfl rfl k_) ?_
    refine own_step (T' := T179) (g' := (mkF m 88 #[.val (.int p1), .val (.int p2), .val (.ref b101), .val (.ref b108), .val (.ref b117), .val (.ref tag), .val (.int (1 : Int32)), .val (.ref kp165), .val (.ref kp171), .unset, .unset] [(.ref tag), (.ref kp171)])) (fun t_ k_ => XS.aload X179.here hx rfl (hb hby at_86) rfl rfl k_) ?_
    obtain ⟨cq180, kq180, q180a, q180b, q180c⟩ := isOf hZ e179 Ek171
    obtain ⟨_, _, ⟨T180, L180, k180, n180⟩, -, X180, ⟨Lc180, hQ180, l180, y180, z180⟩, st180⟩ := X179.virtualBack hx (y := (⟨"com/example/rigger/rigger/container/Equality$Kept", "keepNumbered", "(Ljava/lang/Object;)V"⟩ : MethodName)) (z := (⟨"com/example/rigger/rigger/container/Equality$Kept", "keepNumbered", "(Ljava/lang/Object;)V"⟩ : MethodName)) hown (mvT hZ (hw _ (List.mem_of_getElem? (i := 81) rfl))) (mvT hZ (hw _ (List.mem_of_getElem? (i := 82) rfl))) (notFace_of_selects (args := #[]) (mvT hZ (hw _ (List.mem_of_getElem? (i := 84) rfl)))) (mvT hZ (hw _ (List.mem_of_getElem? (i := 84) rfl))) (mvT hZ (hw _ (List.mem_of_getElem? (i := 83) rfl))) (by decide) (backOf (W := 0) (rm_keep l Z a0 hw [] kp171 tag T171.heap n0 z178 Fn171 Ek171 ge_kp171) hZ (hw _ (List.mem_of_getElem? (i := 85) rfl)) (hw _ (List.mem_of_getElem? (i := 67) rfl)) (by decide) (by decide)) q180a q180c (g := (mkF m 88 #[.val (.int p1), .val (.int p2), .val (.ref b101), .val (.ref b108), .val (.ref b117), .val (.ref tag), .val (.int (1 : Int32)), .val (.ref kp165), .val (.ref kp171), .unset, .unset] [(.ref tag), (.ref kp171)])) rfl (by rw [hml]; rfl) (Steps.refl _) (argsL := [(.ref tag)]) (rest := []) (lenOf (by decide +kernel : parseMethodDescriptor "(Ljava/lang/Object;)V" = some ⟨[(.object "java/lang/Object")], none⟩) rfl) rfl (by show 2 * 0 + _ ≤ _; exact Nat.le_of_eq rfl) (hb hby at_88) (fun _ _ => ⟨rfl, e179, (by decide : 8 + 0 ≤ _), (by decide : 33 + 0 ≤ _)⟩)
    dsimp only [Pt.U, Pt.locs, Pt.cells, Pt.slots] at X180 l180 y180 z180 st180 hQ180
    subst l180 y180 z180
    obtain ⟨rfl, Nq180, K180, Fn180⟩ := hQ180
    have f181 := f172.keep K180
    have f182 := f173.keep K180
    have f183 := f174.keep K180
    have f184 := f175.keep K180
    have f185 := f176.keep K180 (ninS ne_b117_kp171 nin0)
    have f186 := f177.keep K180 (ninS ne_kp165_kp171 nin0)
    have f187 := Ek171.keep K180
    have f188 := Fk171.keep K180 (ninS ne_b108_kp171 nin0)
    have z189 : n0 ≤ T180.heap.size := Nat.le_trans z178 K180.1
    have N180 := Fr.app N179 Nq180
    refine own_to (T' := T180) (g' := (mkF m 91 #[.val (.int p1), .val (.int p2), .val (.ref b101), .val (.ref b108), .val (.ref b117), .val (.ref tag), .val (.int (1 : Int32)), .val (.ref kp165), .val (.ref kp171), .unset, .unset] [])) st180 ?_
    refine own_step (T' := T180) (g' := (mkF m 92 #[.val (.int p1), .val (.int p2), .val (.ref b101), .val (.ref b108), .val (.ref b117), .val (.ref tag), .val (.int (1 : Int32)), .val (.ref kp165), .val (.ref kp171), .unset, .unset] [(.ref b108)])) (fun t_ k_ => XS.aloadN X180.here hx rfl (hb hby at_91) rfl rfl k_) ?_
    obtain ⟨cq190, kq190, q190a, q190b, q190c⟩ := isOf hZ rfl f182
    obtain ⟨_, _, ⟨T190, L190, k190, n190⟩, -, X190, ⟨Lc190, hQ190, l190, y190, z190⟩, st190⟩ := X180.virtualBack hx (y := (⟨"com/example/rigger/rigger/container/DefinedMap", "kept", "()Lcom/example/rigger/rigger/container/Equality$Kept;"⟩ : MethodName)) (z := (⟨"com/example/rigger/rigger/container/DefinedMap", "kept", "()Lcom/example/rigger/rigger/container/Equality$Kept;"⟩ : MethodName)) hown (mvT hZ (hw _ (List.mem_of_getElem? (i := 58) rfl))) (mvT hZ (hw _ (List.mem_of_getElem? (i := 59) rfl))) (notFace_of_selects (args := #[]) (mvT hZ (hw _ (List.mem_of_getElem? (i := 61) rfl)))) (mvT hZ (hw _ (List.mem_of_getElem? (i := 61) rfl))) (mvT hZ (hw _ (List.mem_of_getElem? (i := 60) rfl))) (by decide) (backOf (W := 0) (rm_kept1 l Z a0 hw [] b108 kp171 T180.heap n0 z189 f188) hZ (hw _ (List.mem_of_getElem? (i := 62) rfl)) (hw _ (List.mem_of_getElem? (i := 20) rfl)) (by decide) (by decide)) q190a q190c (g := (mkF m 92 #[.val (.int p1), .val (.int p2), .val (.ref b101), .val (.ref b108), .val (.ref b117), .val (.ref tag), .val (.int (1 : Int32)), .val (.ref kp165), .val (.ref kp171), .unset, .unset] [(.ref b108)])) rfl (by rw [hml]; rfl) (Steps.refl _) (argsL := []) (rest := []) (lenOf (by decide +kernel : parseMethodDescriptor "()Lcom/example/rigger/rigger/container/Equality$Kept;" = some ⟨[], some (.object "com/example/rigger/rigger/container/Equality$Kept")⟩) rfl) rfl (by show 2 * 0 + _ ≤ _; exact Nat.le_of_eq rfl) (hb hby at_92) (fun _ _ => ⟨rfl, rfl, (by decide : 8 + 1 ≤ _), (by decide : 33 + 4 ≤ _)⟩)
    dsimp only [Pt.U, Pt.locs, Pt.cells, Pt.slots] at X190 l190 y190 z190 st190 hQ190
    subst l190 y190 z190
    obtain ⟨rfl, Nq190, e190⟩ := hQ190
    have N190 := Fr.app N180 Nq190
    refine own_to (T' := T190) (g' := (mkF m 95 #[.val (.int p1), .val (.int p2), .val (.ref b101), .val (.ref b108), .val (.ref b117), .val (.ref tag), .val (.int (1 : Int32)), .val (.ref kp165), .val (.ref kp171), .unset, .unset] [(.ref kp171)])) st190 ?_
    refine own_step (T' := T190) (g' := (mkF m 97 #[.val (.int p1), .val (.int p2), .val (.ref b101), .val (.ref b108), .val (.ref b117), .val (.ref tag), .val (.int (1 : Int32)), .val (.ref kp165), .val (.ref kp171), .val (.ref kp171), .unset] [])) (fun t_ k_ => XS.astore X190.here hx rfl (hb hby at_95) rfl rfl (l' := #[.val (.int p1), .val (.int p2), .val (.ref b101), .val (.ref b108), .val (.ref b117), .val (.ref tag), .val (.int (1 : Int32)), .val (.ref kp165), .val (.ref kp171), .val (.ref kp171), .unset]) rfl k_) ?_
    refine own_step (T' := T190) (g' := (mkF m 99 #[.val (.int p1), .val (.int p2), .val (.ref b101), .val (.ref b108), .val (.ref b117), .val (.ref tag), .val (.int (1 : Int32)), .val (.ref kp165), .val (.ref kp171), .val (.ref kp171), .unset] [(.ref kp171)])) (fun t_ k_ => XS.aload X190.here hx rfl (hb hby at_97) rfl rfl k_) ?_
    refine own_step (T' := T190) (g' := (mkF m 101 #[.val (.int p1), .val (.int p2), .val (.ref b101), .val (.ref b108), .val (.ref b117), .val (.ref tag), .val (.int (1 : Int32)), .val (.ref kp165), .val (.ref kp171), .val (.ref kp171), .unset] [(.ref kp171), (.ref kp171)])) (fun t_ k_ => XS.aload X190.here hx rfl (hb hby at_99) rfl rfl k_) ?_
    refine own_step (T' := T190) (g' := (mkF m 106 #[.val (.int p1), .val (.int p2), .val (.ref b101), .val (.ref b108), .val (.ref b117), .val (.ref tag), .val (.int (1 : Int32)), .val (.ref kp165), .val (.ref kp171), .val (.ref kp171), .unset] [])) (fun t_ k_ => Jvm.RoadKit.acmp (g := (mkF m 101 #[.val (.int p1), .val (.int p2), .val (.ref b101), .val (.ref b108), .val (.ref b117), .val (.ref tag), .val (.int (1 : Int32)), .val (.ref kp165), .val (.ref kp171), .val (.ref kp171), .unset] [(.ref kp171), (.ref kp171)])) X190 hx rfl rfl rfl (pc0 := 101) (pc' := 106) (same := true) rfl (hb hby at_101) rfl (decide_eq_true rfl) (by decide) (by decide) k_) ?_
    refine own_step (T' := T190) (g' := (mkF m 108 #[.val (.int p1), .val (.int p2), .val (.ref b101), .val (.ref b108), .val (.ref b117), .val (.ref tag), .val (.int (1 : Int32)), .val (.ref kp165), .val (.ref kp171), .val (.ref kp171), .unset] [(.ref kp171)])) (fun t_ k_ => XS.aload X190.here hx rfl (hb hby at_106) rfl rfl k_) ?_
    obtain ⟨cq191, kq191, q191a, q191b, q191c⟩ := isOf hZ e190 f187
    obtain ⟨_, _, ⟨T191, L191, k191, n191⟩, -, X191, ⟨Lc191, hQ191, l191, y191, z191⟩, st191⟩ := X190.virtualBack hx (y := (⟨"com/example/rigger/rigger/container/Equality$Kept", "numbered", "()Ljava/lang/Object;"⟩ : MethodName)) (z := (⟨"com/example/rigger/rigger/container/Equality$Kept", "numbered", "()Ljava/lang/Object;"⟩ : MethodName)) hown (mvT hZ (hw _ (List.mem_of_getElem? (i := 74) rfl))) (mvT hZ (hw _ (List.mem_of_getElem? (i := 75) rfl))) (notFace_of_selects (args := #[]) (mvT hZ (hw _ (List.mem_of_getElem? (i := 77) rfl)))) (mvT hZ (hw _ (List.mem_of_getElem? (i := 77) rfl))) (mvT hZ (hw _ (List.mem_of_getElem? (i := 76) rfl))) (by decide) (backOf (W := 0) (rm_num1 l Z a0 hw [] kp171 tag T180.heap n0 z189 Fn180) hZ (hw _ (List.mem_of_getElem? (i := 78) rfl)) (hw _ (List.mem_of_getElem? (i := 67) rfl)) (by decide) (by decide)) q191a q191c (g := (mkF m 108 #[.val (.int p1), .val (.int p2), .val (.ref b101), .val (.ref b108), .val (.ref b117), .val (.ref tag), .val (.int (1 : Int32)), .val (.ref kp165), .val (.ref kp171), .val (.ref kp171), .unset] [(.ref kp171)])) rfl (by rw [hml]; rfl) (Steps.refl _) (argsL := []) (rest := []) (lenOf (by decide +kernel : parseMethodDescriptor "()Ljava/lang/Object;" = some ⟨[], some (.object "java/lang/Object")⟩) rfl) rfl (by show 2 * 0 + _ ≤ _; exact Nat.le_of_eq rfl) (hb hby at_108) (fun _ _ => ⟨rfl, e190, (by decide : 9 + 0 ≤ _), (by decide : 37 + 0 ≤ _)⟩)
    dsimp only [Pt.U, Pt.locs, Pt.cells, Pt.slots] at X191 l191 y191 z191 st191 hQ191
    subst l191 y191 z191
    obtain ⟨rfl, Nq191, e191⟩ := hQ191
    have N191 := Fr.app N190 Nq191
    refine own_to (T' := T191) (g' := (mkF m 111 #[.val (.int p1), .val (.int p2), .val (.ref b101), .val (.ref b108), .val (.ref b117), .val (.ref tag), .val (.int (1 : Int32)), .val (.ref kp165), .val (.ref kp171), .val (.ref kp171), .unset] [(.ref tag)])) st191 ?_
    refine own_step (T' := T191) (g' := (mkF m 113 #[.val (.int p1), .val (.int p2), .val (.ref b101), .val (.ref b108), .val (.ref b117), .val (.ref tag), .val (.int (1 : Int32)), .val (.ref kp165), .val (.ref kp171), .val (.ref kp171), .unset] [(.ref tag), (.ref tag)])) (fun t_ k_ => XS.aload X191.here hx rfl (hb hby at_111) rfl rfl k_) ?_
    refine own_step (T' := T191) (g' := (mkF m 118 #[.val (.int p1), .val (.int p2), .val (.ref b101), .val (.ref b108), .val (.ref b117), .val (.ref tag), .val (.int (1 : Int32)), .val (.ref kp165), .val (.ref kp171), .val (.ref kp171), .unset] [])) (fun t_ k_ => Jvm.RoadKit.acmp (g := (mkF m 113 #[.val (.int p1), .val (.int p2), .val (.ref b101), .val (.ref b108), .val (.ref b117), .val (.ref tag), .val (.int (1 : Int32)), .val (.ref kp165), .val (.ref kp171), .val (.ref kp171), .unset] [(.ref tag), (.ref tag)])) X191 hx rfl rfl rfl (pc0 := 113) (pc' := 118) (same := true) rfl (hb hby at_113) rfl (decide_eq_true rfl) (by decide) (by decide) k_) ?_
    refine own_step (T' := T191) (g' := (mkF m 120 #[.val (.int p1), .val (.int p2), .val (.ref b101), .val (.ref b108), .val (.ref b117), .val (.ref tag), .val (.int (1 : Int32)), .val (.ref kp165), .val (.ref kp171), .val (.ref kp171), .unset] [(.ref b117)])) (fun t_ k_ => XS.aload X191.here hx rfl (hb hby at_118) rfl rfl k_) ?_
    obtain ⟨cq192, kq192, q192a, q192b, q192c⟩ := isOf hZ e191 f183
    obtain ⟨_, _, ⟨T192, L192, k192, n192⟩, -, X192, ⟨Lc192, hQ192, l192, y192, z192⟩, st192⟩ := X191.virtualBack hx (y := (⟨"com/example/rigger/rigger/container/DefinedMap", "kept", "()Lcom/example/rigger/rigger/container/Equality$Kept;"⟩ : MethodName)) (z := (⟨"com/example/rigger/rigger/container/DefinedMap", "kept", "()Lcom/example/rigger/rigger/container/Equality$Kept;"⟩ : MethodName)) hown (mvT hZ (hw _ (List.mem_of_getElem? (i := 58) rfl))) (mvT hZ (hw _ (List.mem_of_getElem? (i := 59) rfl))) (notFace_of_selects (args := #[]) (mvT hZ (hw _ (List.mem_of_getElem? (i := 61) rfl)))) (mvT hZ (hw _ (List.mem_of_getElem? (i := 61) rfl))) (mvT hZ (hw _ (List.mem_of_getElem? (i := 60) rfl))) (by decide) (backOf (W := 0) (rm_kept1 l Z a0 hw [] b117 kp165 T180.heap n0 z189 f185) hZ (hw _ (List.mem_of_getElem? (i := 62) rfl)) (hw _ (List.mem_of_getElem? (i := 20) rfl)) (by decide) (by decide)) q192a q192c (g := (mkF m 120 #[.val (.int p1), .val (.int p2), .val (.ref b101), .val (.ref b108), .val (.ref b117), .val (.ref tag), .val (.int (1 : Int32)), .val (.ref kp165), .val (.ref kp171), .val (.ref kp171), .unset] [(.ref b117)])) rfl (by rw [hml]; rfl) (Steps.refl _) (argsL := []) (rest := []) (lenOf (by decide +kernel : parseMethodDescriptor "()Lcom/example/rigger/rigger/container/Equality$Kept;" = some ⟨[], some (.object "com/example/rigger/rigger/container/Equality$Kept")⟩) rfl) rfl (by show 2 * 0 + _ ≤ _; exact Nat.le_of_eq rfl) (hb hby at_120) (fun _ _ => ⟨rfl, e191, (by decide : 9 + 1 ≤ _), (by decide : 37 + 4 ≤ _)⟩)
    dsimp only [Pt.U, Pt.locs, Pt.cells, Pt.slots] at X192 l192 y192 z192 st192 hQ192
    subst l192 y192 z192
    obtain ⟨rfl, Nq192, e192⟩ := hQ192
    have N192 := Fr.app N191 Nq192
    refine own_to (T' := T192) (g' := (mkF m 123 #[.val (.int p1), .val (.int p2), .val (.ref b101), .val (.ref b108), .val (.ref b117), .val (.ref tag), .val (.int (1 : Int32)), .val (.ref kp165), .val (.ref kp171), .val (.ref kp171), .unset] [(.ref kp165)])) st192 ?_
    refine own_step (T' := T192) (g' := (mkF m 125 #[.val (.int p1), .val (.int p2), .val (.ref b101), .val (.ref b108), .val (.ref b117), .val (.ref tag), .val (.int (1 : Int32)), .val (.ref kp165), .val (.ref kp171), .val (.ref kp171), .val (.ref kp165)] [])) (fun t_ k_ => XS.astore X192.here hx rfl (hb hby at_123) rfl rfl (l' := #[.val (.int p1), .val (.int p2), .val (.ref b101), .val (.ref b108), .val (.ref b117), .val (.ref tag), .val (.int (1 : Int32)), .val (.ref kp165), .val (.ref kp171), .val (.ref kp171), .val (.ref kp165)]) rfl k_) ?_
    refine own_step (T' := T192) (g' := (mkF m 127 #[.val (.int p1), .val (.int p2), .val (.ref b101), .val (.ref b108), .val (.ref b117), .val (.ref tag), .val (.int (1 : Int32)), .val (.ref kp165), .val (.ref kp171), .val (.ref kp171), .val (.ref kp165)] [(.ref kp165)])) (fun t_ k_ => XS.aload X192.here hx rfl (hb hby at_125) rfl rfl k_) ?_
    refine own_step (T' := T192) (g' := (mkF m 130 #[.val (.int p1), .val (.int p2), .val (.ref b101), .val (.ref b108), .val (.ref b117), .val (.ref tag), .val (.int (1 : Int32)), .val (.ref kp165), .val (.ref kp171), .val (.ref kp171), .val (.ref kp165)] [])) (fun t_ k_ => XS.ifnullNo X192.here hx rfl (hb hby at_127) rfl k_) ?_
    refine own_step (T' := T192) (g' := (mkF m 132 #[.val (.int p1), .val (.int p2), .val (.ref b101), .val (.ref b108), .val (.ref b117), .val (.ref tag), .val (.int (1 : Int32)), .val (.ref kp165), .val (.ref kp171), .val (.ref kp171), .val (.ref kp165)] [(.ref kp165)])) (fun t_ k_ => XS.aload X192.here hx rfl (hb hby at_130) rfl rfl k_) ?_
    refine own_step (T' := T192) (g' := (mkF m 134 #[.val (.int p1), .val (.int p2), .val (.ref b101), .val (.ref b108), .val (.ref b117), .val (.ref tag), .val (.int (1 : Int32)), .val (.ref kp165), .val (.ref kp171), .val (.ref kp171), .val (.ref kp165)] [(.ref kp171), (.ref kp165)])) (fun t_ k_ => XS.aload X192.here hx rfl (hb hby at_132) rfl rfl k_) ?_
    refine own_step (T' := T192) (g' := (mkF m 139 #[.val (.int p1), .val (.int p2), .val (.ref b101), .val (.ref b108), .val (.ref b117), .val (.ref tag), .val (.int (1 : Int32)), .val (.ref kp165), .val (.ref kp171), .val (.ref kp171), .val (.ref kp165)] [])) (fun t_ k_ => Jvm.RoadKit.acmp (g := (mkF m 134 #[.val (.int p1), .val (.int p2), .val (.ref b101), .val (.ref b108), .val (.ref b117), .val (.ref tag), .val (.int (1 : Int32)), .val (.ref kp165), .val (.ref kp171), .val (.ref kp171), .val (.ref kp165)] [(.ref kp171), (.ref kp165)])) X192 hx rfl rfl rfl (pc0 := 134) (pc' := 139) (same := false) rfl (hb hby at_134) rfl (decide_eq_false fun q => ne_kp165_kp171 (Value.ref.inj q)) (by decide) (by decide) k_) ?_
    refine own_step (T' := T192) (g' := (mkF m 141 #[.val (.int p1), .val (.int p2), .val (.ref b101), .val (.ref b108), .val (.ref b117), .val (.ref tag), .val (.int (1 : Int32)), .val (.ref kp165), .val (.ref kp171), .val (.ref kp171), .val (.ref kp165)] [(.int (1 : Int32))])) (fun t_ k_ => XS.iload X192.here hx rfl (hb hby at_139) rfl k_) ?_
    refine own_step (T' := T192) (g' := (mkF m 144 #[.val (.int p1), .val (.int p2), .val (.ref b101), .val (.ref b108), .val (.ref b117), .val (.ref tag), .val (.int (1 : Int32)), .val (.ref kp165), .val (.ref kp171), .val (.ref kp171), .val (.ref kp165)] [])) (fun t_ k_ => XS.ifNo X192.here hx rfl (hb hby at_141) rfl ((if0 _ _).trans (feq (by decide)).1) k_) ?_
    refine own_step (T' := T192) (g' := (mkF m 146 #[.val (.int p1), .val (.int p2), .val (.ref b101), .val (.ref b108), .val (.ref b117), .val (.ref tag), .val (.int (1 : Int32)), .val (.ref kp165), .val (.ref kp171), .val (.ref kp171), .val (.ref kp165)] [(.ref kp165)])) (fun t_ k_ => XS.aload X192.here hx rfl (hb hby at_144) rfl rfl k_) ?_
    refine own_step (T' := T192) (g' := (mkF m 148 #[.val (.int p1), .val (.int p2), .val (.ref b101), .val (.ref b108), .val (.ref b117), .val (.ref tag), .val (.int (1 : Int32)), .val (.ref kp165), .val (.ref kp171), .val (.ref kp171), .val (.ref kp165)] [(.ref kp165), (.ref kp165)])) (fun t_ k_ => XS.aload X192.here hx rfl (hb hby at_146) rfl rfl k_) ?_
    refine own_step (T' := T192) (g' := (mkF m 153 #[.val (.int p1), .val (.int p2), .val (.ref b101), .val (.ref b108), .val (.ref b117), .val (.ref tag), .val (.int (1 : Int32)), .val (.ref kp165), .val (.ref kp171), .val (.ref kp171), .val (.ref kp165)] [])) (fun t_ k_ => Jvm.RoadKit.acmp (g := (mkF m 148 #[.val (.int p1), .val (.int p2), .val (.ref b101), .val (.ref b108), .val (.ref b117), .val (.ref tag), .val (.int (1 : Int32)), .val (.ref kp165), .val (.ref kp171), .val (.ref kp171), .val (.ref kp165)] [(.ref kp165), (.ref kp165)])) X192 hx rfl rfl rfl (pc0 := 148) (pc' := 153) (same := true) rfl (hb hby at_148) rfl (decide_eq_true rfl) (by decide) (by decide) k_) ?_
    refine own_step (T' := T192) (g' := (mkF m 155 #[.val (.int p1), .val (.int p2), .val (.ref b101), .val (.ref b108), .val (.ref b117), .val (.ref tag), .val (.int (1 : Int32)), .val (.ref kp165), .val (.ref kp171), .val (.ref kp171), .val (.ref kp165)] [(.ref kp165)])) (fun t_ k_ => XS.aload X192.here hx rfl (hb hby at_153) rfl rfl k_) ?_
    obtain ⟨cq193, kq193, q193a, q193b, q193c⟩ := isOf hZ e192 f184
    obtain ⟨_, _, ⟨T193, L193, k193, n193⟩, -, X193, ⟨Lc193, hQ193, l193, y193, z193⟩, st193⟩ := X192.virtualBack hx (y := (⟨"com/example/rigger/rigger/container/Equality$Kept", "numbered", "()Ljava/lang/Object;"⟩ : MethodName)) (z := (⟨"com/example/rigger/rigger/container/Equality$Kept", "numbered", "()Ljava/lang/Object;"⟩ : MethodName)) hown (mvT hZ (hw _ (List.mem_of_getElem? (i := 74) rfl))) (mvT hZ (hw _ (List.mem_of_getElem? (i := 75) rfl))) (notFace_of_selects (args := #[]) (mvT hZ (hw _ (List.mem_of_getElem? (i := 77) rfl)))) (mvT hZ (hw _ (List.mem_of_getElem? (i := 77) rfl))) (mvT hZ (hw _ (List.mem_of_getElem? (i := 76) rfl))) (by decide) (backOf (W := 0) (rm_num0 l Z a0 hw [] kp165 T180.heap n0 z189 f186) hZ (hw _ (List.mem_of_getElem? (i := 78) rfl)) (hw _ (List.mem_of_getElem? (i := 67) rfl)) (by decide) (by decide)) q193a q193c (g := (mkF m 155 #[.val (.int p1), .val (.int p2), .val (.ref b101), .val (.ref b108), .val (.ref b117), .val (.ref tag), .val (.int (1 : Int32)), .val (.ref kp165), .val (.ref kp171), .val (.ref kp171), .val (.ref kp165)] [(.ref kp165)])) rfl (by rw [hml]; rfl) (Steps.refl _) (argsL := []) (rest := []) (lenOf (by decide +kernel : parseMethodDescriptor "()Ljava/lang/Object;" = some ⟨[], some (.object "java/lang/Object")⟩) rfl) rfl (by show 2 * 0 + _ ≤ _; exact Nat.le_of_eq rfl) (hb hby at_155) (fun _ _ => ⟨rfl, e192, (by decide : 10 + 0 ≤ _), (by decide : 41 + 0 ≤ _)⟩)
    dsimp only [Pt.U, Pt.locs, Pt.cells, Pt.slots] at X193 l193 y193 z193 st193 hQ193
    subst l193 y193 z193
    obtain ⟨rfl, Nq193, e193⟩ := hQ193
    have N193 := Fr.app N192 Nq193
    refine own_to (T' := T193) (g' := (mkF m 158 #[.val (.int p1), .val (.int p2), .val (.ref b101), .val (.ref b108), .val (.ref b117), .val (.ref tag), .val (.int (1 : Int32)), .val (.ref kp165), .val (.ref kp171), .val (.ref kp171), .val (.ref kp165)] [.null])) st193 ?_
    refine own_step (T' := T193) (g' := (mkF m 161 #[.val (.int p1), .val (.int p2), .val (.ref b101), .val (.ref b108), .val (.ref b117), .val (.ref tag), .val (.int (1 : Int32)), .val (.ref kp165), .val (.ref kp171), .val (.ref kp171), .val (.ref kp165)] [])) (fun t_ k_ => XS.ifnonnullNo X193.here hx rfl (hb hby at_158) rfl k_) ?_
    refine own_step (T' := T193) (g' := (mkF m 162 #[.val (.int p1), .val (.int p2), .val (.ref b101), .val (.ref b108), .val (.ref b117), .val (.ref tag), .val (.int (1 : Int32)), .val (.ref kp165), .val (.ref kp171), .val (.ref kp171), .val (.ref kp165)] [(.int (1 : Int32))])) (fun t_ k_ => XS.iconst X193.here hx rfl (hb hby at_161) k_) ?_
    refine own_step (T' := T193) (g' := (mkF m 166 #[.val (.int p1), .val (.int p2), .val (.ref b101), .val (.ref b108), .val (.ref b117), .val (.ref tag), .val (.int (1 : Int32)), .val (.ref kp165), .val (.ref kp171), .val (.ref kp171), .val (.ref kp165)] [(.int (1 : Int32))])) (fun t_ k_ => XS.goto X193.here hx rfl (pc0 := 162) (pc' := 166) rfl (hb hby at_162) (by decide) (by decide) k_) ?_
    obtain ⟨fs, hrR, hrun, hended, hWW, hsame⟩ := X193.leave (v := some (.int (1 : Int32))) (fun h => by rw [Bd.returns] at h; cases h)
    refine ⟨_, _, own_retZ X193 hx (t := .boolean) Bd.returns (by simp) (by decide) (hb hby at_166) hrR, hrun, hended, hPP _ _ ⟨_, _, rfl, ?_, ⟨_, rfl⟩, hWW, hsame.mono (by decide) (by decide)⟩⟩
    show Q0 n0 _ T193.heap _
    rw [e193]
    exact ⟨rfl, N193⟩
set_option maxRecDepth 65536 in
set_option maxHeartbeats 40000000 in
theorem comes_1 {Post : Tables → Env → Array Value → State → Outcome → State → Prop} (hpost : ∀ tb e args s v u, (limb_1_1.after args s (.returned v) u = true ∧ limb_1_2.after args s (.returned v) u = true ∧ True) → FrameEnd s (.returned v) u (Jvm.fieldLocs frame_1_writes args s ++ Jvm.arrayLocs frame_1_arrays args s ++ Jvm.staticLocs frame_1_statics s) 24 192 → Post tb e args s (.returned v) u) :
    ArmFor flags0 classFile x code maxLocals ret World_1 tables_1 room_1 Calls_1 rest_1 Pre_1 Post := by
  intro l hfl _ _ p e ha hc hk s m args below hf hA hF happ hP
  obtain ⟨hcalls, hrest, hpre⟩ := hP
  obtain ⟨-, -, -, hnamed, -, -, -, hat⟩ := (Spec.applies_iff hf).mp happ
  obtain ⟨hg, hn⟩ := and_e (Cond.before_iff.mp (show (Jvm.Cond.and given_1 narrow_1).before args s = true from hpre))
  obtain ⟨hcount, hq0⟩ := and_e hg
  obtain ⟨ha0, hq1⟩ := and_e hq0
  obtain ⟨w0, w1, rfl⟩ : ∃ w0 w1 : Value, args = #[w0, w1] := by
    have hs : args.size = 2 := by simpa [Cond.value, given_1] using hcount
    obtain ⟨L⟩ := args
    match L, hs with
    | [w0, w1], _ => exact ⟨w0, w1, rfl⟩
  have hw := fun d (hd : d ∈ tables_1) => atoms_spec (ws := Jvm.Cond.code x code maxLocals ret :: tables_1) hat d (List.mem_cons_of_mem _ hd)
  have hfit : Fit s := fun {y c} hc i hi => by
    obtain ⟨ha, rfl⟩ := Array.getElem?_eq_some_iff.mp hc
    have q := List.all_eq_true.mp ((Array.all_eq_true_iff_forall_mem.mp hF) _ (Array.getElem_mem ha)) i (List.mem_range.mpr hi)
    simpa [Array.getElem?_eq_getElem hi] using q
  obtain ⟨hsets, hown0⟩ := atoms_of _ (rest_1_c_eq ▸ (show rest_1_c.before _ s = true from hrest))
  obtain ⟨i0, ei0⟩ := is_v ha0
  obtain rfl : w0 = (.int i0) := Option.some.inj ei0
  obtain ⟨i1, ei1⟩ := is_v hq1
  obtain rfl : w1 = (.int i1) := Option.some.inj ei1
  obtain ⟨MH, MU, -⟩ := hcalls
  have hv1 := own_eqI (Cond.before_iff.mp (hsets _ (List.mem_of_getElem? (i := 3) rfl)))
  have S1 : Sta s s.heap "java/lang/Integer$IntegerCache" "high" "I" (.int (127 : Int32)) := Sta.start hv1 (Or.inl (hsets _ (List.mem_of_getElem? (i := 1) rfl)))
  obtain ⟨ca, ev0⟩ := arr_v (Cond.before_iff.mp (hsets _ (List.mem_of_getElem? (i := 4) rfl)))
  obtain ⟨cc, Ar⟩ := Arr.start ev0 (Cond.before_iff.mp (hsets _ (List.mem_of_getElem? (i := 4) rfl)))
  have ev : ∀ idx, (Term.static "java/lang/Integer$IntegerCache" "cache" "[Ljava/lang/Integer;").eval #[.int i0, .int i1] s none idx s = some (.ref ca) := fun idx => ev0
  have S2 : Sta s s.heap "java/lang/Integer$IntegerCache" "cache" "[Ljava/lang/Integer;" (.ref ca) := Sta.start ev0 (Or.inr ⟨(hw _ (List.mem_of_getElem? (i := 56) rfl)), (hsets _ (List.mem_of_getElem? (i := 2) rfl))⟩)
  have hat1 : s.arrayAt? ca = some cc := IntBox.arrayAt_of Ar.1 Ar.2.1 Ar.2.2
  have hsz : cc.slots.size = 256 := own_size ev0 hat1 (own_eqI (Cond.before_iff.mp (hsets _ (List.mem_of_getElem? (i := 6) rfl)))) rfl
  have Sz : cc.slots.size = (256 : Int32).toNatClampNeg := hsz
  have el : ∀ j : Int32, ¬ j < 0 → j < 256 → ∃ r, cc.slots[j.toNatClampNeg]? = some (.ref r) := by
    intro j h1 h2
    have h3 : j.toNatClampNeg < 256 := by
      have q := nat_of h1
      rw [Int32.lt_iff_toInt_lt, q] at h2
      have : ((256 : Int32).toInt) = 256 := rfl
      omega
    have h := own_all ev0 hat1 (Cond.before_iff.mp (hsets _ (List.mem_of_getElem? (i := 7) rfl))) j.toNatClampNeg (by rw [hsz]; exact h3)
    obtain ⟨r, hr⟩ := exa_v (and_e h).1
    exact ⟨r, (elem_in hr (ev _) (idx_at h1) Ar.1).2⟩
  obtain ⟨n, o, h1, h2, h3, _, L, rfl, ⟨rfl, N⟩, hq⟩ := rm0 l s _ hw tables_1 i0 i1 ca cc s.heap s.heap.size (Nat.le_refl _) (Old.start s) S1 S2 Ar Sz el MH MU p e ha hc hk s m _ below hf ((Spec.applies_iff_loose hf).mp happ).1 ⟨rfl, State.Warmed39.refl s, rfl⟩ trivial
  exact ⟨n, _, h1, h2, h3, hpost _ _ _ _ _ _ ⟨Cond.after_iff.mpr rfl, Cond.after_iff.mpr (eq_i res_at (Term.int_eval (1)) rfl), trivial⟩ ⟨hq.1, hq.2.1, (hq.2.2.sift fun y hy => Or.inr (N y hy)).mono (by decide) (by decide)⟩⟩
theorem main_1_1 : Claimed_1_1 := comes_1 fun _ _ _ _ _ _ h hF => ⟨h.1, hF⟩
theorem main_1_2 : Claimed_1_2 := comes_1 fun _ _ _ _ _ _ h hF => ⟨h.2.1, hF⟩
end Jvm.Pilot.@@N@@
namespace Jvm.Pilot.@@N@@
open Jvm Jvm.ClassFile Sem Op Lib Jvm.Free Jvm.Stand Jvm.Pilot.@@N@@.Jvm.D
/-! MADE BY PROGRAM (witnessworld.py) out of the Statement's table words and the real class files: 23 classes; the members and pool entries that the words name. The judged class is class 1, her method 1. -/
namespace start1
open Jvm.ClassFile
def u (s : String) : CpInfo := .utf8 (stringToUtf16 s)
/-- a pool by its gaps: so many unusable entries, then the entry; so many at the end -/
def gap : Nat → List CpInfo → List CpInfo
  | 0, r => r
  | n + 1, r => .unusable :: gap n r
def poolList (es : List (Nat × CpInfo)) (last : Nat) : List CpInfo := es.foldr (fun e r => gap e.1 (e.2 :: r)) (gap last [])
def pool (es : List (Nat × CpInfo)) (last : Nat) : Array CpInfo := ⟨poolList es last⟩
def fileOf (pool : Array CpInfo) (this : Nat) (attrs : Array Attribute := #[]) (ms : Array MethodInfo := #[]) (fl : Nat := 33) (sup : Nat := 0) (ifs : Array Nat := #[]) (fds : Array FieldInfo := #[]) : ClassFile where
  minorVersion := 0
  majorVersion := 65
  constantPool := pool
  accessFlags := fl
  thisClass := this
  superClass := sup
  interfaces := ifs
  fields := fds
  methods := ms
  attributes := attrs
def plain (name : String) (sup : Option ClassId) : Class where
  name := name
  kind := .ordinary
  loader := none
  accessFlags := 33
  super := sup
  interfaces := #[]
  cf := none
  fields := #[]
  methods := #[]
  instanceTypes := #[]
  staticTypes := #[]
  resolved := #[]
  callSites := []
  init := .initialized
  statics := none
  mirror := none

def pool0 : Array CpInfo := pool [(5, u "<init>"), (0, u "()V"), (1, .class_ 10), (1, u "java/lang/Object"), (0, u "getClass"), (0, u "()Ljava/lang/Class;")] 111

def k0c0 : Code := { maxStack := 0, maxLocals := 1, code := object_method_1_code, exceptionTable := #[], attributes := #[] }
def k0m0 : Method := { name := "<init>", desc := "()V", sig := { parameters := [], returnType := none }, accessFlags := 1, code := some k0c0 }
def k0m1 : Method := { name := "getClass", desc := "()Ljava/lang/Class;", sig := { parameters := [], returnType := some (.object "java/lang/Class") }, accessFlags := 273, code := none }
/-- java/lang/Object -/
def k0 : Class := { plain "java/lang/Object" none with
  accessFlags := 33
  interfaces := #[]
  cf := some (fileOf pool0 8 #[] #[{ accessFlags := 1, nameIndex := 5, descriptorIndex := 6, attributes := #[] }, { accessFlags := 273, nameIndex := 11, descriptorIndex := 12, attributes := #[] }] 33 0 #[] #[])
  fields := #[]
  methods := #[k0m0, k0m1]
  instanceTypes := #[]
  staticTypes := #[]
  resolved := Array.replicate 124 none
  statics := none }

def pool1 : Array CpInfo := pool [(2, .class_ 4), (0, .nameAndType 5 6), (0, u "java/lang/Object"), (0, u "<init>"), (0, u "()V"), (0, .class_ 8), (0, u "java/util/HashMap"), (0, .methodref 7 3), (0, .class_ 11), (0, u "com/example/rigger/rigger/container/DefinedMap"), (0, .methodref 10 13), (0, .nameAndType 5 14), (0, u "(Ljava/util/Map;)V"), (0, .methodref 16 17), (0, .class_ 18), (0, .nameAndType 19 20), (0, u "java/lang/Integer"), (0, u "valueOf"), (0, u "(I)Ljava/lang/Integer;"), (0, .methodref 10 22), (0, .nameAndType 23 24), (0, u "kept"), (0, u "()Lcom/example/rigger/rigger/container/Equality$Kept;"), (0, .methodref 26 27), (0, .class_ 28), (0, .nameAndType 29 30), (0, u "com/example/rigger/rigger/container/Equality$Kept"), (0, u "numbered"), (0, u "()Ljava/lang/Object;"), (0, .methodref 26 32), (0, .nameAndType 33 34), (0, u "keepNumbered"), (0, u "(Ljava/lang/Object;)V"), (0, .class_ 36), (0, u "com/example/rigger/rigger/container/DefinedMapKeptPinLaw"), (2, u "law"), (0, u "(II)Z")] 7

def k1m0 : Method := { name := "<init>", desc := "()V", sig := { parameters := [], returnType := none }, accessFlags := 1, code := none }
def k1c1 : Code := { maxStack := 3, maxLocals := 11, code := code, exceptionTable := #[], attributes := #[] }
def k1m1 : Method := { name := "law", desc := "(II)Z", sig := { parameters := [.int, .int], returnType := some .boolean }, accessFlags := 9, code := some k1c1 }
/-- com/example/rigger/rigger/container/DefinedMapKeptPinLaw -/
def k1 : Class := { plain "com/example/rigger/rigger/container/DefinedMapKeptPinLaw" (some 0) with
  accessFlags := 49
  interfaces := #[]
  cf := some (fileOf pool1 35 #[] #[{ accessFlags := 1, nameIndex := 5, descriptorIndex := 6, attributes := #[] }, { accessFlags := 9, nameIndex := 39, descriptorIndex := 40, attributes := #[] }] 49 2 #[] #[])
  fields := #[]
  methods := #[k1m0, k1m1]
  instanceTypes := #[]
  staticTypes := #[]
  resolved := Array.replicate 48 none
  statics := none }

def pool2 : Array CpInfo := pool [(2, .class_ 4), (1, u "java/util/Map"), (31, .class_ 37), (0, u "java/util/Map$Entry"), (55, .class_ 94), (0, u "java/lang/Object")] 168

/-- java/util/Map -/
def k2 : Class := { plain "java/util/Map" (some 0) with
  accessFlags := 1537
  interfaces := #[]
  cf := some (fileOf pool2 2 #[.nestMembers #[36]] #[] 1537 93 #[] #[])
  fields := #[]
  methods := #[]
  instanceTypes := #[]
  staticTypes := #[]
  resolved := Array.replicate 263 none
  statics := none }

def pool3 : Array CpInfo := pool [(1, .methodref 2 3), (0, .class_ 4), (0, .nameAndType 5 6), (0, u "java/lang/Object"), (0, u "<init>"), (0, u "()V"), (1, .class_ 10), (1, u "java/util/AbstractMap"), (42, .class_ 54), (0, u "java/util/Map"), (9, u "keySet"), (0, u "Ljava/util/Set;"), (0, .class_ 67), (0, u "java/util/AbstractMap$1"), (5, u "values"), (0, u "Ljava/util/Collection;"), (0, .class_ 76), (0, u "java/util/AbstractMap$2"), (104, .class_ 182), (0, u "java/util/AbstractMap$ViewCollection"), (0, .class_ 184), (0, u "java/util/AbstractMap$SimpleImmutableEntry"), (0, .class_ 186), (0, u "java/util/AbstractMap$SimpleEntry"), (0, .class_ 188), (0, u "java/util/AbstractMap$2$1"), (0, .class_ 190), (0, u "java/util/AbstractMap$1$1")] 5

def k3c0 : Code := { maxStack := 1, maxLocals := 1, code := jdk_71_method_1_code, exceptionTable := #[], attributes := #[] }
def k3m0 : Method := { name := "<init>", desc := "()V", sig := { parameters := [], returnType := none }, accessFlags := 4, code := some k3c0 }
/-- java/util/AbstractMap -/
def k3 : Class := { plain "java/util/AbstractMap" (some 0) with
  accessFlags := 1057
  interfaces := #[2]
  cf := some (fileOf pool3 8 #[.nestMembers #[181, 183, 185, 75, 187, 66, 189]] #[{ accessFlags := 4, nameIndex := 5, descriptorIndex := 6, attributes := #[] }] 1057 2 #[53] #[{ accessFlags := 128, nameIndex := 64, descriptorIndex := 65, attributes := #[] }, { accessFlags := 128, nameIndex := 73, descriptorIndex := 74, attributes := #[] }])
  fields := #[{ name := "keySet", type := (.object "java/util/Set"), accessFlags := 128, slot := 0, constantValue := 0 }, { name := "values", type := (.object "java/util/Collection"), accessFlags := 128, slot := 1, constantValue := 0 }]
  methods := #[k3m0]
  instanceTypes := #[(.object "java/util/Set"), (.object "java/util/Collection")]
  staticTypes := #[]
  resolved := Array.replicate 196 none
  statics := none }

def pool4 : Array CpInfo := pool [(1, .class_ 2), (0, u "java/lang/Cloneable"), (0, .class_ 4), (0, u "java/lang/Object")] 2

/-- java/lang/Cloneable -/
def k4 : Class := { plain "java/lang/Cloneable" (some 0) with
  accessFlags := 1537
  interfaces := #[]
  cf := some (fileOf pool4 1 #[] #[] 1537 3 #[] #[])
  fields := #[]
  methods := #[]
  instanceTypes := #[]
  staticTypes := #[]
  resolved := Array.replicate 7 none
  statics := none }

def pool5 : Array CpInfo := pool [(1, .class_ 2), (0, u "java/io/Serializable"), (0, .class_ 4), (0, u "java/lang/Object")] 2

/-- java/io/Serializable -/
def k5 : Class := { plain "java/io/Serializable" (some 0) with
  accessFlags := 1537
  interfaces := #[]
  cf := some (fileOf pool5 1 #[] #[] 1537 3 #[] #[])
  fields := #[]
  methods := #[]
  instanceTypes := #[]
  staticTypes := #[]
  resolved := Array.replicate 7 none
  statics := none }

def pool6 : Array CpInfo := pool [(40, .class_ 41), (0, u "java/util/HashMap"), (1, .methodref 44 45), (0, .class_ 46), (0, .nameAndType 47 48), (0, u "java/util/AbstractMap"), (0, u "<init>"), (0, u "()V"), (32, .fieldref 40 82), (0, .nameAndType 83 84), (0, u "loadFactor"), (0, u "F"), (5, u "threshold"), (0, u "I"), (0, .float 1061158912), (8, .class_ 103), (1, u "java/util/Map"), (0, u "size"), (2, u "table"), (0, u "[Ljava/util/HashMap$Node;"), (14, u "entrySet"), (39, .class_ 165), (1, u "java/util/HashMap$Node"), (14, .class_ 181), (0, u "java/util/HashMap$TreeNode"), (22, u "modCount"), (37, u "Ljava/util/Set;"), (0, .class_ 244), (0, u "java/util/HashMap$KeySet"), (18, .class_ 264), (0, u "java/util/HashMap$Values"), (3, .class_ 269), (0, u "java/util/HashMap$EntrySet"), (76, .class_ 348), (1, u "java/util/HashMap$UnsafeHolder"), (43, .class_ 393), (0, u "java/lang/Cloneable"), (0, .class_ 395), (0, u "java/io/Serializable"), (0, u "serialVersionUID"), (0, u "J"), (3, u "DEFAULT_INITIAL_CAPACITY"), (1, u "MAXIMUM_CAPACITY"), (0, u "DEFAULT_LOAD_FACTOR"), (0, u "TREEIFY_THRESHOLD"), (1, u "UNTREEIFY_THRESHOLD"), (1, u "MIN_TREEIFY_CAPACITY"), (186, .class_ 597), (0, u "java/util/HashMap$EntrySpliterator"), (0, .class_ 599), (0, u "java/util/HashMap$ValueSpliterator"), (0, .class_ 601), (0, u "java/util/HashMap$KeySpliterator"), (0, .class_ 603), (0, u "java/util/HashMap$HashMapSpliterator"), (0, .class_ 605), (0, u "java/util/HashMap$EntryIterator"), (0, .class_ 607), (0, u "java/util/HashMap$ValueIterator"), (0, .class_ 609), (0, u "java/util/HashMap$KeyIterator"), (0, .class_ 611), (0, u "java/util/HashMap$HashIterator")] 17

def k6c0 : Code := { maxStack := 2, maxLocals := 1, code := jdk_69_method_7_code, exceptionTable := #[], attributes := #[] }
def k6m0 : Method := { name := "<init>", desc := "()V", sig := { parameters := [], returnType := none }, accessFlags := 1, code := some k6c0 }
/-- java/util/HashMap -/
def k6 : Class := { plain "java/util/HashMap" (some 3) with
  accessFlags := 33
  interfaces := #[2, 4, 5]
  cf := some (fileOf pool6 40 #[.nestMembers #[180, 596, 598, 600, 602, 604, 606, 608, 610, 346, 268, 263, 243, 163]] #[{ accessFlags := 1, nameIndex := 47, descriptorIndex := 48, attributes := #[] }] 33 44 #[101, 392, 394] #[{ accessFlags := 26, nameIndex := 396, descriptorIndex := 397, attributes := #[] }, { accessFlags := 24, nameIndex := 401, descriptorIndex := 91, attributes := #[] }, { accessFlags := 24, nameIndex := 403, descriptorIndex := 91, attributes := #[] }, { accessFlags := 24, nameIndex := 404, descriptorIndex := 84, attributes := #[] }, { accessFlags := 24, nameIndex := 405, descriptorIndex := 91, attributes := #[] }, { accessFlags := 24, nameIndex := 407, descriptorIndex := 91, attributes := #[] }, { accessFlags := 24, nameIndex := 409, descriptorIndex := 91, attributes := #[] }, { accessFlags := 128, nameIndex := 107, descriptorIndex := 108, attributes := #[] }, { accessFlags := 128, nameIndex := 123, descriptorIndex := 242, attributes := #[] }, { accessFlags := 128, nameIndex := 104, descriptorIndex := 91, attributes := #[] }, { accessFlags := 128, nameIndex := 204, descriptorIndex := 91, attributes := #[] }, { accessFlags := 0, nameIndex := 90, descriptorIndex := 91, attributes := #[] }, { accessFlags := 16, nameIndex := 83, descriptorIndex := 84, attributes := #[] }])
  fields := #[{ name := "serialVersionUID", type := .long, accessFlags := 26, slot := 0, constantValue := 0 }, { name := "DEFAULT_INITIAL_CAPACITY", type := .int, accessFlags := 24, slot := 1, constantValue := 0 }, { name := "MAXIMUM_CAPACITY", type := .int, accessFlags := 24, slot := 2, constantValue := 0 }, { name := "DEFAULT_LOAD_FACTOR", type := .float, accessFlags := 24, slot := 3, constantValue := 0 }, { name := "TREEIFY_THRESHOLD", type := .int, accessFlags := 24, slot := 4, constantValue := 0 }, { name := "UNTREEIFY_THRESHOLD", type := .int, accessFlags := 24, slot := 5, constantValue := 0 }, { name := "MIN_TREEIFY_CAPACITY", type := .int, accessFlags := 24, slot := 6, constantValue := 0 }, { name := "table", type := (.array (.object "java/util/HashMap$Node")), accessFlags := 128, slot := 2, constantValue := 0 }, { name := "entrySet", type := (.object "java/util/Set"), accessFlags := 128, slot := 3, constantValue := 0 }, { name := "size", type := .int, accessFlags := 128, slot := 4, constantValue := 0 }, { name := "modCount", type := .int, accessFlags := 128, slot := 5, constantValue := 0 }, { name := "threshold", type := .int, accessFlags := 0, slot := 6, constantValue := 0 }, { name := "loadFactor", type := .float, accessFlags := 16, slot := 7, constantValue := 0 }]
  methods := #[k6m0]
  instanceTypes := #[(.object "java/util/Set"), (.object "java/util/Collection"), (.array (.object "java/util/HashMap$Node")), (.object "java/util/Set"), .int, .int, .int, .float]
  staticTypes := #[.long, .int, .int, .float, .int, .int, .int]
  resolved := Array.replicate 629 none
  mirror := some 258
  statics := none }

def pool7 : Array CpInfo := pool [(1, .class_ 2), (0, u "com/example/rigger/rigger/container/Equality$Contract"), (0, .class_ 4), (0, u "java/lang/Object"), (11, .class_ 17), (0, u "com/example/rigger/rigger/container/Equality")] 5

/-- com/example/rigger/rigger/container/Equality$Contract -/
def k7 : Class := { plain "com/example/rigger/rigger/container/Equality$Contract" (some 0) with
  accessFlags := 1536
  interfaces := #[]
  cf := some (fileOf pool7 1 #[.nestHost 16] #[] 1536 3 #[] #[])
  fields := #[]
  methods := #[]
  instanceTypes := #[]
  staticTypes := #[]
  resolved := Array.replicate 23 none
  statics := none }

def pool8 : Array CpInfo := pool [(1, .methodref 2 3), (0, .class_ 4), (0, .nameAndType 5 6), (0, u "java/util/AbstractMap"), (0, u "<init>"), (0, u "()V"), (0, .methodref 8 9), (0, .class_ 10), (0, .nameAndType 11 12), (0, u "java/util/Collections"), (0, u "unmodifiableMap"), (0, u "(Ljava/util/Map;)Ljava/util/Map;"), (0, .fieldref 14 15), (0, .class_ 16), (0, .nameAndType 17 18), (0, u "com/example/rigger/rigger/container/DefinedMap"), (0, u "entries"), (0, u "Ljava/util/Map;"), (45, .fieldref 14 65), (0, .nameAndType 66 67), (0, u "kept"), (0, u "Lcom/example/rigger/rigger/container/Equality$Kept;"), (0, .class_ 69), (0, u "com/example/rigger/rigger/container/Equality$Kept"), (0, .methodref 68 3), (3, .class_ 75), (0, u "com/example/rigger/rigger/container/Equality$Contract"), (0, .class_ 77), (0, u "java/io/Serializable"), (0, u "serialVersionUID"), (0, u "J"), (5, u "(Ljava/util/Map;)V"), (11, u "()Lcom/example/rigger/rigger/container/Equality$Kept;")] 30

def k8c0 : Code := { maxStack := 2, maxLocals := 2, code := prog_42_method_1_code, exceptionTable := #[], attributes := #[] }
def k8m0 : Method := { name := "<init>", desc := "(Ljava/util/Map;)V", sig := { parameters := [(.object "java/util/Map")], returnType := none }, accessFlags := 0, code := some k8c0 }
def k8c1 : Code := { maxStack := 3, maxLocals := 1, code := prog_42_method_13_code, exceptionTable := #[], attributes := #[] }
def k8m1 : Method := { name := "kept", desc := "()Lcom/example/rigger/rigger/container/Equality$Kept;", sig := { parameters := [], returnType := some (.object "com/example/rigger/rigger/container/Equality$Kept") }, accessFlags := 1, code := some k8c1 }
/-- com/example/rigger/rigger/container/DefinedMap -/
def k8 : Class := { plain "com/example/rigger/rigger/container/DefinedMap" (some 3) with
  accessFlags := 48
  interfaces := #[7, 5]
  cf := some (fileOf pool8 14 #[] #[{ accessFlags := 0, nameIndex := 5, descriptorIndex := 85, attributes := #[] }, { accessFlags := 1, nameIndex := 66, descriptorIndex := 97, attributes := #[] }] 48 2 #[74, 76] #[{ accessFlags := 26, nameIndex := 78, descriptorIndex := 79, attributes := #[] }, { accessFlags := 18, nameIndex := 17, descriptorIndex := 18, attributes := #[] }, { accessFlags := 130, nameIndex := 66, descriptorIndex := 67, attributes := #[] }])
  fields := #[{ name := "serialVersionUID", type := .long, accessFlags := 26, slot := 0, constantValue := 0 }, { name := "entries", type := (.object "java/util/Map"), accessFlags := 18, slot := 2, constantValue := 0 }, { name := "kept", type := (.object "com/example/rigger/rigger/container/Equality$Kept"), accessFlags := 130, slot := 3, constantValue := 0 }]
  methods := #[k8m0, k8m1]
  instanceTypes := #[(.object "java/util/Set"), (.object "java/util/Collection"), (.object "java/util/Map"), (.object "com/example/rigger/rigger/container/Equality$Kept")]
  staticTypes := #[.long]
  resolved := Array.replicate 128 none
  statics := none }

def pool9 : Array CpInfo := pool [(2, .class_ 4), (1, u "java/lang/Object"), (0, u "<init>"), (0, u "()V"), (12, .class_ 20), (0, u "java/util/Collections"), (63, u "r"), (0, u "Ljava/util/Random;"), (77, .nameAndType 164 165), (0, u "getClass"), (0, u "()Ljava/lang/Class;"), (0, .class_ 167), (0, u "java/util/Collections$UnmodifiableCollection"), (6, .class_ 175), (0, u "java/util/Collections$UnmodifiableSequencedCollection"), (6, .class_ 183), (0, u "java/util/Collections$UnmodifiableSet"), (6, .class_ 191), (0, u "java/util/Collections$UnmodifiableSequencedSet"), (6, .class_ 199), (0, u "java/util/Collections$UnmodifiableSortedSet"), (6, .class_ 207), (0, u "java/util/Collections$UnmodifiableNavigableSet"), (4, .class_ 213), (0, u "java/util/Collections$UnmodifiableList"), (1, .class_ 216), (0, u "java/util/Collections$UnmodifiableRandomAccessList"), (3, .interfaceMethodref 221 163), (0, .class_ 222), (0, u "java/util/Map"), (0, .class_ 224), (0, u "java/util/Collections$UnmodifiableMap"), (0, .methodref 223 226), (0, .nameAndType 5 227), (0, u "(Ljava/util/Map;)V"), (3, .class_ 232), (0, u "java/util/Collections$UnmodifiableSequencedMap"), (4, .class_ 238), (0, u "java/util/Collections$UnmodifiableSortedMap"), (6, .class_ 246), (0, u "java/util/Collections$UnmodifiableNavigableMap"), (3, .class_ 251), (0, u "java/util/Collections$SynchronizedCollection"), (4, .class_ 257), (0, u "java/util/Collections$SynchronizedSet"), (4, .class_ 263), (0, u "java/util/Collections$SynchronizedSortedSet"), (1, .class_ 266), (0, u "java/util/Collections$SynchronizedNavigableSet"), (1, .class_ 269), (0, u "java/util/Collections$SynchronizedRandomAccessList"), (1, .class_ 272), (0, u "java/util/Collections$SynchronizedList"), (5, .class_ 279), (0, u "java/util/Collections$SynchronizedMap"), (1, .class_ 282), (0, u "java/util/Collections$SynchronizedSortedMap"), (1, .class_ 285), (0, u "java/util/Collections$SynchronizedNavigableMap"), (1, .class_ 288), (0, u "java/util/Collections$CheckedCollection"), (11, .class_ 301), (0, u "java/util/Collections$CheckedQueue"), (3, .class_ 306), (0, u "java/util/Collections$CheckedSet"), (3, .class_ 311), (0, u "java/util/Collections$CheckedSortedSet"), (3, .class_ 316), (0, u "java/util/Collections$CheckedNavigableSet"), (3, .class_ 321), (0, u "java/util/Collections$CheckedRandomAccessList"), (3, .class_ 326), (0, u "java/util/Collections$CheckedList"), (1, .class_ 329), (0, u "java/util/Collections$CheckedMap"), (3, .class_ 334), (0, u "java/util/Collections$CheckedSortedMap"), (3, .class_ 339), (0, u "java/util/Collections$CheckedNavigableMap"), (4, .class_ 346), (1, u "java/util/Collections$EmptyIterator"), (3, .class_ 352), (1, u "java/util/Collections$EmptyListIterator"), (2, .class_ 357), (1, u "java/util/Collections$EmptyEnumeration"), (4, u "EMPTY_SET"), (0, u "Ljava/util/Set;"), (6, u "EMPTY_LIST"), (0, u "Ljava/util/List;"), (2, u "EMPTY_MAP"), (0, u "Ljava/util/Map;"), (4, .class_ 381), (0, u "java/util/Collections$SingletonSet"), (2, .class_ 385), (0, u "java/util/Collections$1"), (1, .class_ 388), (0, u "java/util/Collections$2"), (1, .class_ 391), (0, u "java/util/Collections$SingletonList"), (1, .class_ 394), (0, u "java/util/Collections$SingletonMap"), (22, .class_ 418), (0, u "java/util/Collections$CopiesList"), (4, .class_ 425), (1, u "java/util/Collections$ReverseComparator"), (8, .class_ 435), (0, u "java/util/Collections$ReverseComparator2"), (6, .class_ 443), (0, u "java/util/Collections$3"), (25, .class_ 470), (0, u "java/util/Collections$SetFromMap"), (2, .class_ 474), (0, u "java/util/Collections$SequencedSetFromMap"), (3, .class_ 479), (0, u "java/util/Collections$AsLIFOQueue"), (11, .class_ 492), (0, u "java/util/Collections$EmptySet"), (1, .class_ 495), (0, u "java/util/Collections$EmptyList"), (1, .class_ 498), (0, u "java/util/Collections$EmptyMap"), (1, u "BINARYSEARCH_THRESHOLD"), (0, u "I"), (2, u "REVERSE_THRESHOLD"), (1, u "SHUFFLE_THRESHOLD"), (1, u "FILL_THRESHOLD"), (1, u "ROTATE_THRESHOLD"), (1, u "COPY_THRESHOLD"), (1, u "REPLACEALL_THRESHOLD"), (1, u "INDEXOFSUBLIST_THRESHOLD"), (132, u "unmodifiableMap"), (0, u "(Ljava/util/Map;)Ljava/util/Map;"), (199, .class_ 851), (0, u "java/util/Collections$CheckedMap$CheckedEntrySet"), (0, .class_ 853), (0, u "java/util/Collections$CheckedMap$CheckedEntrySet$CheckedEntry"), (0, .class_ 855), (0, u "java/util/Collections$CheckedMap$CheckedEntrySet$1"), (0, .class_ 857), (0, u "java/util/Collections$CheckedList$1"), (0, .class_ 859), (0, u "java/util/Collections$CheckedCollection$1"), (0, .class_ 861), (0, u "java/util/Collections$UnmodifiableNavigableMap$EmptyNavigableMap"), (0, .class_ 863), (0, u "java/util/Collections$UnmodifiableMap$UnmodifiableEntrySet"), (0, .class_ 865), (0, u "java/util/Collections$UnmodifiableMap$UnmodifiableEntrySet$UnmodifiableEntry"), (0, .class_ 867), (0, u "java/util/Collections$UnmodifiableMap$UnmodifiableEntrySet$UnmodifiableEntrySetSpliterator"), (0, .class_ 869), (0, u "java/util/Collections$UnmodifiableMap$UnmodifiableEntrySet$1"), (0, .class_ 871), (0, u "java/util/Collections$UnmodifiableList$1"), (0, .class_ 873), (0, u "java/util/Collections$UnmodifiableNavigableSet$EmptyNavigableSet"), (0, .class_ 875), (0, u "java/util/Collections$UnmodifiableCollection$1")] 57

def k9m0 : Method := { name := "<init>", desc := "()V", sig := { parameters := [], returnType := none }, accessFlags := 2, code := none }
def k9c1 : Code := { maxStack := 3, maxLocals := 1, code := jdk_79_method_36_code, exceptionTable := #[], attributes := #[] }
def k9m1 : Method := { name := "unmodifiableMap", desc := "(Ljava/util/Map;)Ljava/util/Map;", sig := { parameters := [(.object "java/util/Map")], returnType := some (.object "java/util/Map") }, accessFlags := 9, code := some k9c1 }
/-- java/util/Collections -/
def k9 : Class := { plain "java/util/Collections" (some 0) with
  accessFlags := 33
  interfaces := #[]
  cf := some (fileOf pool9 19 #[.nestMembers #[478, 473, 469, 434, 423, 417, 393, 390, 380, 497, 494, 491, 355, 350, 344, 338, 333, 328, 850, 852, 854, 320, 325, 856, 315, 310, 305, 300, 287, 858, 284, 281, 278, 268, 271, 265, 262, 256, 250, 245, 860, 237, 231, 223, 862, 864, 866, 868, 215, 212, 870, 206, 872, 198, 190, 182, 174, 166, 874, 442, 387, 384]] #[{ accessFlags := 2, nameIndex := 5, descriptorIndex := 6, attributes := #[] }, { accessFlags := 9, nameIndex := 649, descriptorIndex := 650, attributes := #[] }] 33 2 #[] #[{ accessFlags := 26, nameIndex := 500, descriptorIndex := 501, attributes := #[] }, { accessFlags := 26, nameIndex := 504, descriptorIndex := 501, attributes := #[] }, { accessFlags := 26, nameIndex := 506, descriptorIndex := 501, attributes := #[] }, { accessFlags := 26, nameIndex := 508, descriptorIndex := 501, attributes := #[] }, { accessFlags := 26, nameIndex := 510, descriptorIndex := 501, attributes := #[] }, { accessFlags := 26, nameIndex := 512, descriptorIndex := 501, attributes := #[] }, { accessFlags := 26, nameIndex := 514, descriptorIndex := 501, attributes := #[] }, { accessFlags := 26, nameIndex := 516, descriptorIndex := 501, attributes := #[] }, { accessFlags := 10, nameIndex := 84, descriptorIndex := 85, attributes := #[] }, { accessFlags := 25, nameIndex := 362, descriptorIndex := 363, attributes := #[] }, { accessFlags := 25, nameIndex := 370, descriptorIndex := 371, attributes := #[] }, { accessFlags := 25, nameIndex := 374, descriptorIndex := 375, attributes := #[] }])
  fields := #[{ name := "BINARYSEARCH_THRESHOLD", type := .int, accessFlags := 26, slot := 0, constantValue := 0 }, { name := "REVERSE_THRESHOLD", type := .int, accessFlags := 26, slot := 1, constantValue := 0 }, { name := "SHUFFLE_THRESHOLD", type := .int, accessFlags := 26, slot := 2, constantValue := 0 }, { name := "FILL_THRESHOLD", type := .int, accessFlags := 26, slot := 3, constantValue := 0 }, { name := "ROTATE_THRESHOLD", type := .int, accessFlags := 26, slot := 4, constantValue := 0 }, { name := "COPY_THRESHOLD", type := .int, accessFlags := 26, slot := 5, constantValue := 0 }, { name := "REPLACEALL_THRESHOLD", type := .int, accessFlags := 26, slot := 6, constantValue := 0 }, { name := "INDEXOFSUBLIST_THRESHOLD", type := .int, accessFlags := 26, slot := 7, constantValue := 0 }, { name := "r", type := (.object "java/util/Random"), accessFlags := 10, slot := 8, constantValue := 0 }, { name := "EMPTY_SET", type := (.object "java/util/Set"), accessFlags := 25, slot := 9, constantValue := 0 }, { name := "EMPTY_LIST", type := (.object "java/util/List"), accessFlags := 25, slot := 10, constantValue := 0 }, { name := "EMPTY_MAP", type := (.object "java/util/Map"), accessFlags := 25, slot := 11, constantValue := 0 }]
  methods := #[k9m0, k9m1]
  instanceTypes := #[]
  staticTypes := #[.int, .int, .int, .int, .int, .int, .int, .int, (.object "java/util/Random"), (.object "java/util/Set"), (.object "java/util/List"), (.object "java/util/Map")]
  resolved := Array.replicate 933 none
  statics := none }

def pool10 : Array CpInfo := pool [(1, .methodref 2 3), (0, .class_ 4), (0, .nameAndType 5 6), (0, u "java/lang/Object"), (0, u "<init>"), (0, u "()V"), (3, .fieldref 11 12), (0, .class_ 13), (0, .nameAndType 14 15), (0, u "java/util/Collections$UnmodifiableMap"), (0, u "m"), (0, u "Ljava/util/Map;"), (1, .class_ 19), (1, u "java/util/Map"), (22, u "keySet"), (0, u "Ljava/util/Set;"), (4, .class_ 50), (1, u "java/util/Collections"), (4, u "entrySet"), (9, u "values"), (0, u "Ljava/util/Collection;"), (25, .class_ 93), (0, u "java/io/Serializable"), (0, u "serialVersionUID"), (0, u "J"), (8, u "(Ljava/util/Map;)V")] 70

def k10c0 : Code := { maxStack := 2, maxLocals := 2, code := jdk_2500_method_1_code, exceptionTable := #[], attributes := #[] }
def k10m0 : Method := { name := "<init>", desc := "(Ljava/util/Map;)V", sig := { parameters := [(.object "java/util/Map")], returnType := none }, accessFlags := 0, code := some k10c0 }
/-- java/util/Collections$UnmodifiableMap -/
def k10 : Class := { plain "java/util/Collections$UnmodifiableMap" (some 0) with
  accessFlags := 32
  interfaces := #[2, 5]
  cf := some (fileOf pool10 11 #[.nestHost 48] #[{ accessFlags := 0, nameIndex := 5, descriptorIndex := 104, attributes := #[] }] 32 2 #[17, 92] #[{ accessFlags := 26, nameIndex := 94, descriptorIndex := 95, attributes := #[] }, { accessFlags := 16, nameIndex := 14, descriptorIndex := 15, attributes := #[] }, { accessFlags := 130, nameIndex := 42, descriptorIndex := 43, attributes := #[] }, { accessFlags := 130, nameIndex := 55, descriptorIndex := 43, attributes := #[] }, { accessFlags := 130, nameIndex := 65, descriptorIndex := 66, attributes := #[] }])
  fields := #[{ name := "serialVersionUID", type := .long, accessFlags := 26, slot := 0, constantValue := 0 }, { name := "m", type := (.object "java/util/Map"), accessFlags := 16, slot := 0, constantValue := 0 }, { name := "keySet", type := (.object "java/util/Set"), accessFlags := 130, slot := 1, constantValue := 0 }, { name := "entrySet", type := (.object "java/util/Set"), accessFlags := 130, slot := 2, constantValue := 0 }, { name := "values", type := (.object "java/util/Collection"), accessFlags := 130, slot := 3, constantValue := 0 }]
  methods := #[k10m0]
  instanceTypes := #[(.object "java/util/Map"), (.object "java/util/Set"), (.object "java/util/Set"), (.object "java/util/Collection")]
  staticTypes := #[.long]
  resolved := Array.replicate 175 none
  mirror := some 259
  statics := none }

def pool11 : Array CpInfo := pool [(1, .methodref 2 3), (0, .class_ 4), (0, .nameAndType 5 6), (0, u "java/lang/Object"), (0, u "<init>"), (0, u "()V"), (1, .class_ 10), (1, u "java/lang/Number"), (2, .class_ 14), (0, u "java/io/Serializable"), (0, u "serialVersionUID"), (0, u "J")] 20

def k11c0 : Code := { maxStack := 1, maxLocals := 1, code := jdk_18_method_1_code, exceptionTable := #[], attributes := #[] }
def k11m0 : Method := { name := "<init>", desc := "()V", sig := { parameters := [], returnType := none }, accessFlags := 1, code := some k11c0 }
/-- java/lang/Number -/
def k11 : Class := { plain "java/lang/Number" (some 0) with
  accessFlags := 1057
  interfaces := #[5]
  cf := some (fileOf pool11 8 #[] #[{ accessFlags := 1, nameIndex := 5, descriptorIndex := 6, attributes := #[] }] 1057 2 #[13] #[{ accessFlags := 26, nameIndex := 15, descriptorIndex := 16, attributes := #[] }])
  fields := #[{ name := "serialVersionUID", type := .long, accessFlags := 26, slot := 0, constantValue := 0 }]
  methods := #[k11m0]
  instanceTypes := #[]
  staticTypes := #[.long]
  resolved := Array.replicate 37 none
  statics := none }

def pool12 : Array CpInfo := pool [(1, .class_ 2), (0, u "java/lang/Comparable"), (0, .class_ 4), (0, u "java/lang/Object")] 7

/-- java/lang/Comparable -/
def k12 : Class := { plain "java/lang/Comparable" (some 0) with
  accessFlags := 1537
  interfaces := #[]
  cf := some (fileOf pool12 1 #[] #[] 1537 3 #[] #[])
  fields := #[]
  methods := #[]
  instanceTypes := #[]
  staticTypes := #[]
  resolved := Array.replicate 12 none
  statics := none }

def pool13 : Array CpInfo := pool [(1, .class_ 2), (0, u "java/lang/constant/Constable"), (0, .class_ 4), (0, u "java/lang/Object")] 6

/-- java/lang/constant/Constable -/
def k13 : Class := { plain "java/lang/constant/Constable" (some 0) with
  accessFlags := 1537
  interfaces := #[]
  cf := some (fileOf pool13 1 #[] #[] 1537 3 #[] #[])
  fields := #[]
  methods := #[]
  instanceTypes := #[]
  staticTypes := #[]
  resolved := Array.replicate 11 none
  statics := none }

def pool14 : Array CpInfo := pool [(1, .class_ 2), (0, u "java/lang/constant/ConstantDesc"), (0, .class_ 4), (0, u "java/lang/Object")] 32

/-- java/lang/constant/ConstantDesc -/
def k14 : Class := { plain "java/lang/constant/ConstantDesc" (some 0) with
  accessFlags := 1537
  interfaces := #[]
  cf := some (fileOf pool14 1 #[] #[] 1537 3 #[] #[])
  fields := #[]
  methods := #[]
  instanceTypes := #[]
  staticTypes := #[]
  resolved := Array.replicate 37 none
  statics := none }

def pool15 : Array CpInfo := pool [(1, .class_ 2), (0, u "java/lang/Integer"), (16, u "digits"), (0, u "[C"), (46, u "<init>"), (17, u "DigitOnes"), (0, u "[B"), (2, u "DigitTens"), (10, .nameAndType 67 101), (0, u "()V"), (85, u "valueOf"), (0, u "(I)Ljava/lang/Integer;"), (0, .class_ 190), (0, u "java/lang/Integer$IntegerCache"), (0, .fieldref 189 192), (0, .nameAndType 193 194), (0, u "high"), (0, u "I"), (0, .fieldref 189 196), (0, .nameAndType 197 198), (0, u "cache"), (0, u "[Ljava/lang/Integer;"), (0, .methodref 1 200), (0, .nameAndType 67 201), (0, u "(I)V"), (0, .methodref 203 100), (0, .class_ 204), (0, u "java/lang/Number"), (0, .fieldref 1 206), (0, .nameAndType 207 194), (0, u "value"), (94, u "TYPE"), (0, u "Ljava/lang/Class;"), (0, .class_ 305), (0, u "java/lang/Comparable"), (0, .class_ 307), (0, u "java/lang/constant/Constable"), (0, .class_ 309), (0, u "java/lang/constant/ConstantDesc"), (0, u "MIN_VALUE"), (1, u "MAX_VALUE"), (3, u "SIZE"), (1, u "BYTES"), (1, u "serialVersionUID"), (0, u "J")] 131

def k15c0 : Code := { maxStack := 3, maxLocals := 1, code := jdk_33_method_22_code, exceptionTable := #[], attributes := #[] }
def k15m0 : Method := { name := "valueOf", desc := "(I)Ljava/lang/Integer;", sig := { parameters := [.int], returnType := some (.object "java/lang/Integer") }, accessFlags := 9, code := some k15c0 }
def k15c1 : Code := { maxStack := 2, maxLocals := 2, code := jdk_33_method_23_code, exceptionTable := #[], attributes := #[] }
def k15m1 : Method := { name := "<init>", desc := "(I)V", sig := { parameters := [.int], returnType := none }, accessFlags := 1, code := some k15c1 }
/-- java/lang/Integer -/
def k15 : Class := { plain "java/lang/Integer" (some 11) with
  accessFlags := 49
  interfaces := #[12, 13, 14]
  cf := some (fileOf pool15 1 #[.nestMembers #[189]] #[{ accessFlags := 9, nameIndex := 187, descriptorIndex := 188, attributes := #[] }, { accessFlags := 1, nameIndex := 67, descriptorIndex := 201, attributes := #[] }] 49 203 #[304, 306, 308] #[{ accessFlags := 25, nameIndex := 310, descriptorIndex := 194, attributes := #[] }, { accessFlags := 25, nameIndex := 312, descriptorIndex := 194, attributes := #[] }, { accessFlags := 25, nameIndex := 302, descriptorIndex := 303, attributes := #[] }, { accessFlags := 24, nameIndex := 19, descriptorIndex := 20, attributes := #[] }, { accessFlags := 24, nameIndex := 89, descriptorIndex := 86, attributes := #[] }, { accessFlags := 24, nameIndex := 85, descriptorIndex := 86, attributes := #[] }, { accessFlags := 18, nameIndex := 207, descriptorIndex := 194, attributes := #[] }, { accessFlags := 25, nameIndex := 316, descriptorIndex := 194, attributes := #[] }, { accessFlags := 25, nameIndex := 318, descriptorIndex := 194, attributes := #[] }, { accessFlags := 26, nameIndex := 320, descriptorIndex := 321, attributes := #[] }])
  fields := #[{ name := "MIN_VALUE", type := .int, accessFlags := 25, slot := 0, constantValue := 0 }, { name := "MAX_VALUE", type := .int, accessFlags := 25, slot := 1, constantValue := 0 }, { name := "TYPE", type := (.object "java/lang/Class"), accessFlags := 25, slot := 2, constantValue := 0 }, { name := "digits", type := (.array .char), accessFlags := 24, slot := 3, constantValue := 0 }, { name := "DigitTens", type := (.array .byte), accessFlags := 24, slot := 4, constantValue := 0 }, { name := "DigitOnes", type := (.array .byte), accessFlags := 24, slot := 5, constantValue := 0 }, { name := "value", type := .int, accessFlags := 18, slot := 0, constantValue := 0 }, { name := "SIZE", type := .int, accessFlags := 25, slot := 6, constantValue := 0 }, { name := "BYTES", type := .int, accessFlags := 25, slot := 7, constantValue := 0 }, { name := "serialVersionUID", type := .long, accessFlags := 26, slot := 8, constantValue := 0 }]
  methods := #[k15m0, k15m1]
  instanceTypes := #[.int]
  staticTypes := #[.int, .int, (.object "java/lang/Class"), (.array .char), (.array .byte), (.array .byte), .int, .int, .long]
  resolved := Array.replicate 453 none
  statics := none }

def pool16 : Array CpInfo := pool [(2, .class_ 4), (1, u "java/lang/Object"), (0, u "<init>"), (0, u "()V"), (0, .class_ 8), (0, u "java/lang/Integer"), (7, .class_ 18), (1, u "java/lang/Integer$IntegerCache"), (0, u "$assertionsDisabled"), (0, u "Z"), (26, u "high"), (0, u "I"), (8, u "archivedCache"), (0, u "[Ljava/lang/Integer;"), (12, u "cache"), (0, u "low")] 27

def k16m0 : Method := { name := "<init>", desc := "()V", sig := { parameters := [], returnType := none }, accessFlags := 2, code := none }
/-- java/lang/Integer$IntegerCache -/
def k16 : Class := { plain "java/lang/Integer$IntegerCache" (some 0) with
  accessFlags := 48
  interfaces := #[]
  cf := some (fileOf pool16 16 #[.nestHost 7] #[{ accessFlags := 2, nameIndex := 5, descriptorIndex := 6, attributes := #[] }] 48 2 #[] #[{ accessFlags := 24, nameIndex := 72, descriptorIndex := 48, attributes := #[] }, { accessFlags := 24, nameIndex := 47, descriptorIndex := 48, attributes := #[] }, { accessFlags := 24, nameIndex := 71, descriptorIndex := 58, attributes := #[] }, { accessFlags := 8, nameIndex := 57, descriptorIndex := 58, attributes := #[] }, { accessFlags := 4120, nameIndex := 19, descriptorIndex := 20, attributes := #[] }])
  fields := #[{ name := "low", type := .int, accessFlags := 24, slot := 0, constantValue := 0 }, { name := "high", type := .int, accessFlags := 24, slot := 1, constantValue := 0 }, { name := "cache", type := (.array (.object "java/lang/Integer")), accessFlags := 24, slot := 2, constantValue := 0 }, { name := "archivedCache", type := (.array (.object "java/lang/Integer")), accessFlags := 8, slot := 3, constantValue := 0 }, { name := "$assertionsDisabled", type := .boolean, accessFlags := 4120, slot := 4, constantValue := 0 }]
  methods := #[k16m0]
  instanceTypes := #[]
  staticTypes := #[.int, .int, (.array (.object "java/lang/Integer")), (.array (.object "java/lang/Integer")), .boolean]
  resolved := Array.replicate 100 none
  statics := some 0 }

def pool17 : Array CpInfo := pool [(1, .methodref 2 3), (0, .class_ 4), (0, .nameAndType 5 6), (0, u "java/lang/Object"), (0, u "<init>"), (0, u "()V"), (0, .class_ 8), (0, u "com/example/rigger/rigger/container/Equality$Kept"), (0, .fieldref 7 10), (0, .nameAndType 11 12), (0, u "fixed"), (0, u "B"), (0, .fieldref 7 14), (0, .nameAndType 15 16), (0, u "numbered"), (0, u "Ljava/lang/Object;"), (0, u "UNKNOWN"), (2, u "FIXED"), (1, u "LOOSE"), (1, u "hash"), (0, u "I"), (0, u "hashIsZero"), (0, u "Z"), (2, u "()Ljava/lang/Object;"), (0, u "keepNumbered"), (0, u "(Ljava/lang/Object;)V"), (3, .class_ 37), (0, u "com/example/rigger/rigger/container/Equality")] 2

def k17c0 : Code := { maxStack := 2, maxLocals := 1, code := prog_78_method_1_code, exceptionTable := #[], attributes := #[] }
def k17m0 : Method := { name := "<init>", desc := "()V", sig := { parameters := [], returnType := none }, accessFlags := 0, code := some k17c0 }
def k17c1 : Code := { maxStack := 1, maxLocals := 1, code := prog_78_method_2_code, exceptionTable := #[], attributes := #[] }
def k17m1 : Method := { name := "numbered", desc := "()Ljava/lang/Object;", sig := { parameters := [], returnType := some (.object "java/lang/Object") }, accessFlags := 0, code := some k17c1 }
def k17c2 : Code := { maxStack := 2, maxLocals := 2, code := prog_78_method_3_code, exceptionTable := #[], attributes := #[] }
def k17m2 : Method := { name := "keepNumbered", desc := "(Ljava/lang/Object;)V", sig := { parameters := [(.object "java/lang/Object")], returnType := none }, accessFlags := 0, code := some k17c2 }
/-- com/example/rigger/rigger/container/Equality$Kept -/
def k17 : Class := { plain "com/example/rigger/rigger/container/Equality$Kept" (some 0) with
  accessFlags := 48
  interfaces := #[]
  cf := some (fileOf pool17 7 #[.nestHost 36] #[{ accessFlags := 0, nameIndex := 5, descriptorIndex := 6, attributes := #[] }, { accessFlags := 0, nameIndex := 15, descriptorIndex := 30, attributes := #[] }, { accessFlags := 0, nameIndex := 31, descriptorIndex := 32, attributes := #[] }] 48 2 #[] #[{ accessFlags := 26, nameIndex := 17, descriptorIndex := 12, attributes := #[] }, { accessFlags := 26, nameIndex := 20, descriptorIndex := 12, attributes := #[] }, { accessFlags := 26, nameIndex := 22, descriptorIndex := 12, attributes := #[] }, { accessFlags := 2, nameIndex := 11, descriptorIndex := 12, attributes := #[] }, { accessFlags := 2, nameIndex := 24, descriptorIndex := 25, attributes := #[] }, { accessFlags := 2, nameIndex := 26, descriptorIndex := 27, attributes := #[] }, { accessFlags := 2, nameIndex := 15, descriptorIndex := 16, attributes := #[] }])
  fields := #[{ name := "UNKNOWN", type := .byte, accessFlags := 26, slot := 0, constantValue := 0 }, { name := "FIXED", type := .byte, accessFlags := 26, slot := 1, constantValue := 0 }, { name := "LOOSE", type := .byte, accessFlags := 26, slot := 2, constantValue := 0 }, { name := "fixed", type := .byte, accessFlags := 2, slot := 0, constantValue := 0 }, { name := "hash", type := .int, accessFlags := 2, slot := 1, constantValue := 0 }, { name := "hashIsZero", type := .boolean, accessFlags := 2, slot := 2, constantValue := 0 }, { name := "numbered", type := (.object "java/lang/Object"), accessFlags := 2, slot := 3, constantValue := 0 }]
  methods := #[k17m0, k17m1, k17m2]
  instanceTypes := #[.byte, .int, .boolean, (.object "java/lang/Object")]
  staticTypes := #[.byte, .byte, .byte]
  resolved := Array.replicate 40 none
  statics := none }

/-- the primitive byte -/
def k18 : Class := { plain "byte" none with kind := .primitive 'B', accessFlags := 0x411 }
/-- [B -/
def k19 : Class := { plain "[B" (some 0) with kind := .array 18 .byte, interfaces := #[4, 5], accessFlags := 1041 }

/-- the primitive int -/
def k20 : Class := { plain "int" none with kind := .primitive 'I', accessFlags := 0x411 }
/-- [I -/
def k21 : Class := { plain "[I" (some 0) with kind := .array 20 .int, interfaces := #[4, 5], accessFlags := 1041 }

/-- [Ljava/lang/Integer; -/
def k22 : Class := { plain "[Ljava/lang/Integer;" (some 0) with kind := .array 15 (.object "java/lang/Integer"), interfaces := #[4, 5], accessFlags := 1041 }

def heap : Heap := #[{ cls := 16, slots := #[.int 0, .int 127, .ref 1, .null, .int 0], vm := .statics 16 },
  { cls := 22, slots := #[.ref 2, .ref 3, .ref 4, .ref 5, .ref 6, .ref 7, .ref 8, .ref 9, .ref 10, .ref 11, .ref 12, .ref 13, .ref 14, .ref 15, .ref 16, .ref 17, .ref 18, .ref 19, .ref 20, .ref 21, .ref 22, .ref 23, .ref 24, .ref 25, .ref 26, .ref 27, .ref 28, .ref 29, .ref 30, .ref 31, .ref 32, .ref 33, .ref 34, .ref 35, .ref 36, .ref 37, .ref 38, .ref 39, .ref 40, .ref 41, .ref 42, .ref 43, .ref 44, .ref 45, .ref 46, .ref 47, .ref 48, .ref 49, .ref 50, .ref 51, .ref 52, .ref 53, .ref 54, .ref 55, .ref 56, .ref 57, .ref 58, .ref 59, .ref 60, .ref 61, .ref 62, .ref 63, .ref 64, .ref 65, .ref 66, .ref 67, .ref 68, .ref 69, .ref 70, .ref 71, .ref 72, .ref 73, .ref 74, .ref 75, .ref 76, .ref 77, .ref 78, .ref 79, .ref 80, .ref 81, .ref 82, .ref 83, .ref 84, .ref 85, .ref 86, .ref 87, .ref 88, .ref 89, .ref 90, .ref 91, .ref 92, .ref 93, .ref 94, .ref 95, .ref 96, .ref 97, .ref 98, .ref 99, .ref 100, .ref 101, .ref 102, .ref 103, .ref 104, .ref 105, .ref 106, .ref 107, .ref 108, .ref 109, .ref 110, .ref 111, .ref 112, .ref 113, .ref 114, .ref 115, .ref 116, .ref 117, .ref 118, .ref 119, .ref 120, .ref 121, .ref 122, .ref 123, .ref 124, .ref 125, .ref 126, .ref 127, .ref 128, .ref 129, .ref 130, .ref 131, .ref 132, .ref 133, .ref 134, .ref 135, .ref 136, .ref 137, .ref 138, .ref 139, .ref 140, .ref 141, .ref 142, .ref 143, .ref 144, .ref 145, .ref 146, .ref 147, .ref 148, .ref 149, .ref 150, .ref 151, .ref 152, .ref 153, .ref 154, .ref 155, .ref 156, .ref 157, .ref 158, .ref 159, .ref 160, .ref 161, .ref 162, .ref 163, .ref 164, .ref 165, .ref 166, .ref 167, .ref 168, .ref 169, .ref 170, .ref 171, .ref 172, .ref 173, .ref 174, .ref 175, .ref 176, .ref 177, .ref 178, .ref 179, .ref 180, .ref 181, .ref 182, .ref 183, .ref 184, .ref 185, .ref 186, .ref 187, .ref 188, .ref 189, .ref 190, .ref 191, .ref 192, .ref 193, .ref 194, .ref 195, .ref 196, .ref 197, .ref 198, .ref 199, .ref 200, .ref 201, .ref 202, .ref 203, .ref 204, .ref 205, .ref 206, .ref 207, .ref 208, .ref 209, .ref 210, .ref 211, .ref 212, .ref 213, .ref 214, .ref 215, .ref 216, .ref 217, .ref 218, .ref 219, .ref 220, .ref 221, .ref 222, .ref 223, .ref 224, .ref 225, .ref 226, .ref 227, .ref 228, .ref 229, .ref 230, .ref 231, .ref 232, .ref 233, .ref 234, .ref 235, .ref 236, .ref 237, .ref 238, .ref 239, .ref 240, .ref 241, .ref 242, .ref 243, .ref 244, .ref 245, .ref 246, .ref 247, .ref 248, .ref 249, .ref 250, .ref 251, .ref 252, .ref 253, .ref 254, .ref 255, .ref 256, .ref 257], vm := .none },
  { cls := 15, slots := #[.int (-128)], vm := .none },
  { cls := 15, slots := #[.int (-127)], vm := .none },
  { cls := 15, slots := #[.int (-126)], vm := .none },
  { cls := 15, slots := #[.int (-125)], vm := .none },
  { cls := 15, slots := #[.int (-124)], vm := .none },
  { cls := 15, slots := #[.int (-123)], vm := .none },
  { cls := 15, slots := #[.int (-122)], vm := .none },
  { cls := 15, slots := #[.int (-121)], vm := .none },
  { cls := 15, slots := #[.int (-120)], vm := .none },
  { cls := 15, slots := #[.int (-119)], vm := .none },
  { cls := 15, slots := #[.int (-118)], vm := .none },
  { cls := 15, slots := #[.int (-117)], vm := .none },
  { cls := 15, slots := #[.int (-116)], vm := .none },
  { cls := 15, slots := #[.int (-115)], vm := .none },
  { cls := 15, slots := #[.int (-114)], vm := .none },
  { cls := 15, slots := #[.int (-113)], vm := .none },
  { cls := 15, slots := #[.int (-112)], vm := .none },
  { cls := 15, slots := #[.int (-111)], vm := .none },
  { cls := 15, slots := #[.int (-110)], vm := .none },
  { cls := 15, slots := #[.int (-109)], vm := .none },
  { cls := 15, slots := #[.int (-108)], vm := .none },
  { cls := 15, slots := #[.int (-107)], vm := .none },
  { cls := 15, slots := #[.int (-106)], vm := .none },
  { cls := 15, slots := #[.int (-105)], vm := .none },
  { cls := 15, slots := #[.int (-104)], vm := .none },
  { cls := 15, slots := #[.int (-103)], vm := .none },
  { cls := 15, slots := #[.int (-102)], vm := .none },
  { cls := 15, slots := #[.int (-101)], vm := .none },
  { cls := 15, slots := #[.int (-100)], vm := .none },
  { cls := 15, slots := #[.int (-99)], vm := .none },
  { cls := 15, slots := #[.int (-98)], vm := .none },
  { cls := 15, slots := #[.int (-97)], vm := .none },
  { cls := 15, slots := #[.int (-96)], vm := .none },
  { cls := 15, slots := #[.int (-95)], vm := .none },
  { cls := 15, slots := #[.int (-94)], vm := .none },
  { cls := 15, slots := #[.int (-93)], vm := .none },
  { cls := 15, slots := #[.int (-92)], vm := .none },
  { cls := 15, slots := #[.int (-91)], vm := .none },
  { cls := 15, slots := #[.int (-90)], vm := .none },
  { cls := 15, slots := #[.int (-89)], vm := .none },
  { cls := 15, slots := #[.int (-88)], vm := .none },
  { cls := 15, slots := #[.int (-87)], vm := .none },
  { cls := 15, slots := #[.int (-86)], vm := .none },
  { cls := 15, slots := #[.int (-85)], vm := .none },
  { cls := 15, slots := #[.int (-84)], vm := .none },
  { cls := 15, slots := #[.int (-83)], vm := .none },
  { cls := 15, slots := #[.int (-82)], vm := .none },
  { cls := 15, slots := #[.int (-81)], vm := .none },
  { cls := 15, slots := #[.int (-80)], vm := .none },
  { cls := 15, slots := #[.int (-79)], vm := .none },
  { cls := 15, slots := #[.int (-78)], vm := .none },
  { cls := 15, slots := #[.int (-77)], vm := .none },
  { cls := 15, slots := #[.int (-76)], vm := .none },
  { cls := 15, slots := #[.int (-75)], vm := .none },
  { cls := 15, slots := #[.int (-74)], vm := .none },
  { cls := 15, slots := #[.int (-73)], vm := .none },
  { cls := 15, slots := #[.int (-72)], vm := .none },
  { cls := 15, slots := #[.int (-71)], vm := .none },
  { cls := 15, slots := #[.int (-70)], vm := .none },
  { cls := 15, slots := #[.int (-69)], vm := .none },
  { cls := 15, slots := #[.int (-68)], vm := .none },
  { cls := 15, slots := #[.int (-67)], vm := .none },
  { cls := 15, slots := #[.int (-66)], vm := .none },
  { cls := 15, slots := #[.int (-65)], vm := .none },
  { cls := 15, slots := #[.int (-64)], vm := .none },
  { cls := 15, slots := #[.int (-63)], vm := .none },
  { cls := 15, slots := #[.int (-62)], vm := .none },
  { cls := 15, slots := #[.int (-61)], vm := .none },
  { cls := 15, slots := #[.int (-60)], vm := .none },
  { cls := 15, slots := #[.int (-59)], vm := .none },
  { cls := 15, slots := #[.int (-58)], vm := .none },
  { cls := 15, slots := #[.int (-57)], vm := .none },
  { cls := 15, slots := #[.int (-56)], vm := .none },
  { cls := 15, slots := #[.int (-55)], vm := .none },
  { cls := 15, slots := #[.int (-54)], vm := .none },
  { cls := 15, slots := #[.int (-53)], vm := .none },
  { cls := 15, slots := #[.int (-52)], vm := .none },
  { cls := 15, slots := #[.int (-51)], vm := .none },
  { cls := 15, slots := #[.int (-50)], vm := .none },
  { cls := 15, slots := #[.int (-49)], vm := .none },
  { cls := 15, slots := #[.int (-48)], vm := .none },
  { cls := 15, slots := #[.int (-47)], vm := .none },
  { cls := 15, slots := #[.int (-46)], vm := .none },
  { cls := 15, slots := #[.int (-45)], vm := .none },
  { cls := 15, slots := #[.int (-44)], vm := .none },
  { cls := 15, slots := #[.int (-43)], vm := .none },
  { cls := 15, slots := #[.int (-42)], vm := .none },
  { cls := 15, slots := #[.int (-41)], vm := .none },
  { cls := 15, slots := #[.int (-40)], vm := .none },
  { cls := 15, slots := #[.int (-39)], vm := .none },
  { cls := 15, slots := #[.int (-38)], vm := .none },
  { cls := 15, slots := #[.int (-37)], vm := .none },
  { cls := 15, slots := #[.int (-36)], vm := .none },
  { cls := 15, slots := #[.int (-35)], vm := .none },
  { cls := 15, slots := #[.int (-34)], vm := .none },
  { cls := 15, slots := #[.int (-33)], vm := .none },
  { cls := 15, slots := #[.int (-32)], vm := .none },
  { cls := 15, slots := #[.int (-31)], vm := .none },
  { cls := 15, slots := #[.int (-30)], vm := .none },
  { cls := 15, slots := #[.int (-29)], vm := .none },
  { cls := 15, slots := #[.int (-28)], vm := .none },
  { cls := 15, slots := #[.int (-27)], vm := .none },
  { cls := 15, slots := #[.int (-26)], vm := .none },
  { cls := 15, slots := #[.int (-25)], vm := .none },
  { cls := 15, slots := #[.int (-24)], vm := .none },
  { cls := 15, slots := #[.int (-23)], vm := .none },
  { cls := 15, slots := #[.int (-22)], vm := .none },
  { cls := 15, slots := #[.int (-21)], vm := .none },
  { cls := 15, slots := #[.int (-20)], vm := .none },
  { cls := 15, slots := #[.int (-19)], vm := .none },
  { cls := 15, slots := #[.int (-18)], vm := .none },
  { cls := 15, slots := #[.int (-17)], vm := .none },
  { cls := 15, slots := #[.int (-16)], vm := .none },
  { cls := 15, slots := #[.int (-15)], vm := .none },
  { cls := 15, slots := #[.int (-14)], vm := .none },
  { cls := 15, slots := #[.int (-13)], vm := .none },
  { cls := 15, slots := #[.int (-12)], vm := .none },
  { cls := 15, slots := #[.int (-11)], vm := .none },
  { cls := 15, slots := #[.int (-10)], vm := .none },
  { cls := 15, slots := #[.int (-9)], vm := .none },
  { cls := 15, slots := #[.int (-8)], vm := .none },
  { cls := 15, slots := #[.int (-7)], vm := .none },
  { cls := 15, slots := #[.int (-6)], vm := .none },
  { cls := 15, slots := #[.int (-5)], vm := .none },
  { cls := 15, slots := #[.int (-4)], vm := .none },
  { cls := 15, slots := #[.int (-3)], vm := .none },
  { cls := 15, slots := #[.int (-2)], vm := .none },
  { cls := 15, slots := #[.int (-1)], vm := .none },
  { cls := 15, slots := #[.int 0], vm := .none },
  { cls := 15, slots := #[.int 1], vm := .none },
  { cls := 15, slots := #[.int 2], vm := .none },
  { cls := 15, slots := #[.int 3], vm := .none },
  { cls := 15, slots := #[.int 4], vm := .none },
  { cls := 15, slots := #[.int 5], vm := .none },
  { cls := 15, slots := #[.int 6], vm := .none },
  { cls := 15, slots := #[.int 7], vm := .none },
  { cls := 15, slots := #[.int 8], vm := .none },
  { cls := 15, slots := #[.int 9], vm := .none },
  { cls := 15, slots := #[.int 10], vm := .none },
  { cls := 15, slots := #[.int 11], vm := .none },
  { cls := 15, slots := #[.int 12], vm := .none },
  { cls := 15, slots := #[.int 13], vm := .none },
  { cls := 15, slots := #[.int 14], vm := .none },
  { cls := 15, slots := #[.int 15], vm := .none },
  { cls := 15, slots := #[.int 16], vm := .none },
  { cls := 15, slots := #[.int 17], vm := .none },
  { cls := 15, slots := #[.int 18], vm := .none },
  { cls := 15, slots := #[.int 19], vm := .none },
  { cls := 15, slots := #[.int 20], vm := .none },
  { cls := 15, slots := #[.int 21], vm := .none },
  { cls := 15, slots := #[.int 22], vm := .none },
  { cls := 15, slots := #[.int 23], vm := .none },
  { cls := 15, slots := #[.int 24], vm := .none },
  { cls := 15, slots := #[.int 25], vm := .none },
  { cls := 15, slots := #[.int 26], vm := .none },
  { cls := 15, slots := #[.int 27], vm := .none },
  { cls := 15, slots := #[.int 28], vm := .none },
  { cls := 15, slots := #[.int 29], vm := .none },
  { cls := 15, slots := #[.int 30], vm := .none },
  { cls := 15, slots := #[.int 31], vm := .none },
  { cls := 15, slots := #[.int 32], vm := .none },
  { cls := 15, slots := #[.int 33], vm := .none },
  { cls := 15, slots := #[.int 34], vm := .none },
  { cls := 15, slots := #[.int 35], vm := .none },
  { cls := 15, slots := #[.int 36], vm := .none },
  { cls := 15, slots := #[.int 37], vm := .none },
  { cls := 15, slots := #[.int 38], vm := .none },
  { cls := 15, slots := #[.int 39], vm := .none },
  { cls := 15, slots := #[.int 40], vm := .none },
  { cls := 15, slots := #[.int 41], vm := .none },
  { cls := 15, slots := #[.int 42], vm := .none },
  { cls := 15, slots := #[.int 43], vm := .none },
  { cls := 15, slots := #[.int 44], vm := .none },
  { cls := 15, slots := #[.int 45], vm := .none },
  { cls := 15, slots := #[.int 46], vm := .none },
  { cls := 15, slots := #[.int 47], vm := .none },
  { cls := 15, slots := #[.int 48], vm := .none },
  { cls := 15, slots := #[.int 49], vm := .none },
  { cls := 15, slots := #[.int 50], vm := .none },
  { cls := 15, slots := #[.int 51], vm := .none },
  { cls := 15, slots := #[.int 52], vm := .none },
  { cls := 15, slots := #[.int 53], vm := .none },
  { cls := 15, slots := #[.int 54], vm := .none },
  { cls := 15, slots := #[.int 55], vm := .none },
  { cls := 15, slots := #[.int 56], vm := .none },
  { cls := 15, slots := #[.int 57], vm := .none },
  { cls := 15, slots := #[.int 58], vm := .none },
  { cls := 15, slots := #[.int 59], vm := .none },
  { cls := 15, slots := #[.int 60], vm := .none },
  { cls := 15, slots := #[.int 61], vm := .none },
  { cls := 15, slots := #[.int 62], vm := .none },
  { cls := 15, slots := #[.int 63], vm := .none },
  { cls := 15, slots := #[.int 64], vm := .none },
  { cls := 15, slots := #[.int 65], vm := .none },
  { cls := 15, slots := #[.int 66], vm := .none },
  { cls := 15, slots := #[.int 67], vm := .none },
  { cls := 15, slots := #[.int 68], vm := .none },
  { cls := 15, slots := #[.int 69], vm := .none },
  { cls := 15, slots := #[.int 70], vm := .none },
  { cls := 15, slots := #[.int 71], vm := .none },
  { cls := 15, slots := #[.int 72], vm := .none },
  { cls := 15, slots := #[.int 73], vm := .none },
  { cls := 15, slots := #[.int 74], vm := .none },
  { cls := 15, slots := #[.int 75], vm := .none },
  { cls := 15, slots := #[.int 76], vm := .none },
  { cls := 15, slots := #[.int 77], vm := .none },
  { cls := 15, slots := #[.int 78], vm := .none },
  { cls := 15, slots := #[.int 79], vm := .none },
  { cls := 15, slots := #[.int 80], vm := .none },
  { cls := 15, slots := #[.int 81], vm := .none },
  { cls := 15, slots := #[.int 82], vm := .none },
  { cls := 15, slots := #[.int 83], vm := .none },
  { cls := 15, slots := #[.int 84], vm := .none },
  { cls := 15, slots := #[.int 85], vm := .none },
  { cls := 15, slots := #[.int 86], vm := .none },
  { cls := 15, slots := #[.int 87], vm := .none },
  { cls := 15, slots := #[.int 88], vm := .none },
  { cls := 15, slots := #[.int 89], vm := .none },
  { cls := 15, slots := #[.int 90], vm := .none },
  { cls := 15, slots := #[.int 91], vm := .none },
  { cls := 15, slots := #[.int 92], vm := .none },
  { cls := 15, slots := #[.int 93], vm := .none },
  { cls := 15, slots := #[.int 94], vm := .none },
  { cls := 15, slots := #[.int 95], vm := .none },
  { cls := 15, slots := #[.int 96], vm := .none },
  { cls := 15, slots := #[.int 97], vm := .none },
  { cls := 15, slots := #[.int 98], vm := .none },
  { cls := 15, slots := #[.int 99], vm := .none },
  { cls := 15, slots := #[.int 100], vm := .none },
  { cls := 15, slots := #[.int 101], vm := .none },
  { cls := 15, slots := #[.int 102], vm := .none },
  { cls := 15, slots := #[.int 103], vm := .none },
  { cls := 15, slots := #[.int 104], vm := .none },
  { cls := 15, slots := #[.int 105], vm := .none },
  { cls := 15, slots := #[.int 106], vm := .none },
  { cls := 15, slots := #[.int 107], vm := .none },
  { cls := 15, slots := #[.int 108], vm := .none },
  { cls := 15, slots := #[.int 109], vm := .none },
  { cls := 15, slots := #[.int 110], vm := .none },
  { cls := 15, slots := #[.int 111], vm := .none },
  { cls := 15, slots := #[.int 112], vm := .none },
  { cls := 15, slots := #[.int 113], vm := .none },
  { cls := 15, slots := #[.int 114], vm := .none },
  { cls := 15, slots := #[.int 115], vm := .none },
  { cls := 15, slots := #[.int 116], vm := .none },
  { cls := 15, slots := #[.int 117], vm := .none },
  { cls := 15, slots := #[.int 118], vm := .none },
  { cls := 15, slots := #[.int 119], vm := .none },
  { cls := 15, slots := #[.int 120], vm := .none },
  { cls := 15, slots := #[.int 121], vm := .none },
  { cls := 15, slots := #[.int 122], vm := .none },
  { cls := 15, slots := #[.int 123], vm := .none },
  { cls := 15, slots := #[.int 124], vm := .none },
  { cls := 15, slots := #[.int 125], vm := .none },
  { cls := 15, slots := #[.int 126], vm := .none },
  { cls := 15, slots := #[.int 127], vm := .none },
  { cls := 23, slots := #[], vm := .mirror 6 },
  { cls := 23, slots := #[], vm := .mirror 10 }]
/-- java/lang/Class -/
def k23 : Class := { plain "java/lang/Class" (some 0) with accessFlags := 49 }
def classes : Array Class := #[k0, k1, k2, k3, k4, k5, k6, k7, k8, k9, k10, k11, k12, k13, k14, k15, k16, k17, k18, k19, k20, k21, k22, k23]
def interned : List (Array UInt16 × Addr) := []
def slotsUsed : Nat := 517
def theMethod : MethodId := ⟨1, 1⟩
def args0 : Array Value := #[.int 5, .int 1]
def aboutOver (below : List Frame) : State where
  vm := { classes := classes, interned := interned.toArray }
  heap := heap
  slotsUsed := slotsUsed
  threads := #[{ frames := .invoking theMethod args0 :: below }]
def below0 : List Frame := [.native { method := ⟨0, 0⟩, args := #[] }]
def about1 : State := aboutOver below0
def p0 : Program := .bare "" "" ""
def e0 : Env := launch0.env 0 0 0
theorem w_frames : about1.frames = Frame.invoking theMethod args0 :: below0 := rfl
set_option maxRecDepth 65536 in
theorem w_args : argsFit about1.vm theMethod args0 = true := by decide +kernel
set_option maxRecDepth 65536 in
theorem w_heap : heapFits about1 = true := by decide +kernel
set_option maxRecDepth 65536 in
theorem w_runnable : about1.curStatus? = some .runnable := by decide +kernel
set_option maxRecDepth 65536 in
theorem w_alone : about1.alone = true := by decide +kernel
set_option maxRecDepth 65536 in
theorem w_named : about1.methodNamed? x = some theMethod := by decide +kernel
set_option maxRecDepth 65536 in
theorem w_hears : about1.hears theMethod below0 = true := by decide +kernel
set_option maxRecDepth 65536 in
theorem w_ripe : about1.ripe theMethod args0 below0 = true := by decide +kernel
theorem w_running : about1.status = .running := rfl
set_option maxRecDepth 65536 in
theorem w_room : about1.hasRoom e0.platform room_1 = true :=
  launch0.hasRoom_least _ room_1 (by decide +kernel) (by decide +kernel) (by decide +kernel) (by decide +kernel) (by decide +kernel) (by decide +kernel)
theorem allAtoms_all (ts : List Jvm.Cond) (a : Array Jvm.Value) (st : Jvm.State) : (allAtoms ts).before a st = ts.all (fun c => c.before a st) := by
  induction ts with
  | nil => rfl
  | cons c t ih =>
    show (Jvm.Cond.and c (allAtoms t)).before a st = _
    rw [Jvm.Cond.before_and, ih, List.all_cons]
def words1 : List Jvm.Cond := Jvm.Cond.code x code maxLocals ret :: tables_1
/-- a 'code' word, met by the world's own term for the bytes: nothing is compared byte by byte -/
theorem code_word {y : MethodName} {bytes : ByteArray} {mx : Nat} {rt : Option FieldType} {a : Array Value} {s : State} {m : MethodId} {meth : Method} {c : Code} (h1 : s.methodNamed? y = some m) (h2 : s.vm.method? m = some meth) (h3 : meth.code = some c) (h4 : c.code = bytes)
    (h5 : (c.maxLocals == mx && c.exceptionTable.isEmpty && decide (c.maxStack ≤ mostOperands) && decide (meth.sig.returnType = rt) && !meth.locks && decide (parseMethodDescriptor y.desc = some meth.sig)) = true) : (Jvm.Cond.code y bytes mx rt).before a s = true := by
  simp only [Bool.and_eq_true, beq_iff_eq, Bool.not_eq_true', decide_eq_true_eq] at h5
  obtain ⟨⟨⟨⟨⟨g1, g2⟩, g3⟩, g4⟩, g5⟩, g6⟩ := h5
  simp [Cond.before, Cond.holds, Cond.value, h1, h2, h3, h4, g1, g2, g3, g4, g5, g6]
def isCode : Jvm.Cond → Bool
  | .code _ _ _ _ => true
  | _ => false
theorem all_split {L : List Jvm.Cond} {P : Jvm.Cond → Bool} (h1 : L.all (fun c => isCode c || P c) = true) (h2 : ∀ c ∈ L.filter isCode, P c = true) : L.all P = true := by
  refine List.all_eq_true.mpr fun c hc => ?_
  have h := List.all_eq_true.mp h1 c hc
  rcases Bool.eq_false_or_eq_true (isCode c) with hi | hi
  · exact h2 c (List.mem_filter.mpr ⟨hc, hi⟩)
  · simpa [hi] using h
set_option maxRecDepth 65536 in
theorem w_c0 : (Jvm.Cond.code x code maxLocals ret).before args0 about1 = true := code_word (m := ⟨1, 1⟩) (meth := k1m1) (c := k1c1) (by decide +kernel) rfl rfl rfl (by decide +kernel)
set_option maxRecDepth 65536 in
theorem w_c1 : (Jvm.Cond.code ({ cls := "java/util/HashMap", name := "<init>", desc := "()V" } : Jvm.MethodName) jdk_69_method_7_code (1 : Nat) (Option.none : Option Jvm.ClassFile.FieldType)).before args0 about1 = true := code_word (m := ⟨6, 0⟩) (meth := k6m0) (c := k6c0) (by decide +kernel) rfl rfl rfl (by decide +kernel)
set_option maxRecDepth 65536 in
theorem w_c2 : (Jvm.Cond.code ({ cls := "java/util/AbstractMap", name := "<init>", desc := "()V" } : Jvm.MethodName) jdk_71_method_1_code (1 : Nat) (Option.none : Option Jvm.ClassFile.FieldType)).before args0 about1 = true := code_word (m := ⟨3, 0⟩) (meth := k3m0) (c := k3c0) (by decide +kernel) rfl rfl rfl (by decide +kernel)
set_option maxRecDepth 65536 in
theorem w_c3 : (Jvm.Cond.code ({ cls := "java/lang/Object", name := "<init>", desc := "()V" } : Jvm.MethodName) object_method_1_code (1 : Nat) (Option.none : Option Jvm.ClassFile.FieldType)).before args0 about1 = true := code_word (m := ⟨0, 0⟩) (meth := k0m0) (c := k0c0) (by decide +kernel) rfl rfl rfl (by decide +kernel)
set_option maxRecDepth 65536 in
theorem w_c4 : (Jvm.Cond.code ({ cls := "com/example/rigger/rigger/container/DefinedMap", name := "<init>", desc := "(Ljava/util/Map;)V" } : Jvm.MethodName) prog_42_method_1_code (2 : Nat) (Option.none : Option Jvm.ClassFile.FieldType)).before args0 about1 = true := code_word (m := ⟨8, 0⟩) (meth := k8m0) (c := k8c0) (by decide +kernel) rfl rfl rfl (by decide +kernel)
set_option maxRecDepth 65536 in
theorem w_c5 : (Jvm.Cond.code ({ cls := "java/util/Collections", name := "unmodifiableMap", desc := "(Ljava/util/Map;)Ljava/util/Map;" } : Jvm.MethodName) jdk_79_method_36_code (1 : Nat) (Option.some (Jvm.ClassFile.FieldType.object "java/util/Map"))).before args0 about1 = true := code_word (m := ⟨9, 1⟩) (meth := k9m1) (c := k9c1) (by decide +kernel) rfl rfl rfl (by decide +kernel)
set_option maxRecDepth 65536 in
theorem w_c6 : (Jvm.Cond.code ({ cls := "java/util/Collections$UnmodifiableMap", name := "<init>", desc := "(Ljava/util/Map;)V" } : Jvm.MethodName) jdk_2500_method_1_code (2 : Nat) (Option.none : Option Jvm.ClassFile.FieldType)).before args0 about1 = true := code_word (m := ⟨10, 0⟩) (meth := k10m0) (c := k10c0) (by decide +kernel) rfl rfl rfl (by decide +kernel)
set_option maxRecDepth 65536 in
theorem w_c7 : (Jvm.Cond.code ({ cls := "java/lang/Integer", name := "valueOf", desc := "(I)Ljava/lang/Integer;" } : Jvm.MethodName) jdk_33_method_22_code (1 : Nat) (Option.some (Jvm.ClassFile.FieldType.object "java/lang/Integer"))).before args0 about1 = true := code_word (m := ⟨15, 0⟩) (meth := k15m0) (c := k15c0) (by decide +kernel) rfl rfl rfl (by decide +kernel)
set_option maxRecDepth 65536 in
theorem w_c8 : (Jvm.Cond.code ({ cls := "com/example/rigger/rigger/container/DefinedMap", name := "kept", desc := "()Lcom/example/rigger/rigger/container/Equality$Kept;" } : Jvm.MethodName) prog_42_method_13_code (1 : Nat) (Option.some (Jvm.ClassFile.FieldType.object "com/example/rigger/rigger/container/Equality$Kept"))).before args0 about1 = true := code_word (m := ⟨8, 1⟩) (meth := k8m1) (c := k8c1) (by decide +kernel) rfl rfl rfl (by decide +kernel)
set_option maxRecDepth 65536 in
theorem w_c9 : (Jvm.Cond.code ({ cls := "com/example/rigger/rigger/container/Equality$Kept", name := "<init>", desc := "()V" } : Jvm.MethodName) prog_78_method_1_code (1 : Nat) (Option.none : Option Jvm.ClassFile.FieldType)).before args0 about1 = true := code_word (m := ⟨17, 0⟩) (meth := k17m0) (c := k17c0) (by decide +kernel) rfl rfl rfl (by decide +kernel)
set_option maxRecDepth 65536 in
theorem w_c10 : (Jvm.Cond.code ({ cls := "com/example/rigger/rigger/container/Equality$Kept", name := "numbered", desc := "()Ljava/lang/Object;" } : Jvm.MethodName) prog_78_method_2_code (1 : Nat) (Option.some (Jvm.ClassFile.FieldType.object "java/lang/Object"))).before args0 about1 = true := code_word (m := ⟨17, 1⟩) (meth := k17m1) (c := k17c1) (by decide +kernel) rfl rfl rfl (by decide +kernel)
set_option maxRecDepth 65536 in
theorem w_c11 : (Jvm.Cond.code ({ cls := "com/example/rigger/rigger/container/Equality$Kept", name := "keepNumbered", desc := "(Ljava/lang/Object;)V" } : Jvm.MethodName) prog_78_method_3_code (2 : Nat) (Option.none : Option Jvm.ClassFile.FieldType)).before args0 about1 = true := code_word (m := ⟨17, 2⟩) (meth := k17m2) (c := k17c2) (by decide +kernel) rfl rfl rfl (by decide +kernel)
set_option maxRecDepth 65536 in
theorem w_c12 : (Jvm.Cond.code ({ cls := "java/lang/Integer", name := "<init>", desc := "(I)V" } : Jvm.MethodName) jdk_33_method_23_code (2 : Nat) (Option.none : Option Jvm.ClassFile.FieldType)).before args0 about1 = true := code_word (m := ⟨15, 1⟩) (meth := k15m1) (c := k15c1) (by decide +kernel) rfl rfl rfl (by decide +kernel)
set_option maxRecDepth 65536 in
theorem w_c13 : (Jvm.Cond.code ({ cls := "java/lang/Number", name := "<init>", desc := "()V" } : Jvm.MethodName) jdk_18_method_1_code (1 : Nat) (Option.none : Option Jvm.ClassFile.FieldType)).before args0 about1 = true := code_word (m := ⟨11, 0⟩) (meth := k11m0) (c := k11c0) (by decide +kernel) rfl rfl rfl (by decide +kernel)
def codes1 : List Jvm.Cond := [Jvm.Cond.code x code maxLocals ret, Jvm.Cond.code ({ cls := "java/util/HashMap", name := "<init>", desc := "()V" } : Jvm.MethodName) jdk_69_method_7_code (1 : Nat) (Option.none : Option Jvm.ClassFile.FieldType), Jvm.Cond.code ({ cls := "java/util/AbstractMap", name := "<init>", desc := "()V" } : Jvm.MethodName) jdk_71_method_1_code (1 : Nat) (Option.none : Option Jvm.ClassFile.FieldType), Jvm.Cond.code ({ cls := "java/lang/Object", name := "<init>", desc := "()V" } : Jvm.MethodName) object_method_1_code (1 : Nat) (Option.none : Option Jvm.ClassFile.FieldType), Jvm.Cond.code ({ cls := "com/example/rigger/rigger/container/DefinedMap", name := "<init>", desc := "(Ljava/util/Map;)V" } : Jvm.MethodName) prog_42_method_1_code (2 : Nat) (Option.none : Option Jvm.ClassFile.FieldType), Jvm.Cond.code ({ cls := "java/util/Collections", name := "unmodifiableMap", desc := "(Ljava/util/Map;)Ljava/util/Map;" } : Jvm.MethodName) jdk_79_method_36_code (1 : Nat) (Option.some (Jvm.ClassFile.FieldType.object "java/util/Map")), Jvm.Cond.code ({ cls := "java/util/Collections$UnmodifiableMap", name := "<init>", desc := "(Ljava/util/Map;)V" } : Jvm.MethodName) jdk_2500_method_1_code (2 : Nat) (Option.none : Option Jvm.ClassFile.FieldType), Jvm.Cond.code ({ cls := "java/lang/Integer", name := "valueOf", desc := "(I)Ljava/lang/Integer;" } : Jvm.MethodName) jdk_33_method_22_code (1 : Nat) (Option.some (Jvm.ClassFile.FieldType.object "java/lang/Integer")), Jvm.Cond.code ({ cls := "com/example/rigger/rigger/container/DefinedMap", name := "kept", desc := "()Lcom/example/rigger/rigger/container/Equality$Kept;" } : Jvm.MethodName) prog_42_method_13_code (1 : Nat) (Option.some (Jvm.ClassFile.FieldType.object "com/example/rigger/rigger/container/Equality$Kept")), Jvm.Cond.code ({ cls := "com/example/rigger/rigger/container/Equality$Kept", name := "<init>", desc := "()V" } : Jvm.MethodName) prog_78_method_1_code (1 : Nat) (Option.none : Option Jvm.ClassFile.FieldType), Jvm.Cond.code ({ cls := "com/example/rigger/rigger/container/Equality$Kept", name := "numbered", desc := "()Ljava/lang/Object;" } : Jvm.MethodName) prog_78_method_2_code (1 : Nat) (Option.some (Jvm.ClassFile.FieldType.object "java/lang/Object")), Jvm.Cond.code ({ cls := "com/example/rigger/rigger/container/Equality$Kept", name := "keepNumbered", desc := "(Ljava/lang/Object;)V" } : Jvm.MethodName) prog_78_method_3_code (2 : Nat) (Option.none : Option Jvm.ClassFile.FieldType), Jvm.Cond.code ({ cls := "java/lang/Integer", name := "<init>", desc := "(I)V" } : Jvm.MethodName) jdk_33_method_23_code (2 : Nat) (Option.none : Option Jvm.ClassFile.FieldType), Jvm.Cond.code ({ cls := "java/lang/Number", name := "<init>", desc := "()V" } : Jvm.MethodName) jdk_18_method_1_code (1 : Nat) (Option.none : Option Jvm.ClassFile.FieldType)]
set_option maxRecDepth 65536 in
theorem codes_eq : words1.filter isCode = codes1 := rfl
theorem w_codes : ∀ c ∈ words1.filter isCode, c.before args0 about1 = true := by
  rw [codes_eq]
  intro c hc
  simp only [codes1, List.mem_cons, List.not_mem_nil, or_false] at hc
  rcases hc with rfl | rfl | rfl | rfl | rfl | rfl | rfl | rfl | rfl | rfl | rfl | rfl | rfl | rfl
  · exact w_c0
  · exact w_c1
  · exact w_c2
  · exact w_c3
  · exact w_c4
  · exact w_c5
  · exact w_c6
  · exact w_c7
  · exact w_c8
  · exact w_c9
  · exact w_c10
  · exact w_c11
  · exact w_c12
  · exact w_c13
set_option maxRecDepth 65536 in
theorem w_t1 : (words1.take 24).all (fun c => isCode c || c.before args0 about1) = true := by decide +kernel
set_option maxRecDepth 65536 in
theorem w_t2 : ((words1.drop 24).take 24).all (fun c => isCode c || c.before args0 about1) = true := by decide +kernel
set_option maxRecDepth 65536 in
theorem w_t3 : (((words1.drop 24).drop 24).take 24).all (fun c => isCode c || c.before args0 about1) = true := by decide +kernel
set_option maxRecDepth 65536 in
theorem w_t4 : ((((words1.drop 24).drop 24).drop 24).take 24).all (fun c => isCode c || c.before args0 about1) = true := by decide +kernel
set_option maxRecDepth 65536 in
theorem w_t5 : ((((words1.drop 24).drop 24).drop 24).drop 24).all (fun c => isCode c || c.before args0 about1) = true := by decide +kernel
theorem w_tables : (allAtoms (Jvm.Cond.code x code maxLocals ret :: tables_1)).before args0 about1 = true := by
  rw [allAtoms_all]
  show words1.all (fun c => c.before args0 about1) = true
  refine all_split ?_ w_codes
  rw [← List.take_append_drop 24 words1, List.all_append, w_t1, ← List.take_append_drop 24 (words1.drop 24), List.all_append, w_t2, ← List.take_append_drop 24 ((words1.drop 24).drop 24), List.all_append, w_t3, ← List.take_append_drop 24 (((words1.drop 24).drop 24).drop 24), List.all_append, w_t4, w_t5]
  rfl
set_option maxRecDepth 65536 in
theorem w_rest : rest_1_c.before args0 about1 = true := by decide +kernel
set_option maxRecDepth 65536 in
theorem w_case : (Jvm.Cond.and given_1 narrow_1).before args0 about1 = true := by decide +kernel
theorem w_applies : (headSpec (Jvm.Cond.code x code maxLocals ret :: tables_1) room_1).applies x e0.platform about1 = true :=
  (Spec.applies_iff w_frames).mpr ⟨w_running, w_runnable, w_alone, w_named, w_hears, w_ripe, w_room, w_tables⟩
set_option maxRecDepth 65536 in
theorem atStart : AtStart classFile x code maxLocals ret World_1 tables_1 room_1 Calls_1 rest_1 Pre_1 launch0 p0 e0 about1 theMethod args0 below0 :=
  ⟨lists_1, trivial, launch0.admits_env _ _ _, launch0.least_env, fairChoices_fair.cas, fairChoices_fair.clock, w_frames, w_args, w_heap, w_applies, ⟨⟨6, k6, 258, by decide +kernel, rfl, rfl, _, rfl, rfl⟩, ⟨⟨10, k10, 259, by decide +kernel, rfl, rfl, _, rfl, rfl⟩, trivial⟩⟩, w_rest, w_case⟩
end start1
theorem witness_1 : WitnessClaimed_1 := ⟨start1.p0, start1.e0, start1.about1, start1.theMethod, start1.args0, start1.below0, start1.atStart⟩
end Jvm.Pilot.@@N@@
