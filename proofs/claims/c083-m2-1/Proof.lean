import JvmDerived
import JvmDerived.Pilot.@@N@@Statement
import JvmDerived.Pilot.@@N@@Code
set_option linter.unusedVariables false
set_option linter.unusedSimpArgs false
@@BLOCK:NumsL.lean.txt@@
namespace Jvm.Pilot.@@N@@
open Jvm Jvm.ClassFile Sem Op Lib Jvm.Free Jvm.Stand Jvm.LawKit Jvm.RoadKit Bundle Jvm.Pilot.@@N@@.Jvm.D
/-- the run from here comes to an end of which P speaks -/
def own_Run (tb : Tables) (e : Env) (below : List Frame) (T : State) (g : JFrame) (P : Outcome → State → Prop) : Prop :=
  ∃ s₂ o, Steps tb e below (T.setTop g) s₂ ∧ s₂.status = .running ∧ Ended s₂ below o ∧ P o s₂
theorem own_start {tb : Tables} {e : Env} {below : List Frame} {T : State} {g : JFrame} {Pd : Outcome → State → Prop} (h : ∀ P : Outcome → State → Prop, (∀ o U, Pd o U → P o U) → own_Run tb e below T g P) : ∃ s₂ o, Steps tb e below (T.setTop g) s₂ ∧ s₂.status = .running ∧ Ended s₂ below o ∧ Pd o s₂ := h Pd fun _ _ q => q
theorem own_step {tb : Tables} {e : Env} {below : List Frame} {T T' : State} {g g' : JFrame} {P : Outcome → State → Prop} (h : ∀ t, Steps tb e below (T'.setTop g') t → Steps tb e below (T.setTop g) t) (k : own_Run tb e below T' g' P) : own_Run tb e below T g P := by
  obtain ⟨a, b, h1, h2⟩ := k
  exact ⟨a, b, h _ h1, h2⟩
theorem own_to {tb : Tables} {e : Env} {below : List Frame} {T T' : State} {g g' : JFrame} {P : Outcome → State → Prop} (h : Steps tb e below (T.setTop g) (T'.setTop g')) (k : own_Run tb e below T' g' P) : own_Run tb e below T g P := by
  obtain ⟨a, b, h1, h2⟩ := k
  exact ⟨a, b, h.trans h1, h2⟩
section Ret
variable {p : Program} {l : Launch} {e : Env} {R : Room} {s : State} {m : MethodId} {args : Array Value} {below : List Frame} {meth : Method} {c : Code} {T : State} {locs : List Loc} {cells slots : Nat}
theorem own_retI (X : Stand p l e R s m args below meth c T locs cells slots) (hx : p.tables.exec = Jvm.exec) {pc : Nat} {Ls : Array Slot} {z : Int32} {rest : List Value} (hret : meth.sig.returnType = some .int) (hd : decode c.code pc = .ok (.ireturn, 1)) {fs : List Frame}
    (hl : ∀ (f : JFrame) (acts : List Action), f.method = m → f.locked = none → f.entered = [] → (doReturn e (T.setTop f) acts (some (.int z))).1 = T.setFrames fs) : Steps p.tables e below (T.setTop (mkF m pc Ls (.int z :: rest))) (T.setFrames fs) :=
  retOut X hx hret rfl (Or.inl ⟨rfl, Or.inl rfl, _, rfl⟩) hd hl
theorem own_retJ (X : Stand p l e R s m args below meth c T locs cells slots) (hx : p.tables.exec = Jvm.exec) {pc : Nat} {Ls : Array Slot} {z : Int64} {rest : List Value} (hret : meth.sig.returnType = some .long) (hd : decode c.code pc = .ok (.lreturn, 1)) {fs : List Frame}
    (hl : ∀ (f : JFrame) (acts : List Action), f.method = m → f.locked = none → f.entered = [] → (doReturn e (T.setTop f) acts (some (.long z))).1 = T.setFrames fs) : Steps p.tables e below (T.setTop (mkF m pc Ls (.long z :: rest))) (T.setFrames fs) :=
  retOut X hx hret rfl (Or.inr (Or.inl ⟨rfl, rfl, _, rfl⟩)) hd hl
theorem own_retR (X : Stand p l e R s m args below meth c T locs cells slots) (hx : p.tables.exec = Jvm.exec) {pc : Nat} {Ls : Array Slot} {w : Value} {t : FieldType} {rest : List Value} (hret : meth.sig.returnType = some t) (ht : t.isReference = true) (hw : w.isRef = true) (hn : narrow t w = w) (hd : decode c.code pc = .ok (.areturn, 1)) {fs : List Frame}
    (hl : ∀ (f : JFrame) (acts : List Action), f.method = m → f.locked = none → f.entered = [] → (doReturn e (T.setTop f) acts (some w)).1 = T.setFrames fs) : Steps p.tables e below (T.setTop (mkF m pc Ls (w :: rest))) (T.setFrames fs) :=
  retOut X hx hret hn (Or.inr (Or.inr (Or.inr (Or.inr ⟨rfl, ht, hw⟩)))) hd hl
theorem own_retZ (X : Stand p l e R s m args below meth c T locs cells slots) (hx : p.tables.exec = Jvm.exec) {pc : Nat} {Ls : Array Slot} {z z' : Int32} {t : FieldType} {rest : List Value} (hret : meth.sig.returnType = some t) (ht : t = .boolean ∨ t = .byte ∨ t = .char ∨ t = .short) (hz : nar t z = z') (hd : decode c.code pc = .ok (.ireturn, 1)) {fs : List Frame}
    (hl : ∀ (f : JFrame) (acts : List Action), f.method = m → f.locked = none → f.entered = [] → (doReturn e (T.setTop f) acts (some (.int z'))).1 = T.setFrames fs) : Steps p.tables e below (T.setTop (mkF m pc Ls (.int z :: rest))) (T.setFrames fs) :=
  retN X hx hret ht hd (by rw [hz]; exact hl)
end Ret
theorem own_c3 (x y : Int64) : (y < x ∧ Jvm.Free.XT.cmpL x y = 1) ∨ (x = y ∧ Jvm.Free.XT.cmpL x y = 0) ∨ (x < y ∧ Jvm.Free.XT.cmpL x y = -1) := by
  unfold Jvm.Free.XT.cmpL
  by_cases h1 : y < x
  · exact Or.inl ⟨h1, if_pos h1⟩
  · by_cases h2 : x = y
    · exact Or.inr (Or.inl ⟨h2, by rw [if_neg h1, if_pos h2]⟩)
    · refine Or.inr (Or.inr ⟨?_, by rw [if_neg h1, if_neg h2]⟩)
      rw [← Int64.toInt_inj] at h2
      rw [Int64.lt_iff_toInt_lt] at *
      omega
theorem own_cl (x y : Int64) : Jvm.Free.XT.cmpL x y < 0 ↔ x < y := by
  rcases own_c3 x y with ⟨h, e⟩ | ⟨h, e⟩ | ⟨h, e⟩ <;> rw [e]
  · exact ⟨fun q => absurd q (by decide), fun q => by rw [Int64.lt_iff_toInt_lt] at *; omega⟩
  · exact ⟨fun q => absurd q (by decide), fun q => by rw [h, Int64.lt_iff_toInt_lt] at q; omega⟩
  · exact ⟨fun _ => h, fun _ => by decide⟩
theorem own_cg (x y : Int64) : 0 < Jvm.Free.XT.cmpL x y ↔ y < x := by
  rcases own_c3 x y with ⟨h, e⟩ | ⟨h, e⟩ | ⟨h, e⟩ <;> rw [e]
  · exact ⟨fun _ => h, fun _ => by decide⟩
  · exact ⟨fun q => absurd q (by decide), fun q => by rw [h, Int64.lt_iff_toInt_lt] at q; omega⟩
  · exact ⟨fun q => absurd q (by decide), fun q => by rw [Int64.lt_iff_toInt_lt] at *; omega⟩
theorem own_c0 (x y : Int64) : Jvm.Free.XT.cmpL x y = 0 ↔ x = y := by
  rcases own_c3 x y with ⟨h, e⟩ | ⟨h, e⟩ | ⟨h, e⟩ <;> rw [e]
  · exact ⟨fun q => absurd q (by decide), fun q => by rw [q, Int64.lt_iff_toInt_lt] at h; omega⟩
  · exact ⟨fun _ => h, fun _ => rfl⟩
  · exact ⟨fun q => absurd q (by decide), fun q => by rw [q, Int64.lt_iff_toInt_lt] at h; omega⟩
def own_min (x y : Int64) : Int64 := if 0 < Jvm.Free.XT.cmpL x y then y else x
def own_max (x y : Int64) : Int64 := if Jvm.Free.XT.cmpL x y < 0 then y else x
theorem own_min_i (x y : Int64) : ((own_min x y).toInt = x.toInt ∧ x.toInt ≤ y.toInt) ∨ ((own_min x y).toInt = y.toInt ∧ y.toInt ≤ x.toInt) := by
  by_cases h : 0 < Jvm.Free.XT.cmpL x y
  · have h2 := (own_cg x y).mp h
    rw [Int64.lt_iff_toInt_lt] at h2
    refine Or.inr ⟨by simp [own_min, h], by omega⟩
  · have h2 : ¬ y < x := fun q => h ((own_cg x y).mpr q)
    rw [Int64.lt_iff_toInt_lt] at h2
    exact Or.inl ⟨by simp [own_min, h], by omega⟩
theorem own_max_i (x y : Int64) : ((own_max x y).toInt = x.toInt ∧ y.toInt ≤ x.toInt) ∨ ((own_max x y).toInt = y.toInt ∧ x.toInt ≤ y.toInt) := by
  by_cases h : Jvm.Free.XT.cmpL x y < 0
  · have h2 := (own_cl x y).mp h
    rw [Int64.lt_iff_toInt_lt] at h2
    refine Or.inr ⟨by simp [own_max, h], by omega⟩
  · have h2 : ¬ x < y := fun q => h ((own_cl x y).mpr q)
    rw [Int64.lt_iff_toInt_lt] at h2
    exact Or.inl ⟨by simp [own_max, h], by omega⟩
theorem own_msk (a : Int64) : 0 ≤ (a &&& 9223372036854775807).toInt ∧ (a &&& 9223372036854775807).toInt ≤ 9223372036854775807 := by
  have h : (a &&& 9223372036854775807).toInt = a.toInt % 2 ^ 63 := Jvm.Kit.i64_mask a 9223372036854775807 (k := 63) (by decide) (by decide)
  rw [h]
  omega
theorem own_bX (a : Int64) : 0 ≤ (own_min (a &&& 9223372036854775807) 9223372036854775806).toInt ∧ (own_min (a &&& 9223372036854775807) 9223372036854775806).toInt ≤ 9223372036854775806 := by
  have h1 := own_msk a
  have h2 := own_min_i (a &&& 9223372036854775807) 9223372036854775806
  have h3 : (9223372036854775806 : Int64).toInt = 9223372036854775806 := rfl
  omega
theorem own_len (f l : Int64) (h1 : 0 ≤ f.toInt) (h2 : f.toInt ≤ l.toInt) (h3 : l.toInt ≤ 9223372036854775806) : ((l - f) + 1).toInt = l.toInt - f.toInt + 1 := by
  have o1 : (1 : Int64).toInt = 1 := rfl
  have e1 : (l - f).toInt = l.toInt - f.toInt := Jvm.Kit.i64_sub (by omega) (by omega)
  rw [Jvm.Kit.i64_add (by omega) (by omega)]
  omega
theorem own_m (f l c : Int64) (h1 : 0 ≤ f.toInt) (h2 : f.toInt ≤ l.toInt) (h3 : l.toInt ≤ 9223372036854775806) : f.toInt ≤ (f + ((c &&& 9223372036854775807) - ((c &&& 9223372036854775807) / ((l - f) + 1)) * ((l - f) + 1))).toInt ∧ (f + ((c &&& 9223372036854775807) - ((c &&& 9223372036854775807) / ((l - f) + 1)) * ((l - f) + 1))).toInt ≤ l.toInt := by
  have e1 := own_len f l h1 h2 h3
  have e2 := own_msk c
  have e3 : ((c &&& 9223372036854775807) - ((c &&& 9223372036854775807) / ((l - f) + 1)) * ((l - f) + 1)).toInt = (c &&& 9223372036854775807).toInt % ((l - f) + 1).toInt := Jvm.Kit.i64_rem_nonneg e2.1
  have e4 := Int.emod_nonneg (c &&& 9223372036854775807).toInt (b := ((l - f) + 1).toInt) (by omega)
  have e5 := Int.emod_lt_of_pos (c &&& 9223372036854775807).toInt (b := ((l - f) + 1).toInt) (by omega)
  rw [Jvm.Kit.i64_add (by omega) (by omega)]
  omega
theorem own_nz (f l : Int64) (h1 : 0 ≤ f.toInt) (h2 : f.toInt ≤ l.toInt) (h3 : l.toInt ≤ 9223372036854775806) : (l - f) + 1 ≠ 0 := fun q => by
  have e1 := own_len f l h1 h2 h3
  rw [q] at e1
  have o0 : (0 : Int64).toInt = 0 := rfl
  omega
def Q1 (p1 p2 : Int64) (h0 : Heap) (n0 : Nat) (v : Option Value) (h : Heap) (L : List Loc) : Prop := v = some (.long (own_min p1 p2)) ∧ Fr n0 L ∧ h = h0
theorem d1_0 : decode jdk_29_method_70_code 0 = .ok (.lload_n 0, 1) := by decide +kernel
theorem d1_1 : decode jdk_29_method_70_code 1 = .ok (.lload_n 2, 1) := by decide +kernel
theorem d1_2 : decode jdk_29_method_70_code 2 = .ok (.lcmp, 1) := by decide +kernel
theorem d1_3 : decode jdk_29_method_70_code 3 = .ok (.ifCond .gt 7, 3) := by decide +kernel
theorem d1_6 : decode jdk_29_method_70_code 6 = .ok (.lload_n 0, 1) := by decide +kernel
theorem d1_7 : decode jdk_29_method_70_code 7 = .ok (.goto 4, 3) := by decide +kernel
theorem d1_10 : decode jdk_29_method_70_code 10 = .ok (.lload_n 2, 1) := by decide +kernel
theorem d1_11 : decode jdk_29_method_70_code 11 = .ok (.lreturn, 1) := by decide +kernel
set_option maxRecDepth 65536 in
set_option maxHeartbeats 40000000 in
theorem rm1 (l : Launch) (Z : State) (a0 : Array Value) (hw : ∀ d ∈ tables_1, d.before a0 Z = true) (ws : List Jvm.Cond) (p1 p2 : Int64) (h0 : Heap) (n0 : Nat) (Z0 : n0 ≤ h0.size)  :
    MetFree l (⟨"java/lang/Math", "min", "(JJ)J"⟩ : MethodName) (head1 (Jvm.Cond.code (⟨"java/lang/Math", "min", "(JJ)J"⟩ : MethodName) jdk_29_method_70_code 4 (some .long) :: ws) ({ frames := 0, cells := 0, slots := 0, locals := 0 } : Room)) (fun a U => a = #[(.long p1), (.long p2)] ∧ Z.Warmed39 U.vm ∧ U.heap = h0) (fun _ _ _ _ _ => True) (fun _ U o U' => ∃ v L, o = .returned v ∧ Q1 p1 p2 h0 n0 v U'.heap L ∧ FrameEnd U o U' L 0 0) := by
  refine MetFree.of_bodySF (Jvm.Free.JP.mathPlain rfl (by decide +kernel)) hisR ?_
  intro p e s m args below meth c s₁ Bd hml0 hP hK
  obtain ⟨rfl, hZ, hh⟩ := hP
  have hx := Bd.exec
  have hby := Bd.bytes
  have hml : c.maxLocals = 4 := hml0
  have hown : s.vm.findClass "java/lang/Math" = some m.cls := findClass_of_methodNamed Bd.named
  have hnm := (name_of_methodNamed Bd.named Bd.method).1
  have X0 : Stand p l e ({ frames := 0, cells := 0, slots := 0, locals := 0 } : Room) s m #[(.long p1), (.long p2)] below meth c s₁ [] 0 0 := Stand.of_body Bd
  have e0 : s₁.heap = h0 := by rw [← hh, Bd.state]; rfl
  have N0 := Fr.nil n0
  have ef : entryFrame m #[(.long p1), (.long p2)] 4 = (mkF m 0 #[.val (.long p1), .second, .val (.long p2), .second] []) := by first | (simp [entryFrame, mkF, argsToLocals, Value.category]; done) | rfl
  refine own_start (fun P hPP => ?_)
  refine own_step (T' := s₁) (g' := (mkF m 0 #[.val (.long p1), .second, .val (.long p2), .second] [])) (fun t_ k_ => castTop ef k_) ?_
  refine own_step (T' := s₁) (g' := (mkF m 1 #[.val (.long p1), .second, .val (.long p2), .second] [(.long p1)])) (fun t_ k_ => XS.lloadN X0.here hx rfl (hb hby d1_0) rfl k_) ?_
  refine own_step (T' := s₁) (g' := (mkF m 2 #[.val (.long p1), .second, .val (.long p2), .second] [(.long p2), (.long p1)])) (fun t_ k_ => XS.lloadN X0.here hx rfl (hb hby d1_1) rfl k_) ?_
  refine own_step (T' := s₁) (g' := (mkF m 3 #[.val (.long p1), .second, .val (.long p2), .second] [(.int (Jvm.Free.XT.cmpL p1 p2))])) (fun t_ k_ => XT.lcmp X0.here hx rfl (hb hby d1_2) rfl k_) ?_
  by_cases hc3_1 : (0 : Int32) < (Jvm.Free.XT.cmpL p1 p2)
  · refine own_step (T' := s₁) (g' := (mkF m 10 #[.val (.long p1), .second, .val (.long p2), .second] [])) (fun t_ k_ => XS.ifYes X0.here hx rfl (pc0 := 3) (pc' := 10) rfl (hb hby d1_3) rfl ((if0 _ _).trans (tlt hc3_1).2.2.1) (by decide) (by decide) k_) ?_
    refine own_step (T' := s₁) (g' := (mkF m 11 #[.val (.long p1), .second, .val (.long p2), .second] [(.long p2)])) (fun t_ k_ => XS.lloadN X0.here hx rfl (hb hby d1_10) rfl k_) ?_
    obtain ⟨fs, hrR, hrun, hended, hWW, hsame⟩ := X0.leave (v := some (.long p2)) (fun h => by rw [Bd.returns] at h; cases h)
    refine ⟨_, _, own_retJ X0 hx Bd.returns (hb hby d1_11) hrR, hrun, hended, hPP _ _ ⟨_, _, rfl, ?_, ⟨_, rfl⟩, hWW, hsame.mono (by decide) (by decide)⟩⟩
    show Q1 p1 p2 h0 n0 _ s₁.heap _
    rw [e0]
    exact ⟨by simp [own_min, hc3_1], N0, rfl⟩
  · refine own_step (T' := s₁) (g' := (mkF m 6 #[.val (.long p1), .second, .val (.long p2), .second] [])) (fun t_ k_ => XS.ifNo X0.here hx rfl (hb hby d1_3) rfl ((if0 _ _).trans (flt hc3_1).2.2.1) k_) ?_
    refine own_step (T' := s₁) (g' := (mkF m 7 #[.val (.long p1), .second, .val (.long p2), .second] [(.long p1)])) (fun t_ k_ => XS.lloadN X0.here hx rfl (hb hby d1_6) rfl k_) ?_
    refine own_step (T' := s₁) (g' := (mkF m 11 #[.val (.long p1), .second, .val (.long p2), .second] [(.long p1)])) (fun t_ k_ => XS.goto X0.here hx rfl (pc0 := 7) (pc' := 11) rfl (hb hby d1_7) (by decide) (by decide) k_) ?_
    obtain ⟨fs, hrR, hrun, hended, hWW, hsame⟩ := X0.leave (v := some (.long p1)) (fun h => by rw [Bd.returns] at h; cases h)
    refine ⟨_, _, own_retJ X0 hx Bd.returns (hb hby d1_11) hrR, hrun, hended, hPP _ _ ⟨_, _, rfl, ?_, ⟨_, rfl⟩, hWW, hsame.mono (by decide) (by decide)⟩⟩
    show Q1 p1 p2 h0 n0 _ s₁.heap _
    rw [e0]
    exact ⟨by simp [own_min, hc3_1], N0, rfl⟩
def Q2 (p1 p2 : Int64) (h0 : Heap) (n0 : Nat) (v : Option Value) (h : Heap) (L : List Loc) : Prop := v = some (.long (own_max p1 p2)) ∧ Fr n0 L ∧ h = h0
theorem d2_0 : decode jdk_29_method_66_code 0 = .ok (.lload_n 0, 1) := by decide +kernel
theorem d2_1 : decode jdk_29_method_66_code 1 = .ok (.lload_n 2, 1) := by decide +kernel
theorem d2_2 : decode jdk_29_method_66_code 2 = .ok (.lcmp, 1) := by decide +kernel
theorem d2_3 : decode jdk_29_method_66_code 3 = .ok (.ifCond .lt 7, 3) := by decide +kernel
theorem d2_6 : decode jdk_29_method_66_code 6 = .ok (.lload_n 0, 1) := by decide +kernel
theorem d2_7 : decode jdk_29_method_66_code 7 = .ok (.goto 4, 3) := by decide +kernel
theorem d2_10 : decode jdk_29_method_66_code 10 = .ok (.lload_n 2, 1) := by decide +kernel
theorem d2_11 : decode jdk_29_method_66_code 11 = .ok (.lreturn, 1) := by decide +kernel
set_option maxRecDepth 65536 in
set_option maxHeartbeats 40000000 in
theorem rm2 (l : Launch) (Z : State) (a0 : Array Value) (hw : ∀ d ∈ tables_1, d.before a0 Z = true) (ws : List Jvm.Cond) (p1 p2 : Int64) (h0 : Heap) (n0 : Nat) (Z0 : n0 ≤ h0.size)  :
    MetFree l (⟨"java/lang/Math", "max", "(JJ)J"⟩ : MethodName) (head1 (Jvm.Cond.code (⟨"java/lang/Math", "max", "(JJ)J"⟩ : MethodName) jdk_29_method_66_code 4 (some .long) :: ws) ({ frames := 0, cells := 0, slots := 0, locals := 0 } : Room)) (fun a U => a = #[(.long p1), (.long p2)] ∧ Z.Warmed39 U.vm ∧ U.heap = h0) (fun _ _ _ _ _ => True) (fun _ U o U' => ∃ v L, o = .returned v ∧ Q2 p1 p2 h0 n0 v U'.heap L ∧ FrameEnd U o U' L 0 0) := by
  refine MetFree.of_bodySF (Jvm.Free.JP.mathPlain rfl (by decide +kernel)) hisR ?_
  intro p e s m args below meth c s₁ Bd hml0 hP hK
  obtain ⟨rfl, hZ, hh⟩ := hP
  have hx := Bd.exec
  have hby := Bd.bytes
  have hml : c.maxLocals = 4 := hml0
  have hown : s.vm.findClass "java/lang/Math" = some m.cls := findClass_of_methodNamed Bd.named
  have hnm := (name_of_methodNamed Bd.named Bd.method).1
  have X0 : Stand p l e ({ frames := 0, cells := 0, slots := 0, locals := 0 } : Room) s m #[(.long p1), (.long p2)] below meth c s₁ [] 0 0 := Stand.of_body Bd
  have e0 : s₁.heap = h0 := by rw [← hh, Bd.state]; rfl
  have N0 := Fr.nil n0
  have ef : entryFrame m #[(.long p1), (.long p2)] 4 = (mkF m 0 #[.val (.long p1), .second, .val (.long p2), .second] []) := by first | (simp [entryFrame, mkF, argsToLocals, Value.category]; done) | rfl
  refine own_start (fun P hPP => ?_)
  refine own_step (T' := s₁) (g' := (mkF m 0 #[.val (.long p1), .second, .val (.long p2), .second] [])) (fun t_ k_ => castTop ef k_) ?_
  refine own_step (T' := s₁) (g' := (mkF m 1 #[.val (.long p1), .second, .val (.long p2), .second] [(.long p1)])) (fun t_ k_ => XS.lloadN X0.here hx rfl (hb hby d2_0) rfl k_) ?_
  refine own_step (T' := s₁) (g' := (mkF m 2 #[.val (.long p1), .second, .val (.long p2), .second] [(.long p2), (.long p1)])) (fun t_ k_ => XS.lloadN X0.here hx rfl (hb hby d2_1) rfl k_) ?_
  refine own_step (T' := s₁) (g' := (mkF m 3 #[.val (.long p1), .second, .val (.long p2), .second] [(.int (Jvm.Free.XT.cmpL p1 p2))])) (fun t_ k_ => XT.lcmp X0.here hx rfl (hb hby d2_2) rfl k_) ?_
  by_cases hc3_1 : (Jvm.Free.XT.cmpL p1 p2) < (0 : Int32)
  · refine own_step (T' := s₁) (g' := (mkF m 10 #[.val (.long p1), .second, .val (.long p2), .second] [])) (fun t_ k_ => XS.ifYes X0.here hx rfl (pc0 := 3) (pc' := 10) rfl (hb hby d2_3) rfl ((if0 _ _).trans (tlt hc3_1).1) (by decide) (by decide) k_) ?_
    refine own_step (T' := s₁) (g' := (mkF m 11 #[.val (.long p1), .second, .val (.long p2), .second] [(.long p2)])) (fun t_ k_ => XS.lloadN X0.here hx rfl (hb hby d2_10) rfl k_) ?_
    obtain ⟨fs, hrR, hrun, hended, hWW, hsame⟩ := X0.leave (v := some (.long p2)) (fun h => by rw [Bd.returns] at h; cases h)
    refine ⟨_, _, own_retJ X0 hx Bd.returns (hb hby d2_11) hrR, hrun, hended, hPP _ _ ⟨_, _, rfl, ?_, ⟨_, rfl⟩, hWW, hsame.mono (by decide) (by decide)⟩⟩
    show Q2 p1 p2 h0 n0 _ s₁.heap _
    rw [e0]
    exact ⟨by simp [own_max, hc3_1], N0, rfl⟩
  · refine own_step (T' := s₁) (g' := (mkF m 6 #[.val (.long p1), .second, .val (.long p2), .second] [])) (fun t_ k_ => XS.ifNo X0.here hx rfl (hb hby d2_3) rfl ((if0 _ _).trans (flt hc3_1).1) k_) ?_
    refine own_step (T' := s₁) (g' := (mkF m 7 #[.val (.long p1), .second, .val (.long p2), .second] [(.long p1)])) (fun t_ k_ => XS.lloadN X0.here hx rfl (hb hby d2_6) rfl k_) ?_
    refine own_step (T' := s₁) (g' := (mkF m 11 #[.val (.long p1), .second, .val (.long p2), .second] [(.long p1)])) (fun t_ k_ => XS.goto X0.here hx rfl (pc0 := 7) (pc' := 11) rfl (hb hby d2_7) (by decide) (by decide) k_) ?_
    obtain ⟨fs, hrR, hrun, hended, hWW, hsame⟩ := X0.leave (v := some (.long p1)) (fun h => by rw [Bd.returns] at h; cases h)
    refine ⟨_, _, own_retJ X0 hx Bd.returns (hb hby d2_11) hrR, hrun, hended, hPP _ _ ⟨_, _, rfl, ?_, ⟨_, rfl⟩, hWW, hsame.mono (by decide) (by decide)⟩⟩
    show Q2 p1 p2 h0 n0 _ s₁.heap _
    rw [e0]
    exact ⟨by simp [own_max, hc3_1], N0, rfl⟩
def Q4 (h0 : Heap) (n0 : Nat) (v : Option Value) (h : Heap) (L : List Loc) : Prop := v = none ∧ Fr n0 L ∧ h = h0
theorem d4_0 : decode jdk_30_method_1_code 0 = .ok (.aload_n 0, 1) := by decide +kernel
theorem d4_1 : decode jdk_30_method_1_code 1 = .ok (.invokespecial 1, 3) := by decide +kernel
theorem d4_4 : decode jdk_30_method_1_code 4 = .ok (.return_, 1) := by decide +kernel
set_option maxRecDepth 65536 in
set_option maxHeartbeats 40000000 in
theorem rm4 (l : Launch) (Z : State) (a0 : Array Value) (hw : ∀ d ∈ tables_1, d.before a0 Z = true) (ws : List Jvm.Cond) (a1 : Addr) (h0 : Heap) (n0 : Nat) (Z0 : n0 ≤ h0.size)  :
    MetFree l (⟨"java/lang/Record", "<init>", "()V"⟩ : MethodName) (head1 (Jvm.Cond.code (⟨"java/lang/Record", "<init>", "()V"⟩ : MethodName) jdk_30_method_1_code 1 none :: ws) ({ frames := 1, cells := 0, slots := 0, locals := 12 } : Room)) (fun a U => a = #[(.ref a1)] ∧ Z.Warmed39 U.vm ∧ U.heap = h0) (fun _ _ _ _ _ => True) (fun _ U o U' => ∃ v L, o = .returned v ∧ Q4 h0 n0 v U'.heap L ∧ FrameEnd U o U' L 0 0) := by
  refine MetFree.of_bodySF (plainFor_of_name (by first | (simp [plainName, overriddenIn]; done) | decide +kernel)) hisR ?_
  intro p e s m args below meth c s₁ Bd hml0 hP hK
  obtain ⟨rfl, hZ, hh⟩ := hP
  have hx := Bd.exec
  have hby := Bd.bytes
  have hml : c.maxLocals = 1 := hml0
  have hown : s.vm.findClass "java/lang/Record" = some m.cls := findClass_of_methodNamed Bd.named
  have hnm := (name_of_methodNamed Bd.named Bd.method).1
  have X0 : Stand p l e ({ frames := 1, cells := 0, slots := 0, locals := 12 } : Room) s m #[(.ref a1)] below meth c s₁ [] 0 0 := Stand.of_body Bd
  have e0 : s₁.heap = h0 := by rw [← hh, Bd.state]; rfl
  have N0 := Fr.nil n0
  have ef : entryFrame m #[(.ref a1)] 1 = (mkF m 0 #[.val (.ref a1)] []) := by first | (simp [entryFrame, mkF, argsToLocals, Value.category]; done) | rfl
  refine own_start (fun P hPP => ?_)
  refine own_step (T' := s₁) (g' := (mkF m 0 #[.val (.ref a1)] [])) (fun t_ k_ => castTop ef k_) ?_
  refine own_step (T' := s₁) (g' := (mkF m 1 #[.val (.ref a1)] [(.ref a1)])) (fun t_ k_ => XS.aloadN X0.here hx rfl (hb hby d4_0) rfl rfl k_) ?_
  obtain ⟨T1, X1, e1, st1⟩ := initO X0 hx hZ hown (hw _ (List.mem_of_getElem? (i := 20) rfl)) (hw _ (List.mem_of_getElem? (i := 21) rfl)) (hw _ (List.mem_of_getElem? (i := 22) rfl)) e0 (g := (mkF m 1 #[.val (.ref a1)] [(.ref a1)])) rfl (by rw [hml]; rfl) rfl (hb hby d4_1) (by decide) (W := 0) (by show 2 * 0 + _ ≤ _; exact Nat.le_of_eq rfl) (by decide)
  refine own_step (T' := T1) (g' := (mkF m 4 #[.val (.ref a1)] [])) st1 ?_
  obtain ⟨fs, hrR, hrun, hended, hWW, hsame⟩ := X1.leave (v := none) (fun _ => rfl)
  refine ⟨_, _, X1.returnOut hx Bd.returns (hb hby d4_4) hrR, hrun, hended, hPP _ _ ⟨_, _, rfl, ?_, ⟨_, rfl⟩, hWW, hsame.mono (by decide) (by decide)⟩⟩
  show Q4 h0 n0 _ T1.heap _
  rw [e1]
  exact ⟨rfl, N0, rfl⟩
def Q3 (Z : State) (a1 : Addr) (p1 p2 : Int64) (h0 : Heap) (n0 : Nat) (v : Option Value) (h : Heap) (L : List Loc) : Prop := v = none ∧ Fr n0 L ∧ Keep h0 h [a1] ∧ Fld Z h a1 "com/example/vestibule/vestibule/container/ByteRanges$Range" "first" "J" (.long p1) ∧ Fld Z h a1 "com/example/vestibule/vestibule/container/ByteRanges$Range" "last" "J" (.long p2)
theorem d3_0 : decode prog_10_method_1_code 0 = .ok (.aload_n 0, 1) := by decide +kernel
theorem d3_1 : decode prog_10_method_1_code 1 = .ok (.invokespecial 3, 3) := by decide +kernel
theorem d3_4 : decode prog_10_method_1_code 4 = .ok (.aload_n 0, 1) := by decide +kernel
theorem d3_5 : decode prog_10_method_1_code 5 = .ok (.lload_n 1, 1) := by decide +kernel
theorem d3_6 : decode prog_10_method_1_code 6 = .ok (.putfield 9, 3) := by decide +kernel
theorem d3_9 : decode prog_10_method_1_code 9 = .ok (.aload_n 0, 1) := by decide +kernel
theorem d3_10 : decode prog_10_method_1_code 10 = .ok (.lload_n 3, 1) := by decide +kernel
theorem d3_11 : decode prog_10_method_1_code 11 = .ok (.putfield 15, 3) := by decide +kernel
theorem d3_14 : decode prog_10_method_1_code 14 = .ok (.return_, 1) := by decide +kernel
set_option maxRecDepth 65536 in
set_option maxHeartbeats 40000000 in
theorem rm3 (l : Launch) (Z : State) (a0 : Array Value) (hw : ∀ d ∈ tables_1, d.before a0 Z = true) (ws : List Jvm.Cond) (a1 : Addr) (p1 p2 : Int64) (h0 : Heap) (n0 : Nat) (Z0 : n0 ≤ h0.size) (FF : Fld Z h0 a1 "com/example/vestibule/vestibule/container/ByteRanges$Range" "first" "J" (.long (0 : Int64))) (FL : Fld Z h0 a1 "com/example/vestibule/vestibule/container/ByteRanges$Range" "last" "J" (.long (0 : Int64))) (E1 : Exa Z h0 a1 "com/example/vestibule/vestibule/container/ByteRanges$Range") (ge1 : n0 ≤ a1) :
    MetFree l (⟨"com/example/vestibule/vestibule/container/ByteRanges$Range", "<init>", "(JJ)V"⟩ : MethodName) (head1 (Jvm.Cond.code (⟨"com/example/vestibule/vestibule/container/ByteRanges$Range", "<init>", "(JJ)V"⟩ : MethodName) prog_10_method_1_code 5 none :: ws) ({ frames := 2, cells := 0, slots := 0, locals := 24 } : Room)) (fun a U => a = #[(.ref a1), (.long p1), (.long p2)] ∧ Z.Warmed39 U.vm ∧ U.heap = h0) (fun _ _ _ _ _ => True) (fun _ U o U' => ∃ v L, o = .returned v ∧ Q3 Z a1 p1 p2 h0 n0 v U'.heap L ∧ FrameEnd U o U' L 0 0) := by
  refine MetFree.of_bodySF (plainFor_of_name (by first | (simp [plainName, overriddenIn]; done) | decide +kernel)) hisR ?_
  intro p e s m args below meth c s₁ Bd hml0 hP hK
  obtain ⟨rfl, hZ, hh⟩ := hP
  have hx := Bd.exec
  have hby := Bd.bytes
  have hml : c.maxLocals = 5 := hml0
  have hown : s.vm.findClass "com/example/vestibule/vestibule/container/ByteRanges$Range" = some m.cls := findClass_of_methodNamed Bd.named
  have hnm := (name_of_methodNamed Bd.named Bd.method).1
  have X0 : Stand p l e ({ frames := 2, cells := 0, slots := 0, locals := 24 } : Room) s m #[(.ref a1), (.long p1), (.long p2)] below meth c s₁ [] 0 0 := Stand.of_body Bd
  have e0 : s₁.heap = h0 := by rw [← hh, Bd.state]; rfl
  have N0 := Fr.nil n0
  have ef : entryFrame m #[(.ref a1), (.long p1), (.long p2)] 5 = (mkF m 0 #[.val (.ref a1), .val (.long p1), .second, .val (.long p2), .second] []) := by first | (simp [entryFrame, mkF, argsToLocals, Value.category]; done) | rfl
  refine own_start (fun P hPP => ?_)
  refine own_step (T' := s₁) (g' := (mkF m 0 #[.val (.ref a1), .val (.long p1), .second, .val (.long p2), .second] [])) (fun t_ k_ => castTop ef k_) ?_
  have K0 := Keep.refl h0 [a1]
  refine own_step (T' := s₁) (g' := (mkF m 1 #[.val (.ref a1), .val (.long p1), .second, .val (.long p2), .second] [(.ref a1)])) (fun t_ k_ => XS.aloadN X0.here hx rfl (hb hby d3_0) rfl rfl k_) ?_
  obtain ⟨_, _, ⟨T1, L1, k1, n1⟩, -, X1, ⟨Lc1, hQ1, l1, y1, z1⟩, st1⟩ := X0.specialBack hx (y := (⟨"java/lang/Record", "<init>", "()V"⟩ : MethodName)) rfl hown (mvT hZ (hw _ (List.mem_of_getElem? (i := 15) rfl))) (mvT hZ (hw _ (List.mem_of_getElem? (i := 16) rfl))) (mvT hZ (hw _ (List.mem_of_getElem? (i := 19) rfl))) (by decide) (backOf (W := 0) (rm4 l Z a0 hw [] a1 h0 n0 Z0) hZ (hw _ (List.mem_of_getElem? (i := 19) rfl)) (hw _ (List.mem_of_getElem? (i := 18) rfl)) (by decide) (by decide)) (g := (mkF m 1 #[.val (.ref a1), .val (.long p1), .second, .val (.long p2), .second] [(.ref a1)])) rfl (by rw [hml]; rfl) (Steps.refl _) (a := a1) (argsL := []) (rest := []) (lenOf (by decide +kernel : parseMethodDescriptor "()V" = some ⟨[], none⟩) rfl) rfl (by show 2 * 0 + _ ≤ _; exact Nat.le_of_eq rfl) (hb hby d3_1) (fun _ _ => ⟨rfl, e0, (by decide : 0 + 0 ≤ _), (by decide : 0 + 0 ≤ _)⟩)
  dsimp only [Pt.U, Pt.locs, Pt.cells, Pt.slots] at X1 l1 y1 z1 st1 hQ1
  subst l1 y1 z1
  obtain ⟨rfl, Nq1, e1⟩ := hQ1
  have N1 := Fr.app N0 Nq1
  refine own_to (T' := T1) (g' := (mkF m 4 #[.val (.ref a1), .val (.long p1), .second, .val (.long p2), .second] [])) st1 ?_
  refine own_step (T' := T1) (g' := (mkF m 5 #[.val (.ref a1), .val (.long p1), .second, .val (.long p2), .second] [(.ref a1)])) (fun t_ k_ => XS.aloadN X1.here hx rfl (hb hby d3_4) rfl rfl k_) ?_
  refine own_step (T' := T1) (g' := (mkF m 6 #[.val (.ref a1), .val (.long p1), .second, .val (.long p2), .second] [(.long p1), (.ref a1)])) (fun t_ k_ => XS.lloadN X1.here hx rfl (hb hby d3_5) rfl k_) ?_
  obtain ⟨T2, h2, X2, e2, W2, st2⟩ := putF X1 hx hZ hown (host := "") (Or.inl (hw _ (List.mem_of_getElem? (i := 23) rfl))) Via.refl e1 FF E1 (Or.inr ⟨(hw _ (List.mem_of_getElem? (i := 24) rfl)), rfl, hnm⟩) (hw _ (List.mem_of_getElem? (i := 10) rfl)) (ty := .long) (by decide) rfl rfl (g := (mkF m 6 #[.val (.ref a1), .val (.long p1), .second, .val (.long p2), .second] [(.long p1), (.ref a1)])) rfl rfl (hb hby d3_6)
  have N2 := Fr.snoc X2 N1 ge1
  have f3 := FF.same W2
  have f4 := FL.other W2 (Or.inr (slot_ne (Or.inr (hw _ (List.mem_of_getElem? (i := 26) rfl))) (Or.inr (hw _ (List.mem_of_getElem? (i := 24) rfl))) (by decide) (t := .long) (t' := .long) (by decide) (by decide)))
  have f5 := E1.wr W2
  have k6 := K0.wr W2 (Or.inl (List.mem_of_getElem? (i := 0) rfl))
  have z7 : n0 ≤ h2.size := Nat.le_trans Z0 (Keep.of_wr W2).1
  refine own_step (T' := T2) (g' := (mkF m 9 #[.val (.ref a1), .val (.long p1), .second, .val (.long p2), .second] [])) st2 ?_
  refine own_step (T' := T2) (g' := (mkF m 10 #[.val (.ref a1), .val (.long p1), .second, .val (.long p2), .second] [(.ref a1)])) (fun t_ k_ => XS.aloadN X2.here hx rfl (hb hby d3_9) rfl rfl k_) ?_
  refine own_step (T' := T2) (g' := (mkF m 11 #[.val (.ref a1), .val (.long p1), .second, .val (.long p2), .second] [(.long p2), (.ref a1)])) (fun t_ k_ => XS.lloadN X2.here hx rfl (hb hby d3_10) rfl k_) ?_
  obtain ⟨T8, h8, X8, e8, W8, st8⟩ := putF X2 hx hZ hown (host := "") (Or.inl (hw _ (List.mem_of_getElem? (i := 25) rfl))) Via.refl e2 f4 f5 (Or.inr ⟨(hw _ (List.mem_of_getElem? (i := 26) rfl)), rfl, hnm⟩) (hw _ (List.mem_of_getElem? (i := 10) rfl)) (ty := .long) (by decide) rfl rfl (g := (mkF m 11 #[.val (.ref a1), .val (.long p1), .second, .val (.long p2), .second] [(.long p2), (.ref a1)])) rfl rfl (hb hby d3_11)
  have N8 := Fr.snoc X8 N2 ge1
  have f9 := f3.other W8 (Or.inr (slot_ne (Or.inr (hw _ (List.mem_of_getElem? (i := 24) rfl))) (Or.inr (hw _ (List.mem_of_getElem? (i := 26) rfl))) (by decide) (t := .long) (t' := .long) (by decide) (by decide)))
  have f10 := f4.same W8
  have f11 := f5.wr W8
  have k12 := k6.wr W8 (Or.inl (List.mem_of_getElem? (i := 0) rfl))
  have z13 : n0 ≤ h8.size := Nat.le_trans z7 (Keep.of_wr W8).1
  refine own_step (T' := T8) (g' := (mkF m 14 #[.val (.ref a1), .val (.long p1), .second, .val (.long p2), .second] [])) st8 ?_
  obtain ⟨fs, hrR, hrun, hended, hWW, hsame⟩ := X8.leave (v := none) (fun _ => rfl)
  refine ⟨_, _, X8.returnOut hx Bd.returns (hb hby d3_14) hrR, hrun, hended, hPP _ _ ⟨_, _, rfl, ?_, ⟨_, rfl⟩, hWW, hsame.mono (by decide) (by decide)⟩⟩
  show Q3 Z a1 p1 p2 h0 n0 _ T8.heap _
  rw [e8]
  exact ⟨rfl, N8, k12, f9, f10⟩
def Q6 (p1 p2 : Int64) (h0 : Heap) (n0 : Nat) (v : Option Value) (h : Heap) (L : List Loc) : Prop := v = some (.long ((p2 - p1) + 1)) ∧ Fr n0 L ∧ h = h0
theorem d6_0 : decode prog_10_method_2_code 0 = .ok (.aload_n 0, 1) := by decide +kernel
theorem d6_1 : decode prog_10_method_2_code 1 = .ok (.getfield 15, 3) := by decide +kernel
theorem d6_4 : decode prog_10_method_2_code 4 = .ok (.aload_n 0, 1) := by decide +kernel
theorem d6_5 : decode prog_10_method_2_code 5 = .ok (.getfield 9, 3) := by decide +kernel
theorem d6_8 : decode prog_10_method_2_code 8 = .ok (.lsub, 1) := by decide +kernel
theorem d6_9 : decode prog_10_method_2_code 9 = .ok (.lconst 1, 1) := by decide +kernel
theorem d6_10 : decode prog_10_method_2_code 10 = .ok (.ladd, 1) := by decide +kernel
theorem d6_11 : decode prog_10_method_2_code 11 = .ok (.lreturn, 1) := by decide +kernel
set_option maxRecDepth 65536 in
set_option maxHeartbeats 40000000 in
theorem rm6 (l : Launch) (Z : State) (a0 : Array Value) (hw : ∀ d ∈ tables_1, d.before a0 Z = true) (ws : List Jvm.Cond) (a1 : Addr) (p1 p2 : Int64) (h0 : Heap) (n0 : Nat) (Z0 : n0 ≤ h0.size) (F1 : Fld Z h0 a1 "com/example/vestibule/vestibule/container/ByteRanges$Range" "first" "J" (.long p1)) (F2 : Fld Z h0 a1 "com/example/vestibule/vestibule/container/ByteRanges$Range" "last" "J" (.long p2)) :
    MetFree l (⟨"com/example/vestibule/vestibule/container/ByteRanges$Range", "length", "()J"⟩ : MethodName) (head1 (Jvm.Cond.code (⟨"com/example/vestibule/vestibule/container/ByteRanges$Range", "length", "()J"⟩ : MethodName) prog_10_method_2_code 1 (some .long) :: ws) ({ frames := 0, cells := 0, slots := 0, locals := 0 } : Room)) (fun a U => a = #[(.ref a1)] ∧ Z.Warmed39 U.vm ∧ U.heap = h0) (fun _ _ _ _ _ => True) (fun _ U o U' => ∃ v L, o = .returned v ∧ Q6 p1 p2 h0 n0 v U'.heap L ∧ FrameEnd U o U' L 0 0) := by
  refine MetFree.of_bodySF (plainFor_of_name (by first | (simp [plainName, overriddenIn]; done) | decide +kernel)) hisR ?_
  intro p e s m args below meth c s₁ Bd hml0 hP hK
  obtain ⟨rfl, hZ, hh⟩ := hP
  have hx := Bd.exec
  have hby := Bd.bytes
  have hml : c.maxLocals = 1 := hml0
  have hown : s.vm.findClass "com/example/vestibule/vestibule/container/ByteRanges$Range" = some m.cls := findClass_of_methodNamed Bd.named
  have hnm := (name_of_methodNamed Bd.named Bd.method).1
  have X0 : Stand p l e ({ frames := 0, cells := 0, slots := 0, locals := 0 } : Room) s m #[(.ref a1)] below meth c s₁ [] 0 0 := Stand.of_body Bd
  have e0 : s₁.heap = h0 := by rw [← hh, Bd.state]; rfl
  have N0 := Fr.nil n0
  have ef : entryFrame m #[(.ref a1)] 1 = (mkF m 0 #[.val (.ref a1)] []) := by first | (simp [entryFrame, mkF, argsToLocals, Value.category]; done) | rfl
  refine own_start (fun P hPP => ?_)
  refine own_step (T' := s₁) (g' := (mkF m 0 #[.val (.ref a1)] [])) (fun t_ k_ => castTop ef k_) ?_
  refine own_step (T' := s₁) (g' := (mkF m 1 #[.val (.ref a1)] [(.ref a1)])) (fun t_ k_ => XS.aloadN X0.here hx rfl (hb hby d6_0) rfl rfl k_) ?_
  obtain ⟨T1, X1, e1, st1⟩ := getF X0 hx hZ hown (host := "") (Or.inl (hw _ (List.mem_of_getElem? (i := 25) rfl))) Via.refl e0 F2 (g := (mkF m 1 #[.val (.ref a1)] [(.ref a1)])) rfl rfl (hb hby d6_1)
  refine own_step (T' := T1) (g' := (mkF m 4 #[.val (.ref a1)] [(.long p2)])) st1 ?_
  refine own_step (T' := T1) (g' := (mkF m 5 #[.val (.ref a1)] [(.ref a1), (.long p2)])) (fun t_ k_ => XS.aloadN X1.here hx rfl (hb hby d6_4) rfl rfl k_) ?_
  obtain ⟨T2, X2, e2, st2⟩ := getF X1 hx hZ hown (host := "") (Or.inl (hw _ (List.mem_of_getElem? (i := 23) rfl))) Via.refl e1 F1 (g := (mkF m 5 #[.val (.ref a1)] [(.ref a1), (.long p2)])) rfl rfl (hb hby d6_5)
  refine own_step (T' := T2) (g' := (mkF m 8 #[.val (.ref a1)] [(.long p1), (.long p2)])) st2 ?_
  refine own_step (T' := T2) (g' := (mkF m 9 #[.val (.ref a1)] [(.long (p2 - p1))])) (fun t_ k_ => XS.lsub X2.here hx rfl (hb hby d6_8) rfl k_) ?_
  refine own_step (T' := T2) (g' := (mkF m 10 #[.val (.ref a1)] [(.long (1 : Int64)), (.long (p2 - p1))])) (fun t_ k_ => XS.lconst X2.here hx rfl (hb hby d6_9) k_) ?_
  refine own_step (T' := T2) (g' := (mkF m 11 #[.val (.ref a1)] [(.long ((p2 - p1) + (1 : Int64)))])) (fun t_ k_ => XS.ladd X2.here hx rfl (hb hby d6_10) rfl k_) ?_
  obtain ⟨fs, hrR, hrun, hended, hWW, hsame⟩ := X2.leave (v := some (.long ((p2 - p1) + (1 : Int64)))) (fun h => by rw [Bd.returns] at h; cases h)
  refine ⟨_, _, own_retJ X2 hx Bd.returns (hb hby d6_11) hrR, hrun, hended, hPP _ _ ⟨_, _, rfl, ?_, ⟨_, rfl⟩, hWW, hsame.mono (by decide) (by decide)⟩⟩
  show Q6 p1 p2 h0 n0 _ T2.heap _
  rw [e2]
  exact ⟨rfl, N0, rfl⟩
def Q0 (n0 : Nat) (v : Option Value) (h : Heap) (L : List Loc) : Prop := v = some (.int 1) ∧ Fr n0 L
set_option maxRecDepth 65536 in
set_option maxHeartbeats 40000000 in
theorem rm0 (l : Launch) (Z : State) (a0 : Array Value) (hw : ∀ d ∈ tables_1, d.before a0 Z = true) (ws : List Jvm.Cond) (p1 p2 p3 : Int64) (h0 : Heap) (n0 : Nat) (Z0 : n0 ≤ h0.size)  :
    MetFree l x (head1 (Jvm.Cond.code x code maxLocals ret :: ws) room_1) (fun a U => a = #[(.long p1), (.long p2), (.long p3)] ∧ Z.Warmed39 U.vm ∧ U.heap = h0) (fun _ _ _ _ _ => True) (fun _ U o U' => ∃ v L, o = .returned v ∧ Q0 n0 v U'.heap L ∧ FrameEnd U o U' L 16 128) := by
  refine MetFree.of_bodySF (plainFor_of_name (by first | (simp [plainName, overriddenIn]; done) | decide +kernel)) hisR ?_
  intro p e s m args below meth c s₁ Bd hml0 hP hK
  obtain ⟨rfl, hZ, hh⟩ := hP
  have hx := Bd.exec
  have hby := Bd.bytes
  have hml : c.maxLocals = 26 := hml0
  have hown : s.vm.findClass "com/example/vestibule/vestibule/container/RangeLengthPinLaw" = some m.cls := findClass_of_methodNamed Bd.named
  have hnm := (name_of_methodNamed Bd.named Bd.method).1
  have X0 : Stand p l e room_1 s m #[(.long p1), (.long p2), (.long p3)] below meth c s₁ [] 0 0 := Stand.of_body Bd
  have e0 : s₁.heap = h0 := by rw [← hh, Bd.state]; rfl
  have N0 := Fr.nil n0
  have ef : entryFrame m #[(.long p1), (.long p2), (.long p3)] maxLocals = (mkF m 0 #[.val (.long p1), .second, .val (.long p2), .second, .val (.long p3), .second, .unset, .unset, .unset, .unset, .unset, .unset, .unset, .unset, .unset, .unset, .unset, .unset, .unset, .unset, .unset, .unset, .unset, .unset, .unset, .unset] []) := by first | (simp [entryFrame, mkF, argsToLocals, Value.category, maxLocals]; done) | rfl
  refine own_start (fun P hPP => ?_)
  refine own_step (T' := s₁) (g' := (mkF m 0 #[.val (.long p1), .second, .val (.long p2), .second, .val (.long p3), .second, .unset, .unset, .unset, .unset, .unset, .unset, .unset, .unset, .unset, .unset, .unset, .unset, .unset, .unset, .unset, .unset, .unset, .unset, .unset, .unset] [])) (fun t_ k_ => castTop ef k_) ?_
  refine own_step (T' := s₁) (g' := (mkF m 1 #[.val (.long p1), .second, .val (.long p2), .second, .val (.long p3), .second, .unset, .unset, .unset, .unset, .unset, .unset, .unset, .unset, .unset, .unset, .unset, .unset, .unset, .unset, .unset, .unset, .unset, .unset, .unset, .unset] [(.long p1)])) (fun t_ k_ => XS.lloadN X0.here hx rfl (hb hby at_0) rfl k_) ?_
  refine own_step (T' := s₁) (g' := (mkF m 4 #[.val (.long p1), .second, .val (.long p2), .second, .val (.long p3), .second, .unset, .unset, .unset, .unset, .unset, .unset, .unset, .unset, .unset, .unset, .unset, .unset, .unset, .unset, .unset, .unset, .unset, .unset, .unset, .unset] [(.long (9223372036854775807 : Int64)), (.long p1)])) (fun t_ k_ => X0.ldc2Long hx hown (mvT hZ (hw _ (List.mem_of_getElem? (i := 0) rfl))) (g := (mkF m 1 #[.val (.long p1), .second, .val (.long p2), .second, .val (.long p3), .second, .unset, .unset, .unset, .unset, .unset, .unset, .unset, .unset, .unset, .unset, .unset, .unset, .unset, .unset, .unset, .unset, .unset, .unset, .unset, .unset] [(.long p1)])) rfl (hb hby at_1) _ k_) ?_
  refine own_step (T' := s₁) (g' := (mkF m 5 #[.val (.long p1), .second, .val (.long p2), .second, .val (.long p3), .second, .unset, .unset, .unset, .unset, .unset, .unset, .unset, .unset, .unset, .unset, .unset, .unset, .unset, .unset, .unset, .unset, .unset, .unset, .unset, .unset] [(.long (p1 &&& (9223372036854775807 : Int64)))])) (fun t_ k_ => XS.land X0.here hx rfl (hb hby at_4) rfl k_) ?_
  refine own_step (T' := s₁) (g' := (mkF m 8 #[.val (.long p1), .second, .val (.long p2), .second, .val (.long p3), .second, .unset, .unset, .unset, .unset, .unset, .unset, .unset, .unset, .unset, .unset, .unset, .unset, .unset, .unset, .unset, .unset, .unset, .unset, .unset, .unset] [(.long (9223372036854775806 : Int64)), (.long (p1 &&& (9223372036854775807 : Int64)))])) (fun t_ k_ => X0.ldc2Long hx hown (mvT hZ (hw _ (List.mem_of_getElem? (i := 1) rfl))) (g := (mkF m 5 #[.val (.long p1), .second, .val (.long p2), .second, .val (.long p3), .second, .unset, .unset, .unset, .unset, .unset, .unset, .unset, .unset, .unset, .unset, .unset, .unset, .unset, .unset, .unset, .unset, .unset, .unset, .unset, .unset] [(.long (p1 &&& (9223372036854775807 : Int64)))])) rfl (hb hby at_5) _ k_) ?_
  obtain ⟨_, _, ⟨T1, L1, k1, n1⟩, -, X1, ⟨Lc1, hQ1, l1, y1, z1⟩, st1⟩ := Jvm.LawKit.callS X0 hx (y := (⟨"java/lang/Math", "min", "(JJ)J"⟩ : MethodName)) hown (mvT hZ (hw _ (List.mem_of_getElem? (i := 2) rfl))) (mvT hZ (hw _ (List.mem_of_getElem? (i := 3) rfl))) (mvT hZ (hw _ (List.mem_of_getElem? (i := 4) rfl))) (mvT hZ (hw _ (List.mem_of_getElem? (i := 5) rfl))) (by decide) (backOf (W := 0) (rm1 l Z a0 hw [] (p1 &&& (9223372036854775807 : Int64)) (9223372036854775806 : Int64) h0 n0 Z0) hZ (hw _ (List.mem_of_getElem? (i := 5) rfl)) (hw _ (List.mem_of_getElem? (i := 4) rfl)) (by decide) (by decide)) (g := (mkF m 8 #[.val (.long p1), .second, .val (.long p2), .second, .val (.long p3), .second, .unset, .unset, .unset, .unset, .unset, .unset, .unset, .unset, .unset, .unset, .unset, .unset, .unset, .unset, .unset, .unset, .unset, .unset, .unset, .unset] [(.long (9223372036854775806 : Int64)), (.long (p1 &&& (9223372036854775807 : Int64)))])) rfl (by rw [hml]; rfl) (argsL := [(.long (p1 &&& (9223372036854775807 : Int64))), (.long (9223372036854775806 : Int64))]) (rest := []) (lenOf (by decide +kernel : parseMethodDescriptor "(JJ)J" = some ⟨[.long, .long], some .long⟩) rfl) rfl (by show 2 * 0 + _ ≤ _; exact Nat.le_of_eq rfl) (hb hby at_8) (fun _ _ => ⟨rfl, e0, (by decide : 0 + 0 ≤ _), (by decide : 0 + 0 ≤ _)⟩)
  dsimp only [Pt.U, Pt.locs, Pt.cells, Pt.slots] at X1 l1 y1 z1 st1 hQ1
  subst l1 y1 z1
  obtain ⟨rfl, Nq1, e1⟩ := hQ1
  have N1 := Fr.app N0 Nq1
  refine own_step (T' := T1) (g' := (mkF m 11 #[.val (.long p1), .second, .val (.long p2), .second, .val (.long p3), .second, .unset, .unset, .unset, .unset, .unset, .unset, .unset, .unset, .unset, .unset, .unset, .unset, .unset, .unset, .unset, .unset, .unset, .unset, .unset, .unset] [(.long (own_min (p1 &&& (9223372036854775807 : Int64)) (9223372036854775806 : Int64)))])) st1 ?_
  obtain ⟨X, hX⟩ : ∃ z, z = (own_min (p1 &&& (9223372036854775807 : Int64)) (9223372036854775806 : Int64)) := ⟨_, rfl⟩
  rw [← hX]
  have bX : 0 ≤ X.toInt ∧ X.toInt ≤ 9223372036854775806 := by rw [hX]; exact own_bX _
  refine own_step (T' := T1) (g' := (mkF m 13 #[.val (.long p1), .second, .val (.long p2), .second, .val (.long p3), .second, .val (.long X), .second, .unset, .unset, .unset, .unset, .unset, .unset, .unset, .unset, .unset, .unset, .unset, .unset, .unset, .unset, .unset, .unset, .unset, .unset] [])) (fun t_ k_ => XS.lstore X1.here hx rfl (hb hby at_11) rfl (l' := #[.val (.long p1), .second, .val (.long p2), .second, .val (.long p3), .second, .val (.long X), .second, .unset, .unset, .unset, .unset, .unset, .unset, .unset, .unset, .unset, .unset, .unset, .unset, .unset, .unset, .unset, .unset, .unset, .unset]) rfl k_) ?_
  refine own_step (T' := T1) (g' := (mkF m 14 #[.val (.long p1), .second, .val (.long p2), .second, .val (.long p3), .second, .val (.long X), .second, .unset, .unset, .unset, .unset, .unset, .unset, .unset, .unset, .unset, .unset, .unset, .unset, .unset, .unset, .unset, .unset, .unset, .unset] [(.long p2)])) (fun t_ k_ => XS.lloadN X1.here hx rfl (hb hby at_13) rfl k_) ?_
  refine own_step (T' := T1) (g' := (mkF m 17 #[.val (.long p1), .second, .val (.long p2), .second, .val (.long p3), .second, .val (.long X), .second, .unset, .unset, .unset, .unset, .unset, .unset, .unset, .unset, .unset, .unset, .unset, .unset, .unset, .unset, .unset, .unset, .unset, .unset] [(.long (9223372036854775807 : Int64)), (.long p2)])) (fun t_ k_ => X1.ldc2Long hx hown (mvT hZ (hw _ (List.mem_of_getElem? (i := 0) rfl))) (g := (mkF m 14 #[.val (.long p1), .second, .val (.long p2), .second, .val (.long p3), .second, .val (.long X), .second, .unset, .unset, .unset, .unset, .unset, .unset, .unset, .unset, .unset, .unset, .unset, .unset, .unset, .unset, .unset, .unset, .unset, .unset] [(.long p2)])) rfl (hb hby at_14) _ k_) ?_
  refine own_step (T' := T1) (g' := (mkF m 18 #[.val (.long p1), .second, .val (.long p2), .second, .val (.long p3), .second, .val (.long X), .second, .unset, .unset, .unset, .unset, .unset, .unset, .unset, .unset, .unset, .unset, .unset, .unset, .unset, .unset, .unset, .unset, .unset, .unset] [(.long (p2 &&& (9223372036854775807 : Int64)))])) (fun t_ k_ => XS.land X1.here hx rfl (hb hby at_17) rfl k_) ?_
  refine own_step (T' := T1) (g' := (mkF m 21 #[.val (.long p1), .second, .val (.long p2), .second, .val (.long p3), .second, .val (.long X), .second, .unset, .unset, .unset, .unset, .unset, .unset, .unset, .unset, .unset, .unset, .unset, .unset, .unset, .unset, .unset, .unset, .unset, .unset] [(.long (9223372036854775806 : Int64)), (.long (p2 &&& (9223372036854775807 : Int64)))])) (fun t_ k_ => X1.ldc2Long hx hown (mvT hZ (hw _ (List.mem_of_getElem? (i := 1) rfl))) (g := (mkF m 18 #[.val (.long p1), .second, .val (.long p2), .second, .val (.long p3), .second, .val (.long X), .second, .unset, .unset, .unset, .unset, .unset, .unset, .unset, .unset, .unset, .unset, .unset, .unset, .unset, .unset, .unset, .unset, .unset, .unset] [(.long (p2 &&& (9223372036854775807 : Int64)))])) rfl (hb hby at_18) _ k_) ?_
  obtain ⟨_, _, ⟨T2, L2, k2, n2⟩, -, X2, ⟨Lc2, hQ2, l2, y2, z2⟩, st2⟩ := Jvm.LawKit.callS X1 hx (y := (⟨"java/lang/Math", "min", "(JJ)J"⟩ : MethodName)) hown (mvT hZ (hw _ (List.mem_of_getElem? (i := 2) rfl))) (mvT hZ (hw _ (List.mem_of_getElem? (i := 3) rfl))) (mvT hZ (hw _ (List.mem_of_getElem? (i := 4) rfl))) (mvT hZ (hw _ (List.mem_of_getElem? (i := 5) rfl))) (by decide) (backOf (W := 0) (rm1 l Z a0 hw [] (p2 &&& (9223372036854775807 : Int64)) (9223372036854775806 : Int64) h0 n0 Z0) hZ (hw _ (List.mem_of_getElem? (i := 5) rfl)) (hw _ (List.mem_of_getElem? (i := 4) rfl)) (by decide) (by decide)) (g := (mkF m 21 #[.val (.long p1), .second, .val (.long p2), .second, .val (.long p3), .second, .val (.long X), .second, .unset, .unset, .unset, .unset, .unset, .unset, .unset, .unset, .unset, .unset, .unset, .unset, .unset, .unset, .unset, .unset, .unset, .unset] [(.long (9223372036854775806 : Int64)), (.long (p2 &&& (9223372036854775807 : Int64)))])) rfl (by rw [hml]; rfl) (argsL := [(.long (p2 &&& (9223372036854775807 : Int64))), (.long (9223372036854775806 : Int64))]) (rest := []) (lenOf (by decide +kernel : parseMethodDescriptor "(JJ)J" = some ⟨[.long, .long], some .long⟩) rfl) rfl (by show 2 * 0 + _ ≤ _; exact Nat.le_of_eq rfl) (hb hby at_21) (fun _ _ => ⟨rfl, e1, (by decide : 0 + 0 ≤ _), (by decide : 0 + 0 ≤ _)⟩)
  dsimp only [Pt.U, Pt.locs, Pt.cells, Pt.slots] at X2 l2 y2 z2 st2 hQ2
  subst l2 y2 z2
  obtain ⟨rfl, Nq2, e2⟩ := hQ2
  have N2 := Fr.app N1 Nq2
  refine own_step (T' := T2) (g' := (mkF m 24 #[.val (.long p1), .second, .val (.long p2), .second, .val (.long p3), .second, .val (.long X), .second, .unset, .unset, .unset, .unset, .unset, .unset, .unset, .unset, .unset, .unset, .unset, .unset, .unset, .unset, .unset, .unset, .unset, .unset] [(.long (own_min (p2 &&& (9223372036854775807 : Int64)) (9223372036854775806 : Int64)))])) st2 ?_
  obtain ⟨Y, hY⟩ : ∃ z, z = (own_min (p2 &&& (9223372036854775807 : Int64)) (9223372036854775806 : Int64)) := ⟨_, rfl⟩
  rw [← hY]
  have bY : 0 ≤ Y.toInt ∧ Y.toInt ≤ 9223372036854775806 := by rw [hY]; exact own_bX _
  refine own_step (T' := T2) (g' := (mkF m 26 #[.val (.long p1), .second, .val (.long p2), .second, .val (.long p3), .second, .val (.long X), .second, .val (.long Y), .second, .unset, .unset, .unset, .unset, .unset, .unset, .unset, .unset, .unset, .unset, .unset, .unset, .unset, .unset, .unset, .unset] [])) (fun t_ k_ => XS.lstore X2.here hx rfl (hb hby at_24) rfl (l' := #[.val (.long p1), .second, .val (.long p2), .second, .val (.long p3), .second, .val (.long X), .second, .val (.long Y), .second, .unset, .unset, .unset, .unset, .unset, .unset, .unset, .unset, .unset, .unset, .unset, .unset, .unset, .unset, .unset, .unset]) rfl k_) ?_
  refine own_step (T' := T2) (g' := (mkF m 28 #[.val (.long p1), .second, .val (.long p2), .second, .val (.long p3), .second, .val (.long X), .second, .val (.long Y), .second, .unset, .unset, .unset, .unset, .unset, .unset, .unset, .unset, .unset, .unset, .unset, .unset, .unset, .unset, .unset, .unset] [(.long X)])) (fun t_ k_ => XS.lload X2.here hx rfl (hb hby at_26) rfl k_) ?_
  refine own_step (T' := T2) (g' := (mkF m 30 #[.val (.long p1), .second, .val (.long p2), .second, .val (.long p3), .second, .val (.long X), .second, .val (.long Y), .second, .unset, .unset, .unset, .unset, .unset, .unset, .unset, .unset, .unset, .unset, .unset, .unset, .unset, .unset, .unset, .unset] [(.long Y), (.long X)])) (fun t_ k_ => XS.lload X2.here hx rfl (hb hby at_28) rfl k_) ?_
  obtain ⟨_, _, ⟨T3, L3, k3, n3⟩, -, X3, ⟨Lc3, hQ3, l3, y3, z3⟩, st3⟩ := Jvm.LawKit.callS X2 hx (y := (⟨"java/lang/Math", "min", "(JJ)J"⟩ : MethodName)) hown (mvT hZ (hw _ (List.mem_of_getElem? (i := 2) rfl))) (mvT hZ (hw _ (List.mem_of_getElem? (i := 3) rfl))) (mvT hZ (hw _ (List.mem_of_getElem? (i := 4) rfl))) (mvT hZ (hw _ (List.mem_of_getElem? (i := 5) rfl))) (by decide) (backOf (W := 0) (rm1 l Z a0 hw [] X Y h0 n0 Z0) hZ (hw _ (List.mem_of_getElem? (i := 5) rfl)) (hw _ (List.mem_of_getElem? (i := 4) rfl)) (by decide) (by decide)) (g := (mkF m 30 #[.val (.long p1), .second, .val (.long p2), .second, .val (.long p3), .second, .val (.long X), .second, .val (.long Y), .second, .unset, .unset, .unset, .unset, .unset, .unset, .unset, .unset, .unset, .unset, .unset, .unset, .unset, .unset, .unset, .unset] [(.long Y), (.long X)])) rfl (by rw [hml]; rfl) (argsL := [(.long X), (.long Y)]) (rest := []) (lenOf (by decide +kernel : parseMethodDescriptor "(JJ)J" = some ⟨[.long, .long], some .long⟩) rfl) rfl (by show 2 * 0 + _ ≤ _; exact Nat.le_of_eq rfl) (hb hby at_30) (fun _ _ => ⟨rfl, e2, (by decide : 0 + 0 ≤ _), (by decide : 0 + 0 ≤ _)⟩)
  dsimp only [Pt.U, Pt.locs, Pt.cells, Pt.slots] at X3 l3 y3 z3 st3 hQ3
  subst l3 y3 z3
  obtain ⟨rfl, Nq3, e3⟩ := hQ3
  have N3 := Fr.app N2 Nq3
  refine own_step (T' := T3) (g' := (mkF m 33 #[.val (.long p1), .second, .val (.long p2), .second, .val (.long p3), .second, .val (.long X), .second, .val (.long Y), .second, .unset, .unset, .unset, .unset, .unset, .unset, .unset, .unset, .unset, .unset, .unset, .unset, .unset, .unset, .unset, .unset] [(.long (own_min X Y))])) st3 ?_
  obtain ⟨f, hf⟩ : ∃ z, z = (own_min X Y) := ⟨_, rfl⟩
  rw [← hf]
  have bf := own_min_i X Y
  rw [← hf] at bf
  refine own_step (T' := T3) (g' := (mkF m 35 #[.val (.long p1), .second, .val (.long p2), .second, .val (.long p3), .second, .val (.long X), .second, .val (.long Y), .second, .val (.long f), .second, .unset, .unset, .unset, .unset, .unset, .unset, .unset, .unset, .unset, .unset, .unset, .unset, .unset, .unset] [])) (fun t_ k_ => XS.lstore X3.here hx rfl (hb hby at_33) rfl (l' := #[.val (.long p1), .second, .val (.long p2), .second, .val (.long p3), .second, .val (.long X), .second, .val (.long Y), .second, .val (.long f), .second, .unset, .unset, .unset, .unset, .unset, .unset, .unset, .unset, .unset, .unset, .unset, .unset, .unset, .unset]) rfl k_) ?_
  refine own_step (T' := T3) (g' := (mkF m 37 #[.val (.long p1), .second, .val (.long p2), .second, .val (.long p3), .second, .val (.long X), .second, .val (.long Y), .second, .val (.long f), .second, .unset, .unset, .unset, .unset, .unset, .unset, .unset, .unset, .unset, .unset, .unset, .unset, .unset, .unset] [(.long X)])) (fun t_ k_ => XS.lload X3.here hx rfl (hb hby at_35) rfl k_) ?_
  refine own_step (T' := T3) (g' := (mkF m 39 #[.val (.long p1), .second, .val (.long p2), .second, .val (.long p3), .second, .val (.long X), .second, .val (.long Y), .second, .val (.long f), .second, .unset, .unset, .unset, .unset, .unset, .unset, .unset, .unset, .unset, .unset, .unset, .unset, .unset, .unset] [(.long Y), (.long X)])) (fun t_ k_ => XS.lload X3.here hx rfl (hb hby at_37) rfl k_) ?_
  obtain ⟨_, _, ⟨T4, L4, k4, n4⟩, -, X4, ⟨Lc4, hQ4, l4, y4, z4⟩, st4⟩ := Jvm.LawKit.callS X3 hx (y := (⟨"java/lang/Math", "max", "(JJ)J"⟩ : MethodName)) hown (mvT hZ (hw _ (List.mem_of_getElem? (i := 6) rfl))) (mvT hZ (hw _ (List.mem_of_getElem? (i := 7) rfl))) (mvT hZ (hw _ (List.mem_of_getElem? (i := 4) rfl))) (mvT hZ (hw _ (List.mem_of_getElem? (i := 8) rfl))) (by decide) (backOf (W := 0) (rm2 l Z a0 hw [] X Y h0 n0 Z0) hZ (hw _ (List.mem_of_getElem? (i := 8) rfl)) (hw _ (List.mem_of_getElem? (i := 4) rfl)) (by decide) (by decide)) (g := (mkF m 39 #[.val (.long p1), .second, .val (.long p2), .second, .val (.long p3), .second, .val (.long X), .second, .val (.long Y), .second, .val (.long f), .second, .unset, .unset, .unset, .unset, .unset, .unset, .unset, .unset, .unset, .unset, .unset, .unset, .unset, .unset] [(.long Y), (.long X)])) rfl (by rw [hml]; rfl) (argsL := [(.long X), (.long Y)]) (rest := []) (lenOf (by decide +kernel : parseMethodDescriptor "(JJ)J" = some ⟨[.long, .long], some .long⟩) rfl) rfl (by show 2 * 0 + _ ≤ _; exact Nat.le_of_eq rfl) (hb hby at_39) (fun _ _ => ⟨rfl, e3, (by decide : 0 + 0 ≤ _), (by decide : 0 + 0 ≤ _)⟩)
  dsimp only [Pt.U, Pt.locs, Pt.cells, Pt.slots] at X4 l4 y4 z4 st4 hQ4
  subst l4 y4 z4
  obtain ⟨rfl, Nq4, e4⟩ := hQ4
  have N4 := Fr.app N3 Nq4
  refine own_step (T' := T4) (g' := (mkF m 42 #[.val (.long p1), .second, .val (.long p2), .second, .val (.long p3), .second, .val (.long X), .second, .val (.long Y), .second, .val (.long f), .second, .unset, .unset, .unset, .unset, .unset, .unset, .unset, .unset, .unset, .unset, .unset, .unset, .unset, .unset] [(.long (own_max X Y))])) st4 ?_
  obtain ⟨g, hg⟩ : ∃ z, z = (own_max X Y) := ⟨_, rfl⟩
  rw [← hg]
  have bg := own_max_i X Y
  rw [← hg] at bg
  have k1 : 0 ≤ f.toInt := by omega
  have k2 : f.toInt ≤ g.toInt := by omega
  have k3 : g.toInt ≤ 9223372036854775806 := by omega
  have o1 : (1 : Int64).toInt = 1 := rfl
  refine own_step (T' := T4) (g' := (mkF m 44 #[.val (.long p1), .second, .val (.long p2), .second, .val (.long p3), .second, .val (.long X), .second, .val (.long Y), .second, .val (.long f), .second, .val (.long g), .second, .unset, .unset, .unset, .unset, .unset, .unset, .unset, .unset, .unset, .unset, .unset, .unset] [])) (fun t_ k_ => XS.lstore X4.here hx rfl (hb hby at_42) rfl (l' := #[.val (.long p1), .second, .val (.long p2), .second, .val (.long p3), .second, .val (.long X), .second, .val (.long Y), .second, .val (.long f), .second, .val (.long g), .second, .unset, .unset, .unset, .unset, .unset, .unset, .unset, .unset, .unset, .unset, .unset, .unset]) rfl k_) ?_
  refine own_step (T' := T4) (g' := (mkF m 46 #[.val (.long p1), .second, .val (.long p2), .second, .val (.long p3), .second, .val (.long X), .second, .val (.long Y), .second, .val (.long f), .second, .val (.long g), .second, .unset, .unset, .unset, .unset, .unset, .unset, .unset, .unset, .unset, .unset, .unset, .unset] [(.long g)])) (fun t_ k_ => XS.lload X4.here hx rfl (hb hby at_44) rfl k_) ?_
  refine own_step (T' := T4) (g' := (mkF m 48 #[.val (.long p1), .second, .val (.long p2), .second, .val (.long p3), .second, .val (.long X), .second, .val (.long Y), .second, .val (.long f), .second, .val (.long g), .second, .unset, .unset, .unset, .unset, .unset, .unset, .unset, .unset, .unset, .unset, .unset, .unset] [(.long f), (.long g)])) (fun t_ k_ => XS.lload X4.here hx rfl (hb hby at_46) rfl k_) ?_
  refine own_step (T' := T4) (g' := (mkF m 49 #[.val (.long p1), .second, .val (.long p2), .second, .val (.long p3), .second, .val (.long X), .second, .val (.long Y), .second, .val (.long f), .second, .val (.long g), .second, .unset, .unset, .unset, .unset, .unset, .unset, .unset, .unset, .unset, .unset, .unset, .unset] [(.long (g - f))])) (fun t_ k_ => XS.lsub X4.here hx rfl (hb hby at_48) rfl k_) ?_
  refine own_step (T' := T4) (g' := (mkF m 51 #[.val (.long p1), .second, .val (.long p2), .second, .val (.long p3), .second, .val (.long X), .second, .val (.long Y), .second, .val (.long f), .second, .val (.long g), .second, .val (.long (g - f)), .second, .unset, .unset, .unset, .unset, .unset, .unset, .unset, .unset, .unset, .unset] [])) (fun t_ k_ => XS.lstore X4.here hx rfl (hb hby at_49) rfl (l' := #[.val (.long p1), .second, .val (.long p2), .second, .val (.long p3), .second, .val (.long X), .second, .val (.long Y), .second, .val (.long f), .second, .val (.long g), .second, .val (.long (g - f)), .second, .unset, .unset, .unset, .unset, .unset, .unset, .unset, .unset, .unset, .unset]) rfl k_) ?_
  refine own_step (T' := T4) (g' := (mkF m 53 #[.val (.long p1), .second, .val (.long p2), .second, .val (.long p3), .second, .val (.long X), .second, .val (.long Y), .second, .val (.long f), .second, .val (.long g), .second, .val (.long (g - f)), .second, .unset, .unset, .unset, .unset, .unset, .unset, .unset, .unset, .unset, .unset] [(.long f)])) (fun t_ k_ => XS.lload X4.here hx rfl (hb hby at_51) rfl k_) ?_
  refine own_step (T' := T4) (g' := (mkF m 55 #[.val (.long p1), .second, .val (.long p2), .second, .val (.long p3), .second, .val (.long X), .second, .val (.long Y), .second, .val (.long f), .second, .val (.long g), .second, .val (.long (g - f)), .second, .unset, .unset, .unset, .unset, .unset, .unset, .unset, .unset, .unset, .unset] [(.long p3), (.long f)])) (fun t_ k_ => XS.lload X4.here hx rfl (hb hby at_53) rfl k_) ?_
  refine own_step (T' := T4) (g' := (mkF m 58 #[.val (.long p1), .second, .val (.long p2), .second, .val (.long p3), .second, .val (.long X), .second, .val (.long Y), .second, .val (.long f), .second, .val (.long g), .second, .val (.long (g - f)), .second, .unset, .unset, .unset, .unset, .unset, .unset, .unset, .unset, .unset, .unset] [(.long (9223372036854775807 : Int64)), (.long p3), (.long f)])) (fun t_ k_ => X4.ldc2Long hx hown (mvT hZ (hw _ (List.mem_of_getElem? (i := 0) rfl))) (g := (mkF m 55 #[.val (.long p1), .second, .val (.long p2), .second, .val (.long p3), .second, .val (.long X), .second, .val (.long Y), .second, .val (.long f), .second, .val (.long g), .second, .val (.long (g - f)), .second, .unset, .unset, .unset, .unset, .unset, .unset, .unset, .unset, .unset, .unset] [(.long p3), (.long f)])) rfl (hb hby at_55) _ k_) ?_
  refine own_step (T' := T4) (g' := (mkF m 59 #[.val (.long p1), .second, .val (.long p2), .second, .val (.long p3), .second, .val (.long X), .second, .val (.long Y), .second, .val (.long f), .second, .val (.long g), .second, .val (.long (g - f)), .second, .unset, .unset, .unset, .unset, .unset, .unset, .unset, .unset, .unset, .unset] [(.long (p3 &&& (9223372036854775807 : Int64))), (.long f)])) (fun t_ k_ => XS.land X4.here hx rfl (hb hby at_58) rfl k_) ?_
  refine own_step (T' := T4) (g' := (mkF m 61 #[.val (.long p1), .second, .val (.long p2), .second, .val (.long p3), .second, .val (.long X), .second, .val (.long Y), .second, .val (.long f), .second, .val (.long g), .second, .val (.long (g - f)), .second, .unset, .unset, .unset, .unset, .unset, .unset, .unset, .unset, .unset, .unset] [(.long (g - f)), (.long (p3 &&& (9223372036854775807 : Int64))), (.long f)])) (fun t_ k_ => XS.lload X4.here hx rfl (hb hby at_59) rfl k_) ?_
  refine own_step (T' := T4) (g' := (mkF m 62 #[.val (.long p1), .second, .val (.long p2), .second, .val (.long p3), .second, .val (.long X), .second, .val (.long Y), .second, .val (.long f), .second, .val (.long g), .second, .val (.long (g - f)), .second, .unset, .unset, .unset, .unset, .unset, .unset, .unset, .unset, .unset, .unset] [(.long (1 : Int64)), (.long (g - f)), (.long (p3 &&& (9223372036854775807 : Int64))), (.long f)])) (fun t_ k_ => XS.lconst X4.here hx rfl (hb hby at_61) k_) ?_
  refine own_step (T' := T4) (g' := (mkF m 63 #[.val (.long p1), .second, .val (.long p2), .second, .val (.long p3), .second, .val (.long X), .second, .val (.long Y), .second, .val (.long f), .second, .val (.long g), .second, .val (.long (g - f)), .second, .unset, .unset, .unset, .unset, .unset, .unset, .unset, .unset, .unset, .unset] [(.long ((g - f) + (1 : Int64))), (.long (p3 &&& (9223372036854775807 : Int64))), (.long f)])) (fun t_ k_ => XS.ladd X4.here hx rfl (hb hby at_62) rfl k_) ?_
  refine own_step (T' := T4) (g' := (mkF m 64 #[.val (.long p1), .second, .val (.long p2), .second, .val (.long p3), .second, .val (.long X), .second, .val (.long Y), .second, .val (.long f), .second, .val (.long g), .second, .val (.long (g - f)), .second, .unset, .unset, .unset, .unset, .unset, .unset, .unset, .unset, .unset, .unset] [(.long ((p3 &&& (9223372036854775807 : Int64)) - ((p3 &&& (9223372036854775807 : Int64)) / ((g - f) + (1 : Int64))) * ((g - f) + (1 : Int64)))), (.long f)])) (fun t_ k_ => XT.lrem X4.here hx rfl (hb hby at_63) rfl (own_nz f g k1 k2 k3) k_) ?_
  refine own_step (T' := T4) (g' := (mkF m 65 #[.val (.long p1), .second, .val (.long p2), .second, .val (.long p3), .second, .val (.long X), .second, .val (.long Y), .second, .val (.long f), .second, .val (.long g), .second, .val (.long (g - f)), .second, .unset, .unset, .unset, .unset, .unset, .unset, .unset, .unset, .unset, .unset] [(.long (f + ((p3 &&& (9223372036854775807 : Int64)) - ((p3 &&& (9223372036854775807 : Int64)) / ((g - f) + (1 : Int64))) * ((g - f) + (1 : Int64)))))])) (fun t_ k_ => XS.ladd X4.here hx rfl (hb hby at_64) rfl k_) ?_
  obtain ⟨mm, hmm⟩ : ∃ z, z = (f + ((p3 &&& (9223372036854775807 : Int64)) - ((p3 &&& (9223372036854775807 : Int64)) / ((g - f) + (1 : Int64))) * ((g - f) + (1 : Int64)))) := ⟨_, rfl⟩
  rw [← hmm]
  have bm := own_m f g p3 k1 k2 k3
  rw [← hmm] at bm
  refine own_step (T' := T4) (g' := (mkF m 67 #[.val (.long p1), .second, .val (.long p2), .second, .val (.long p3), .second, .val (.long X), .second, .val (.long Y), .second, .val (.long f), .second, .val (.long g), .second, .val (.long (g - f)), .second, .val (.long mm), .second, .unset, .unset, .unset, .unset, .unset, .unset, .unset, .unset] [])) (fun t_ k_ => XS.lstore X4.here hx rfl (hb hby at_65) rfl (l' := #[.val (.long p1), .second, .val (.long p2), .second, .val (.long p3), .second, .val (.long X), .second, .val (.long Y), .second, .val (.long f), .second, .val (.long g), .second, .val (.long (g - f)), .second, .val (.long mm), .second, .unset, .unset, .unset, .unset, .unset, .unset, .unset, .unset]) rfl k_) ?_
  obtain ⟨T5, h5, X5, e5, E5, A5, D5, -, st5⟩ := newO X4 hx hZ hown (hw _ (List.mem_of_getElem? (i := 9) rfl)) (hw _ (List.mem_of_getElem? (i := 10) rfl)) (hw _ (List.mem_of_getElem? (i := 11) rfl)) e4 (g := (mkF m 67 #[.val (.long p1), .second, .val (.long p2), .second, .val (.long p3), .second, .val (.long X), .second, .val (.long Y), .second, .val (.long f), .second, .val (.long g), .second, .val (.long (g - f)), .second, .val (.long mm), .second, .unset, .unset, .unset, .unset, .unset, .unset, .unset, .unset] [])) rfl (hb hby at_67) (by decide) (by decide)
  obtain ⟨b5, g5⟩ : ∃ z, z = h0.size := ⟨_, rfl⟩
  rw [← g5] at A5 D5 st5
  have ge_b5 : n0 ≤ b5 := Nat.le_trans Z0 (Nat.le_of_eq g5.symm)
  have z6 : n0 ≤ h5.size := Nat.le_trans Z0 E5.1
  have F_first_b5 : Fld Z h5 b5 "com/example/vestibule/vestibule/container/ByteRanges$Range" "first" "J" (.long (0 : Int64)) := D5 (Or.inr (hw _ (List.mem_of_getElem? (i := 24) rfl))) (ty := .long) (by decide)
  have F_last_b5 : Fld Z h5 b5 "com/example/vestibule/vestibule/container/ByteRanges$Range" "last" "J" (.long (0 : Int64)) := D5 (Or.inr (hw _ (List.mem_of_getElem? (i := 26) rfl))) (ty := .long) (by decide)
  refine own_step (T' := T5) (g' := (mkF m 70 #[.val (.long p1), .second, .val (.long p2), .second, .val (.long p3), .second, .val (.long X), .second, .val (.long Y), .second, .val (.long f), .second, .val (.long g), .second, .val (.long (g - f)), .second, .val (.long mm), .second, .unset, .unset, .unset, .unset, .unset, .unset, .unset, .unset] [(.ref b5)])) st5 ?_
  refine own_step (T' := T5) (g' := (mkF m 71 #[.val (.long p1), .second, .val (.long p2), .second, .val (.long p3), .second, .val (.long X), .second, .val (.long Y), .second, .val (.long f), .second, .val (.long g), .second, .val (.long (g - f)), .second, .val (.long mm), .second, .unset, .unset, .unset, .unset, .unset, .unset, .unset, .unset] [(.ref b5), (.ref b5)])) (fun t_ k_ => XS.dup X5.here hx rfl (hb hby at_70) rfl rfl k_) ?_
  refine own_step (T' := T5) (g' := (mkF m 73 #[.val (.long p1), .second, .val (.long p2), .second, .val (.long p3), .second, .val (.long X), .second, .val (.long Y), .second, .val (.long f), .second, .val (.long g), .second, .val (.long (g - f)), .second, .val (.long mm), .second, .unset, .unset, .unset, .unset, .unset, .unset, .unset, .unset] [(.long f), (.ref b5), (.ref b5)])) (fun t_ k_ => XS.lload X5.here hx rfl (hb hby at_71) rfl k_) ?_
  refine own_step (T' := T5) (g' := (mkF m 75 #[.val (.long p1), .second, .val (.long p2), .second, .val (.long p3), .second, .val (.long X), .second, .val (.long Y), .second, .val (.long f), .second, .val (.long g), .second, .val (.long (g - f)), .second, .val (.long mm), .second, .unset, .unset, .unset, .unset, .unset, .unset, .unset, .unset] [(.long g), (.long f), (.ref b5), (.ref b5)])) (fun t_ k_ => XS.lload X5.here hx rfl (hb hby at_73) rfl k_) ?_
  obtain ⟨_, _, ⟨T7, L7, k7, n7⟩, -, X7, ⟨Lc7, hQ7, l7, y7, z7⟩, st7⟩ := X5.specialBack hx (y := (⟨"com/example/vestibule/vestibule/container/ByteRanges$Range", "<init>", "(JJ)V"⟩ : MethodName)) rfl hown (mvT hZ (hw _ (List.mem_of_getElem? (i := 12) rfl))) (mvT hZ (hw _ (List.mem_of_getElem? (i := 13) rfl))) (mvT hZ (hw _ (List.mem_of_getElem? (i := 14) rfl))) (by decide) (backOf (W := 1) (rm3 l Z a0 hw [] b5 f g h5 n0 z6 F_first_b5 F_last_b5 A5 ge_b5) hZ (hw _ (List.mem_of_getElem? (i := 14) rfl)) (hw _ (List.mem_of_getElem? (i := 11) rfl)) (by decide) (by decide)) (g := (mkF m 75 #[.val (.long p1), .second, .val (.long p2), .second, .val (.long p3), .second, .val (.long X), .second, .val (.long Y), .second, .val (.long f), .second, .val (.long g), .second, .val (.long (g - f)), .second, .val (.long mm), .second, .unset, .unset, .unset, .unset, .unset, .unset, .unset, .unset] [(.long g), (.long f), (.ref b5), (.ref b5)])) rfl (by rw [hml]; rfl) (Steps.refl _) (a := b5) (argsL := [(.long f), (.long g)]) (rest := [(.ref b5)]) (lenOf (by decide +kernel : parseMethodDescriptor "(JJ)V" = some ⟨[.long, .long], none⟩) rfl) rfl (by show 2 * 0 + _ ≤ _; exact Nat.le_of_eq rfl) (hb hby at_75) (fun _ _ => ⟨rfl, e5, (by decide : 1 + 0 ≤ _), (by decide : 2 + 0 ≤ _)⟩)
  dsimp only [Pt.U, Pt.locs, Pt.cells, Pt.slots] at X7 l7 y7 z7 st7 hQ7
  subst l7 y7 z7
  obtain ⟨rfl, Nq7, K7, FF7, FL7⟩ := hQ7
  have f8 := A5.keep K7
  have z9 : n0 ≤ T7.heap.size := Nat.le_trans z6 K7.1
  have N7 := Fr.app N4 Nq7
  refine own_to (T' := T7) (g' := (mkF m 78 #[.val (.long p1), .second, .val (.long p2), .second, .val (.long p3), .second, .val (.long X), .second, .val (.long Y), .second, .val (.long f), .second, .val (.long g), .second, .val (.long (g - f)), .second, .val (.long mm), .second, .unset, .unset, .unset, .unset, .unset, .unset, .unset, .unset] [(.ref b5)])) st7 ?_
  refine own_step (T' := T7) (g' := (mkF m 80 #[.val (.long p1), .second, .val (.long p2), .second, .val (.long p3), .second, .val (.long X), .second, .val (.long Y), .second, .val (.long f), .second, .val (.long g), .second, .val (.long (g - f)), .second, .val (.long mm), .second, .val (.ref b5), .unset, .unset, .unset, .unset, .unset, .unset, .unset] [])) (fun t_ k_ => XS.astore X7.here hx rfl (hb hby at_78) rfl rfl (l' := #[.val (.long p1), .second, .val (.long p2), .second, .val (.long p3), .second, .val (.long X), .second, .val (.long Y), .second, .val (.long f), .second, .val (.long g), .second, .val (.long (g - f)), .second, .val (.long mm), .second, .val (.ref b5), .unset, .unset, .unset, .unset, .unset, .unset, .unset]) rfl k_) ?_
  refine own_step (T' := T7) (g' := (mkF m 82 #[.val (.long p1), .second, .val (.long p2), .second, .val (.long p3), .second, .val (.long X), .second, .val (.long Y), .second, .val (.long f), .second, .val (.long g), .second, .val (.long (g - f)), .second, .val (.long mm), .second, .val (.ref b5), .unset, .unset, .unset, .unset, .unset, .unset, .unset] [(.ref b5)])) (fun t_ k_ => XS.aload X7.here hx rfl (hb hby at_80) rfl rfl k_) ?_
  obtain ⟨cq10, kq10, q10a, q10b, q10c⟩ := isOf hZ rfl f8
  obtain ⟨_, _, ⟨T10, L10, k10, n10⟩, -, X10, ⟨Lc10, hQ10, l10, y10, z10⟩, st10⟩ := X7.virtualBack hx (y := (⟨"com/example/vestibule/vestibule/container/ByteRanges$Range", "length", "()J"⟩ : MethodName)) (z := (⟨"com/example/vestibule/vestibule/container/ByteRanges$Range", "length", "()J"⟩ : MethodName)) hown (mvT hZ (hw _ (List.mem_of_getElem? (i := 27) rfl))) (mvT hZ (hw _ (List.mem_of_getElem? (i := 28) rfl))) (notFace_of_selects (args := #[]) (mvT hZ (hw _ (List.mem_of_getElem? (i := 30) rfl)))) (mvT hZ (hw _ (List.mem_of_getElem? (i := 30) rfl))) (mvT hZ (hw _ (List.mem_of_getElem? (i := 29) rfl))) (by decide) (backOf (W := 0) (rm6 l Z a0 hw [] b5 f g T7.heap n0 z9 FF7 FL7) hZ (hw _ (List.mem_of_getElem? (i := 31) rfl)) (hw _ (List.mem_of_getElem? (i := 11) rfl)) (by decide) (by decide)) q10a q10c (g := (mkF m 82 #[.val (.long p1), .second, .val (.long p2), .second, .val (.long p3), .second, .val (.long X), .second, .val (.long Y), .second, .val (.long f), .second, .val (.long g), .second, .val (.long (g - f)), .second, .val (.long mm), .second, .val (.ref b5), .unset, .unset, .unset, .unset, .unset, .unset, .unset] [(.ref b5)])) rfl (by rw [hml]; rfl) (Steps.refl _) (argsL := []) (rest := []) (lenOf (by decide +kernel : parseMethodDescriptor "()J" = some ⟨[], some .long⟩) rfl) rfl (by show 2 * 0 + _ ≤ _; exact Nat.le_of_eq rfl) (hb hby at_82) (fun _ _ => ⟨rfl, rfl, (by decide : 1 + 0 ≤ _), (by decide : 2 + 0 ≤ _)⟩)
  dsimp only [Pt.U, Pt.locs, Pt.cells, Pt.slots] at X10 l10 y10 z10 st10 hQ10
  subst l10 y10 z10
  obtain ⟨rfl, Nq10, e10⟩ := hQ10
  have N10 := Fr.app N7 Nq10
  refine own_to (T' := T10) (g' := (mkF m 85 #[.val (.long p1), .second, .val (.long p2), .second, .val (.long p3), .second, .val (.long X), .second, .val (.long Y), .second, .val (.long f), .second, .val (.long g), .second, .val (.long (g - f)), .second, .val (.long mm), .second, .val (.ref b5), .unset, .unset, .unset, .unset, .unset, .unset, .unset] [(.long ((g - f) + (1 : Int64)))])) st10 ?_
  obtain ⟨A, hA⟩ : ∃ z, z = ((g - f) + (1 : Int64)) := ⟨_, rfl⟩
  rw [← hA]
  have bA : A.toInt = g.toInt - f.toInt + 1 := by rw [hA]; exact own_len _ _ k1 k2 k3
  refine own_step (T' := T10) (g' := (mkF m 87 #[.val (.long p1), .second, .val (.long p2), .second, .val (.long p3), .second, .val (.long X), .second, .val (.long Y), .second, .val (.long f), .second, .val (.long g), .second, .val (.long (g - f)), .second, .val (.long mm), .second, .val (.ref b5), .val (.long A), .second, .unset, .unset, .unset, .unset, .unset] [])) (fun t_ k_ => XS.lstore X10.here hx rfl (hb hby at_85) rfl (l' := #[.val (.long p1), .second, .val (.long p2), .second, .val (.long p3), .second, .val (.long X), .second, .val (.long Y), .second, .val (.long f), .second, .val (.long g), .second, .val (.long (g - f)), .second, .val (.long mm), .second, .val (.ref b5), .val (.long A), .second, .unset, .unset, .unset, .unset, .unset]) rfl k_) ?_
  refine own_step (T' := T10) (g' := (mkF m 89 #[.val (.long p1), .second, .val (.long p2), .second, .val (.long p3), .second, .val (.long X), .second, .val (.long Y), .second, .val (.long f), .second, .val (.long g), .second, .val (.long (g - f)), .second, .val (.long mm), .second, .val (.ref b5), .val (.long A), .second, .unset, .unset, .unset, .unset, .unset] [(.long A)])) (fun t_ k_ => XS.lload X10.here hx rfl (hb hby at_87) rfl k_) ?_
  refine own_step (T' := T10) (g' := (mkF m 90 #[.val (.long p1), .second, .val (.long p2), .second, .val (.long p3), .second, .val (.long X), .second, .val (.long Y), .second, .val (.long f), .second, .val (.long g), .second, .val (.long (g - f)), .second, .val (.long mm), .second, .val (.ref b5), .val (.long A), .second, .unset, .unset, .unset, .unset, .unset] [(.long (1 : Int64)), (.long A)])) (fun t_ k_ => XS.lconst X10.here hx rfl (hb hby at_89) k_) ?_
  refine own_step (T' := T10) (g' := (mkF m 91 #[.val (.long p1), .second, .val (.long p2), .second, .val (.long p3), .second, .val (.long X), .second, .val (.long Y), .second, .val (.long f), .second, .val (.long g), .second, .val (.long (g - f)), .second, .val (.long mm), .second, .val (.ref b5), .val (.long A), .second, .unset, .unset, .unset, .unset, .unset] [(.int (Jvm.Free.XT.cmpL A (1 : Int64)))])) (fun t_ k_ => XT.lcmp X10.here hx rfl (hb hby at_90) rfl k_) ?_
  refine own_step (T' := T10) (g' := (mkF m 94 #[.val (.long p1), .second, .val (.long p2), .second, .val (.long p3), .second, .val (.long X), .second, .val (.long Y), .second, .val (.long f), .second, .val (.long g), .second, .val (.long (g - f)), .second, .val (.long mm), .second, .val (.ref b5), .val (.long A), .second, .unset, .unset, .unset, .unset, .unset] [])) (fun t_ k_ => XS.ifNo X10.here hx rfl (hb hby at_91) rfl ((if0 _ _).trans (flt (fun q => by have q := (own_cl _ _).mp q; rw [Int64.lt_iff_toInt_lt] at q; omega)).1) k_) ?_
  refine own_step (T' := T10) (g' := (mkF m 96 #[.val (.long p1), .second, .val (.long p2), .second, .val (.long p3), .second, .val (.long X), .second, .val (.long Y), .second, .val (.long f), .second, .val (.long g), .second, .val (.long (g - f)), .second, .val (.long mm), .second, .val (.ref b5), .val (.long A), .second, .unset, .unset, .unset, .unset, .unset] [(.long A)])) (fun t_ k_ => XS.lload X10.here hx rfl (hb hby at_94) rfl k_) ?_
  refine own_step (T' := T10) (g' := (mkF m 98 #[.val (.long p1), .second, .val (.long p2), .second, .val (.long p3), .second, .val (.long X), .second, .val (.long Y), .second, .val (.long f), .second, .val (.long g), .second, .val (.long (g - f)), .second, .val (.long mm), .second, .val (.ref b5), .val (.long A), .second, .unset, .unset, .unset, .unset, .unset] [(.long g), (.long A)])) (fun t_ k_ => XS.lload X10.here hx rfl (hb hby at_96) rfl k_) ?_
  refine own_step (T' := T10) (g' := (mkF m 99 #[.val (.long p1), .second, .val (.long p2), .second, .val (.long p3), .second, .val (.long X), .second, .val (.long Y), .second, .val (.long f), .second, .val (.long g), .second, .val (.long (g - f)), .second, .val (.long mm), .second, .val (.ref b5), .val (.long A), .second, .unset, .unset, .unset, .unset, .unset] [(.long (1 : Int64)), (.long g), (.long A)])) (fun t_ k_ => XS.lconst X10.here hx rfl (hb hby at_98) k_) ?_
  refine own_step (T' := T10) (g' := (mkF m 100 #[.val (.long p1), .second, .val (.long p2), .second, .val (.long p3), .second, .val (.long X), .second, .val (.long Y), .second, .val (.long f), .second, .val (.long g), .second, .val (.long (g - f)), .second, .val (.long mm), .second, .val (.ref b5), .val (.long A), .second, .unset, .unset, .unset, .unset, .unset] [(.long (g + (1 : Int64))), (.long A)])) (fun t_ k_ => XS.ladd X10.here hx rfl (hb hby at_99) rfl k_) ?_
  refine own_step (T' := T10) (g' := (mkF m 101 #[.val (.long p1), .second, .val (.long p2), .second, .val (.long p3), .second, .val (.long X), .second, .val (.long Y), .second, .val (.long f), .second, .val (.long g), .second, .val (.long (g - f)), .second, .val (.long mm), .second, .val (.ref b5), .val (.long A), .second, .unset, .unset, .unset, .unset, .unset] [(.int (Jvm.Free.XT.cmpL A (g + (1 : Int64))))])) (fun t_ k_ => XT.lcmp X10.here hx rfl (hb hby at_100) rfl k_) ?_
  refine own_step (T' := T10) (g' := (mkF m 104 #[.val (.long p1), .second, .val (.long p2), .second, .val (.long p3), .second, .val (.long X), .second, .val (.long Y), .second, .val (.long f), .second, .val (.long g), .second, .val (.long (g - f)), .second, .val (.long mm), .second, .val (.ref b5), .val (.long A), .second, .unset, .unset, .unset, .unset, .unset] [])) (fun t_ k_ => XS.ifNo X10.here hx rfl (hb hby at_101) rfl ((if0 _ _).trans (flt (fun q => by have q := (own_cg _ _).mp q; rw [Int64.lt_iff_toInt_lt, Jvm.Kit.i64_add (by omega) (by omega)] at q; omega)).2.2.1) k_) ?_
  refine own_step (T' := T10) (g' := (mkF m 105 #[.val (.long p1), .second, .val (.long p2), .second, .val (.long p3), .second, .val (.long X), .second, .val (.long Y), .second, .val (.long f), .second, .val (.long g), .second, .val (.long (g - f)), .second, .val (.long mm), .second, .val (.ref b5), .val (.long A), .second, .unset, .unset, .unset, .unset, .unset] [(.int (1 : Int32))])) (fun t_ k_ => XS.iconst X10.here hx rfl (hb hby at_104) k_) ?_
  refine own_step (T' := T10) (g' := (mkF m 109 #[.val (.long p1), .second, .val (.long p2), .second, .val (.long p3), .second, .val (.long X), .second, .val (.long Y), .second, .val (.long f), .second, .val (.long g), .second, .val (.long (g - f)), .second, .val (.long mm), .second, .val (.ref b5), .val (.long A), .second, .unset, .unset, .unset, .unset, .unset] [(.int (1 : Int32))])) (fun t_ k_ => XS.goto X10.here hx rfl (pc0 := 105) (pc' := 109) rfl (hb hby at_105) (by decide) (by decide) k_) ?_
  refine own_step (T' := T10) (g' := (mkF m 111 #[.val (.long p1), .second, .val (.long p2), .second, .val (.long p3), .second, .val (.long X), .second, .val (.long Y), .second, .val (.long f), .second, .val (.long g), .second, .val (.long (g - f)), .second, .val (.long mm), .second, .val (.ref b5), .val (.long A), .second, .val (.int (1 : Int32)), .unset, .unset, .unset, .unset] [])) (fun t_ k_ => XS.istore X10.here hx rfl (hb hby at_109) rfl (l' := #[.val (.long p1), .second, .val (.long p2), .second, .val (.long p3), .second, .val (.long X), .second, .val (.long Y), .second, .val (.long f), .second, .val (.long g), .second, .val (.long (g - f)), .second, .val (.long mm), .second, .val (.ref b5), .val (.long A), .second, .val (.int (1 : Int32)), .unset, .unset, .unset, .unset]) rfl k_) ?_
  refine own_step (T' := T10) (g' := (mkF m 113 #[.val (.long p1), .second, .val (.long p2), .second, .val (.long p3), .second, .val (.long X), .second, .val (.long Y), .second, .val (.long f), .second, .val (.long g), .second, .val (.long (g - f)), .second, .val (.long mm), .second, .val (.ref b5), .val (.long A), .second, .val (.int (1 : Int32)), .unset, .unset, .unset, .unset] [(.int (1 : Int32))])) (fun t_ k_ => XS.iload X10.here hx rfl (hb hby at_111) rfl k_) ?_
  refine own_step (T' := T10) (g' := (mkF m 116 #[.val (.long p1), .second, .val (.long p2), .second, .val (.long p3), .second, .val (.long X), .second, .val (.long Y), .second, .val (.long f), .second, .val (.long g), .second, .val (.long (g - f)), .second, .val (.long mm), .second, .val (.ref b5), .val (.long A), .second, .val (.int (1 : Int32)), .unset, .unset, .unset, .unset] [])) (fun t_ k_ => XS.ifNo X10.here hx rfl (hb hby at_113) rfl ((if0 _ _).trans (feq (by decide)).1) k_) ?_
  obtain ⟨T11, h11, X11, e11, E11, A11, D11, -, st11⟩ := newO X10 hx hZ hown (hw _ (List.mem_of_getElem? (i := 9) rfl)) (hw _ (List.mem_of_getElem? (i := 10) rfl)) (hw _ (List.mem_of_getElem? (i := 11) rfl)) e10 (g := (mkF m 116 #[.val (.long p1), .second, .val (.long p2), .second, .val (.long p3), .second, .val (.long X), .second, .val (.long Y), .second, .val (.long f), .second, .val (.long g), .second, .val (.long (g - f)), .second, .val (.long mm), .second, .val (.ref b5), .val (.long A), .second, .val (.int (1 : Int32)), .unset, .unset, .unset, .unset] [])) rfl (hb hby at_116) (by decide) (by decide)
  obtain ⟨b11, g11⟩ : ∃ z, z = T7.heap.size := ⟨_, rfl⟩
  rw [← g11] at A11 D11 st11
  have ge_b11 : n0 ≤ b11 := Nat.le_trans z9 (Nat.le_of_eq g11.symm)
  have z12 : n0 ≤ h11.size := Nat.le_trans z9 E11.1
  have F_first_b11 : Fld Z h11 b11 "com/example/vestibule/vestibule/container/ByteRanges$Range" "first" "J" (.long (0 : Int64)) := D11 (Or.inr (hw _ (List.mem_of_getElem? (i := 24) rfl))) (ty := .long) (by decide)
  have F_last_b11 : Fld Z h11 b11 "com/example/vestibule/vestibule/container/ByteRanges$Range" "last" "J" (.long (0 : Int64)) := D11 (Or.inr (hw _ (List.mem_of_getElem? (i := 26) rfl))) (ty := .long) (by decide)
  refine own_step (T' := T11) (g' := (mkF m 119 #[.val (.long p1), .second, .val (.long p2), .second, .val (.long p3), .second, .val (.long X), .second, .val (.long Y), .second, .val (.long f), .second, .val (.long g), .second, .val (.long (g - f)), .second, .val (.long mm), .second, .val (.ref b5), .val (.long A), .second, .val (.int (1 : Int32)), .unset, .unset, .unset, .unset] [(.ref b11)])) st11 ?_
  refine own_step (T' := T11) (g' := (mkF m 120 #[.val (.long p1), .second, .val (.long p2), .second, .val (.long p3), .second, .val (.long X), .second, .val (.long Y), .second, .val (.long f), .second, .val (.long g), .second, .val (.long (g - f)), .second, .val (.long mm), .second, .val (.ref b5), .val (.long A), .second, .val (.int (1 : Int32)), .unset, .unset, .unset, .unset] [(.ref b11), (.ref b11)])) (fun t_ k_ => XS.dup X11.here hx rfl (hb hby at_119) rfl rfl k_) ?_
  refine own_step (T' := T11) (g' := (mkF m 122 #[.val (.long p1), .second, .val (.long p2), .second, .val (.long p3), .second, .val (.long X), .second, .val (.long Y), .second, .val (.long f), .second, .val (.long g), .second, .val (.long (g - f)), .second, .val (.long mm), .second, .val (.ref b5), .val (.long A), .second, .val (.int (1 : Int32)), .unset, .unset, .unset, .unset] [(.long mm), (.ref b11), (.ref b11)])) (fun t_ k_ => XS.lload X11.here hx rfl (hb hby at_120) rfl k_) ?_
  refine own_step (T' := T11) (g' := (mkF m 124 #[.val (.long p1), .second, .val (.long p2), .second, .val (.long p3), .second, .val (.long X), .second, .val (.long Y), .second, .val (.long f), .second, .val (.long g), .second, .val (.long (g - f)), .second, .val (.long mm), .second, .val (.ref b5), .val (.long A), .second, .val (.int (1 : Int32)), .unset, .unset, .unset, .unset] [(.long mm), (.long mm), (.ref b11), (.ref b11)])) (fun t_ k_ => XS.lload X11.here hx rfl (hb hby at_122) rfl k_) ?_
  obtain ⟨_, _, ⟨T13, L13, k13, n13⟩, -, X13, ⟨Lc13, hQ13, l13, y13, z13⟩, st13⟩ := X11.specialBack hx (y := (⟨"com/example/vestibule/vestibule/container/ByteRanges$Range", "<init>", "(JJ)V"⟩ : MethodName)) rfl hown (mvT hZ (hw _ (List.mem_of_getElem? (i := 12) rfl))) (mvT hZ (hw _ (List.mem_of_getElem? (i := 13) rfl))) (mvT hZ (hw _ (List.mem_of_getElem? (i := 14) rfl))) (by decide) (backOf (W := 1) (rm3 l Z a0 hw [] b11 mm mm h11 n0 z12 F_first_b11 F_last_b11 A11 ge_b11) hZ (hw _ (List.mem_of_getElem? (i := 14) rfl)) (hw _ (List.mem_of_getElem? (i := 11) rfl)) (by decide) (by decide)) (g := (mkF m 124 #[.val (.long p1), .second, .val (.long p2), .second, .val (.long p3), .second, .val (.long X), .second, .val (.long Y), .second, .val (.long f), .second, .val (.long g), .second, .val (.long (g - f)), .second, .val (.long mm), .second, .val (.ref b5), .val (.long A), .second, .val (.int (1 : Int32)), .unset, .unset, .unset, .unset] [(.long mm), (.long mm), (.ref b11), (.ref b11)])) rfl (by rw [hml]; rfl) (Steps.refl _) (a := b11) (argsL := [(.long mm), (.long mm)]) (rest := [(.ref b11)]) (lenOf (by decide +kernel : parseMethodDescriptor "(JJ)V" = some ⟨[.long, .long], none⟩) rfl) rfl (by show 2 * 0 + _ ≤ _; exact Nat.le_of_eq rfl) (hb hby at_124) (fun _ _ => ⟨rfl, e11, (by decide : 2 + 0 ≤ _), (by decide : 4 + 0 ≤ _)⟩)
  dsimp only [Pt.U, Pt.locs, Pt.cells, Pt.slots] at X13 l13 y13 z13 st13 hQ13
  subst l13 y13 z13
  obtain ⟨rfl, Nq13, K13, FF13, FL13⟩ := hQ13
  have f14 := A11.keep K13
  have z15 : n0 ≤ T13.heap.size := Nat.le_trans z12 K13.1
  have N13 := Fr.app N10 Nq13
  refine own_to (T' := T13) (g' := (mkF m 127 #[.val (.long p1), .second, .val (.long p2), .second, .val (.long p3), .second, .val (.long X), .second, .val (.long Y), .second, .val (.long f), .second, .val (.long g), .second, .val (.long (g - f)), .second, .val (.long mm), .second, .val (.ref b5), .val (.long A), .second, .val (.int (1 : Int32)), .unset, .unset, .unset, .unset] [(.ref b11)])) st13 ?_
  obtain ⟨cq16, kq16, q16a, q16b, q16c⟩ := isOf hZ rfl f14
  obtain ⟨_, _, ⟨T16, L16, k16, n16⟩, -, X16, ⟨Lc16, hQ16, l16, y16, z16⟩, st16⟩ := X13.virtualBack hx (y := (⟨"com/example/vestibule/vestibule/container/ByteRanges$Range", "length", "()J"⟩ : MethodName)) (z := (⟨"com/example/vestibule/vestibule/container/ByteRanges$Range", "length", "()J"⟩ : MethodName)) hown (mvT hZ (hw _ (List.mem_of_getElem? (i := 27) rfl))) (mvT hZ (hw _ (List.mem_of_getElem? (i := 28) rfl))) (notFace_of_selects (args := #[]) (mvT hZ (hw _ (List.mem_of_getElem? (i := 30) rfl)))) (mvT hZ (hw _ (List.mem_of_getElem? (i := 30) rfl))) (mvT hZ (hw _ (List.mem_of_getElem? (i := 29) rfl))) (by decide) (backOf (W := 0) (rm6 l Z a0 hw [] b11 mm mm T13.heap n0 z15 FF13 FL13) hZ (hw _ (List.mem_of_getElem? (i := 31) rfl)) (hw _ (List.mem_of_getElem? (i := 11) rfl)) (by decide) (by decide)) q16a q16c (g := (mkF m 127 #[.val (.long p1), .second, .val (.long p2), .second, .val (.long p3), .second, .val (.long X), .second, .val (.long Y), .second, .val (.long f), .second, .val (.long g), .second, .val (.long (g - f)), .second, .val (.long mm), .second, .val (.ref b5), .val (.long A), .second, .val (.int (1 : Int32)), .unset, .unset, .unset, .unset] [(.ref b11)])) rfl (by rw [hml]; rfl) (Steps.refl _) (argsL := []) (rest := []) (lenOf (by decide +kernel : parseMethodDescriptor "()J" = some ⟨[], some .long⟩) rfl) rfl (by show 2 * 0 + _ ≤ _; exact Nat.le_of_eq rfl) (hb hby at_127) (fun _ _ => ⟨rfl, rfl, (by decide : 2 + 0 ≤ _), (by decide : 4 + 0 ≤ _)⟩)
  dsimp only [Pt.U, Pt.locs, Pt.cells, Pt.slots] at X16 l16 y16 z16 st16 hQ16
  subst l16 y16 z16
  obtain ⟨rfl, Nq16, e16⟩ := hQ16
  have N16 := Fr.app N13 Nq16
  refine own_to (T' := T16) (g' := (mkF m 130 #[.val (.long p1), .second, .val (.long p2), .second, .val (.long p3), .second, .val (.long X), .second, .val (.long Y), .second, .val (.long f), .second, .val (.long g), .second, .val (.long (g - f)), .second, .val (.long mm), .second, .val (.ref b5), .val (.long A), .second, .val (.int (1 : Int32)), .unset, .unset, .unset, .unset] [(.long ((mm - mm) + (1 : Int64)))])) st16 ?_
  obtain ⟨B, hB⟩ : ∃ z, z = ((mm - mm) + (1 : Int64)) := ⟨_, rfl⟩
  rw [← hB]
  have bB : B.toInt = mm.toInt - mm.toInt + 1 := by rw [hB]; exact own_len _ _ (by omega) (by omega) (by omega)
  refine own_step (T' := T16) (g' := (mkF m 131 #[.val (.long p1), .second, .val (.long p2), .second, .val (.long p3), .second, .val (.long X), .second, .val (.long Y), .second, .val (.long f), .second, .val (.long g), .second, .val (.long (g - f)), .second, .val (.long mm), .second, .val (.ref b5), .val (.long A), .second, .val (.int (1 : Int32)), .unset, .unset, .unset, .unset] [(.long (1 : Int64)), (.long B)])) (fun t_ k_ => XS.lconst X16.here hx rfl (hb hby at_130) k_) ?_
  refine own_step (T' := T16) (g' := (mkF m 132 #[.val (.long p1), .second, .val (.long p2), .second, .val (.long p3), .second, .val (.long X), .second, .val (.long Y), .second, .val (.long f), .second, .val (.long g), .second, .val (.long (g - f)), .second, .val (.long mm), .second, .val (.ref b5), .val (.long A), .second, .val (.int (1 : Int32)), .unset, .unset, .unset, .unset] [(.int (Jvm.Free.XT.cmpL B (1 : Int64)))])) (fun t_ k_ => XT.lcmp X16.here hx rfl (hb hby at_131) rfl k_) ?_
  refine own_step (T' := T16) (g' := (mkF m 135 #[.val (.long p1), .second, .val (.long p2), .second, .val (.long p3), .second, .val (.long X), .second, .val (.long Y), .second, .val (.long f), .second, .val (.long g), .second, .val (.long (g - f)), .second, .val (.long mm), .second, .val (.ref b5), .val (.long A), .second, .val (.int (1 : Int32)), .unset, .unset, .unset, .unset] [])) (fun t_ k_ => XS.ifNo X16.here hx rfl (hb hby at_132) rfl ((if0 _ _).trans (teq ((own_c0 _ _).mpr (Int64.toInt_inj.mp (by omega)))).2) k_) ?_
  refine own_step (T' := T16) (g' := (mkF m 136 #[.val (.long p1), .second, .val (.long p2), .second, .val (.long p3), .second, .val (.long X), .second, .val (.long Y), .second, .val (.long f), .second, .val (.long g), .second, .val (.long (g - f)), .second, .val (.long mm), .second, .val (.ref b5), .val (.long A), .second, .val (.int (1 : Int32)), .unset, .unset, .unset, .unset] [(.int (1 : Int32))])) (fun t_ k_ => XS.iconst X16.here hx rfl (hb hby at_135) k_) ?_
  refine own_step (T' := T16) (g' := (mkF m 140 #[.val (.long p1), .second, .val (.long p2), .second, .val (.long p3), .second, .val (.long X), .second, .val (.long Y), .second, .val (.long f), .second, .val (.long g), .second, .val (.long (g - f)), .second, .val (.long mm), .second, .val (.ref b5), .val (.long A), .second, .val (.int (1 : Int32)), .unset, .unset, .unset, .unset] [(.int (1 : Int32))])) (fun t_ k_ => XS.goto X16.here hx rfl (pc0 := 136) (pc' := 140) rfl (hb hby at_136) (by decide) (by decide) k_) ?_
  refine own_step (T' := T16) (g' := (mkF m 142 #[.val (.long p1), .second, .val (.long p2), .second, .val (.long p3), .second, .val (.long X), .second, .val (.long Y), .second, .val (.long f), .second, .val (.long g), .second, .val (.long (g - f)), .second, .val (.long mm), .second, .val (.ref b5), .val (.long A), .second, .val (.int (1 : Int32)), .unset, .unset, .unset, .unset] [])) (fun t_ k_ => XS.istore X16.here hx rfl (hb hby at_140) rfl (l' := #[.val (.long p1), .second, .val (.long p2), .second, .val (.long p3), .second, .val (.long X), .second, .val (.long Y), .second, .val (.long f), .second, .val (.long g), .second, .val (.long (g - f)), .second, .val (.long mm), .second, .val (.ref b5), .val (.long A), .second, .val (.int (1 : Int32)), .unset, .unset, .unset, .unset]) rfl k_) ?_
  obtain ⟨T17, h17, X17, e17, E17, A17, D17, -, st17⟩ := newO X16 hx hZ hown (hw _ (List.mem_of_getElem? (i := 9) rfl)) (hw _ (List.mem_of_getElem? (i := 10) rfl)) (hw _ (List.mem_of_getElem? (i := 11) rfl)) e16 (g := (mkF m 142 #[.val (.long p1), .second, .val (.long p2), .second, .val (.long p3), .second, .val (.long X), .second, .val (.long Y), .second, .val (.long f), .second, .val (.long g), .second, .val (.long (g - f)), .second, .val (.long mm), .second, .val (.ref b5), .val (.long A), .second, .val (.int (1 : Int32)), .unset, .unset, .unset, .unset] [])) rfl (hb hby at_142) (by decide) (by decide)
  obtain ⟨b17, g17⟩ : ∃ z, z = T13.heap.size := ⟨_, rfl⟩
  rw [← g17] at A17 D17 st17
  have ge_b17 : n0 ≤ b17 := Nat.le_trans z15 (Nat.le_of_eq g17.symm)
  have z18 : n0 ≤ h17.size := Nat.le_trans z15 E17.1
  have F_first_b17 : Fld Z h17 b17 "com/example/vestibule/vestibule/container/ByteRanges$Range" "first" "J" (.long (0 : Int64)) := D17 (Or.inr (hw _ (List.mem_of_getElem? (i := 24) rfl))) (ty := .long) (by decide)
  have F_last_b17 : Fld Z h17 b17 "com/example/vestibule/vestibule/container/ByteRanges$Range" "last" "J" (.long (0 : Int64)) := D17 (Or.inr (hw _ (List.mem_of_getElem? (i := 26) rfl))) (ty := .long) (by decide)
  refine own_step (T' := T17) (g' := (mkF m 145 #[.val (.long p1), .second, .val (.long p2), .second, .val (.long p3), .second, .val (.long X), .second, .val (.long Y), .second, .val (.long f), .second, .val (.long g), .second, .val (.long (g - f)), .second, .val (.long mm), .second, .val (.ref b5), .val (.long A), .second, .val (.int (1 : Int32)), .unset, .unset, .unset, .unset] [(.ref b17)])) st17 ?_
  refine own_step (T' := T17) (g' := (mkF m 146 #[.val (.long p1), .second, .val (.long p2), .second, .val (.long p3), .second, .val (.long X), .second, .val (.long Y), .second, .val (.long f), .second, .val (.long g), .second, .val (.long (g - f)), .second, .val (.long mm), .second, .val (.ref b5), .val (.long A), .second, .val (.int (1 : Int32)), .unset, .unset, .unset, .unset] [(.ref b17), (.ref b17)])) (fun t_ k_ => XS.dup X17.here hx rfl (hb hby at_145) rfl rfl k_) ?_
  refine own_step (T' := T17) (g' := (mkF m 148 #[.val (.long p1), .second, .val (.long p2), .second, .val (.long p3), .second, .val (.long X), .second, .val (.long Y), .second, .val (.long f), .second, .val (.long g), .second, .val (.long (g - f)), .second, .val (.long mm), .second, .val (.ref b5), .val (.long A), .second, .val (.int (1 : Int32)), .unset, .unset, .unset, .unset] [(.long f), (.ref b17), (.ref b17)])) (fun t_ k_ => XS.lload X17.here hx rfl (hb hby at_146) rfl k_) ?_
  refine own_step (T' := T17) (g' := (mkF m 150 #[.val (.long p1), .second, .val (.long p2), .second, .val (.long p3), .second, .val (.long X), .second, .val (.long Y), .second, .val (.long f), .second, .val (.long g), .second, .val (.long (g - f)), .second, .val (.long mm), .second, .val (.ref b5), .val (.long A), .second, .val (.int (1 : Int32)), .unset, .unset, .unset, .unset] [(.long mm), (.long f), (.ref b17), (.ref b17)])) (fun t_ k_ => XS.lload X17.here hx rfl (hb hby at_148) rfl k_) ?_
  obtain ⟨_, _, ⟨T19, L19, k19, n19⟩, -, X19, ⟨Lc19, hQ19, l19, y19, z19⟩, st19⟩ := X17.specialBack hx (y := (⟨"com/example/vestibule/vestibule/container/ByteRanges$Range", "<init>", "(JJ)V"⟩ : MethodName)) rfl hown (mvT hZ (hw _ (List.mem_of_getElem? (i := 12) rfl))) (mvT hZ (hw _ (List.mem_of_getElem? (i := 13) rfl))) (mvT hZ (hw _ (List.mem_of_getElem? (i := 14) rfl))) (by decide) (backOf (W := 1) (rm3 l Z a0 hw [] b17 f mm h17 n0 z18 F_first_b17 F_last_b17 A17 ge_b17) hZ (hw _ (List.mem_of_getElem? (i := 14) rfl)) (hw _ (List.mem_of_getElem? (i := 11) rfl)) (by decide) (by decide)) (g := (mkF m 150 #[.val (.long p1), .second, .val (.long p2), .second, .val (.long p3), .second, .val (.long X), .second, .val (.long Y), .second, .val (.long f), .second, .val (.long g), .second, .val (.long (g - f)), .second, .val (.long mm), .second, .val (.ref b5), .val (.long A), .second, .val (.int (1 : Int32)), .unset, .unset, .unset, .unset] [(.long mm), (.long f), (.ref b17), (.ref b17)])) rfl (by rw [hml]; rfl) (Steps.refl _) (a := b17) (argsL := [(.long f), (.long mm)]) (rest := [(.ref b17)]) (lenOf (by decide +kernel : parseMethodDescriptor "(JJ)V" = some ⟨[.long, .long], none⟩) rfl) rfl (by show 2 * 0 + _ ≤ _; exact Nat.le_of_eq rfl) (hb hby at_150) (fun _ _ => ⟨rfl, e17, (by decide : 3 + 0 ≤ _), (by decide : 6 + 0 ≤ _)⟩)
  dsimp only [Pt.U, Pt.locs, Pt.cells, Pt.slots] at X19 l19 y19 z19 st19 hQ19
  subst l19 y19 z19
  obtain ⟨rfl, Nq19, K19, FF19, FL19⟩ := hQ19
  have f20 := A17.keep K19
  have z21 : n0 ≤ T19.heap.size := Nat.le_trans z18 K19.1
  have N19 := Fr.app N16 Nq19
  refine own_to (T' := T19) (g' := (mkF m 153 #[.val (.long p1), .second, .val (.long p2), .second, .val (.long p3), .second, .val (.long X), .second, .val (.long Y), .second, .val (.long f), .second, .val (.long g), .second, .val (.long (g - f)), .second, .val (.long mm), .second, .val (.ref b5), .val (.long A), .second, .val (.int (1 : Int32)), .unset, .unset, .unset, .unset] [(.ref b17)])) st19 ?_
  obtain ⟨cq22, kq22, q22a, q22b, q22c⟩ := isOf hZ rfl f20
  obtain ⟨_, _, ⟨T22, L22, k22, n22⟩, -, X22, ⟨Lc22, hQ22, l22, y22, z22⟩, st22⟩ := X19.virtualBack hx (y := (⟨"com/example/vestibule/vestibule/container/ByteRanges$Range", "length", "()J"⟩ : MethodName)) (z := (⟨"com/example/vestibule/vestibule/container/ByteRanges$Range", "length", "()J"⟩ : MethodName)) hown (mvT hZ (hw _ (List.mem_of_getElem? (i := 27) rfl))) (mvT hZ (hw _ (List.mem_of_getElem? (i := 28) rfl))) (notFace_of_selects (args := #[]) (mvT hZ (hw _ (List.mem_of_getElem? (i := 30) rfl)))) (mvT hZ (hw _ (List.mem_of_getElem? (i := 30) rfl))) (mvT hZ (hw _ (List.mem_of_getElem? (i := 29) rfl))) (by decide) (backOf (W := 0) (rm6 l Z a0 hw [] b17 f mm T19.heap n0 z21 FF19 FL19) hZ (hw _ (List.mem_of_getElem? (i := 31) rfl)) (hw _ (List.mem_of_getElem? (i := 11) rfl)) (by decide) (by decide)) q22a q22c (g := (mkF m 153 #[.val (.long p1), .second, .val (.long p2), .second, .val (.long p3), .second, .val (.long X), .second, .val (.long Y), .second, .val (.long f), .second, .val (.long g), .second, .val (.long (g - f)), .second, .val (.long mm), .second, .val (.ref b5), .val (.long A), .second, .val (.int (1 : Int32)), .unset, .unset, .unset, .unset] [(.ref b17)])) rfl (by rw [hml]; rfl) (Steps.refl _) (argsL := []) (rest := []) (lenOf (by decide +kernel : parseMethodDescriptor "()J" = some ⟨[], some .long⟩) rfl) rfl (by show 2 * 0 + _ ≤ _; exact Nat.le_of_eq rfl) (hb hby at_153) (fun _ _ => ⟨rfl, rfl, (by decide : 3 + 0 ≤ _), (by decide : 6 + 0 ≤ _)⟩)
  dsimp only [Pt.U, Pt.locs, Pt.cells, Pt.slots] at X22 l22 y22 z22 st22 hQ22
  subst l22 y22 z22
  obtain ⟨rfl, Nq22, e22⟩ := hQ22
  have N22 := Fr.app N19 Nq22
  refine own_to (T' := T22) (g' := (mkF m 156 #[.val (.long p1), .second, .val (.long p2), .second, .val (.long p3), .second, .val (.long X), .second, .val (.long Y), .second, .val (.long f), .second, .val (.long g), .second, .val (.long (g - f)), .second, .val (.long mm), .second, .val (.ref b5), .val (.long A), .second, .val (.int (1 : Int32)), .unset, .unset, .unset, .unset] [(.long ((mm - f) + (1 : Int64)))])) st22 ?_
  obtain ⟨C, hC⟩ : ∃ z, z = ((mm - f) + (1 : Int64)) := ⟨_, rfl⟩
  rw [← hC]
  have bC : C.toInt = mm.toInt - f.toInt + 1 := by rw [hC]; exact own_len _ _ k1 bm.1 (by omega)
  refine own_step (T' := T22) (g' := (mkF m 158 #[.val (.long p1), .second, .val (.long p2), .second, .val (.long p3), .second, .val (.long X), .second, .val (.long Y), .second, .val (.long f), .second, .val (.long g), .second, .val (.long (g - f)), .second, .val (.long mm), .second, .val (.ref b5), .val (.long A), .second, .val (.int (1 : Int32)), .val (.long C), .second, .unset, .unset] [])) (fun t_ k_ => XS.lstore X22.here hx rfl (hb hby at_156) rfl (l' := #[.val (.long p1), .second, .val (.long p2), .second, .val (.long p3), .second, .val (.long X), .second, .val (.long Y), .second, .val (.long f), .second, .val (.long g), .second, .val (.long (g - f)), .second, .val (.long mm), .second, .val (.ref b5), .val (.long A), .second, .val (.int (1 : Int32)), .val (.long C), .second, .unset, .unset]) rfl k_) ?_
  refine own_step (T' := T22) (g' := (mkF m 160 #[.val (.long p1), .second, .val (.long p2), .second, .val (.long p3), .second, .val (.long X), .second, .val (.long Y), .second, .val (.long f), .second, .val (.long g), .second, .val (.long (g - f)), .second, .val (.long mm), .second, .val (.ref b5), .val (.long A), .second, .val (.int (1 : Int32)), .val (.long C), .second, .unset, .unset] [(.long mm)])) (fun t_ k_ => XS.lload X22.here hx rfl (hb hby at_158) rfl k_) ?_
  refine own_step (T' := T22) (g' := (mkF m 162 #[.val (.long p1), .second, .val (.long p2), .second, .val (.long p3), .second, .val (.long X), .second, .val (.long Y), .second, .val (.long f), .second, .val (.long g), .second, .val (.long (g - f)), .second, .val (.long mm), .second, .val (.ref b5), .val (.long A), .second, .val (.int (1 : Int32)), .val (.long C), .second, .unset, .unset] [(.long g), (.long mm)])) (fun t_ k_ => XS.lload X22.here hx rfl (hb hby at_160) rfl k_) ?_
  refine own_step (T' := T22) (g' := (mkF m 163 #[.val (.long p1), .second, .val (.long p2), .second, .val (.long p3), .second, .val (.long X), .second, .val (.long Y), .second, .val (.long f), .second, .val (.long g), .second, .val (.long (g - f)), .second, .val (.long mm), .second, .val (.ref b5), .val (.long A), .second, .val (.int (1 : Int32)), .val (.long C), .second, .unset, .unset] [(.int (Jvm.Free.XT.cmpL mm g))])) (fun t_ k_ => XT.lcmp X22.here hx rfl (hb hby at_162) rfl k_) ?_
  by_cases hc163_23 : (Jvm.Free.XT.cmpL mm g) = (0 : Int32)
  · refine own_step (T' := T22) (g' := (mkF m 166 #[.val (.long p1), .second, .val (.long p2), .second, .val (.long p3), .second, .val (.long X), .second, .val (.long Y), .second, .val (.long f), .second, .val (.long g), .second, .val (.long (g - f)), .second, .val (.long mm), .second, .val (.ref b5), .val (.long A), .second, .val (.int (1 : Int32)), .val (.long C), .second, .unset, .unset] [])) (fun t_ k_ => XS.ifNo X22.here hx rfl (hb hby at_163) rfl ((if0 _ _).trans (teq hc163_23).2) k_) ?_
    have heq : mm.toInt = g.toInt := congrArg Int64.toInt ((own_c0 _ _).mp hc163_23)
    refine own_step (T' := T22) (g' := (mkF m 167 #[.val (.long p1), .second, .val (.long p2), .second, .val (.long p3), .second, .val (.long X), .second, .val (.long Y), .second, .val (.long f), .second, .val (.long g), .second, .val (.long (g - f)), .second, .val (.long mm), .second, .val (.ref b5), .val (.long A), .second, .val (.int (1 : Int32)), .val (.long C), .second, .unset, .unset] [(.long (0 : Int64))])) (fun t_ k_ => XS.lconst X22.here hx rfl (hb hby at_166) k_) ?_
    refine own_step (T' := T22) (g' := (mkF m 186 #[.val (.long p1), .second, .val (.long p2), .second, .val (.long p3), .second, .val (.long X), .second, .val (.long Y), .second, .val (.long f), .second, .val (.long g), .second, .val (.long (g - f)), .second, .val (.long mm), .second, .val (.ref b5), .val (.long A), .second, .val (.int (1 : Int32)), .val (.long C), .second, .unset, .unset] [(.long (0 : Int64))])) (fun t_ k_ => XS.goto X22.here hx rfl (pc0 := 167) (pc' := 186) rfl (hb hby at_167) (by decide) (by decide) k_) ?_
    refine own_step (T' := T22) (g' := (mkF m 188 #[.val (.long p1), .second, .val (.long p2), .second, .val (.long p3), .second, .val (.long X), .second, .val (.long Y), .second, .val (.long f), .second, .val (.long g), .second, .val (.long (g - f)), .second, .val (.long mm), .second, .val (.ref b5), .val (.long A), .second, .val (.int (1 : Int32)), .val (.long C), .second, .val (.long (0 : Int64)), .second] [])) (fun t_ k_ => XS.lstore X22.here hx rfl (hb hby at_186) rfl (l' := #[.val (.long p1), .second, .val (.long p2), .second, .val (.long p3), .second, .val (.long X), .second, .val (.long Y), .second, .val (.long f), .second, .val (.long g), .second, .val (.long (g - f)), .second, .val (.long mm), .second, .val (.ref b5), .val (.long A), .second, .val (.int (1 : Int32)), .val (.long C), .second, .val (.long (0 : Int64)), .second]) rfl k_) ?_
    refine own_step (T' := T22) (g' := (mkF m 190 #[.val (.long p1), .second, .val (.long p2), .second, .val (.long p3), .second, .val (.long X), .second, .val (.long Y), .second, .val (.long f), .second, .val (.long g), .second, .val (.long (g - f)), .second, .val (.long mm), .second, .val (.ref b5), .val (.long A), .second, .val (.int (1 : Int32)), .val (.long C), .second, .val (.long (0 : Int64)), .second] [(.int (1 : Int32))])) (fun t_ k_ => XS.iload X22.here hx rfl (hb hby at_188) rfl k_) ?_
    refine own_step (T' := T22) (g' := (mkF m 193 #[.val (.long p1), .second, .val (.long p2), .second, .val (.long p3), .second, .val (.long X), .second, .val (.long Y), .second, .val (.long f), .second, .val (.long g), .second, .val (.long (g - f)), .second, .val (.long mm), .second, .val (.ref b5), .val (.long A), .second, .val (.int (1 : Int32)), .val (.long C), .second, .val (.long (0 : Int64)), .second] [])) (fun t_ k_ => XS.ifNo X22.here hx rfl (hb hby at_190) rfl ((if0 _ _).trans (feq (by decide)).1) k_) ?_
    refine own_step (T' := T22) (g' := (mkF m 195 #[.val (.long p1), .second, .val (.long p2), .second, .val (.long p3), .second, .val (.long X), .second, .val (.long Y), .second, .val (.long f), .second, .val (.long g), .second, .val (.long (g - f)), .second, .val (.long mm), .second, .val (.ref b5), .val (.long A), .second, .val (.int (1 : Int32)), .val (.long C), .second, .val (.long (0 : Int64)), .second] [(.long C)])) (fun t_ k_ => XS.lload X22.here hx rfl (hb hby at_193) rfl k_) ?_
    refine own_step (T' := T22) (g' := (mkF m 196 #[.val (.long p1), .second, .val (.long p2), .second, .val (.long p3), .second, .val (.long X), .second, .val (.long Y), .second, .val (.long f), .second, .val (.long g), .second, .val (.long (g - f)), .second, .val (.long mm), .second, .val (.ref b5), .val (.long A), .second, .val (.int (1 : Int32)), .val (.long C), .second, .val (.long (0 : Int64)), .second] [(.long (1 : Int64)), (.long C)])) (fun t_ k_ => XS.lconst X22.here hx rfl (hb hby at_195) k_) ?_
    refine own_step (T' := T22) (g' := (mkF m 197 #[.val (.long p1), .second, .val (.long p2), .second, .val (.long p3), .second, .val (.long X), .second, .val (.long Y), .second, .val (.long f), .second, .val (.long g), .second, .val (.long (g - f)), .second, .val (.long mm), .second, .val (.ref b5), .val (.long A), .second, .val (.int (1 : Int32)), .val (.long C), .second, .val (.long (0 : Int64)), .second] [(.int (Jvm.Free.XT.cmpL C (1 : Int64)))])) (fun t_ k_ => XT.lcmp X22.here hx rfl (hb hby at_196) rfl k_) ?_
    refine own_step (T' := T22) (g' := (mkF m 200 #[.val (.long p1), .second, .val (.long p2), .second, .val (.long p3), .second, .val (.long X), .second, .val (.long Y), .second, .val (.long f), .second, .val (.long g), .second, .val (.long (g - f)), .second, .val (.long mm), .second, .val (.ref b5), .val (.long A), .second, .val (.int (1 : Int32)), .val (.long C), .second, .val (.long (0 : Int64)), .second] [])) (fun t_ k_ => XS.ifNo X22.here hx rfl (hb hby at_197) rfl ((if0 _ _).trans (flt (fun q => by have q := (own_cl _ _).mp q; rw [Int64.lt_iff_toInt_lt] at q; omega)).1) k_) ?_
    refine own_step (T' := T22) (g' := (mkF m 202 #[.val (.long p1), .second, .val (.long p2), .second, .val (.long p3), .second, .val (.long X), .second, .val (.long Y), .second, .val (.long f), .second, .val (.long g), .second, .val (.long (g - f)), .second, .val (.long mm), .second, .val (.ref b5), .val (.long A), .second, .val (.int (1 : Int32)), .val (.long C), .second, .val (.long (0 : Int64)), .second] [(.long A)])) (fun t_ k_ => XS.lload X22.here hx rfl (hb hby at_200) rfl k_) ?_
    refine own_step (T' := T22) (g' := (mkF m 204 #[.val (.long p1), .second, .val (.long p2), .second, .val (.long p3), .second, .val (.long X), .second, .val (.long Y), .second, .val (.long f), .second, .val (.long g), .second, .val (.long (g - f)), .second, .val (.long mm), .second, .val (.ref b5), .val (.long A), .second, .val (.int (1 : Int32)), .val (.long C), .second, .val (.long (0 : Int64)), .second] [(.long C), (.long A)])) (fun t_ k_ => XS.lload X22.here hx rfl (hb hby at_202) rfl k_) ?_
    refine own_step (T' := T22) (g' := (mkF m 206 #[.val (.long p1), .second, .val (.long p2), .second, .val (.long p3), .second, .val (.long X), .second, .val (.long Y), .second, .val (.long f), .second, .val (.long g), .second, .val (.long (g - f)), .second, .val (.long mm), .second, .val (.ref b5), .val (.long A), .second, .val (.int (1 : Int32)), .val (.long C), .second, .val (.long (0 : Int64)), .second] [(.long (0 : Int64)), (.long C), (.long A)])) (fun t_ k_ => XS.lload X22.here hx rfl (hb hby at_204) rfl k_) ?_
    refine own_step (T' := T22) (g' := (mkF m 207 #[.val (.long p1), .second, .val (.long p2), .second, .val (.long p3), .second, .val (.long X), .second, .val (.long Y), .second, .val (.long f), .second, .val (.long g), .second, .val (.long (g - f)), .second, .val (.long mm), .second, .val (.ref b5), .val (.long A), .second, .val (.int (1 : Int32)), .val (.long C), .second, .val (.long (0 : Int64)), .second] [(.long (C + (0 : Int64))), (.long A)])) (fun t_ k_ => XS.ladd X22.here hx rfl (hb hby at_206) rfl k_) ?_
    refine own_step (T' := T22) (g' := (mkF m 208 #[.val (.long p1), .second, .val (.long p2), .second, .val (.long p3), .second, .val (.long X), .second, .val (.long Y), .second, .val (.long f), .second, .val (.long g), .second, .val (.long (g - f)), .second, .val (.long mm), .second, .val (.ref b5), .val (.long A), .second, .val (.int (1 : Int32)), .val (.long C), .second, .val (.long (0 : Int64)), .second] [(.int (Jvm.Free.XT.cmpL A (C + (0 : Int64))))])) (fun t_ k_ => XT.lcmp X22.here hx rfl (hb hby at_207) rfl k_) ?_
    refine own_step (T' := T22) (g' := (mkF m 211 #[.val (.long p1), .second, .val (.long p2), .second, .val (.long p3), .second, .val (.long X), .second, .val (.long Y), .second, .val (.long f), .second, .val (.long g), .second, .val (.long (g - f)), .second, .val (.long mm), .second, .val (.ref b5), .val (.long A), .second, .val (.int (1 : Int32)), .val (.long C), .second, .val (.long (0 : Int64)), .second] [])) (fun t_ k_ => XS.ifNo X22.here hx rfl (hb hby at_208) rfl ((if0 _ _).trans (teq ((own_c0 _ _).mpr (Int64.toInt_inj.mp (by rw [Jvm.Kit.i64_add (by show -2 ^ 63 ≤ C.toInt + 0; omega) (by show C.toInt + 0 < 2 ^ 63; omega)]; show A.toInt = C.toInt + 0; omega)))).2) k_) ?_
    refine own_step (T' := T22) (g' := (mkF m 212 #[.val (.long p1), .second, .val (.long p2), .second, .val (.long p3), .second, .val (.long X), .second, .val (.long Y), .second, .val (.long f), .second, .val (.long g), .second, .val (.long (g - f)), .second, .val (.long mm), .second, .val (.ref b5), .val (.long A), .second, .val (.int (1 : Int32)), .val (.long C), .second, .val (.long (0 : Int64)), .second] [(.int (1 : Int32))])) (fun t_ k_ => XS.iconst X22.here hx rfl (hb hby at_211) k_) ?_
    refine own_step (T' := T22) (g' := (mkF m 216 #[.val (.long p1), .second, .val (.long p2), .second, .val (.long p3), .second, .val (.long X), .second, .val (.long Y), .second, .val (.long f), .second, .val (.long g), .second, .val (.long (g - f)), .second, .val (.long mm), .second, .val (.ref b5), .val (.long A), .second, .val (.int (1 : Int32)), .val (.long C), .second, .val (.long (0 : Int64)), .second] [(.int (1 : Int32))])) (fun t_ k_ => XS.goto X22.here hx rfl (pc0 := 212) (pc' := 216) rfl (hb hby at_212) (by decide) (by decide) k_) ?_
    refine own_step (T' := T22) (g' := (mkF m 218 #[.val (.long p1), .second, .val (.long p2), .second, .val (.long p3), .second, .val (.long X), .second, .val (.long Y), .second, .val (.long f), .second, .val (.long g), .second, .val (.long (g - f)), .second, .val (.long mm), .second, .val (.ref b5), .val (.long A), .second, .val (.int (1 : Int32)), .val (.long C), .second, .val (.long (0 : Int64)), .second] [])) (fun t_ k_ => XS.istore X22.here hx rfl (hb hby at_216) rfl (l' := #[.val (.long p1), .second, .val (.long p2), .second, .val (.long p3), .second, .val (.long X), .second, .val (.long Y), .second, .val (.long f), .second, .val (.long g), .second, .val (.long (g - f)), .second, .val (.long mm), .second, .val (.ref b5), .val (.long A), .second, .val (.int (1 : Int32)), .val (.long C), .second, .val (.long (0 : Int64)), .second]) rfl k_) ?_
    refine own_step (T' := T22) (g' := (mkF m 220 #[.val (.long p1), .second, .val (.long p2), .second, .val (.long p3), .second, .val (.long X), .second, .val (.long Y), .second, .val (.long f), .second, .val (.long g), .second, .val (.long (g - f)), .second, .val (.long mm), .second, .val (.ref b5), .val (.long A), .second, .val (.int (1 : Int32)), .val (.long C), .second, .val (.long (0 : Int64)), .second] [(.int (1 : Int32))])) (fun t_ k_ => XS.iload X22.here hx rfl (hb hby at_218) rfl k_) ?_
    obtain ⟨fs, hrR, hrun, hended, hWW, hsame⟩ := X22.leave (v := some (.int (1 : Int32))) (fun h => by rw [Bd.returns] at h; cases h)
    refine ⟨_, _, own_retZ X22 hx (t := .boolean) Bd.returns (by simp) (by decide) (hb hby at_220) hrR, hrun, hended, hPP _ _ ⟨_, _, rfl, ?_, ⟨_, rfl⟩, hWW, hsame.mono (by decide) (by decide)⟩⟩
    show Q0 n0 _ T22.heap _
    rw [e22]
    exact ⟨rfl, N22⟩
  · refine own_step (T' := T22) (g' := (mkF m 170 #[.val (.long p1), .second, .val (.long p2), .second, .val (.long p3), .second, .val (.long X), .second, .val (.long Y), .second, .val (.long f), .second, .val (.long g), .second, .val (.long (g - f)), .second, .val (.long mm), .second, .val (.ref b5), .val (.long A), .second, .val (.int (1 : Int32)), .val (.long C), .second, .unset, .unset] [])) (fun t_ k_ => XS.ifYes X22.here hx rfl (pc0 := 163) (pc' := 170) rfl (hb hby at_163) rfl ((if0 _ _).trans (feq hc163_23).2) (by decide) (by decide) k_) ?_
    have hne : mm.toInt ≠ g.toInt := fun q => hc163_23 ((own_c0 _ _).mpr (Int64.toInt_inj.mp q))
    have bm1 : (mm + 1).toInt = mm.toInt + 1 := by rw [Jvm.Kit.i64_add (by omega) (by omega)]; rfl
    obtain ⟨T24, h24, X24, e24, E24, A24, D24, -, st24⟩ := newO X22 hx hZ hown (hw _ (List.mem_of_getElem? (i := 9) rfl)) (hw _ (List.mem_of_getElem? (i := 10) rfl)) (hw _ (List.mem_of_getElem? (i := 11) rfl)) e22 (g := (mkF m 170 #[.val (.long p1), .second, .val (.long p2), .second, .val (.long p3), .second, .val (.long X), .second, .val (.long Y), .second, .val (.long f), .second, .val (.long g), .second, .val (.long (g - f)), .second, .val (.long mm), .second, .val (.ref b5), .val (.long A), .second, .val (.int (1 : Int32)), .val (.long C), .second, .unset, .unset] [])) rfl (hb hby at_170) (by decide) (by decide)
    obtain ⟨b24, g24⟩ : ∃ z, z = T19.heap.size := ⟨_, rfl⟩
    rw [← g24] at A24 D24 st24
    have ge_b24 : n0 ≤ b24 := Nat.le_trans z21 (Nat.le_of_eq g24.symm)
    have z25 : n0 ≤ h24.size := Nat.le_trans z21 E24.1
    have F_first_b24 : Fld Z h24 b24 "com/example/vestibule/vestibule/container/ByteRanges$Range" "first" "J" (.long (0 : Int64)) := D24 (Or.inr (hw _ (List.mem_of_getElem? (i := 24) rfl))) (ty := .long) (by decide)
    have F_last_b24 : Fld Z h24 b24 "com/example/vestibule/vestibule/container/ByteRanges$Range" "last" "J" (.long (0 : Int64)) := D24 (Or.inr (hw _ (List.mem_of_getElem? (i := 26) rfl))) (ty := .long) (by decide)
    refine own_step (T' := T24) (g' := (mkF m 173 #[.val (.long p1), .second, .val (.long p2), .second, .val (.long p3), .second, .val (.long X), .second, .val (.long Y), .second, .val (.long f), .second, .val (.long g), .second, .val (.long (g - f)), .second, .val (.long mm), .second, .val (.ref b5), .val (.long A), .second, .val (.int (1 : Int32)), .val (.long C), .second, .unset, .unset] [(.ref b24)])) st24 ?_
    refine own_step (T' := T24) (g' := (mkF m 174 #[.val (.long p1), .second, .val (.long p2), .second, .val (.long p3), .second, .val (.long X), .second, .val (.long Y), .second, .val (.long f), .second, .val (.long g), .second, .val (.long (g - f)), .second, .val (.long mm), .second, .val (.ref b5), .val (.long A), .second, .val (.int (1 : Int32)), .val (.long C), .second, .unset, .unset] [(.ref b24), (.ref b24)])) (fun t_ k_ => XS.dup X24.here hx rfl (hb hby at_173) rfl rfl k_) ?_
    refine own_step (T' := T24) (g' := (mkF m 176 #[.val (.long p1), .second, .val (.long p2), .second, .val (.long p3), .second, .val (.long X), .second, .val (.long Y), .second, .val (.long f), .second, .val (.long g), .second, .val (.long (g - f)), .second, .val (.long mm), .second, .val (.ref b5), .val (.long A), .second, .val (.int (1 : Int32)), .val (.long C), .second, .unset, .unset] [(.long mm), (.ref b24), (.ref b24)])) (fun t_ k_ => XS.lload X24.here hx rfl (hb hby at_174) rfl k_) ?_
    refine own_step (T' := T24) (g' := (mkF m 177 #[.val (.long p1), .second, .val (.long p2), .second, .val (.long p3), .second, .val (.long X), .second, .val (.long Y), .second, .val (.long f), .second, .val (.long g), .second, .val (.long (g - f)), .second, .val (.long mm), .second, .val (.ref b5), .val (.long A), .second, .val (.int (1 : Int32)), .val (.long C), .second, .unset, .unset] [(.long (1 : Int64)), (.long mm), (.ref b24), (.ref b24)])) (fun t_ k_ => XS.lconst X24.here hx rfl (hb hby at_176) k_) ?_
    refine own_step (T' := T24) (g' := (mkF m 178 #[.val (.long p1), .second, .val (.long p2), .second, .val (.long p3), .second, .val (.long X), .second, .val (.long Y), .second, .val (.long f), .second, .val (.long g), .second, .val (.long (g - f)), .second, .val (.long mm), .second, .val (.ref b5), .val (.long A), .second, .val (.int (1 : Int32)), .val (.long C), .second, .unset, .unset] [(.long (mm + (1 : Int64))), (.ref b24), (.ref b24)])) (fun t_ k_ => XS.ladd X24.here hx rfl (hb hby at_177) rfl k_) ?_
    refine own_step (T' := T24) (g' := (mkF m 180 #[.val (.long p1), .second, .val (.long p2), .second, .val (.long p3), .second, .val (.long X), .second, .val (.long Y), .second, .val (.long f), .second, .val (.long g), .second, .val (.long (g - f)), .second, .val (.long mm), .second, .val (.ref b5), .val (.long A), .second, .val (.int (1 : Int32)), .val (.long C), .second, .unset, .unset] [(.long g), (.long (mm + (1 : Int64))), (.ref b24), (.ref b24)])) (fun t_ k_ => XS.lload X24.here hx rfl (hb hby at_178) rfl k_) ?_
    obtain ⟨_, _, ⟨T26, L26, k26, n26⟩, -, X26, ⟨Lc26, hQ26, l26, y26, z26⟩, st26⟩ := X24.specialBack hx (y := (⟨"com/example/vestibule/vestibule/container/ByteRanges$Range", "<init>", "(JJ)V"⟩ : MethodName)) rfl hown (mvT hZ (hw _ (List.mem_of_getElem? (i := 12) rfl))) (mvT hZ (hw _ (List.mem_of_getElem? (i := 13) rfl))) (mvT hZ (hw _ (List.mem_of_getElem? (i := 14) rfl))) (by decide) (backOf (W := 1) (rm3 l Z a0 hw [] b24 (mm + (1 : Int64)) g h24 n0 z25 F_first_b24 F_last_b24 A24 ge_b24) hZ (hw _ (List.mem_of_getElem? (i := 14) rfl)) (hw _ (List.mem_of_getElem? (i := 11) rfl)) (by decide) (by decide)) (g := (mkF m 180 #[.val (.long p1), .second, .val (.long p2), .second, .val (.long p3), .second, .val (.long X), .second, .val (.long Y), .second, .val (.long f), .second, .val (.long g), .second, .val (.long (g - f)), .second, .val (.long mm), .second, .val (.ref b5), .val (.long A), .second, .val (.int (1 : Int32)), .val (.long C), .second, .unset, .unset] [(.long g), (.long (mm + (1 : Int64))), (.ref b24), (.ref b24)])) rfl (by rw [hml]; rfl) (Steps.refl _) (a := b24) (argsL := [(.long (mm + (1 : Int64))), (.long g)]) (rest := [(.ref b24)]) (lenOf (by decide +kernel : parseMethodDescriptor "(JJ)V" = some ⟨[.long, .long], none⟩) rfl) rfl (by show 2 * 0 + _ ≤ _; exact Nat.le_of_eq rfl) (hb hby at_180) (fun _ _ => ⟨rfl, e24, (by decide : 4 + 0 ≤ _), (by decide : 8 + 0 ≤ _)⟩)
    dsimp only [Pt.U, Pt.locs, Pt.cells, Pt.slots] at X26 l26 y26 z26 st26 hQ26
    subst l26 y26 z26
    obtain ⟨rfl, Nq26, K26, FF26, FL26⟩ := hQ26
    have f27 := A24.keep K26
    have z28 : n0 ≤ T26.heap.size := Nat.le_trans z25 K26.1
    have N26 := Fr.app N22 Nq26
    refine own_to (T' := T26) (g' := (mkF m 183 #[.val (.long p1), .second, .val (.long p2), .second, .val (.long p3), .second, .val (.long X), .second, .val (.long Y), .second, .val (.long f), .second, .val (.long g), .second, .val (.long (g - f)), .second, .val (.long mm), .second, .val (.ref b5), .val (.long A), .second, .val (.int (1 : Int32)), .val (.long C), .second, .unset, .unset] [(.ref b24)])) st26 ?_
    obtain ⟨cq29, kq29, q29a, q29b, q29c⟩ := isOf hZ rfl f27
    obtain ⟨_, _, ⟨T29, L29, k29, n29⟩, -, X29, ⟨Lc29, hQ29, l29, y29, z29⟩, st29⟩ := X26.virtualBack hx (y := (⟨"com/example/vestibule/vestibule/container/ByteRanges$Range", "length", "()J"⟩ : MethodName)) (z := (⟨"com/example/vestibule/vestibule/container/ByteRanges$Range", "length", "()J"⟩ : MethodName)) hown (mvT hZ (hw _ (List.mem_of_getElem? (i := 27) rfl))) (mvT hZ (hw _ (List.mem_of_getElem? (i := 28) rfl))) (notFace_of_selects (args := #[]) (mvT hZ (hw _ (List.mem_of_getElem? (i := 30) rfl)))) (mvT hZ (hw _ (List.mem_of_getElem? (i := 30) rfl))) (mvT hZ (hw _ (List.mem_of_getElem? (i := 29) rfl))) (by decide) (backOf (W := 0) (rm6 l Z a0 hw [] b24 (mm + (1 : Int64)) g T26.heap n0 z28 FF26 FL26) hZ (hw _ (List.mem_of_getElem? (i := 31) rfl)) (hw _ (List.mem_of_getElem? (i := 11) rfl)) (by decide) (by decide)) q29a q29c (g := (mkF m 183 #[.val (.long p1), .second, .val (.long p2), .second, .val (.long p3), .second, .val (.long X), .second, .val (.long Y), .second, .val (.long f), .second, .val (.long g), .second, .val (.long (g - f)), .second, .val (.long mm), .second, .val (.ref b5), .val (.long A), .second, .val (.int (1 : Int32)), .val (.long C), .second, .unset, .unset] [(.ref b24)])) rfl (by rw [hml]; rfl) (Steps.refl _) (argsL := []) (rest := []) (lenOf (by decide +kernel : parseMethodDescriptor "()J" = some ⟨[], some .long⟩) rfl) rfl (by show 2 * 0 + _ ≤ _; exact Nat.le_of_eq rfl) (hb hby at_183) (fun _ _ => ⟨rfl, rfl, (by decide : 4 + 0 ≤ _), (by decide : 8 + 0 ≤ _)⟩)
    dsimp only [Pt.U, Pt.locs, Pt.cells, Pt.slots] at X29 l29 y29 z29 st29 hQ29
    subst l29 y29 z29
    obtain ⟨rfl, Nq29, e29⟩ := hQ29
    have N29 := Fr.app N26 Nq29
    refine own_to (T' := T29) (g' := (mkF m 186 #[.val (.long p1), .second, .val (.long p2), .second, .val (.long p3), .second, .val (.long X), .second, .val (.long Y), .second, .val (.long f), .second, .val (.long g), .second, .val (.long (g - f)), .second, .val (.long mm), .second, .val (.ref b5), .val (.long A), .second, .val (.int (1 : Int32)), .val (.long C), .second, .unset, .unset] [(.long ((g - (mm + (1 : Int64))) + (1 : Int64)))])) st29 ?_
    obtain ⟨D, hD⟩ : ∃ z, z = ((g - (mm + (1 : Int64))) + (1 : Int64)) := ⟨_, rfl⟩
    rw [← hD]
    have bD : D.toInt = g.toInt - (mm + 1).toInt + 1 := by rw [hD]; exact own_len _ _ (by rw [bm1]; omega) (by rw [bm1]; omega) k3
    refine own_step (T' := T29) (g' := (mkF m 188 #[.val (.long p1), .second, .val (.long p2), .second, .val (.long p3), .second, .val (.long X), .second, .val (.long Y), .second, .val (.long f), .second, .val (.long g), .second, .val (.long (g - f)), .second, .val (.long mm), .second, .val (.ref b5), .val (.long A), .second, .val (.int (1 : Int32)), .val (.long C), .second, .val (.long D), .second] [])) (fun t_ k_ => XS.lstore X29.here hx rfl (hb hby at_186) rfl (l' := #[.val (.long p1), .second, .val (.long p2), .second, .val (.long p3), .second, .val (.long X), .second, .val (.long Y), .second, .val (.long f), .second, .val (.long g), .second, .val (.long (g - f)), .second, .val (.long mm), .second, .val (.ref b5), .val (.long A), .second, .val (.int (1 : Int32)), .val (.long C), .second, .val (.long D), .second]) rfl k_) ?_
    refine own_step (T' := T29) (g' := (mkF m 190 #[.val (.long p1), .second, .val (.long p2), .second, .val (.long p3), .second, .val (.long X), .second, .val (.long Y), .second, .val (.long f), .second, .val (.long g), .second, .val (.long (g - f)), .second, .val (.long mm), .second, .val (.ref b5), .val (.long A), .second, .val (.int (1 : Int32)), .val (.long C), .second, .val (.long D), .second] [(.int (1 : Int32))])) (fun t_ k_ => XS.iload X29.here hx rfl (hb hby at_188) rfl k_) ?_
    refine own_step (T' := T29) (g' := (mkF m 193 #[.val (.long p1), .second, .val (.long p2), .second, .val (.long p3), .second, .val (.long X), .second, .val (.long Y), .second, .val (.long f), .second, .val (.long g), .second, .val (.long (g - f)), .second, .val (.long mm), .second, .val (.ref b5), .val (.long A), .second, .val (.int (1 : Int32)), .val (.long C), .second, .val (.long D), .second] [])) (fun t_ k_ => XS.ifNo X29.here hx rfl (hb hby at_190) rfl ((if0 _ _).trans (feq (by decide)).1) k_) ?_
    refine own_step (T' := T29) (g' := (mkF m 195 #[.val (.long p1), .second, .val (.long p2), .second, .val (.long p3), .second, .val (.long X), .second, .val (.long Y), .second, .val (.long f), .second, .val (.long g), .second, .val (.long (g - f)), .second, .val (.long mm), .second, .val (.ref b5), .val (.long A), .second, .val (.int (1 : Int32)), .val (.long C), .second, .val (.long D), .second] [(.long C)])) (fun t_ k_ => XS.lload X29.here hx rfl (hb hby at_193) rfl k_) ?_
    refine own_step (T' := T29) (g' := (mkF m 196 #[.val (.long p1), .second, .val (.long p2), .second, .val (.long p3), .second, .val (.long X), .second, .val (.long Y), .second, .val (.long f), .second, .val (.long g), .second, .val (.long (g - f)), .second, .val (.long mm), .second, .val (.ref b5), .val (.long A), .second, .val (.int (1 : Int32)), .val (.long C), .second, .val (.long D), .second] [(.long (1 : Int64)), (.long C)])) (fun t_ k_ => XS.lconst X29.here hx rfl (hb hby at_195) k_) ?_
    refine own_step (T' := T29) (g' := (mkF m 197 #[.val (.long p1), .second, .val (.long p2), .second, .val (.long p3), .second, .val (.long X), .second, .val (.long Y), .second, .val (.long f), .second, .val (.long g), .second, .val (.long (g - f)), .second, .val (.long mm), .second, .val (.ref b5), .val (.long A), .second, .val (.int (1 : Int32)), .val (.long C), .second, .val (.long D), .second] [(.int (Jvm.Free.XT.cmpL C (1 : Int64)))])) (fun t_ k_ => XT.lcmp X29.here hx rfl (hb hby at_196) rfl k_) ?_
    refine own_step (T' := T29) (g' := (mkF m 200 #[.val (.long p1), .second, .val (.long p2), .second, .val (.long p3), .second, .val (.long X), .second, .val (.long Y), .second, .val (.long f), .second, .val (.long g), .second, .val (.long (g - f)), .second, .val (.long mm), .second, .val (.ref b5), .val (.long A), .second, .val (.int (1 : Int32)), .val (.long C), .second, .val (.long D), .second] [])) (fun t_ k_ => XS.ifNo X29.here hx rfl (hb hby at_197) rfl ((if0 _ _).trans (flt (fun q => by have q := (own_cl _ _).mp q; rw [Int64.lt_iff_toInt_lt] at q; omega)).1) k_) ?_
    refine own_step (T' := T29) (g' := (mkF m 202 #[.val (.long p1), .second, .val (.long p2), .second, .val (.long p3), .second, .val (.long X), .second, .val (.long Y), .second, .val (.long f), .second, .val (.long g), .second, .val (.long (g - f)), .second, .val (.long mm), .second, .val (.ref b5), .val (.long A), .second, .val (.int (1 : Int32)), .val (.long C), .second, .val (.long D), .second] [(.long A)])) (fun t_ k_ => XS.lload X29.here hx rfl (hb hby at_200) rfl k_) ?_
    refine own_step (T' := T29) (g' := (mkF m 204 #[.val (.long p1), .second, .val (.long p2), .second, .val (.long p3), .second, .val (.long X), .second, .val (.long Y), .second, .val (.long f), .second, .val (.long g), .second, .val (.long (g - f)), .second, .val (.long mm), .second, .val (.ref b5), .val (.long A), .second, .val (.int (1 : Int32)), .val (.long C), .second, .val (.long D), .second] [(.long C), (.long A)])) (fun t_ k_ => XS.lload X29.here hx rfl (hb hby at_202) rfl k_) ?_
    refine own_step (T' := T29) (g' := (mkF m 206 #[.val (.long p1), .second, .val (.long p2), .second, .val (.long p3), .second, .val (.long X), .second, .val (.long Y), .second, .val (.long f), .second, .val (.long g), .second, .val (.long (g - f)), .second, .val (.long mm), .second, .val (.ref b5), .val (.long A), .second, .val (.int (1 : Int32)), .val (.long C), .second, .val (.long D), .second] [(.long D), (.long C), (.long A)])) (fun t_ k_ => XS.lload X29.here hx rfl (hb hby at_204) rfl k_) ?_
    refine own_step (T' := T29) (g' := (mkF m 207 #[.val (.long p1), .second, .val (.long p2), .second, .val (.long p3), .second, .val (.long X), .second, .val (.long Y), .second, .val (.long f), .second, .val (.long g), .second, .val (.long (g - f)), .second, .val (.long mm), .second, .val (.ref b5), .val (.long A), .second, .val (.int (1 : Int32)), .val (.long C), .second, .val (.long D), .second] [(.long (C + D)), (.long A)])) (fun t_ k_ => XS.ladd X29.here hx rfl (hb hby at_206) rfl k_) ?_
    refine own_step (T' := T29) (g' := (mkF m 208 #[.val (.long p1), .second, .val (.long p2), .second, .val (.long p3), .second, .val (.long X), .second, .val (.long Y), .second, .val (.long f), .second, .val (.long g), .second, .val (.long (g - f)), .second, .val (.long mm), .second, .val (.ref b5), .val (.long A), .second, .val (.int (1 : Int32)), .val (.long C), .second, .val (.long D), .second] [(.int (Jvm.Free.XT.cmpL A (C + D)))])) (fun t_ k_ => XT.lcmp X29.here hx rfl (hb hby at_207) rfl k_) ?_
    refine own_step (T' := T29) (g' := (mkF m 211 #[.val (.long p1), .second, .val (.long p2), .second, .val (.long p3), .second, .val (.long X), .second, .val (.long Y), .second, .val (.long f), .second, .val (.long g), .second, .val (.long (g - f)), .second, .val (.long mm), .second, .val (.ref b5), .val (.long A), .second, .val (.int (1 : Int32)), .val (.long C), .second, .val (.long D), .second] [])) (fun t_ k_ => XS.ifNo X29.here hx rfl (hb hby at_208) rfl ((if0 _ _).trans (teq ((own_c0 _ _).mpr (Int64.toInt_inj.mp (by rw [Jvm.Kit.i64_add (by omega) (by omega)]; omega)))).2) k_) ?_
    refine own_step (T' := T29) (g' := (mkF m 212 #[.val (.long p1), .second, .val (.long p2), .second, .val (.long p3), .second, .val (.long X), .second, .val (.long Y), .second, .val (.long f), .second, .val (.long g), .second, .val (.long (g - f)), .second, .val (.long mm), .second, .val (.ref b5), .val (.long A), .second, .val (.int (1 : Int32)), .val (.long C), .second, .val (.long D), .second] [(.int (1 : Int32))])) (fun t_ k_ => XS.iconst X29.here hx rfl (hb hby at_211) k_) ?_
    refine own_step (T' := T29) (g' := (mkF m 216 #[.val (.long p1), .second, .val (.long p2), .second, .val (.long p3), .second, .val (.long X), .second, .val (.long Y), .second, .val (.long f), .second, .val (.long g), .second, .val (.long (g - f)), .second, .val (.long mm), .second, .val (.ref b5), .val (.long A), .second, .val (.int (1 : Int32)), .val (.long C), .second, .val (.long D), .second] [(.int (1 : Int32))])) (fun t_ k_ => XS.goto X29.here hx rfl (pc0 := 212) (pc' := 216) rfl (hb hby at_212) (by decide) (by decide) k_) ?_
    refine own_step (T' := T29) (g' := (mkF m 218 #[.val (.long p1), .second, .val (.long p2), .second, .val (.long p3), .second, .val (.long X), .second, .val (.long Y), .second, .val (.long f), .second, .val (.long g), .second, .val (.long (g - f)), .second, .val (.long mm), .second, .val (.ref b5), .val (.long A), .second, .val (.int (1 : Int32)), .val (.long C), .second, .val (.long D), .second] [])) (fun t_ k_ => XS.istore X29.here hx rfl (hb hby at_216) rfl (l' := #[.val (.long p1), .second, .val (.long p2), .second, .val (.long p3), .second, .val (.long X), .second, .val (.long Y), .second, .val (.long f), .second, .val (.long g), .second, .val (.long (g - f)), .second, .val (.long mm), .second, .val (.ref b5), .val (.long A), .second, .val (.int (1 : Int32)), .val (.long C), .second, .val (.long D), .second]) rfl k_) ?_
    refine own_step (T' := T29) (g' := (mkF m 220 #[.val (.long p1), .second, .val (.long p2), .second, .val (.long p3), .second, .val (.long X), .second, .val (.long Y), .second, .val (.long f), .second, .val (.long g), .second, .val (.long (g - f)), .second, .val (.long mm), .second, .val (.ref b5), .val (.long A), .second, .val (.int (1 : Int32)), .val (.long C), .second, .val (.long D), .second] [(.int (1 : Int32))])) (fun t_ k_ => XS.iload X29.here hx rfl (hb hby at_218) rfl k_) ?_
    obtain ⟨fs, hrR, hrun, hended, hWW, hsame⟩ := X29.leave (v := some (.int (1 : Int32))) (fun h => by rw [Bd.returns] at h; cases h)
    refine ⟨_, _, own_retZ X29 hx (t := .boolean) Bd.returns (by simp) (by decide) (hb hby at_220) hrR, hrun, hended, hPP _ _ ⟨_, _, rfl, ?_, ⟨_, rfl⟩, hWW, hsame.mono (by decide) (by decide)⟩⟩
    show Q0 n0 _ T29.heap _
    rw [e29]
    exact ⟨rfl, N29⟩
set_option maxRecDepth 65536 in
set_option maxHeartbeats 40000000 in
theorem comes_1 {Post : Tables → Env → Array Value → State → Outcome → State → Prop} (hpost : ∀ tb e args s v u, (limb_1_1.after args s (.returned v) u = true ∧ limb_1_2.after args s (.returned v) u = true ∧ True) → FrameEnd s (.returned v) u (Jvm.fieldLocs frame_1_writes args s ++ Jvm.arrayLocs frame_1_arrays args s ++ Jvm.staticLocs frame_1_statics s) 16 128 → Post tb e args s (.returned v) u) :
    ArmFor flags0 classFile x code maxLocals ret World_1 tables_1 room_1 Calls_1 rest_1 Pre_1 Post := by
  intro l hfl _ _ p e ha hc hk s m args below hf hA hF happ hP
  obtain ⟨hcalls, hrest, hpre⟩ := hP
  obtain ⟨-, -, -, hnamed, -, -, -, hat⟩ := (Spec.applies_iff hf).mp happ
  obtain ⟨hg, hn⟩ := and_e (Cond.before_iff.mp (show (Jvm.Cond.and given_1 narrow_1).before args s = true from hpre))
  obtain ⟨hcount, hq0⟩ := and_e hg
  obtain ⟨ha0, hq1⟩ := and_e hq0
  obtain ⟨ha1, hq2⟩ := and_e hq1
  obtain ⟨w0, w1, w2, rfl⟩ : ∃ w0 w1 w2 : Value, args = #[w0, w1, w2] := by
    have hs : args.size = 3 := by simpa [Cond.value, given_1] using hcount
    obtain ⟨L⟩ := args
    match L, hs with
    | [w0, w1, w2], _ => exact ⟨w0, w1, w2, rfl⟩
  have hw := fun d (hd : d ∈ tables_1) => atoms_spec (ws := Jvm.Cond.code x code maxLocals ret :: tables_1) hat d (List.mem_cons_of_mem _ hd)
  have hfit : Fit s := fun {y c} hc i hi => by
    obtain ⟨ha, rfl⟩ := Array.getElem?_eq_some_iff.mp hc
    have q := List.all_eq_true.mp ((Array.all_eq_true_iff_forall_mem.mp hF) _ (Array.getElem_mem ha)) i (List.mem_range.mpr hi)
    simpa [Array.getElem?_eq_getElem hi] using q
  obtain ⟨i0, ei0⟩ := isL_v ha0
  obtain rfl : w0 = (.long i0) := Option.some.inj ei0
  obtain ⟨i1, ei1⟩ := isL_v ha1
  obtain rfl : w1 = (.long i1) := Option.some.inj ei1
  obtain ⟨i2, ei2⟩ := isL_v hq2
  obtain rfl : w2 = (.long i2) := Option.some.inj ei2
  obtain ⟨n, o, h1, h2, h3, _, L, rfl, ⟨rfl, N⟩, hq⟩ := rm0 l s _ hw tables_1 i0 i1 i2 s.heap s.heap.size (Nat.le_refl _)  p e ha hc hk s m _ below hf ((Spec.applies_iff_loose hf).mp happ).1 ⟨rfl, State.Warmed39.refl s, rfl⟩ trivial
  exact ⟨n, _, h1, h2, h3, hpost _ _ _ _ _ _ ⟨Cond.after_iff.mpr rfl, Cond.after_iff.mpr (eq_i res_at (Term.int_eval (1)) rfl), trivial⟩ ⟨hq.1, hq.2.1, (hq.2.2.sift fun y hy => Or.inr (N y hy)).mono (by decide) (by decide)⟩⟩
theorem main_1_1 : Claimed_1_1 := comes_1 fun _ _ _ _ _ _ h hF => ⟨h.1, hF⟩
theorem main_1_2 : Claimed_1_2 := comes_1 fun _ _ _ _ _ _ h hF => ⟨h.2.1, hF⟩
end Jvm.Pilot.@@N@@
namespace Jvm.Pilot.@@N@@
open Jvm Jvm.ClassFile Sem Op Lib Jvm.Free Jvm.Stand Jvm.Pilot.@@N@@.Jvm.D
/-! MADE BY PROGRAM (witnessworld.py) out of the Statement's table words and the real class files: 11 classes; the members and pool entries that the words name. The judged class is class 1, her method 1. -/
namespace start1
open Jvm.ClassFile
def u (s : String) : CpInfo := .utf8 (stringToUtf16 s)
/-- a pool by its gaps: so many unusable entries, then the entry; so many at the end -/
def gap : Nat → List CpInfo → List CpInfo
  | 0, r => r
  | n + 1, r => .unusable :: gap n r
def poolList (es : List (Nat × CpInfo)) (last : Nat) : List CpInfo := es.foldr (fun e r => gap e.1 (e.2 :: r)) (gap last [])
def pool (es : List (Nat × CpInfo)) (last : Nat) : Array CpInfo := ⟨poolList es last⟩
def fileOf (pool : Array CpInfo) (this : Nat) (attrs : Array Attribute := #[]) (ms : Array MethodInfo := #[]) (fl : Nat := 33) (sup : Nat := 0) (ifs : Array Nat := #[]) (fds : Array FieldInfo := #[]) : ClassFile where
  minorVersion := 0
  majorVersion := 65
  constantPool := pool
  accessFlags := fl
  thisClass := this
  superClass := sup
  interfaces := ifs
  fields := fds
  methods := ms
  attributes := attrs
def plain (name : String) (sup : Option ClassId) : Class where
  name := name
  kind := .ordinary
  loader := none
  accessFlags := 33
  super := sup
  interfaces := #[]
  cf := none
  fields := #[]
  methods := #[]
  instanceTypes := #[]
  staticTypes := #[]
  resolved := #[]
  callSites := []
  init := .initialized
  statics := none
  mirror := none

def pool0 : Array CpInfo := pool [(5, u "<init>"), (0, u "()V"), (1, .class_ 10), (1, u "java/lang/Object")] 113

def k0c0 : Code := { maxStack := 0, maxLocals := 1, code := object_method_1_code, exceptionTable := #[], attributes := #[] }
def k0m0 : Method := { name := "<init>", desc := "()V", sig := { parameters := [], returnType := none }, accessFlags := 1, code := some k0c0 }
/-- java/lang/Object -/
def k0 : Class := { plain "java/lang/Object" none with
  accessFlags := 33
  interfaces := #[]
  cf := some (fileOf pool0 8 #[] #[{ accessFlags := 1, nameIndex := 5, descriptorIndex := 6, attributes := #[] }] 33 0 #[] #[])
  fields := #[]
  methods := #[k0m0]
  instanceTypes := #[]
  staticTypes := #[]
  resolved := Array.replicate 124 none
  statics := none }

def pool1 : Array CpInfo := pool [(2, .class_ 4), (1, u "java/lang/Object"), (0, u "<init>"), (0, u "()V"), (2, .long 9223372036854775807), (1, .long 9223372036854775806), (1, .methodref 14 15), (0, .class_ 16), (0, .nameAndType 17 18), (0, u "java/lang/Math"), (0, u "min"), (0, u "(JJ)J"), (0, .methodref 14 20), (0, .nameAndType 21 18), (0, u "max"), (0, .class_ 23), (0, u "com/example/vestibule/vestibule/container/ByteRanges$Range"), (0, .methodref 22 25), (0, .nameAndType 5 26), (0, u "(JJ)V"), (0, .methodref 22 28), (0, .nameAndType 29 30), (0, u "length"), (0, u "()J"), (0, .class_ 32), (0, u "com/example/vestibule/vestibule/container/RangeLengthPinLaw"), (2, u "law"), (0, u "(JJJ)Z")] 7

def k1m0 : Method := { name := "<init>", desc := "()V", sig := { parameters := [], returnType := none }, accessFlags := 2, code := none }
def k1c1 : Code := { maxStack := 8, maxLocals := 26, code := code, exceptionTable := #[], attributes := #[] }
def k1m1 : Method := { name := "law", desc := "(JJJ)Z", sig := { parameters := [.long, .long, .long], returnType := some .boolean }, accessFlags := 9, code := some k1c1 }
/-- com/example/vestibule/vestibule/container/RangeLengthPinLaw -/
def k1 : Class := { plain "com/example/vestibule/vestibule/container/RangeLengthPinLaw" (some 0) with
  accessFlags := 49
  interfaces := #[]
  cf := some (fileOf pool1 31 #[] #[{ accessFlags := 2, nameIndex := 5, descriptorIndex := 6, attributes := #[] }, { accessFlags := 9, nameIndex := 35, descriptorIndex := 36, attributes := #[] }] 49 2 #[] #[])
  fields := #[]
  methods := #[k1m0, k1m1]
  instanceTypes := #[]
  staticTypes := #[]
  resolved := Array.replicate 44 none
  statics := none }

def pool2 : Array CpInfo := pool [(1, .class_ 2), (0, u "java/lang/Math"), (1, .class_ 6), (1, u "java/lang/Object"), (0, u "<init>"), (0, u "()V"), (89, .class_ 100), (1, u "java/lang/Math$RandomNumberGeneratorHolder"), (20, u "(JJ)J"), (50, u "negativeZeroFloatBits"), (0, u "J"), (2, u "negativeZeroDoubleBits"), (21, u "max"), (2, u "min"), (43, u "$assertionsDisabled"), (0, u "Z"), (91, u "twoToTheDoubleScaleDown"), (0, u "D"), (4, u "twoToTheDoubleScaleUp"), (9, u "E"), (3, u "PI"), (2, u "TAU"), (2, u "DEGREES_TO_RADIANS"), (0, u "RADIANS_TO_DEGREES")] 94

def k2m0 : Method := { name := "<init>", desc := "()V", sig := { parameters := [], returnType := none }, accessFlags := 2, code := none }
def k2c1 : Code := { maxStack := 4, maxLocals := 4, code := jdk_29_method_66_code, exceptionTable := #[], attributes := #[] }
def k2m1 : Method := { name := "max", desc := "(JJ)J", sig := { parameters := [.long, .long], returnType := some .long }, accessFlags := 9, code := some k2c1 }
def k2c2 : Code := { maxStack := 4, maxLocals := 4, code := jdk_29_method_70_code, exceptionTable := #[], attributes := #[] }
def k2m2 : Method := { name := "min", desc := "(JJ)J", sig := { parameters := [.long, .long], returnType := some .long }, accessFlags := 9, code := some k2c2 }
/-- java/lang/Math -/
def k2 : Class := { plain "java/lang/Math" (some 0) with
  accessFlags := 49
  interfaces := #[]
  cf := some (fileOf pool2 1 #[.nestMembers #[98]] #[{ accessFlags := 2, nameIndex := 7, descriptorIndex := 8, attributes := #[] }, { accessFlags := 9, nameIndex := 198, descriptorIndex := 121, attributes := #[] }, { accessFlags := 9, nameIndex := 201, descriptorIndex := 121, attributes := #[] }] 49 4 #[] #[{ accessFlags := 25, nameIndex := 354, descriptorIndex := 339, attributes := #[] }, { accessFlags := 25, nameIndex := 358, descriptorIndex := 339, attributes := #[] }, { accessFlags := 25, nameIndex := 361, descriptorIndex := 339, attributes := #[] }, { accessFlags := 26, nameIndex := 364, descriptorIndex := 339, attributes := #[] }, { accessFlags := 26, nameIndex := 365, descriptorIndex := 339, attributes := #[] }, { accessFlags := 26, nameIndex := 172, descriptorIndex := 173, attributes := #[] }, { accessFlags := 26, nameIndex := 176, descriptorIndex := 173, attributes := #[] }, { accessFlags := 8, nameIndex := 344, descriptorIndex := 339, attributes := #[] }, { accessFlags := 8, nameIndex := 338, descriptorIndex := 339, attributes := #[] }, { accessFlags := 4120, nameIndex := 245, descriptorIndex := 246, attributes := #[] }])
  fields := #[{ name := "E", type := .double, accessFlags := 25, slot := 0, constantValue := 0 }, { name := "PI", type := .double, accessFlags := 25, slot := 1, constantValue := 0 }, { name := "TAU", type := .double, accessFlags := 25, slot := 2, constantValue := 0 }, { name := "DEGREES_TO_RADIANS", type := .double, accessFlags := 26, slot := 3, constantValue := 0 }, { name := "RADIANS_TO_DEGREES", type := .double, accessFlags := 26, slot := 4, constantValue := 0 }, { name := "negativeZeroFloatBits", type := .long, accessFlags := 26, slot := 5, constantValue := 0 }, { name := "negativeZeroDoubleBits", type := .long, accessFlags := 26, slot := 6, constantValue := 0 }, { name := "twoToTheDoubleScaleUp", type := .double, accessFlags := 8, slot := 7, constantValue := 0 }, { name := "twoToTheDoubleScaleDown", type := .double, accessFlags := 8, slot := 8, constantValue := 0 }, { name := "$assertionsDisabled", type := .boolean, accessFlags := 4120, slot := 9, constantValue := 0 }]
  methods := #[k2m0, k2m1, k2m2]
  instanceTypes := #[]
  staticTypes := #[.double, .double, .double, .double, .double, .long, .long, .double, .double, .boolean]
  resolved := Array.replicate 460 none
  statics := none }

def pool3 : Array CpInfo := pool [(1, .methodref 2 3), (0, .class_ 4), (0, .nameAndType 5 6), (0, u "java/lang/Object"), (0, u "<init>"), (0, u "()V"), (0, .class_ 8), (0, u "java/lang/Record")] 13

def k3c0 : Code := { maxStack := 1, maxLocals := 1, code := jdk_30_method_1_code, exceptionTable := #[], attributes := #[] }
def k3m0 : Method := { name := "<init>", desc := "()V", sig := { parameters := [], returnType := none }, accessFlags := 4, code := some k3c0 }
/-- java/lang/Record -/
def k3 : Class := { plain "java/lang/Record" (some 0) with
  accessFlags := 1057
  interfaces := #[]
  cf := some (fileOf pool3 7 #[] #[{ accessFlags := 4, nameIndex := 5, descriptorIndex := 6, attributes := #[] }] 1057 2 #[] #[])
  fields := #[]
  methods := #[k3m0]
  instanceTypes := #[]
  staticTypes := #[]
  resolved := Array.replicate 22 none
  statics := none }

def pool4 : Array CpInfo := pool [(1, .class_ 2), (0, u "com/example/vestibule/vestibule/container/ByteRanges"), (0, .methodref 4 5), (0, .class_ 6), (0, .nameAndType 7 8), (0, u "java/lang/Record"), (0, u "<init>"), (0, u "()V"), (0, .fieldref 10 11), (0, .class_ 12), (0, .nameAndType 13 14), (0, u "com/example/vestibule/vestibule/container/ByteRanges$Range"), (0, u "first"), (0, u "J"), (0, .fieldref 10 16), (0, .nameAndType 17 14), (0, u "last"), (16, u "(JJ)V"), (3, u "length"), (0, u "()J")] 36

def k4c0 : Code := { maxStack := 3, maxLocals := 5, code := prog_10_method_1_code, exceptionTable := #[], attributes := #[] }
def k4m0 : Method := { name := "<init>", desc := "(JJ)V", sig := { parameters := [.long, .long], returnType := none }, accessFlags := 0, code := some k4c0 }
def k4c1 : Code := { maxStack := 4, maxLocals := 1, code := prog_10_method_2_code, exceptionTable := #[], attributes := #[] }
def k4m1 : Method := { name := "length", desc := "()J", sig := { parameters := [], returnType := some .long }, accessFlags := 0, code := some k4c1 }
/-- com/example/vestibule/vestibule/container/ByteRanges$Range -/
def k4 : Class := { plain "com/example/vestibule/vestibule/container/ByteRanges$Range" (some 3) with
  accessFlags := 48
  interfaces := #[]
  cf := some (fileOf pool4 10 #[.nestHost 1] #[{ accessFlags := 0, nameIndex := 7, descriptorIndex := 34, attributes := #[] }, { accessFlags := 0, nameIndex := 38, descriptorIndex := 39, attributes := #[] }] 48 4 #[] #[{ accessFlags := 18, nameIndex := 13, descriptorIndex := 14, attributes := #[] }, { accessFlags := 18, nameIndex := 17, descriptorIndex := 14, attributes := #[] }])
  fields := #[{ name := "first", type := .long, accessFlags := 18, slot := 0, constantValue := 0 }, { name := "last", type := .long, accessFlags := 18, slot := 1, constantValue := 0 }]
  methods := #[k4m0, k4m1]
  instanceTypes := #[.long, .long]
  staticTypes := #[]
  resolved := Array.replicate 76 none
  statics := none }

def pool5 : Array CpInfo := pool [(1, u "java/lang/Cloneable"), (0, .class_ 1), (0, u "java/lang/Object"), (0, .class_ 3)] 3

/-- java/lang/Cloneable -/
def k5 : Class := { plain "java/lang/Cloneable" (some 0) with
  accessFlags := 1537
  interfaces := #[]
  cf := some (fileOf pool5 2 #[] #[] 1537 4 #[] #[])
  fields := #[]
  methods := #[]
  instanceTypes := #[]
  staticTypes := #[]
  resolved := Array.replicate 8 none
  statics := none }

def pool6 : Array CpInfo := pool [(1, u "java/io/Serializable"), (0, .class_ 1), (0, u "java/lang/Object"), (0, .class_ 3)] 3

/-- java/io/Serializable -/
def k6 : Class := { plain "java/io/Serializable" (some 0) with
  accessFlags := 1537
  interfaces := #[]
  cf := some (fileOf pool6 2 #[] #[] 1537 4 #[] #[])
  fields := #[]
  methods := #[]
  instanceTypes := #[]
  staticTypes := #[]
  resolved := Array.replicate 8 none
  statics := none }

/-- the primitive byte -/
def k7 : Class := { plain "byte" none with kind := .primitive 'B', accessFlags := 0x411 }
/-- [B -/
def k8 : Class := { plain "[B" (some 0) with kind := .array 7 .byte, interfaces := #[5, 6], accessFlags := 1041 }

/-- the primitive int -/
def k9 : Class := { plain "int" none with kind := .primitive 'I', accessFlags := 0x411 }
/-- [I -/
def k10 : Class := { plain "[I" (some 0) with kind := .array 9 .int, interfaces := #[5, 6], accessFlags := 1041 }

def heap : Heap := #[]
def classes : Array Class := #[k0, k1, k2, k3, k4, k5, k6, k7, k8, k9, k10]
def interned : List (Array UInt16 × Addr) := []
def slotsUsed : Nat := 0
def theMethod : MethodId := ⟨1, 1⟩
def args0 : Array Value := #[.long 5, .long 300, .long 7]
def aboutOver (below : List Frame) : State where
  vm := { classes := classes, interned := interned.toArray }
  heap := heap
  slotsUsed := slotsUsed
  threads := #[{ frames := .invoking theMethod args0 :: below }]
def below0 : List Frame := [.native { method := ⟨0, 0⟩, args := #[] }]
def about1 : State := aboutOver below0
def p0 : Program := .bare "" "" ""
def e0 : Env := launch0.env 0 0 0
theorem w_frames : about1.frames = Frame.invoking theMethod args0 :: below0 := rfl
set_option maxRecDepth 65536 in
theorem w_args : argsFit about1.vm theMethod args0 = true := by decide +kernel
set_option maxRecDepth 65536 in
theorem w_heap : heapFits about1 = true := by decide +kernel
set_option maxRecDepth 65536 in
theorem w_runnable : about1.curStatus? = some .runnable := by decide +kernel
set_option maxRecDepth 65536 in
theorem w_alone : about1.alone = true := by decide +kernel
set_option maxRecDepth 65536 in
theorem w_named : about1.methodNamed? x = some theMethod := by decide +kernel
set_option maxRecDepth 65536 in
theorem w_hears : about1.hears theMethod below0 = true := by decide +kernel
set_option maxRecDepth 65536 in
theorem w_ripe : about1.ripe theMethod args0 below0 = true := by decide +kernel
theorem w_running : about1.status = .running := rfl
set_option maxRecDepth 65536 in
theorem w_room : about1.hasRoom e0.platform room_1 = true :=
  launch0.hasRoom_least _ room_1 (by decide +kernel) (by decide +kernel) (by decide +kernel) (by decide +kernel) (by decide +kernel) (by decide +kernel)
theorem allAtoms_all (ts : List Jvm.Cond) (a : Array Jvm.Value) (st : Jvm.State) : (allAtoms ts).before a st = ts.all (fun c => c.before a st) := by
  induction ts with
  | nil => rfl
  | cons c t ih =>
    show (Jvm.Cond.and c (allAtoms t)).before a st = _
    rw [Jvm.Cond.before_and, ih, List.all_cons]
def words1 : List Jvm.Cond := Jvm.Cond.code x code maxLocals ret :: tables_1
/-- a 'code' word, met by the world's own term for the bytes: nothing is compared byte by byte -/
theorem code_word {y : MethodName} {bytes : ByteArray} {mx : Nat} {rt : Option FieldType} {a : Array Value} {s : State} {m : MethodId} {meth : Method} {c : Code} (h1 : s.methodNamed? y = some m) (h2 : s.vm.method? m = some meth) (h3 : meth.code = some c) (h4 : c.code = bytes)
    (h5 : (c.maxLocals == mx && c.exceptionTable.isEmpty && decide (c.maxStack ≤ mostOperands) && decide (meth.sig.returnType = rt) && !meth.locks && decide (parseMethodDescriptor y.desc = some meth.sig)) = true) : (Jvm.Cond.code y bytes mx rt).before a s = true := by
  simp only [Bool.and_eq_true, beq_iff_eq, Bool.not_eq_true', decide_eq_true_eq] at h5
  obtain ⟨⟨⟨⟨⟨g1, g2⟩, g3⟩, g4⟩, g5⟩, g6⟩ := h5
  simp [Cond.before, Cond.holds, Cond.value, h1, h2, h3, h4, g1, g2, g3, g4, g5, g6]
def isCode : Jvm.Cond → Bool
  | .code _ _ _ _ => true
  | _ => false
theorem all_split {L : List Jvm.Cond} {P : Jvm.Cond → Bool} (h1 : L.all (fun c => isCode c || P c) = true) (h2 : ∀ c ∈ L.filter isCode, P c = true) : L.all P = true := by
  refine List.all_eq_true.mpr fun c hc => ?_
  have h := List.all_eq_true.mp h1 c hc
  rcases Bool.eq_false_or_eq_true (isCode c) with hi | hi
  · exact h2 c (List.mem_filter.mpr ⟨hc, hi⟩)
  · simpa [hi] using h
set_option maxRecDepth 65536 in
theorem w_c0 : (Jvm.Cond.code x code maxLocals ret).before args0 about1 = true := code_word (m := ⟨1, 1⟩) (meth := k1m1) (c := k1c1) (by decide +kernel) rfl rfl rfl (by decide +kernel)
set_option maxRecDepth 65536 in
theorem w_c1 : (Jvm.Cond.code ({ cls := "java/lang/Math", name := "min", desc := "(JJ)J" } : Jvm.MethodName) jdk_29_method_70_code (4 : Nat) (Option.some Jvm.ClassFile.FieldType.long)).before args0 about1 = true := code_word (m := ⟨2, 2⟩) (meth := k2m2) (c := k2c2) (by decide +kernel) rfl rfl rfl (by decide +kernel)
set_option maxRecDepth 65536 in
theorem w_c2 : (Jvm.Cond.code ({ cls := "java/lang/Math", name := "max", desc := "(JJ)J" } : Jvm.MethodName) jdk_29_method_66_code (4 : Nat) (Option.some Jvm.ClassFile.FieldType.long)).before args0 about1 = true := code_word (m := ⟨2, 1⟩) (meth := k2m1) (c := k2c1) (by decide +kernel) rfl rfl rfl (by decide +kernel)
set_option maxRecDepth 65536 in
theorem w_c3 : (Jvm.Cond.code ({ cls := "com/example/vestibule/vestibule/container/ByteRanges$Range", name := "<init>", desc := "(JJ)V" } : Jvm.MethodName) prog_10_method_1_code (5 : Nat) (Option.none : Option Jvm.ClassFile.FieldType)).before args0 about1 = true := code_word (m := ⟨4, 0⟩) (meth := k4m0) (c := k4c0) (by decide +kernel) rfl rfl rfl (by decide +kernel)
set_option maxRecDepth 65536 in
theorem w_c4 : (Jvm.Cond.code ({ cls := "java/lang/Record", name := "<init>", desc := "()V" } : Jvm.MethodName) jdk_30_method_1_code (1 : Nat) (Option.none : Option Jvm.ClassFile.FieldType)).before args0 about1 = true := code_word (m := ⟨3, 0⟩) (meth := k3m0) (c := k3c0) (by decide +kernel) rfl rfl rfl (by decide +kernel)
set_option maxRecDepth 65536 in
theorem w_c5 : (Jvm.Cond.code ({ cls := "java/lang/Object", name := "<init>", desc := "()V" } : Jvm.MethodName) object_method_1_code (1 : Nat) (Option.none : Option Jvm.ClassFile.FieldType)).before args0 about1 = true := code_word (m := ⟨0, 0⟩) (meth := k0m0) (c := k0c0) (by decide +kernel) rfl rfl rfl (by decide +kernel)
set_option maxRecDepth 65536 in
theorem w_c6 : (Jvm.Cond.code ({ cls := "com/example/vestibule/vestibule/container/ByteRanges$Range", name := "length", desc := "()J" } : Jvm.MethodName) prog_10_method_2_code (1 : Nat) (Option.some Jvm.ClassFile.FieldType.long)).before args0 about1 = true := code_word (m := ⟨4, 1⟩) (meth := k4m1) (c := k4c1) (by decide +kernel) rfl rfl rfl (by decide +kernel)
def codes1 : List Jvm.Cond := [Jvm.Cond.code x code maxLocals ret, Jvm.Cond.code ({ cls := "java/lang/Math", name := "min", desc := "(JJ)J" } : Jvm.MethodName) jdk_29_method_70_code (4 : Nat) (Option.some Jvm.ClassFile.FieldType.long), Jvm.Cond.code ({ cls := "java/lang/Math", name := "max", desc := "(JJ)J" } : Jvm.MethodName) jdk_29_method_66_code (4 : Nat) (Option.some Jvm.ClassFile.FieldType.long), Jvm.Cond.code ({ cls := "com/example/vestibule/vestibule/container/ByteRanges$Range", name := "<init>", desc := "(JJ)V" } : Jvm.MethodName) prog_10_method_1_code (5 : Nat) (Option.none : Option Jvm.ClassFile.FieldType), Jvm.Cond.code ({ cls := "java/lang/Record", name := "<init>", desc := "()V" } : Jvm.MethodName) jdk_30_method_1_code (1 : Nat) (Option.none : Option Jvm.ClassFile.FieldType), Jvm.Cond.code ({ cls := "java/lang/Object", name := "<init>", desc := "()V" } : Jvm.MethodName) object_method_1_code (1 : Nat) (Option.none : Option Jvm.ClassFile.FieldType), Jvm.Cond.code ({ cls := "com/example/vestibule/vestibule/container/ByteRanges$Range", name := "length", desc := "()J" } : Jvm.MethodName) prog_10_method_2_code (1 : Nat) (Option.some Jvm.ClassFile.FieldType.long)]
set_option maxRecDepth 65536 in
theorem codes_eq : words1.filter isCode = codes1 := rfl
theorem w_codes : ∀ c ∈ words1.filter isCode, c.before args0 about1 = true := by
  rw [codes_eq]
  intro c hc
  simp only [codes1, List.mem_cons, List.not_mem_nil, or_false] at hc
  rcases hc with rfl | rfl | rfl | rfl | rfl | rfl | rfl
  · exact w_c0
  · exact w_c1
  · exact w_c2
  · exact w_c3
  · exact w_c4
  · exact w_c5
  · exact w_c6
set_option maxRecDepth 65536 in
theorem w_t1 : (words1.take 24).all (fun c => isCode c || c.before args0 about1) = true := by decide +kernel
set_option maxRecDepth 65536 in
theorem w_t2 : (words1.drop 24).all (fun c => isCode c || c.before args0 about1) = true := by decide +kernel
theorem w_tables : (allAtoms (Jvm.Cond.code x code maxLocals ret :: tables_1)).before args0 about1 = true := by
  rw [allAtoms_all]
  show words1.all (fun c => c.before args0 about1) = true
  refine all_split ?_ w_codes
  rw [← List.take_append_drop 24 words1, List.all_append, w_t1, w_t2]
  rfl
set_option maxRecDepth 65536 in
theorem w_case : (Jvm.Cond.and given_1 narrow_1).before args0 about1 = true := by decide +kernel
theorem w_applies : (headSpec (Jvm.Cond.code x code maxLocals ret :: tables_1) room_1).applies x e0.platform about1 = true :=
  (Spec.applies_iff w_frames).mpr ⟨w_running, w_runnable, w_alone, w_named, w_hears, w_ripe, w_room, w_tables⟩
theorem atStart : AtStart classFile x code maxLocals ret World_1 tables_1 room_1 Calls_1 rest_1 Pre_1 launch0 p0 e0 about1 theMethod args0 below0 :=
  ⟨lists_1, trivial, launch0.admits_env _ _ _, launch0.least_env, fairChoices_fair.cas, fairChoices_fair.clock, w_frames, w_args, w_heap, w_applies, trivial, trivial, w_case⟩
end start1
theorem witness_1 : WitnessClaimed_1 := ⟨start1.p0, start1.e0, start1.about1, start1.theMethod, start1.args0, start1.below0, start1.atStart⟩
end Jvm.Pilot.@@N@@
