import JvmDerived
import JvmDerived.Pilot.@@N@@Statement
import JvmDerived.Pilot.@@N@@Code
set_option linter.unusedVariables false
set_option linter.unusedSimpArgs false
namespace Jvm.Pilot.@@N@@
open Jvm Jvm.ClassFile Sem Op Lib Jvm.Free Jvm.Stand Jvm.LawKit Jvm.RoadKit Bundle Jvm.Pilot.@@N@@.Jvm.D
theorem own_w (i : Nat) {d : Jvm.Cond} (h : tables_1[i]? = some d) : d ∈ tables_1 := List.mem_of_getElem? h
def own_Go (p : Program) (e : Env) (below : List Frame) (A B : State) : Prop := ∀ t, Steps p.tables e below B t → Steps p.tables e below A t
section OwnKit
variable {p : Program} {l : Launch} {e : Env} {R : Room} {s : State} {m : MethodId} {args : Array Value} {below : List Frame} {meth : Method} {c : Code} {T : State} {locs : List Loc} {cells slots : Nat}
theorem retI (X : Stand p l e R s m args below meth c T locs cells slots) (hx : p.tables.exec = Jvm.exec) {pc : Nat} {Ls : Array Slot} {z : Int32} {rest : List Value} (hret : meth.sig.returnType = some .int) (hd : decode c.code pc = .ok (.ireturn, 1)) {fs : List Frame}
    (hl : ∀ (f : JFrame) (acts : List Action), f.method = m → f.locked = none → f.entered = [] → (doReturn e (T.setTop f) acts (some (.int z))).1 = T.setFrames fs) : Steps p.tables e below (T.setTop (mkF m pc Ls (.int z :: rest))) (T.setFrames fs) :=
  retOut X hx hret rfl (Or.inl ⟨rfl, Or.inl rfl, z, rfl⟩) hd hl
theorem own_retR (X : Stand p l e R s m args below meth c T locs cells slots) (hx : p.tables.exec = Jvm.exec) {pc : Nat} {Ls : Array Slot} {w : Value} {t : FieldType} {rest : List Value} (hret : meth.sig.returnType = some t) (ht : t.isReference = true) (hw : w.isRef = true) (hd : decode c.code pc = .ok (.areturn, 1)) {fs : List Frame}
    (hl : ∀ (f : JFrame) (acts : List Action), f.method = m → f.locked = none → f.entered = [] → (doReturn e (T.setTop f) acts (some w)).1 = T.setFrames fs) : Steps p.tables e below (T.setTop (mkF m pc Ls (w :: rest))) (T.setFrames fs) :=
  retOut X hx hret (by cases t <;> cases w <;> simp_all [FieldType.isReference, Value.isRef, narrow]) (Or.inr (Or.inr (Or.inr (Or.inr ⟨rfl, ht, hw⟩)))) hd hl
end OwnKit

theorem own_since (s : State) (n : Nat) : s.Since s.vm n := (State.WarmedH.refl s).since n
theorem own_fc {s : State} {vm' : Vm} {own : String} {k : ClassId} (h : s.vm.findClass own = some k) (w : s.Warmed39 vm') : (s.setVm vm').vm.findClass own = some k := by
  rw [show (s.setVm vm').vm = vm' from rfl, w.alike.findClass]; exact h
theorem own_wideMono {s t : State} {o : Outcome} {L : List Loc} {k n k' n' : Nat} (h : ReturnedEndW s o t L k n) (hk : k ≤ k') (hn : n ≤ n') : ReturnedEndW s o t L k' n' := ⟨h.1, h.2.1, h.2.2.1, h.2.2.2.mono hk hn⟩

theorem own_strAtoms (a0 : Array Value) (Z : State) (hw : ∀ d ∈ tables_1, d.before a0 Z = true) : ∀ a ∈ Bundle.stringAtoms, a.before a0 Z = true := by
  intro a ha
  simp only [Bundle.stringAtoms, List.mem_cons, List.not_mem_nil, or_false] at ha
  rcases ha with rfl | rfl | rfl | rfl | rfl | rfl | rfl
  · exact (hw _ (own_w 4 rfl))
  · exact (hw _ (own_w 5 rfl))
  · exact (hw _ (own_w 6 rfl))
  · exact (hw _ (own_w 7 rfl))
  · exact (hw _ (own_w 8 rfl))
  · exact (hw _ (own_w 9 rfl))
  · exact (hw _ (own_w 10 rfl))

theorem d4_0 : decode jdk_29_method_69_code 0 = .ok (.iload_n 0, 1) := by decide +kernel
theorem d4_1 : decode jdk_29_method_69_code 1 = .ok (.iload_n 1, 1) := by decide +kernel
theorem d4_2 : decode jdk_29_method_69_code 2 = .ok (.if_icmp .gt 7, 3) := by decide +kernel
theorem d4_5 : decode jdk_29_method_69_code 5 = .ok (.iload_n 0, 1) := by decide +kernel
theorem d4_6 : decode jdk_29_method_69_code 6 = .ok (.goto 4, 3) := by decide +kernel
theorem d4_9 : decode jdk_29_method_69_code 9 = .ok (.iload_n 1, 1) := by decide +kernel
theorem d4_10 : decode jdk_29_method_69_code 10 = .ok (.ireturn, 1) := by decide +kernel
theorem ef_4 (m : MethodId) (x0 : Int32) (x1 : Int32) : entryFrame m #[(.int x0), (.int x1)] 2 = mkF m 0 #[.val (.int x0), .val (.int x1)] [] := by first | (simp [entryFrame, mkF, argsToLocals, Value.category]; done) | rfl
def own_min (p1 : Int32) (p2 : Int32) : Int32 := (if p2 < p1 then p2 else p1)
def Q4 (Z : State) (p1 : Int32) (p2 : Int32) (h0 : Heap) (n0 : Nat) (v : Option Value) (h : Heap) (L : List Loc) : Prop := v = (some (.int (own_min p1 p2))) ∧ Fr n0 L ∧ h = h0
set_option maxRecDepth 65536 in
set_option maxHeartbeats 40000000 in
theorem rm4 (l : Launch) (Z : State) (a0 : Array Value) (hw : ∀ d ∈ tables_1, d.before a0 Z = true) (ws : List Jvm.Cond) (p1 : Int32) (p2 : Int32) (h0 : Heap) (n0 : Nat) (Z0 : n0 ≤ h0.size) :
    MetFree l (⟨"java/lang/Math", "min", "(II)I"⟩ : MethodName) (head1 (Jvm.Cond.code (⟨"java/lang/Math", "min", "(II)I"⟩ : MethodName) jdk_29_method_69_code 2 (some .int) :: ws) ({ frames := 0, cells := 0, slots := 0, locals := 0 } : Room)) (fun a U => a = #[(.int p1), (.int p2)] ∧ Z.Warmed39 U.vm ∧ U.heap = h0) (fun _ _ _ _ _ => True) (fun _ U o U' => ∃ v L, o = .returned v ∧ Q4 Z p1 p2 h0 n0 v U'.heap L ∧ FrameEnd U o U' L ({ frames := 0, cells := 0, slots := 0, locals := 0 } : Room).cells ({ frames := 0, cells := 0, slots := 0, locals := 0 } : Room).slots) := by
  refine MetFree.of_bodySF (Jvm.Free.JP.mathPlain rfl (by decide +kernel)) hisR ?_
  intro p e s m args below meth c s₁ Bd hml0 hP hK
  obtain ⟨rfl, hZ, hh⟩ := hP
  have hx := Bd.exec
  have hby := Bd.bytes
  have hml : c.maxLocals = 2 := hml0
  have hown0 := findClass_of_methodNamed Bd.named
  have hown : s.vm.findClass "java/lang/Math" = some m.cls := hown0
  have hnm := (name_of_methodNamed Bd.named Bd.method).1
  have X0 : Stand p l e ({ frames := 0, cells := 0, slots := 0, locals := 0 } : Room) s m #[(.int p1), (.int p2)] below meth c s₁ [] 0 0 := Stand.of_body Bd
  have e0 : s₁.heap = h0 := by rw [← hh, Bd.state]; rfl
  have N0 := Fr.nil n0
  obtain ⟨S0, hS0⟩ : ∃ z, z = s₁.setTop (entryFrame m #[(.int p1), (.int p2)] 2) := ⟨_, rfl⟩
  have pre0 : own_Go p e below S0 (s₁.setTop (mkF m 0 #[.val (.int p1), .val (.int p2)] [])) := fun t k => by rw [hS0]; exact castTop (ef_4 m p1 p2) k
  have fin : ∀ t, Steps p.tables e below S0 t → Steps p.tables e below (s₁.setTop (entryFrame m #[(.int p1), (.int p2)] 2)) t := fun t k => by rw [hS0] at k; exact k
  have pre2 : own_Go p e below S0 (s₁.setTop (mkF m 2 #[.val (.int p1), .val (.int p2)] [(.int p2), (.int p1)])) := by
    intro t kt
    refine pre0 t ?_
    refine XS.iloadN X0.here hx rfl (hb hby d4_0) rfl ?_
    show Steps p.tables e below (s₁.setTop (mkF m 1 #[.val (.int p1), .val (.int p2)] [(.int p1)])) _
    refine XS.iloadN X0.here hx rfl (hb hby d4_1) rfl ?_
    show Steps p.tables e below (s₁.setTop (mkF m 2 #[.val (.int p1), .val (.int p2)] [(.int p2), (.int p1)])) _
    exact kt
  by_cases hc1 : p2 < p1
  · have pre3 : own_Go p e below S0 (s₁.setTop (mkF m 10 #[.val (.int p1), .val (.int p2)] [(.int p2)])) := by
      intro t kt
      refine pre2 t ?_
      refine XS.icmpYes X0.here hx rfl (pc0 := 2) (pc' := 9) rfl (hb hby d4_2) rfl (tlt hc1).2.2.1 (by decide) (by decide) ?_
      show Steps p.tables e below (s₁.setTop (mkF m 9 #[.val (.int p1), .val (.int p2)] [])) _
      refine XS.iloadN X0.here hx rfl (hb hby d4_9) rfl ?_
      show Steps p.tables e below (s₁.setTop (mkF m 10 #[.val (.int p1), .val (.int p2)] [(.int p2)])) _
      exact kt
    obtain ⟨fs, hr, hrun, hended, hW, hsame⟩ := X0.leave (v := some (.int p2)) (fun h => by rw [Bd.returns] at h; cases h)
    refine ⟨_, _, fin _ (pre3 _ ?_), hrun, hended, _, _, rfl, ?_, ⟨_, rfl⟩, hW, hsame.mono (by decide) (by decide)⟩
    · exact retI X0 hx Bd.returns (hb hby d4_10) hr
    · show Q4 Z p1 p2 h0 n0 _ s₁.heap _
      rw [e0]
      exact ⟨(by show some _ = some _; rw [own_min, if_pos hc1]), N0, rfl⟩
  · have pre4 : own_Go p e below S0 (s₁.setTop (mkF m 10 #[.val (.int p1), .val (.int p2)] [(.int p1)])) := by
      intro t kt
      refine pre2 t ?_
      refine XS.icmpNo X0.here hx rfl (hb hby d4_2) rfl (flt hc1).2.2.1 ?_
      show Steps p.tables e below (s₁.setTop (mkF m 5 #[.val (.int p1), .val (.int p2)] [])) _
      refine XS.iloadN X0.here hx rfl (hb hby d4_5) rfl ?_
      show Steps p.tables e below (s₁.setTop (mkF m 6 #[.val (.int p1), .val (.int p2)] [(.int p1)])) _
      refine XS.goto X0.here hx rfl (pc0 := 6) (pc' := 10) rfl (hb hby d4_6) (by decide) (by decide) ?_
      show Steps p.tables e below (s₁.setTop (mkF m 10 #[.val (.int p1), .val (.int p2)] [(.int p1)])) _
      exact kt
    obtain ⟨fs, hr, hrun, hended, hW, hsame⟩ := X0.leave (v := some (.int p1)) (fun h => by rw [Bd.returns] at h; cases h)
    refine ⟨_, _, fin _ (pre4 _ ?_), hrun, hended, _, _, rfl, ?_, ⟨_, rfl⟩, hW, hsame.mono (by decide) (by decide)⟩
    · exact retI X0 hx Bd.returns (hb hby d4_10) hr
    · show Q4 Z p1 p2 h0 n0 _ s₁.heap _
      rw [e0]
      exact ⟨(by show some _ = some _; rw [own_min, if_neg hc1]), N0, rfl⟩

theorem d5_0 : decode jdk_29_method_65_code 0 = .ok (.iload_n 0, 1) := by decide +kernel
theorem d5_1 : decode jdk_29_method_65_code 1 = .ok (.iload_n 1, 1) := by decide +kernel
theorem d5_2 : decode jdk_29_method_65_code 2 = .ok (.if_icmp .lt 7, 3) := by decide +kernel
theorem d5_5 : decode jdk_29_method_65_code 5 = .ok (.iload_n 0, 1) := by decide +kernel
theorem d5_6 : decode jdk_29_method_65_code 6 = .ok (.goto 4, 3) := by decide +kernel
theorem d5_9 : decode jdk_29_method_65_code 9 = .ok (.iload_n 1, 1) := by decide +kernel
theorem d5_10 : decode jdk_29_method_65_code 10 = .ok (.ireturn, 1) := by decide +kernel
theorem ef_5 (m : MethodId) (x0 : Int32) (x1 : Int32) : entryFrame m #[(.int x0), (.int x1)] 2 = mkF m 0 #[.val (.int x0), .val (.int x1)] [] := by first | (simp [entryFrame, mkF, argsToLocals, Value.category]; done) | rfl
def own_max (p1 : Int32) (p2 : Int32) : Int32 := (if p1 < p2 then p2 else p1)
def Q5 (Z : State) (p1 : Int32) (p2 : Int32) (h0 : Heap) (n0 : Nat) (v : Option Value) (h : Heap) (L : List Loc) : Prop := v = (some (.int (own_max p1 p2))) ∧ Fr n0 L ∧ h = h0
set_option maxRecDepth 65536 in
set_option maxHeartbeats 40000000 in
theorem rm5 (l : Launch) (Z : State) (a0 : Array Value) (hw : ∀ d ∈ tables_1, d.before a0 Z = true) (ws : List Jvm.Cond) (p1 : Int32) (p2 : Int32) (h0 : Heap) (n0 : Nat) (Z0 : n0 ≤ h0.size) :
    MetFree l (⟨"java/lang/Math", "max", "(II)I"⟩ : MethodName) (head1 (Jvm.Cond.code (⟨"java/lang/Math", "max", "(II)I"⟩ : MethodName) jdk_29_method_65_code 2 (some .int) :: ws) ({ frames := 0, cells := 0, slots := 0, locals := 0 } : Room)) (fun a U => a = #[(.int p1), (.int p2)] ∧ Z.Warmed39 U.vm ∧ U.heap = h0) (fun _ _ _ _ _ => True) (fun _ U o U' => ∃ v L, o = .returned v ∧ Q5 Z p1 p2 h0 n0 v U'.heap L ∧ FrameEnd U o U' L ({ frames := 0, cells := 0, slots := 0, locals := 0 } : Room).cells ({ frames := 0, cells := 0, slots := 0, locals := 0 } : Room).slots) := by
  refine MetFree.of_bodySF (Jvm.Free.JP.mathPlain rfl (by decide +kernel)) hisR ?_
  intro p e s m args below meth c s₁ Bd hml0 hP hK
  obtain ⟨rfl, hZ, hh⟩ := hP
  have hx := Bd.exec
  have hby := Bd.bytes
  have hml : c.maxLocals = 2 := hml0
  have hown0 := findClass_of_methodNamed Bd.named
  have hown : s.vm.findClass "java/lang/Math" = some m.cls := hown0
  have hnm := (name_of_methodNamed Bd.named Bd.method).1
  have X0 : Stand p l e ({ frames := 0, cells := 0, slots := 0, locals := 0 } : Room) s m #[(.int p1), (.int p2)] below meth c s₁ [] 0 0 := Stand.of_body Bd
  have e0 : s₁.heap = h0 := by rw [← hh, Bd.state]; rfl
  have N0 := Fr.nil n0
  obtain ⟨S0, hS0⟩ : ∃ z, z = s₁.setTop (entryFrame m #[(.int p1), (.int p2)] 2) := ⟨_, rfl⟩
  have pre0 : own_Go p e below S0 (s₁.setTop (mkF m 0 #[.val (.int p1), .val (.int p2)] [])) := fun t k => by rw [hS0]; exact castTop (ef_5 m p1 p2) k
  have fin : ∀ t, Steps p.tables e below S0 t → Steps p.tables e below (s₁.setTop (entryFrame m #[(.int p1), (.int p2)] 2)) t := fun t k => by rw [hS0] at k; exact k
  have pre2 : own_Go p e below S0 (s₁.setTop (mkF m 2 #[.val (.int p1), .val (.int p2)] [(.int p2), (.int p1)])) := by
    intro t kt
    refine pre0 t ?_
    refine XS.iloadN X0.here hx rfl (hb hby d5_0) rfl ?_
    show Steps p.tables e below (s₁.setTop (mkF m 1 #[.val (.int p1), .val (.int p2)] [(.int p1)])) _
    refine XS.iloadN X0.here hx rfl (hb hby d5_1) rfl ?_
    show Steps p.tables e below (s₁.setTop (mkF m 2 #[.val (.int p1), .val (.int p2)] [(.int p2), (.int p1)])) _
    exact kt
  by_cases hc1 : p1 < p2
  · have pre3 : own_Go p e below S0 (s₁.setTop (mkF m 10 #[.val (.int p1), .val (.int p2)] [(.int p2)])) := by
      intro t kt
      refine pre2 t ?_
      refine XS.icmpYes X0.here hx rfl (pc0 := 2) (pc' := 9) rfl (hb hby d5_2) rfl (tlt hc1).1 (by decide) (by decide) ?_
      show Steps p.tables e below (s₁.setTop (mkF m 9 #[.val (.int p1), .val (.int p2)] [])) _
      refine XS.iloadN X0.here hx rfl (hb hby d5_9) rfl ?_
      show Steps p.tables e below (s₁.setTop (mkF m 10 #[.val (.int p1), .val (.int p2)] [(.int p2)])) _
      exact kt
    obtain ⟨fs, hr, hrun, hended, hW, hsame⟩ := X0.leave (v := some (.int p2)) (fun h => by rw [Bd.returns] at h; cases h)
    refine ⟨_, _, fin _ (pre3 _ ?_), hrun, hended, _, _, rfl, ?_, ⟨_, rfl⟩, hW, hsame.mono (by decide) (by decide)⟩
    · exact retI X0 hx Bd.returns (hb hby d5_10) hr
    · show Q5 Z p1 p2 h0 n0 _ s₁.heap _
      rw [e0]
      exact ⟨(by show some _ = some _; rw [own_max, if_pos hc1]), N0, rfl⟩
  · have pre4 : own_Go p e below S0 (s₁.setTop (mkF m 10 #[.val (.int p1), .val (.int p2)] [(.int p1)])) := by
      intro t kt
      refine pre2 t ?_
      refine XS.icmpNo X0.here hx rfl (hb hby d5_2) rfl (flt hc1).1 ?_
      show Steps p.tables e below (s₁.setTop (mkF m 5 #[.val (.int p1), .val (.int p2)] [])) _
      refine XS.iloadN X0.here hx rfl (hb hby d5_5) rfl ?_
      show Steps p.tables e below (s₁.setTop (mkF m 6 #[.val (.int p1), .val (.int p2)] [(.int p1)])) _
      refine XS.goto X0.here hx rfl (pc0 := 6) (pc' := 10) rfl (hb hby d5_6) (by decide) (by decide) ?_
      show Steps p.tables e below (s₁.setTop (mkF m 10 #[.val (.int p1), .val (.int p2)] [(.int p1)])) _
      exact kt
    obtain ⟨fs, hr, hrun, hended, hW, hsame⟩ := X0.leave (v := some (.int p1)) (fun h => by rw [Bd.returns] at h; cases h)
    refine ⟨_, _, fin _ (pre4 _ ?_), hrun, hended, _, _, rfl, ?_, ⟨_, rfl⟩, hW, hsame.mono (by decide) (by decide)⟩
    · exact retI X0 hx Bd.returns (hb hby d5_10) hr
    · show Q5 Z p1 p2 h0 n0 _ s₁.heap _
      rw [e0]
      exact ⟨(by show some _ = some _; rw [own_max, if_neg hc1]), N0, rfl⟩

theorem d1_0 : decode prog_104_method_2_code 0 = .ok (.aload_n 0, 1) := by decide +kernel
theorem d1_1 : decode prog_104_method_2_code 1 = .ok (.invokespecial 13, 3) := by decide +kernel
theorem d1_4 : decode prog_104_method_2_code 4 = .ok (.aload_n 0, 1) := by decide +kernel
theorem d1_5 : decode prog_104_method_2_code 5 = .ok (.aload_n 1, 1) := by decide +kernel
theorem d1_6 : decode prog_104_method_2_code 6 = .ok (.putfield 18, 3) := by decide +kernel
theorem d1_9 : decode prog_104_method_2_code 9 = .ok (.aload_n 0, 1) := by decide +kernel
theorem d1_10 : decode prog_104_method_2_code 10 = .ok (.iload_n 2, 1) := by decide +kernel
theorem d1_11 : decode prog_104_method_2_code 11 = .ok (.i2s, 1) := by decide +kernel
theorem d1_12 : decode prog_104_method_2_code 12 = .ok (.putfield 22, 3) := by decide +kernel
theorem d1_15 : decode prog_104_method_2_code 15 = .ok (.aload_n 0, 1) := by decide +kernel
theorem d1_16 : decode prog_104_method_2_code 16 = .ok (.iload_n 3, 1) := by decide +kernel
theorem d1_17 : decode prog_104_method_2_code 17 = .ok (.i2s, 1) := by decide +kernel
theorem d1_18 : decode prog_104_method_2_code 18 = .ok (.putfield 26, 3) := by decide +kernel
theorem d1_21 : decode prog_104_method_2_code 21 = .ok (.return_, 1) := by decide +kernel
theorem pn_1 : plainName "com/example/eurybates/eurybates/protocol/VersionRange" = true := by first | (simp [plainName, overriddenIn]; done) | decide +kernel
theorem ef_1 (m : MethodId) (x0 : Addr) (x1 : Addr) (x2 : Int32) (x3 : Int32) : entryFrame m #[(.ref x0), (.ref x1), (.int x2), (.int x3)] 4 = mkF m 0 #[.val (.ref x0), .val (.ref x1), .val (.int x2), .val (.int x3)] [] := by first | (simp [entryFrame, mkF, argsToLocals, Value.category]; done) | rfl
def Q1 (Z : State) (a1 : Addr) (a2 : Addr) (p3 : Int32) (p4 : Int32) (h0 : Heap) (n0 : Nat) (v : Option Value) (h : Heap) (L : List Loc) : Prop := v = none ∧ Fr n0 L ∧ Keep h0 h [a1] ∧ Exa Z h a1 "com/example/eurybates/eurybates/protocol/VersionRange" ∧ Fld Z h a1 "com/example/eurybates/eurybates/protocol/VersionRange" "oldest" "S" (.int (nar .short (p3.toInt16.toInt32))) ∧ Fld Z h a1 "com/example/eurybates/eurybates/protocol/VersionRange" "latest" "S" (.int (nar .short (p4.toInt16.toInt32)))
set_option maxRecDepth 65536 in
set_option maxHeartbeats 40000000 in
theorem rm1 (l : Launch) (Z : State) (a0 : Array Value) (hw : ∀ d ∈ tables_1, d.before a0 Z = true) (ws : List Jvm.Cond) (a1 : Addr) (a2 : Addr) (p3 : Int32) (p4 : Int32) (h0 : Heap) (n0 : Nat) (Z0 : n0 ≤ h0.size) (E1 : Exa Z h0 a1 "com/example/eurybates/eurybates/protocol/VersionRange") (F1 : Fld Z h0 a1 "com/example/eurybates/eurybates/protocol/VersionRange" "message" "Ljava/lang/String;" .null) (F2 : Fld Z h0 a1 "com/example/eurybates/eurybates/protocol/VersionRange" "oldest" "S" (.int (0 : Int32))) (F3 : Fld Z h0 a1 "com/example/eurybates/eurybates/protocol/VersionRange" "latest" "S" (.int (0 : Int32))) (g1 : n0 ≤ a1) :
    MetFree l (⟨"com/example/eurybates/eurybates/protocol/VersionRange", "<init>", "(Ljava/lang/String;II)V"⟩ : MethodName) (head1 (Jvm.Cond.code (⟨"com/example/eurybates/eurybates/protocol/VersionRange", "<init>", "(Ljava/lang/String;II)V"⟩ : MethodName) prog_104_method_2_code 4 none :: ws) ({ frames := 1, cells := 0, slots := 0, locals := 12 } : Room)) (fun a U => a = #[(.ref a1), (.ref a2), (.int p3), (.int p4)] ∧ Z.Warmed39 U.vm ∧ U.heap = h0) (fun _ _ _ _ _ => True) (fun _ U o U' => ∃ v L, o = .returned v ∧ Q1 Z a1 a2 p3 p4 h0 n0 v U'.heap L ∧ FrameEnd U o U' L ({ frames := 1, cells := 0, slots := 0, locals := 12 } : Room).cells ({ frames := 1, cells := 0, slots := 0, locals := 12 } : Room).slots) := by
  refine MetFree.of_bodySF (plainFor_of_name pn_1) hisR ?_
  intro p e s m args below meth c s₁ Bd hml0 hP hK
  obtain ⟨rfl, hZ, hh⟩ := hP
  have hx := Bd.exec
  have hby := Bd.bytes
  have hml : c.maxLocals = 4 := hml0
  have hown0 := findClass_of_methodNamed Bd.named
  have hown : s.vm.findClass "com/example/eurybates/eurybates/protocol/VersionRange" = some m.cls := hown0
  have hnm := (name_of_methodNamed Bd.named Bd.method).1
  have X0 : Stand p l e ({ frames := 1, cells := 0, slots := 0, locals := 12 } : Room) s m #[(.ref a1), (.ref a2), (.int p3), (.int p4)] below meth c s₁ [] 0 0 := Stand.of_body Bd
  have e0 : s₁.heap = h0 := by rw [← hh, Bd.state]; rfl
  have N0 := Fr.nil n0
  obtain ⟨S0, hS0⟩ : ∃ z, z = s₁.setTop (entryFrame m #[(.ref a1), (.ref a2), (.int p3), (.int p4)] 4) := ⟨_, rfl⟩
  have pre0 : own_Go p e below S0 (s₁.setTop (mkF m 0 #[.val (.ref a1), .val (.ref a2), .val (.int p3), .val (.int p4)] [])) := fun t k => by rw [hS0]; exact castTop (ef_1 m a1 a2 p3 p4) k
  have fin : ∀ t, Steps p.tables e below S0 t → Steps p.tables e below (s₁.setTop (entryFrame m #[(.ref a1), (.ref a2), (.int p3), (.int p4)] 4)) t := fun t k => by rw [hS0] at k; exact k
  have kc0 : Keep h0 h0 [a1] := Keep.refl _ _
  have pre1 : own_Go p e below S0 (s₁.setTop (mkF m 1 #[.val (.ref a1), .val (.ref a2), .val (.int p3), .val (.int p4)] [(.ref a1)])) := by
    intro t kt
    refine pre0 t ?_
    refine XS.aloadN X0.here hx rfl (hb hby d1_0) rfl rfl ?_
    show Steps p.tables e below (s₁.setTop (mkF m 1 #[.val (.ref a1), .val (.ref a2), .val (.int p3), .val (.int p4)] [(.ref a1)])) _
    exact kt
  obtain ⟨T2, X2, e2, st2⟩ := initO X0 hx hZ hown (hw _ (own_w 14 rfl)) (hw _ (own_w 15 rfl)) (hw _ (own_w 16 rfl)) e0 (g := (mkF m 1 #[.val (.ref a1), .val (.ref a2), .val (.int p3), .val (.int p4)] [(.ref a1)])) rfl (by rw [hml]; rfl) rfl (hb hby d1_1) (by decide) (W := 0) (by show 2 * 0 + _ ≤ _; exact Nat.le_of_eq rfl) (by decide)
  have pre3 : own_Go p e below S0 (T2.setTop (mkF m 6 #[.val (.ref a1), .val (.ref a2), .val (.int p3), .val (.int p4)] [(.ref a2), (.ref a1)])) := by
    intro t kt
    refine pre1 t ?_
    refine st2 _ ?_
    show Steps p.tables e below (T2.setTop (mkF m 4 #[.val (.ref a1), .val (.ref a2), .val (.int p3), .val (.int p4)] [])) _
    refine XS.aloadN X2.here hx rfl (hb hby d1_4) rfl rfl ?_
    show Steps p.tables e below (T2.setTop (mkF m 5 #[.val (.ref a1), .val (.ref a2), .val (.int p3), .val (.int p4)] [(.ref a1)])) _
    refine XS.aloadN X2.here hx rfl (hb hby d1_5) rfl rfl ?_
    show Steps p.tables e below (T2.setTop (mkF m 6 #[.val (.ref a1), .val (.ref a2), .val (.int p3), .val (.int p4)] [(.ref a2), (.ref a1)])) _
    exact kt
  obtain ⟨T4, h4, X4, e4, W4, st4⟩ := putF X2 hx hZ hown (host := "") (Or.inl (hw _ (own_w 17 rfl))) Via.refl e2 F1 E1 (Or.inr ⟨(hw _ (own_w 18 rfl)), rfl, hnm⟩) (hw _ (own_w 1 rfl)) (ty := (.object "java/lang/String")) (by decide) rfl rfl (g := (mkF m 6 #[.val (.ref a1), .val (.ref a2), .val (.int p3), .val (.int p4)] [(.ref a2), (.ref a1)])) rfl rfl (hb hby d1_6)
  have N4 := Fr.snoc X4 N0 g1
  have zs5 : n0 ≤ h4.size := Nat.le_trans Z0 (Keep.of_wr W4).1
  have kc6 : Keep h0 h4 [a1] := kc0.wr W4 (Or.inl (List.mem_of_getElem? (i := 0) rfl))
  have fw4 : Fld Z h4 a1 "com/example/eurybates/eurybates/protocol/VersionRange" "message" "Ljava/lang/String;" (.ref a2) := F1.same W4
  have pre7 : own_Go p e below S0 (T4.setTop (mkF m 12 #[.val (.ref a1), .val (.ref a2), .val (.int p3), .val (.int p4)] [(.int (p3.toInt16.toInt32)), (.ref a1)])) := by
    intro t kt
    refine pre3 t ?_
    refine st4 _ ?_
    show Steps p.tables e below (T4.setTop (mkF m 9 #[.val (.ref a1), .val (.ref a2), .val (.int p3), .val (.int p4)] [])) _
    refine XS.aloadN X4.here hx rfl (hb hby d1_9) rfl rfl ?_
    show Steps p.tables e below (T4.setTop (mkF m 10 #[.val (.ref a1), .val (.ref a2), .val (.int p3), .val (.int p4)] [(.ref a1)])) _
    refine XS.iloadN X4.here hx rfl (hb hby d1_10) rfl ?_
    show Steps p.tables e below (T4.setTop (mkF m 11 #[.val (.ref a1), .val (.ref a2), .val (.int p3), .val (.int p4)] [(.int p3), (.ref a1)])) _
    refine XS.i2s X4.here hx rfl (hb hby d1_11) rfl ?_
    show Steps p.tables e below (T4.setTop (mkF m 12 #[.val (.ref a1), .val (.ref a2), .val (.int p3), .val (.int p4)] [(.int (p3.toInt16.toInt32)), (.ref a1)])) _
    exact kt
  have f8 : Fld Z h4 a1 "com/example/eurybates/eurybates/protocol/VersionRange" "oldest" "S" (.int (0 : Int32)) := (F2.other W4 (Or.inr (slot_ne (Or.inr (hw _ (own_w 20 rfl))) (Or.inr (hw _ (own_w 18 rfl))) (by decide) (t := .short) (t' := (.object "java/lang/String")) (by decide) (by decide))))
  have f9 : Exa Z h4 a1 "com/example/eurybates/eurybates/protocol/VersionRange" := (E1.wr W4)
  obtain ⟨T10, h10, X10, e10, W10, st10⟩ := putFN X4 hx hZ hown (hw _ (own_w 19 rfl)) Via.refl e4 f8 f9 (Or.inr ⟨(hw _ (own_w 20 rfl)), rfl, hnm⟩) (hw _ (own_w 1 rfl)) (ty := .short) (v' := (.int (nar .short (p3.toInt16.toInt32)))) (by decide) rfl (fits_nar_short _) (g := (mkF m 12 #[.val (.ref a1), .val (.ref a2), .val (.int p3), .val (.int p4)] [(.int (p3.toInt16.toInt32)), (.ref a1)])) rfl rfl (hb hby d1_12)
  have N10 := Fr.snoc X10 N4 g1
  have zs11 : n0 ≤ h10.size := Nat.le_trans zs5 (Keep.of_wr W10).1
  have kc12 : Keep h0 h10 [a1] := kc6.wr W10 (Or.inl (List.mem_of_getElem? (i := 0) rfl))
  have fw10 : Fld Z h10 a1 "com/example/eurybates/eurybates/protocol/VersionRange" "oldest" "S" (.int (nar .short (p3.toInt16.toInt32))) := f8.same W10
  have pre13 : own_Go p e below S0 (T10.setTop (mkF m 18 #[.val (.ref a1), .val (.ref a2), .val (.int p3), .val (.int p4)] [(.int (p4.toInt16.toInt32)), (.ref a1)])) := by
    intro t kt
    refine pre7 t ?_
    refine st10 _ ?_
    show Steps p.tables e below (T10.setTop (mkF m 15 #[.val (.ref a1), .val (.ref a2), .val (.int p3), .val (.int p4)] [])) _
    refine XS.aloadN X10.here hx rfl (hb hby d1_15) rfl rfl ?_
    show Steps p.tables e below (T10.setTop (mkF m 16 #[.val (.ref a1), .val (.ref a2), .val (.int p3), .val (.int p4)] [(.ref a1)])) _
    refine XS.iloadN X10.here hx rfl (hb hby d1_16) rfl ?_
    show Steps p.tables e below (T10.setTop (mkF m 17 #[.val (.ref a1), .val (.ref a2), .val (.int p3), .val (.int p4)] [(.int p4), (.ref a1)])) _
    refine XS.i2s X10.here hx rfl (hb hby d1_17) rfl ?_
    show Steps p.tables e below (T10.setTop (mkF m 18 #[.val (.ref a1), .val (.ref a2), .val (.int p3), .val (.int p4)] [(.int (p4.toInt16.toInt32)), (.ref a1)])) _
    exact kt
  have f14 : Fld Z h10 a1 "com/example/eurybates/eurybates/protocol/VersionRange" "latest" "S" (.int (0 : Int32)) := ((F3.other W4 (Or.inr (slot_ne (Or.inr (hw _ (own_w 22 rfl))) (Or.inr (hw _ (own_w 18 rfl))) (by decide) (t := .short) (t' := (.object "java/lang/String")) (by decide) (by decide)))).other W10 (Or.inr (slot_ne (Or.inr (hw _ (own_w 22 rfl))) (Or.inr (hw _ (own_w 20 rfl))) (by decide) (t := .short) (t' := .short) (by decide) (by decide))))
  have f15 : Exa Z h10 a1 "com/example/eurybates/eurybates/protocol/VersionRange" := (f9.wr W10)
  obtain ⟨T16, h16, X16, e16, W16, st16⟩ := putFN X10 hx hZ hown (hw _ (own_w 21 rfl)) Via.refl e10 f14 f15 (Or.inr ⟨(hw _ (own_w 22 rfl)), rfl, hnm⟩) (hw _ (own_w 1 rfl)) (ty := .short) (v' := (.int (nar .short (p4.toInt16.toInt32)))) (by decide) rfl (fits_nar_short _) (g := (mkF m 18 #[.val (.ref a1), .val (.ref a2), .val (.int p3), .val (.int p4)] [(.int (p4.toInt16.toInt32)), (.ref a1)])) rfl rfl (hb hby d1_18)
  have N16 := Fr.snoc X16 N10 g1
  have zs17 : n0 ≤ h16.size := Nat.le_trans zs11 (Keep.of_wr W16).1
  have kc18 : Keep h0 h16 [a1] := kc12.wr W16 (Or.inl (List.mem_of_getElem? (i := 0) rfl))
  have fw16 : Fld Z h16 a1 "com/example/eurybates/eurybates/protocol/VersionRange" "latest" "S" (.int (nar .short (p4.toInt16.toInt32))) := f14.same W16
  have pre19 : own_Go p e below S0 (T16.setTop (mkF m 21 #[.val (.ref a1), .val (.ref a2), .val (.int p3), .val (.int p4)] [])) := by
    intro t kt
    refine pre13 t ?_
    refine st16 _ ?_
    show Steps p.tables e below (T16.setTop (mkF m 21 #[.val (.ref a1), .val (.ref a2), .val (.int p3), .val (.int p4)] [])) _
    exact kt
  obtain ⟨fs, hr, hrun, hended, hW, hsame⟩ := X16.leave (v := none) (fun _ => rfl)
  refine ⟨_, _, fin _ (pre19 _ ?_), hrun, hended, _, _, rfl, ?_, ⟨_, rfl⟩, hW, hsame.mono (by decide) (by decide)⟩
  · exact X16.returnOut hx Bd.returns (hb hby d1_21) hr
  have f20 : Exa Z h16 a1 "com/example/eurybates/eurybates/protocol/VersionRange" := (f15.wr W16)
  have f21 : Fld Z h16 a1 "com/example/eurybates/eurybates/protocol/VersionRange" "oldest" "S" (.int (nar .short (p3.toInt16.toInt32))) := (fw10.other W16 (Or.inr (slot_ne (Or.inr (hw _ (own_w 20 rfl))) (Or.inr (hw _ (own_w 22 rfl))) (by decide) (t := .short) (t' := .short) (by decide) (by decide))))
  · show Q1 Z a1 a2 p3 p4 h0 n0 _ T16.heap _
    rw [e16]
    exact ⟨rfl, N16, kc18, f20, f21, fw16⟩

theorem d3_0 : decode prog_104_method_3_code 0 = .ok (.aload_n 0, 1) := by decide +kernel
theorem d3_1 : decode prog_104_method_3_code 1 = .ok (.getfield 22, 3) := by decide +kernel
theorem d3_4 : decode prog_104_method_3_code 4 = .ok (.iload_n 1, 1) := by decide +kernel
theorem d3_5 : decode prog_104_method_3_code 5 = .ok (.if_icmp .gt 15, 3) := by decide +kernel
theorem d3_8 : decode prog_104_method_3_code 8 = .ok (.iload_n 1, 1) := by decide +kernel
theorem d3_9 : decode prog_104_method_3_code 9 = .ok (.aload_n 0, 1) := by decide +kernel
theorem d3_10 : decode prog_104_method_3_code 10 = .ok (.getfield 26, 3) := by decide +kernel
theorem d3_13 : decode prog_104_method_3_code 13 = .ok (.if_icmp .gt 7, 3) := by decide +kernel
theorem d3_16 : decode prog_104_method_3_code 16 = .ok (.iconst 1, 1) := by decide +kernel
theorem d3_17 : decode prog_104_method_3_code 17 = .ok (.goto 4, 3) := by decide +kernel
theorem d3_20 : decode prog_104_method_3_code 20 = .ok (.iconst 0, 1) := by decide +kernel
theorem d3_21 : decode prog_104_method_3_code 21 = .ok (.ireturn, 1) := by decide +kernel
theorem pn_3 : plainName "com/example/eurybates/eurybates/protocol/VersionRange" = true := by first | (simp [plainName, overriddenIn]; done) | decide +kernel
theorem ef_3 (m : MethodId) (x0 : Addr) (x1 : Int32) : entryFrame m #[(.ref x0), (.int x1)] 2 = mkF m 0 #[.val (.ref x0), .val (.int x1)] [] := by first | (simp [entryFrame, mkF, argsToLocals, Value.category]; done) | rfl
def own_holds (a1 : Addr) (p2 : Int32) (w1 : Int32) (w2 : Int32) : Int32 := (if p2 < w1 then (0 : Int32) else (if w2 < p2 then (0 : Int32) else (1 : Int32)))
def Q3 (Z : State) (a1 : Addr) (p2 : Int32) (w1 : Int32) (w2 : Int32) (h0 : Heap) (n0 : Nat) (v : Option Value) (h : Heap) (L : List Loc) : Prop := v = (some (.int (own_holds a1 p2 w1 w2))) ∧ Fr n0 L ∧ h = h0
set_option maxRecDepth 65536 in
set_option maxHeartbeats 40000000 in
theorem rm3 (l : Launch) (Z : State) (a0 : Array Value) (hw : ∀ d ∈ tables_1, d.before a0 Z = true) (ws : List Jvm.Cond) (a1 : Addr) (p2 : Int32) (w1 : Int32) (w2 : Int32) (h0 : Heap) (n0 : Nat) (Z0 : n0 ≤ h0.size) (F1 : Fld Z h0 a1 "com/example/eurybates/eurybates/protocol/VersionRange" "oldest" "S" (.int w1)) (F2 : Fld Z h0 a1 "com/example/eurybates/eurybates/protocol/VersionRange" "latest" "S" (.int w2)) :
    MetFree l (⟨"com/example/eurybates/eurybates/protocol/VersionRange", "holds", "(S)Z"⟩ : MethodName) (head1 (Jvm.Cond.code (⟨"com/example/eurybates/eurybates/protocol/VersionRange", "holds", "(S)Z"⟩ : MethodName) prog_104_method_3_code 2 (some .boolean) :: ws) ({ frames := 0, cells := 0, slots := 0, locals := 0 } : Room)) (fun a U => a = #[(.ref a1), (.int p2)] ∧ Z.Warmed39 U.vm ∧ U.heap = h0) (fun _ _ _ _ _ => True) (fun _ U o U' => ∃ v L, o = .returned v ∧ Q3 Z a1 p2 w1 w2 h0 n0 v U'.heap L ∧ FrameEnd U o U' L ({ frames := 0, cells := 0, slots := 0, locals := 0 } : Room).cells ({ frames := 0, cells := 0, slots := 0, locals := 0 } : Room).slots) := by
  refine MetFree.of_bodySF (plainFor_of_name pn_3) hisR ?_
  intro p e s m args below meth c s₁ Bd hml0 hP hK
  obtain ⟨rfl, hZ, hh⟩ := hP
  have hx := Bd.exec
  have hby := Bd.bytes
  have hml : c.maxLocals = 2 := hml0
  have hown0 := findClass_of_methodNamed Bd.named
  have hown : s.vm.findClass "com/example/eurybates/eurybates/protocol/VersionRange" = some m.cls := hown0
  have hnm := (name_of_methodNamed Bd.named Bd.method).1
  have X0 : Stand p l e ({ frames := 0, cells := 0, slots := 0, locals := 0 } : Room) s m #[(.ref a1), (.int p2)] below meth c s₁ [] 0 0 := Stand.of_body Bd
  have e0 : s₁.heap = h0 := by rw [← hh, Bd.state]; rfl
  have N0 := Fr.nil n0
  obtain ⟨S0, hS0⟩ : ∃ z, z = s₁.setTop (entryFrame m #[(.ref a1), (.int p2)] 2) := ⟨_, rfl⟩
  have pre0 : own_Go p e below S0 (s₁.setTop (mkF m 0 #[.val (.ref a1), .val (.int p2)] [])) := fun t k => by rw [hS0]; exact castTop (ef_3 m a1 p2) k
  have fin : ∀ t, Steps p.tables e below S0 t → Steps p.tables e below (s₁.setTop (entryFrame m #[(.ref a1), (.int p2)] 2)) t := fun t k => by rw [hS0] at k; exact k
  have pre1 : own_Go p e below S0 (s₁.setTop (mkF m 1 #[.val (.ref a1), .val (.int p2)] [(.ref a1)])) := by
    intro t kt
    refine pre0 t ?_
    refine XS.aloadN X0.here hx rfl (hb hby d3_0) rfl rfl ?_
    show Steps p.tables e below (s₁.setTop (mkF m 1 #[.val (.ref a1), .val (.int p2)] [(.ref a1)])) _
    exact kt
  obtain ⟨T2, X2, e2, st2⟩ := getF X0 hx hZ hown (host := "") (Or.inl (hw _ (own_w 19 rfl))) Via.refl e0 F1 (g := (mkF m 1 #[.val (.ref a1), .val (.int p2)] [(.ref a1)])) rfl rfl (hb hby d3_1)
  have pre4 : own_Go p e below S0 (T2.setTop (mkF m 5 #[.val (.ref a1), .val (.int p2)] [(.int p2), (.int w1)])) := by
    intro t kt
    refine pre1 t ?_
    refine st2 _ ?_
    show Steps p.tables e below (T2.setTop (mkF m 4 #[.val (.ref a1), .val (.int p2)] [(.int w1)])) _
    refine XS.iloadN X2.here hx rfl (hb hby d3_4) rfl ?_
    show Steps p.tables e below (T2.setTop (mkF m 5 #[.val (.ref a1), .val (.int p2)] [(.int p2), (.int w1)])) _
    exact kt
  by_cases hc3 : p2 < w1
  · have pre5 : own_Go p e below S0 (T2.setTop (mkF m 21 #[.val (.ref a1), .val (.int p2)] [(.int (0 : Int32))])) := by
      intro t kt
      refine pre4 t ?_
      refine XS.icmpYes X2.here hx rfl (pc0 := 5) (pc' := 20) rfl (hb hby d3_5) rfl (tlt hc3).2.2.1 (by decide) (by decide) ?_
      show Steps p.tables e below (T2.setTop (mkF m 20 #[.val (.ref a1), .val (.int p2)] [])) _
      refine XS.iconst X2.here hx rfl (hb hby d3_20) ?_
      show Steps p.tables e below (T2.setTop (mkF m 21 #[.val (.ref a1), .val (.int p2)] [(.int (0 : Int32))])) _
      exact kt
    obtain ⟨fs, hr, hrun, hended, hW, hsame⟩ := X2.leave (v := some (.int (0 : Int32))) (fun h => by rw [Bd.returns] at h; cases h)
    refine ⟨_, _, fin _ (pre5 _ ?_), hrun, hended, _, _, rfl, ?_, ⟨_, rfl⟩, hW, hsame.mono (by decide) (by decide)⟩
    · exact retN X2 hx (t := .boolean) Bd.returns (by simp) (hb hby d3_21) hr
    · show Q3 Z a1 p2 w1 w2 h0 n0 _ T2.heap _
      rw [e2]
      exact ⟨(by show some _ = some _; rw [own_holds, if_pos hc3]), N0, rfl⟩
  · have pre6 : own_Go p e below S0 (T2.setTop (mkF m 10 #[.val (.ref a1), .val (.int p2)] [(.ref a1), (.int p2)])) := by
      intro t kt
      refine pre4 t ?_
      refine XS.icmpNo X2.here hx rfl (hb hby d3_5) rfl (flt hc3).2.2.1 ?_
      show Steps p.tables e below (T2.setTop (mkF m 8 #[.val (.ref a1), .val (.int p2)] [])) _
      refine XS.iloadN X2.here hx rfl (hb hby d3_8) rfl ?_
      show Steps p.tables e below (T2.setTop (mkF m 9 #[.val (.ref a1), .val (.int p2)] [(.int p2)])) _
      refine XS.aloadN X2.here hx rfl (hb hby d3_9) rfl rfl ?_
      show Steps p.tables e below (T2.setTop (mkF m 10 #[.val (.ref a1), .val (.int p2)] [(.ref a1), (.int p2)])) _
      exact kt
    obtain ⟨T7, X7, e7, st7⟩ := getF X2 hx hZ hown (host := "") (Or.inl (hw _ (own_w 21 rfl))) Via.refl e2 F2 (g := (mkF m 10 #[.val (.ref a1), .val (.int p2)] [(.ref a1), (.int p2)])) rfl rfl (hb hby d3_10)
    have pre9 : own_Go p e below S0 (T7.setTop (mkF m 13 #[.val (.ref a1), .val (.int p2)] [(.int w2), (.int p2)])) := by
      intro t kt
      refine pre6 t ?_
      refine st7 _ ?_
      show Steps p.tables e below (T7.setTop (mkF m 13 #[.val (.ref a1), .val (.int p2)] [(.int w2), (.int p2)])) _
      exact kt
    by_cases hc8 : w2 < p2
    · have pre10 : own_Go p e below S0 (T7.setTop (mkF m 21 #[.val (.ref a1), .val (.int p2)] [(.int (0 : Int32))])) := by
        intro t kt
        refine pre9 t ?_
        refine XS.icmpYes X7.here hx rfl (pc0 := 13) (pc' := 20) rfl (hb hby d3_13) rfl (tlt hc8).2.2.1 (by decide) (by decide) ?_
        show Steps p.tables e below (T7.setTop (mkF m 20 #[.val (.ref a1), .val (.int p2)] [])) _
        refine XS.iconst X7.here hx rfl (hb hby d3_20) ?_
        show Steps p.tables e below (T7.setTop (mkF m 21 #[.val (.ref a1), .val (.int p2)] [(.int (0 : Int32))])) _
        exact kt
      obtain ⟨fs, hr, hrun, hended, hW, hsame⟩ := X7.leave (v := some (.int (0 : Int32))) (fun h => by rw [Bd.returns] at h; cases h)
      refine ⟨_, _, fin _ (pre10 _ ?_), hrun, hended, _, _, rfl, ?_, ⟨_, rfl⟩, hW, hsame.mono (by decide) (by decide)⟩
      · exact retN X7 hx (t := .boolean) Bd.returns (by simp) (hb hby d3_21) hr
      · show Q3 Z a1 p2 w1 w2 h0 n0 _ T7.heap _
        rw [e7]
        exact ⟨(by show some _ = some _; rw [own_holds, if_neg hc3, if_pos hc8]), N0, rfl⟩
    · have pre11 : own_Go p e below S0 (T7.setTop (mkF m 21 #[.val (.ref a1), .val (.int p2)] [(.int (1 : Int32))])) := by
        intro t kt
        refine pre9 t ?_
        refine XS.icmpNo X7.here hx rfl (hb hby d3_13) rfl (flt hc8).2.2.1 ?_
        show Steps p.tables e below (T7.setTop (mkF m 16 #[.val (.ref a1), .val (.int p2)] [])) _
        refine XS.iconst X7.here hx rfl (hb hby d3_16) ?_
        show Steps p.tables e below (T7.setTop (mkF m 17 #[.val (.ref a1), .val (.int p2)] [(.int (1 : Int32))])) _
        refine XS.goto X7.here hx rfl (pc0 := 17) (pc' := 21) rfl (hb hby d3_17) (by decide) (by decide) ?_
        show Steps p.tables e below (T7.setTop (mkF m 21 #[.val (.ref a1), .val (.int p2)] [(.int (1 : Int32))])) _
        exact kt
      obtain ⟨fs, hr, hrun, hended, hW, hsame⟩ := X7.leave (v := some (.int (1 : Int32))) (fun h => by rw [Bd.returns] at h; cases h)
      refine ⟨_, _, fin _ (pre11 _ ?_), hrun, hended, _, _, rfl, ?_, ⟨_, rfl⟩, hW, hsame.mono (by decide) (by decide)⟩
      · exact retN X7 hx (t := .boolean) Bd.returns (by simp) (hb hby d3_21) hr
      · show Q3 Z a1 p2 w1 w2 h0 n0 _ T7.heap _
        rw [e7]
        exact ⟨(by show some _ = some _; rw [own_holds, if_neg hc3, if_neg hc8]), N0, rfl⟩

def own_sh (x : Int32) : Prop := -32768 ≤ x.toInt ∧ x.toInt < 32768
theorem own_sh1 (x : Int32) : own_sh (x.toInt16.toInt32) := (c_i2s x).2
theorem own_sh2 (x : Int32) (h : own_sh x) : x.toInt16.toInt32 = x := by
  have := c_i2s x
  unfold own_sh at h
  exact Int32.toInt_inj.mp (by omega)
theorem own_sh3 (x : Int32) (h : own_sh x) : nar .short (x.toInt16.toInt32) = x := by
  show x.toInt16.toInt32.toInt16.toInt32 = x
  rw [own_sh2 x h, own_sh2 x h]
theorem own_shmin {a b : Int32} (h : own_sh a) (k : own_sh b) : own_sh (own_min a b) := by unfold own_min; split <;> assumption
theorem own_shmax {a b : Int32} (h : own_sh a) (k : own_sh b) : own_sh (own_max a b) := by unfold own_max; split <;> assumption
theorem own_pin (a : Addr) (o l v : Int32) (ho : own_sh o) (hl : own_sh l) : own_holds a v (nar .short (o.toInt16.toInt32)) (nar .short (l.toInt16.toInt32)) = if l < o then 0 else if own_max o (own_min v l) = v then 1 else 0 := by
  rw [own_sh3 o ho, own_sh3 l hl]
  have hlt : ∀ a b : Int32, a < b ↔ a.toInt < b.toInt := fun a b => Int32.lt_iff_toInt_lt
  have he : ∀ a b : Int32, a = b ↔ a.toInt = b.toInt := fun a b => Int32.toInt_inj.symm
  unfold own_holds own_max own_min
  by_cases h1 : v < o <;> by_cases h2 : l < v <;> by_cases h3 : l < o <;> by_cases h4 : o < l <;> by_cases h5 : o < v <;> simp only [h1, h2, h3, h4, h5, if_true, if_false]
  all_goals simp only [hlt, he] at *
  all_goals first | rfl | (exfalso; omega) | (rw [if_pos (by omega)]) | (rw [if_neg (by omega)])

theorem pn_0 : plainName "com/example/eurybates/eurybates/protocol/VersionRangeHoldsPinLaw" = true := by first | (simp [plainName, overriddenIn]; done) | decide +kernel
theorem pd_0 : parseMethodDescriptor "(II)I" = some ⟨[.int, .int], some .int⟩ := by decide +kernel
theorem pd_1 : parseMethodDescriptor "(Ljava/lang/String;II)V" = some ⟨[(.object "java/lang/String"), .int, .int], none⟩ := by decide +kernel
theorem pd_2 : parseMethodDescriptor "(S)Z" = some ⟨[.short], some .boolean⟩ := by decide +kernel
theorem ef_0 (m : MethodId) (x0 : Int32) (x1 : Int32) (x2 : Int32) (x3 : Int32) : entryFrame m #[(.int x0), (.int x1), (.int x2), (.int x3)] maxLocals = mkF m 0 #[.val (.int x0), .val (.int x1), .val (.int x2), .val (.int x3), .unset, .unset, .unset, .unset, .unset, .unset, .unset, .unset, .unset] [] := by first | (simp [entryFrame, mkF, argsToLocals, Value.category, maxLocals]; done) | rfl
def Q0 (Z : State) (p1 : Int32) (p2 : Int32) (p3 : Int32) (p4 : Int32) (h0 : Heap) (n0 : Nat) (v : Option Value) (h : Heap) (L : List Loc) : Prop := v = (some (.int 1)) ∧ Fr n0 L
set_option maxRecDepth 65536 in
set_option maxHeartbeats 40000000 in
theorem rm0 (l : Launch) (Z : State) (a0 : Array Value) (hw : ∀ d ∈ tables_1, d.before a0 Z = true) (ws : List Jvm.Cond) (p1 : Int32) (p2 : Int32) (p3 : Int32) (p4 : Int32) (h0 : Heap) (n0 : Nat) (Z0 : n0 ≤ h0.size) :
    MetFree l x (head1 (Jvm.Cond.code x code maxLocals ret :: ws) room_1) (fun a U => a = #[(.int p1), (.int p2), (.int p3), (.int p4)] ∧ Z.Warmed39 U.vm ∧ U.heap = h0) (fun _ _ _ _ _ => True) (fun _ U o U' => ∃ v L, o = .returned v ∧ Q0 Z p1 p2 p3 p4 h0 n0 v U'.heap L ∧ ReturnedEndW U o U' L 3 11) := by
  refine MetFree.of_bodySF (plainFor_of_name pn_0) hisR ?_
  intro p e s m args below meth c s₁ Bd hml0 hP hK
  obtain ⟨rfl, hZ, hh⟩ := hP
  have hx := Bd.exec
  have hby := Bd.bytes
  have hml : c.maxLocals = 13 := hml0
  have hown0 := findClass_of_methodNamed Bd.named
  have hown : s.vm.findClass "com/example/eurybates/eurybates/protocol/VersionRangeHoldsPinLaw" = some m.cls := hown0
  have hnm := (name_of_methodNamed Bd.named Bd.method).1
  have X0 : Stand p l e room_1 s m #[(.int p1), (.int p2), (.int p3), (.int p4)] below meth c s₁ [] 0 0 := Stand.of_body Bd
  have e0 : s₁.heap = h0 := by rw [← hh, Bd.state]; rfl
  have N0 := Fr.nil n0
  obtain ⟨S0, hS0⟩ : ∃ z, z = s₁.setTop (entryFrame m #[(.int p1), (.int p2), (.int p3), (.int p4)] maxLocals) := ⟨_, rfl⟩
  have pre0 : own_Go p e below S0 (s₁.setTop (mkF m 0 #[.val (.int p1), .val (.int p2), .val (.int p3), .val (.int p4), .unset, .unset, .unset, .unset, .unset, .unset, .unset, .unset, .unset] [])) := fun t k => by rw [hS0]; exact castTop (ef_0 m p1 p2 p3 p4) k
  have fin : ∀ t, Steps p.tables e below S0 t → Steps p.tables e below (s₁.setTop (entryFrame m #[(.int p1), (.int p2), (.int p3), (.int p4)] maxLocals)) t := fun t k => by rw [hS0] at k; exact k
  have pre1 : own_Go p e below S0 (s₁.setTop (mkF m 8 #[.val (.int p1), .val (.int p2), .val (.int p3), .val (.int p4), .val (.int (p1.toInt16.toInt32)), .val (.int (p2.toInt16.toInt32)), .unset, .unset, .unset, .unset, .unset, .unset, .unset] [])) := by
    intro t kt
    refine pre0 t ?_
    refine XS.iloadN X0.here hx rfl (hb hby at_0) rfl ?_
    show Steps p.tables e below (s₁.setTop (mkF m 1 #[.val (.int p1), .val (.int p2), .val (.int p3), .val (.int p4), .unset, .unset, .unset, .unset, .unset, .unset, .unset, .unset, .unset] [(.int p1)])) _
    refine XS.i2s X0.here hx rfl (hb hby at_1) rfl ?_
    show Steps p.tables e below (s₁.setTop (mkF m 2 #[.val (.int p1), .val (.int p2), .val (.int p3), .val (.int p4), .unset, .unset, .unset, .unset, .unset, .unset, .unset, .unset, .unset] [(.int (p1.toInt16.toInt32))])) _
    refine XS.istore X0.here hx rfl (hb hby at_2) rfl (l' := #[.val (.int p1), .val (.int p2), .val (.int p3), .val (.int p4), .val (.int (p1.toInt16.toInt32)), .unset, .unset, .unset, .unset, .unset, .unset, .unset, .unset]) rfl ?_
    show Steps p.tables e below (s₁.setTop (mkF m 4 #[.val (.int p1), .val (.int p2), .val (.int p3), .val (.int p4), .val (.int (p1.toInt16.toInt32)), .unset, .unset, .unset, .unset, .unset, .unset, .unset, .unset] [])) _
    refine XS.iloadN X0.here hx rfl (hb hby at_4) rfl ?_
    show Steps p.tables e below (s₁.setTop (mkF m 5 #[.val (.int p1), .val (.int p2), .val (.int p3), .val (.int p4), .val (.int (p1.toInt16.toInt32)), .unset, .unset, .unset, .unset, .unset, .unset, .unset, .unset] [(.int p2)])) _
    refine XS.i2s X0.here hx rfl (hb hby at_5) rfl ?_
    show Steps p.tables e below (s₁.setTop (mkF m 6 #[.val (.int p1), .val (.int p2), .val (.int p3), .val (.int p4), .val (.int (p1.toInt16.toInt32)), .unset, .unset, .unset, .unset, .unset, .unset, .unset, .unset] [(.int (p2.toInt16.toInt32))])) _
    refine XS.istore X0.here hx rfl (hb hby at_6) rfl (l' := #[.val (.int p1), .val (.int p2), .val (.int p3), .val (.int p4), .val (.int (p1.toInt16.toInt32)), .val (.int (p2.toInt16.toInt32)), .unset, .unset, .unset, .unset, .unset, .unset, .unset]) rfl ?_
    show Steps p.tables e below (s₁.setTop (mkF m 8 #[.val (.int p1), .val (.int p2), .val (.int p3), .val (.int p4), .val (.int (p1.toInt16.toInt32)), .val (.int (p2.toInt16.toInt32)), .unset, .unset, .unset, .unset, .unset, .unset, .unset] [])) _
    exact kt
  obtain ⟨jo, jl, Tj2, lj2, Xj2, Nj2, ej2, pj11, pj12, prej2⟩ : ∃ (jo : Int32) (jl : Int32) (Tj2 : State) (lj2 : List Loc), Stand p l e room_1 s m #[(.int p1), (.int p2), (.int p3), (.int p4)] below meth c Tj2 lj2 0 0 ∧ Fr n0 lj2 ∧ Tj2.heap = h0 ∧ own_sh jo ∧ own_sh jl ∧ own_Go p e below S0 (Tj2.setTop (mkF m 43 #[.val (.int p1), .val (.int p2), .val (.int p3), .val (.int p4), .val (.int jo), .val (.int jl), .val (.int (p4 &&& (7 : Int32))), .unset, .unset, .unset, .unset, .unset, .unset] [])) := by
    have pre4 : own_Go p e below S0 (s₁.setTop (mkF m 12 #[.val (.int p1), .val (.int p2), .val (.int p3), .val (.int p4), .val (.int (p1.toInt16.toInt32)), .val (.int (p2.toInt16.toInt32)), .unset, .unset, .unset, .unset, .unset, .unset, .unset] [(.int (p4 &&& (8 : Int32)))])) := by
      intro t kt
      refine pre1 t ?_
      refine XS.iloadN X0.here hx rfl (hb hby at_8) rfl ?_
      show Steps p.tables e below (s₁.setTop (mkF m 9 #[.val (.int p1), .val (.int p2), .val (.int p3), .val (.int p4), .val (.int (p1.toInt16.toInt32)), .val (.int (p2.toInt16.toInt32)), .unset, .unset, .unset, .unset, .unset, .unset, .unset] [(.int p4)])) _
      refine XS.bipush X0.here hx rfl (hb hby at_9) ?_
      show Steps p.tables e below (s₁.setTop (mkF m 11 #[.val (.int p1), .val (.int p2), .val (.int p3), .val (.int p4), .val (.int (p1.toInt16.toInt32)), .val (.int (p2.toInt16.toInt32)), .unset, .unset, .unset, .unset, .unset, .unset, .unset] [(.int (8 : Int32)), (.int p4)])) _
      refine XS.iand X0.here hx rfl (hb hby at_11) rfl ?_
      show Steps p.tables e below (s₁.setTop (mkF m 12 #[.val (.int p1), .val (.int p2), .val (.int p3), .val (.int p4), .val (.int (p1.toInt16.toInt32)), .val (.int (p2.toInt16.toInt32)), .unset, .unset, .unset, .unset, .unset, .unset, .unset] [(.int (p4 &&& (8 : Int32)))])) _
      exact kt
    by_cases hc3 : (p4 &&& (8 : Int32)) = (0 : Int32)
    · have pre5 : own_Go p e below S0 (s₁.setTop (mkF m 43 #[.val (.int p1), .val (.int p2), .val (.int p3), .val (.int p4), .val (.int (p1.toInt16.toInt32)), .val (.int (p2.toInt16.toInt32)), .val (.int (p4 &&& (7 : Int32))), .unset, .unset, .unset, .unset, .unset, .unset] [])) := by
        intro t kt
        refine pre4 t ?_
        refine XS.ifYes X0.here hx rfl (pc0 := 12) (pc' := 37) rfl (hb hby at_12) rfl ((if0 _ _).trans (teq hc3).1) (by decide) (by decide) ?_
        show Steps p.tables e below (s₁.setTop (mkF m 37 #[.val (.int p1), .val (.int p2), .val (.int p3), .val (.int p4), .val (.int (p1.toInt16.toInt32)), .val (.int (p2.toInt16.toInt32)), .unset, .unset, .unset, .unset, .unset, .unset, .unset] [])) _
        refine XS.iloadN X0.here hx rfl (hb hby at_37) rfl ?_
        show Steps p.tables e below (s₁.setTop (mkF m 38 #[.val (.int p1), .val (.int p2), .val (.int p3), .val (.int p4), .val (.int (p1.toInt16.toInt32)), .val (.int (p2.toInt16.toInt32)), .unset, .unset, .unset, .unset, .unset, .unset, .unset] [(.int p4)])) _
        refine XS.bipush X0.here hx rfl (hb hby at_38) ?_
        show Steps p.tables e below (s₁.setTop (mkF m 40 #[.val (.int p1), .val (.int p2), .val (.int p3), .val (.int p4), .val (.int (p1.toInt16.toInt32)), .val (.int (p2.toInt16.toInt32)), .unset, .unset, .unset, .unset, .unset, .unset, .unset] [(.int (7 : Int32)), (.int p4)])) _
        refine XS.iand X0.here hx rfl (hb hby at_40) rfl ?_
        show Steps p.tables e below (s₁.setTop (mkF m 41 #[.val (.int p1), .val (.int p2), .val (.int p3), .val (.int p4), .val (.int (p1.toInt16.toInt32)), .val (.int (p2.toInt16.toInt32)), .unset, .unset, .unset, .unset, .unset, .unset, .unset] [(.int (p4 &&& (7 : Int32)))])) _
        refine XS.istore X0.here hx rfl (hb hby at_41) rfl (l' := #[.val (.int p1), .val (.int p2), .val (.int p3), .val (.int p4), .val (.int (p1.toInt16.toInt32)), .val (.int (p2.toInt16.toInt32)), .val (.int (p4 &&& (7 : Int32))), .unset, .unset, .unset, .unset, .unset, .unset]) rfl ?_
        show Steps p.tables e below (s₁.setTop (mkF m 43 #[.val (.int p1), .val (.int p2), .val (.int p3), .val (.int p4), .val (.int (p1.toInt16.toInt32)), .val (.int (p2.toInt16.toInt32)), .val (.int (p4 &&& (7 : Int32))), .unset, .unset, .unset, .unset, .unset, .unset] [])) _
        exact kt
      exact ⟨(p1.toInt16.toInt32), (p2.toInt16.toInt32), s₁, _, (Stand.mono X0 (by decide) (by decide)), N0, e0, (own_sh1 _), (own_sh1 _), pre5⟩
    · have pre6 : own_Go p e below S0 (s₁.setTop (mkF m 19 #[.val (.int p1), .val (.int p2), .val (.int p3), .val (.int p4), .val (.int (p1.toInt16.toInt32)), .val (.int (p2.toInt16.toInt32)), .unset, .unset, .unset, .unset, .unset, .unset, .unset] [(.int (p2.toInt16.toInt32)), (.int (p1.toInt16.toInt32))])) := by
        intro t kt
        refine pre4 t ?_
        refine XS.ifNo X0.here hx rfl (hb hby at_12) rfl ((if0 _ _).trans (feq hc3).1) ?_
        show Steps p.tables e below (s₁.setTop (mkF m 15 #[.val (.int p1), .val (.int p2), .val (.int p3), .val (.int p4), .val (.int (p1.toInt16.toInt32)), .val (.int (p2.toInt16.toInt32)), .unset, .unset, .unset, .unset, .unset, .unset, .unset] [])) _
        refine XS.iload X0.here hx rfl (hb hby at_15) rfl ?_
        show Steps p.tables e below (s₁.setTop (mkF m 17 #[.val (.int p1), .val (.int p2), .val (.int p3), .val (.int p4), .val (.int (p1.toInt16.toInt32)), .val (.int (p2.toInt16.toInt32)), .unset, .unset, .unset, .unset, .unset, .unset, .unset] [(.int (p1.toInt16.toInt32))])) _
        refine XS.iload X0.here hx rfl (hb hby at_17) rfl ?_
        show Steps p.tables e below (s₁.setTop (mkF m 19 #[.val (.int p1), .val (.int p2), .val (.int p3), .val (.int p4), .val (.int (p1.toInt16.toInt32)), .val (.int (p2.toInt16.toInt32)), .unset, .unset, .unset, .unset, .unset, .unset, .unset] [(.int (p2.toInt16.toInt32)), (.int (p1.toInt16.toInt32))])) _
        exact kt
      obtain ⟨_, _, ⟨T7, L7, k7, n7⟩, -, X7, ⟨Lc7, hQ7, l7, y7, z7⟩, st7⟩ := Jvm.LawKit.callS X0 hx (y := (⟨"java/lang/Math", "min", "(II)I"⟩ : MethodName)) hown (mvT hZ (hw _ (own_w 28 rfl))) (mvT hZ (hw _ (own_w 29 rfl))) (mvT hZ (hw _ (own_w 30 rfl))) (mvT hZ (hw _ (own_w 31 rfl))) (by decide) (backOf (W := 0) (rm4 l Z a0 hw [] (p1.toInt16.toInt32) (p2.toInt16.toInt32) h0 n0 Z0 ) hZ (hw _ (own_w 31 rfl)) (hw _ (own_w 30 rfl)) (by decide) (by decide)) (g := (mkF m 19 #[.val (.int p1), .val (.int p2), .val (.int p3), .val (.int p4), .val (.int (p1.toInt16.toInt32)), .val (.int (p2.toInt16.toInt32)), .unset, .unset, .unset, .unset, .unset, .unset, .unset] [(.int (p2.toInt16.toInt32)), (.int (p1.toInt16.toInt32))])) rfl (by rw [hml]; rfl) (argsL := [(.int (p1.toInt16.toInt32)), (.int (p2.toInt16.toInt32))]) (rest := []) (lenOf pd_0 rfl) rfl (by show 2 * 0 + _ ≤ _; exact Nat.le_of_eq rfl) (hb hby at_19) (fun _ _ => ⟨rfl, e0, (by decide : 0 + 0 ≤ _), (by decide : 0 + 0 ≤ _)⟩)
      dsimp only [Pt.U, Pt.locs, Pt.cells, Pt.slots] at X7 l7 y7 z7 st7 hQ7
      subst l7 y7 z7
      obtain ⟨rfl, Nq7, eq7⟩ := hQ7
      have N7 := Fr.app N0 Nq7
      have pre8 : own_Go p e below S0 (T7.setTop (mkF m 28 #[.val (.int p1), .val (.int p2), .val (.int p3), .val (.int p4), .val (.int (p1.toInt16.toInt32)), .val (.int (p2.toInt16.toInt32)), .val (.int (own_min (p1.toInt16.toInt32) (p2.toInt16.toInt32))), .unset, .unset, .unset, .unset, .unset, .unset] [(.int (p2.toInt16.toInt32)), (.int (p1.toInt16.toInt32))])) := by
        intro t kt
        refine pre6 t ?_
        refine st7 _ ?_
        show Steps p.tables e below (T7.setTop (mkF m 22 #[.val (.int p1), .val (.int p2), .val (.int p3), .val (.int p4), .val (.int (p1.toInt16.toInt32)), .val (.int (p2.toInt16.toInt32)), .unset, .unset, .unset, .unset, .unset, .unset, .unset] [(.int (own_min (p1.toInt16.toInt32) (p2.toInt16.toInt32)))])) _
        refine XS.istore X7.here hx rfl (hb hby at_22) rfl (l' := #[.val (.int p1), .val (.int p2), .val (.int p3), .val (.int p4), .val (.int (p1.toInt16.toInt32)), .val (.int (p2.toInt16.toInt32)), .val (.int (own_min (p1.toInt16.toInt32) (p2.toInt16.toInt32))), .unset, .unset, .unset, .unset, .unset, .unset]) rfl ?_
        show Steps p.tables e below (T7.setTop (mkF m 24 #[.val (.int p1), .val (.int p2), .val (.int p3), .val (.int p4), .val (.int (p1.toInt16.toInt32)), .val (.int (p2.toInt16.toInt32)), .val (.int (own_min (p1.toInt16.toInt32) (p2.toInt16.toInt32))), .unset, .unset, .unset, .unset, .unset, .unset] [])) _
        refine XS.iload X7.here hx rfl (hb hby at_24) rfl ?_
        show Steps p.tables e below (T7.setTop (mkF m 26 #[.val (.int p1), .val (.int p2), .val (.int p3), .val (.int p4), .val (.int (p1.toInt16.toInt32)), .val (.int (p2.toInt16.toInt32)), .val (.int (own_min (p1.toInt16.toInt32) (p2.toInt16.toInt32))), .unset, .unset, .unset, .unset, .unset, .unset] [(.int (p1.toInt16.toInt32))])) _
        refine XS.iload X7.here hx rfl (hb hby at_26) rfl ?_
        show Steps p.tables e below (T7.setTop (mkF m 28 #[.val (.int p1), .val (.int p2), .val (.int p3), .val (.int p4), .val (.int (p1.toInt16.toInt32)), .val (.int (p2.toInt16.toInt32)), .val (.int (own_min (p1.toInt16.toInt32) (p2.toInt16.toInt32))), .unset, .unset, .unset, .unset, .unset, .unset] [(.int (p2.toInt16.toInt32)), (.int (p1.toInt16.toInt32))])) _
        exact kt
      obtain ⟨_, _, ⟨T9, L9, k9, n9⟩, -, X9, ⟨Lc9, hQ9, l9, y9, z9⟩, st9⟩ := Jvm.LawKit.callS X7 hx (y := (⟨"java/lang/Math", "max", "(II)I"⟩ : MethodName)) hown (mvT hZ (hw _ (own_w 32 rfl))) (mvT hZ (hw _ (own_w 33 rfl))) (mvT hZ (hw _ (own_w 30 rfl))) (mvT hZ (hw _ (own_w 34 rfl))) (by decide) (backOf (W := 0) (rm5 l Z a0 hw [] (p1.toInt16.toInt32) (p2.toInt16.toInt32) h0 n0 Z0 ) hZ (hw _ (own_w 34 rfl)) (hw _ (own_w 30 rfl)) (by decide) (by decide)) (g := (mkF m 28 #[.val (.int p1), .val (.int p2), .val (.int p3), .val (.int p4), .val (.int (p1.toInt16.toInt32)), .val (.int (p2.toInt16.toInt32)), .val (.int (own_min (p1.toInt16.toInt32) (p2.toInt16.toInt32))), .unset, .unset, .unset, .unset, .unset, .unset] [(.int (p2.toInt16.toInt32)), (.int (p1.toInt16.toInt32))])) rfl (by rw [hml]; rfl) (argsL := [(.int (p1.toInt16.toInt32)), (.int (p2.toInt16.toInt32))]) (rest := []) (lenOf pd_0 rfl) rfl (by show 2 * 0 + _ ≤ _; exact Nat.le_of_eq rfl) (hb hby at_28) (fun _ _ => ⟨rfl, eq7, (by decide : 0 + 0 ≤ _), (by decide : 0 + 0 ≤ _)⟩)
      dsimp only [Pt.U, Pt.locs, Pt.cells, Pt.slots] at X9 l9 y9 z9 st9 hQ9
      subst l9 y9 z9
      obtain ⟨rfl, Nq9, eq9⟩ := hQ9
      have N9 := Fr.app N7 Nq9
      have pre10 : own_Go p e below S0 (T9.setTop (mkF m 43 #[.val (.int p1), .val (.int p2), .val (.int p3), .val (.int p4), .val (.int (own_min (p1.toInt16.toInt32) (p2.toInt16.toInt32))), .val (.int (own_max (p1.toInt16.toInt32) (p2.toInt16.toInt32))), .val (.int (p4 &&& (7 : Int32))), .unset, .unset, .unset, .unset, .unset, .unset] [])) := by
        intro t kt
        refine pre8 t ?_
        refine st9 _ ?_
        show Steps p.tables e below (T9.setTop (mkF m 31 #[.val (.int p1), .val (.int p2), .val (.int p3), .val (.int p4), .val (.int (p1.toInt16.toInt32)), .val (.int (p2.toInt16.toInt32)), .val (.int (own_min (p1.toInt16.toInt32) (p2.toInt16.toInt32))), .unset, .unset, .unset, .unset, .unset, .unset] [(.int (own_max (p1.toInt16.toInt32) (p2.toInt16.toInt32)))])) _
        refine XS.istore X9.here hx rfl (hb hby at_31) rfl (l' := #[.val (.int p1), .val (.int p2), .val (.int p3), .val (.int p4), .val (.int (p1.toInt16.toInt32)), .val (.int (own_max (p1.toInt16.toInt32) (p2.toInt16.toInt32))), .val (.int (own_min (p1.toInt16.toInt32) (p2.toInt16.toInt32))), .unset, .unset, .unset, .unset, .unset, .unset]) rfl ?_
        show Steps p.tables e below (T9.setTop (mkF m 33 #[.val (.int p1), .val (.int p2), .val (.int p3), .val (.int p4), .val (.int (p1.toInt16.toInt32)), .val (.int (own_max (p1.toInt16.toInt32) (p2.toInt16.toInt32))), .val (.int (own_min (p1.toInt16.toInt32) (p2.toInt16.toInt32))), .unset, .unset, .unset, .unset, .unset, .unset] [])) _
        refine XS.iload X9.here hx rfl (hb hby at_33) rfl ?_
        show Steps p.tables e below (T9.setTop (mkF m 35 #[.val (.int p1), .val (.int p2), .val (.int p3), .val (.int p4), .val (.int (p1.toInt16.toInt32)), .val (.int (own_max (p1.toInt16.toInt32) (p2.toInt16.toInt32))), .val (.int (own_min (p1.toInt16.toInt32) (p2.toInt16.toInt32))), .unset, .unset, .unset, .unset, .unset, .unset] [(.int (own_min (p1.toInt16.toInt32) (p2.toInt16.toInt32)))])) _
        refine XS.istore X9.here hx rfl (hb hby at_35) rfl (l' := #[.val (.int p1), .val (.int p2), .val (.int p3), .val (.int p4), .val (.int (own_min (p1.toInt16.toInt32) (p2.toInt16.toInt32))), .val (.int (own_max (p1.toInt16.toInt32) (p2.toInt16.toInt32))), .val (.int (own_min (p1.toInt16.toInt32) (p2.toInt16.toInt32))), .unset, .unset, .unset, .unset, .unset, .unset]) rfl ?_
        show Steps p.tables e below (T9.setTop (mkF m 37 #[.val (.int p1), .val (.int p2), .val (.int p3), .val (.int p4), .val (.int (own_min (p1.toInt16.toInt32) (p2.toInt16.toInt32))), .val (.int (own_max (p1.toInt16.toInt32) (p2.toInt16.toInt32))), .val (.int (own_min (p1.toInt16.toInt32) (p2.toInt16.toInt32))), .unset, .unset, .unset, .unset, .unset, .unset] [])) _
        refine XS.iloadN X9.here hx rfl (hb hby at_37) rfl ?_
        show Steps p.tables e below (T9.setTop (mkF m 38 #[.val (.int p1), .val (.int p2), .val (.int p3), .val (.int p4), .val (.int (own_min (p1.toInt16.toInt32) (p2.toInt16.toInt32))), .val (.int (own_max (p1.toInt16.toInt32) (p2.toInt16.toInt32))), .val (.int (own_min (p1.toInt16.toInt32) (p2.toInt16.toInt32))), .unset, .unset, .unset, .unset, .unset, .unset] [(.int p4)])) _
        refine XS.bipush X9.here hx rfl (hb hby at_38) ?_
        show Steps p.tables e below (T9.setTop (mkF m 40 #[.val (.int p1), .val (.int p2), .val (.int p3), .val (.int p4), .val (.int (own_min (p1.toInt16.toInt32) (p2.toInt16.toInt32))), .val (.int (own_max (p1.toInt16.toInt32) (p2.toInt16.toInt32))), .val (.int (own_min (p1.toInt16.toInt32) (p2.toInt16.toInt32))), .unset, .unset, .unset, .unset, .unset, .unset] [(.int (7 : Int32)), (.int p4)])) _
        refine XS.iand X9.here hx rfl (hb hby at_40) rfl ?_
        show Steps p.tables e below (T9.setTop (mkF m 41 #[.val (.int p1), .val (.int p2), .val (.int p3), .val (.int p4), .val (.int (own_min (p1.toInt16.toInt32) (p2.toInt16.toInt32))), .val (.int (own_max (p1.toInt16.toInt32) (p2.toInt16.toInt32))), .val (.int (own_min (p1.toInt16.toInt32) (p2.toInt16.toInt32))), .unset, .unset, .unset, .unset, .unset, .unset] [(.int (p4 &&& (7 : Int32)))])) _
        refine XS.istore X9.here hx rfl (hb hby at_41) rfl (l' := #[.val (.int p1), .val (.int p2), .val (.int p3), .val (.int p4), .val (.int (own_min (p1.toInt16.toInt32) (p2.toInt16.toInt32))), .val (.int (own_max (p1.toInt16.toInt32) (p2.toInt16.toInt32))), .val (.int (p4 &&& (7 : Int32))), .unset, .unset, .unset, .unset, .unset, .unset]) rfl ?_
        show Steps p.tables e below (T9.setTop (mkF m 43 #[.val (.int p1), .val (.int p2), .val (.int p3), .val (.int p4), .val (.int (own_min (p1.toInt16.toInt32) (p2.toInt16.toInt32))), .val (.int (own_max (p1.toInt16.toInt32) (p2.toInt16.toInt32))), .val (.int (p4 &&& (7 : Int32))), .unset, .unset, .unset, .unset, .unset, .unset] [])) _
        exact kt
      exact ⟨(own_min (p1.toInt16.toInt32) (p2.toInt16.toInt32)), (own_max (p1.toInt16.toInt32) (p2.toInt16.toInt32)), T9, _, (Stand.mono X9 (by decide) (by decide)), N9, eq9, (own_shmin (own_sh1 _) (own_sh1 _)), (own_shmax (own_sh1 _) (own_sh1 _)), pre10⟩
  have ho := pj11
  have hl := pj12
  have pre13 : own_Go p e below S0 (Tj2.setTop (mkF m 46 #[.val (.int p1), .val (.int p2), .val (.int p3), .val (.int p4), .val (.int jo), .val (.int jl), .val (.int (p4 &&& (7 : Int32))), .val (.int p3), .unset, .unset, .unset, .unset, .unset] [])) := by
    intro t kt
    refine prej2 t ?_
    refine XS.iloadN Xj2.here hx rfl (hb hby at_43) rfl ?_
    show Steps p.tables e below (Tj2.setTop (mkF m 44 #[.val (.int p1), .val (.int p2), .val (.int p3), .val (.int p4), .val (.int jo), .val (.int jl), .val (.int (p4 &&& (7 : Int32))), .unset, .unset, .unset, .unset, .unset, .unset] [(.int p3)])) _
    refine XS.istore Xj2.here hx rfl (hb hby at_44) rfl (l' := #[.val (.int p1), .val (.int p2), .val (.int p3), .val (.int p4), .val (.int jo), .val (.int jl), .val (.int (p4 &&& (7 : Int32))), .val (.int p3), .unset, .unset, .unset, .unset, .unset]) rfl ?_
    show Steps p.tables e below (Tj2.setTop (mkF m 46 #[.val (.int p1), .val (.int p2), .val (.int p3), .val (.int p4), .val (.int jo), .val (.int jl), .val (.int (p4 &&& (7 : Int32))), .val (.int p3), .unset, .unset, .unset, .unset, .unset] [])) _
    exact kt
  obtain ⟨jr, Tj14, lj14, Xj14, Nj14, ej14, prej14⟩ : ∃ (jr : Int32) (Tj14 : State) (lj14 : List Loc), Stand p l e room_1 s m #[(.int p1), (.int p2), (.int p3), (.int p4)] below meth c Tj14 lj14 0 0 ∧ Fr n0 lj14 ∧ Tj14.heap = h0 ∧ own_Go p e below S0 (Tj14.setTop (mkF m 99 #[.val (.int p1), .val (.int p2), .val (.int p3), .val (.int p4), .val (.int jo), .val (.int jl), .val (.int (p4 &&& (7 : Int32))), .val (.int jr), .unset, .unset, .unset, .unset, .unset] [])) := by
    have pre16 : own_Go p e below S0 (Tj2.setTop (mkF m 49 #[.val (.int p1), .val (.int p2), .val (.int p3), .val (.int p4), .val (.int jo), .val (.int jl), .val (.int (p4 &&& (7 : Int32))), .val (.int p3), .unset, .unset, .unset, .unset, .unset] [(.int (1 : Int32)), (.int (p4 &&& (7 : Int32)))])) := by
      intro t kt
      refine pre13 t ?_
      refine XS.iload Xj2.here hx rfl (hb hby at_46) rfl ?_
      show Steps p.tables e below (Tj2.setTop (mkF m 48 #[.val (.int p1), .val (.int p2), .val (.int p3), .val (.int p4), .val (.int jo), .val (.int jl), .val (.int (p4 &&& (7 : Int32))), .val (.int p3), .unset, .unset, .unset, .unset, .unset] [(.int (p4 &&& (7 : Int32)))])) _
      refine XS.iconst Xj2.here hx rfl (hb hby at_48) ?_
      show Steps p.tables e below (Tj2.setTop (mkF m 49 #[.val (.int p1), .val (.int p2), .val (.int p3), .val (.int p4), .val (.int jo), .val (.int jl), .val (.int (p4 &&& (7 : Int32))), .val (.int p3), .unset, .unset, .unset, .unset, .unset] [(.int (1 : Int32)), (.int (p4 &&& (7 : Int32)))])) _
      exact kt
    by_cases hc15 : (p4 &&& (7 : Int32)) = (1 : Int32)
    · have pre17 : own_Go p e below S0 (Tj2.setTop (mkF m 99 #[.val (.int p1), .val (.int p2), .val (.int p3), .val (.int p4), .val (.int jo), .val (.int jl), .val (.int (p4 &&& (7 : Int32))), .val (.int jo), .unset, .unset, .unset, .unset, .unset] [])) := by
        intro t kt
        refine pre16 t ?_
        refine XS.icmpNo Xj2.here hx rfl (hb hby at_49) rfl (teq hc15).2 ?_
        show Steps p.tables e below (Tj2.setTop (mkF m 52 #[.val (.int p1), .val (.int p2), .val (.int p3), .val (.int p4), .val (.int jo), .val (.int jl), .val (.int (p4 &&& (7 : Int32))), .val (.int p3), .unset, .unset, .unset, .unset, .unset] [])) _
        refine XS.iload Xj2.here hx rfl (hb hby at_52) rfl ?_
        show Steps p.tables e below (Tj2.setTop (mkF m 54 #[.val (.int p1), .val (.int p2), .val (.int p3), .val (.int p4), .val (.int jo), .val (.int jl), .val (.int (p4 &&& (7 : Int32))), .val (.int p3), .unset, .unset, .unset, .unset, .unset] [(.int jo)])) _
        refine XS.istore Xj2.here hx rfl (hb hby at_54) rfl (l' := #[.val (.int p1), .val (.int p2), .val (.int p3), .val (.int p4), .val (.int jo), .val (.int jl), .val (.int (p4 &&& (7 : Int32))), .val (.int jo), .unset, .unset, .unset, .unset, .unset]) rfl ?_
        show Steps p.tables e below (Tj2.setTop (mkF m 56 #[.val (.int p1), .val (.int p2), .val (.int p3), .val (.int p4), .val (.int jo), .val (.int jl), .val (.int (p4 &&& (7 : Int32))), .val (.int jo), .unset, .unset, .unset, .unset, .unset] [])) _
        refine XS.goto Xj2.here hx rfl (pc0 := 56) (pc' := 99) rfl (hb hby at_56) (by decide) (by decide) ?_
        show Steps p.tables e below (Tj2.setTop (mkF m 99 #[.val (.int p1), .val (.int p2), .val (.int p3), .val (.int p4), .val (.int jo), .val (.int jl), .val (.int (p4 &&& (7 : Int32))), .val (.int jo), .unset, .unset, .unset, .unset, .unset] [])) _
        exact kt
      exact ⟨jo, Tj2, _, (Stand.mono Xj2 (by decide) (by decide)), Nj2, ej2, pre17⟩
    · have pre19 : own_Go p e below S0 (Tj2.setTop (mkF m 62 #[.val (.int p1), .val (.int p2), .val (.int p3), .val (.int p4), .val (.int jo), .val (.int jl), .val (.int (p4 &&& (7 : Int32))), .val (.int p3), .unset, .unset, .unset, .unset, .unset] [(.int (2 : Int32)), (.int (p4 &&& (7 : Int32)))])) := by
        intro t kt
        refine pre16 t ?_
        refine XS.icmpYes Xj2.here hx rfl (pc0 := 49) (pc' := 59) rfl (hb hby at_49) rfl (feq hc15).2 (by decide) (by decide) ?_
        show Steps p.tables e below (Tj2.setTop (mkF m 59 #[.val (.int p1), .val (.int p2), .val (.int p3), .val (.int p4), .val (.int jo), .val (.int jl), .val (.int (p4 &&& (7 : Int32))), .val (.int p3), .unset, .unset, .unset, .unset, .unset] [])) _
        refine XS.iload Xj2.here hx rfl (hb hby at_59) rfl ?_
        show Steps p.tables e below (Tj2.setTop (mkF m 61 #[.val (.int p1), .val (.int p2), .val (.int p3), .val (.int p4), .val (.int jo), .val (.int jl), .val (.int (p4 &&& (7 : Int32))), .val (.int p3), .unset, .unset, .unset, .unset, .unset] [(.int (p4 &&& (7 : Int32)))])) _
        refine XS.iconst Xj2.here hx rfl (hb hby at_61) ?_
        show Steps p.tables e below (Tj2.setTop (mkF m 62 #[.val (.int p1), .val (.int p2), .val (.int p3), .val (.int p4), .val (.int jo), .val (.int jl), .val (.int (p4 &&& (7 : Int32))), .val (.int p3), .unset, .unset, .unset, .unset, .unset] [(.int (2 : Int32)), (.int (p4 &&& (7 : Int32)))])) _
        exact kt
      by_cases hc18 : (p4 &&& (7 : Int32)) = (2 : Int32)
      · have pre20 : own_Go p e below S0 (Tj2.setTop (mkF m 99 #[.val (.int p1), .val (.int p2), .val (.int p3), .val (.int p4), .val (.int jo), .val (.int jl), .val (.int (p4 &&& (7 : Int32))), .val (.int jl), .unset, .unset, .unset, .unset, .unset] [])) := by
          intro t kt
          refine pre19 t ?_
          refine XS.icmpNo Xj2.here hx rfl (hb hby at_62) rfl (teq hc18).2 ?_
          show Steps p.tables e below (Tj2.setTop (mkF m 65 #[.val (.int p1), .val (.int p2), .val (.int p3), .val (.int p4), .val (.int jo), .val (.int jl), .val (.int (p4 &&& (7 : Int32))), .val (.int p3), .unset, .unset, .unset, .unset, .unset] [])) _
          refine XS.iload Xj2.here hx rfl (hb hby at_65) rfl ?_
          show Steps p.tables e below (Tj2.setTop (mkF m 67 #[.val (.int p1), .val (.int p2), .val (.int p3), .val (.int p4), .val (.int jo), .val (.int jl), .val (.int (p4 &&& (7 : Int32))), .val (.int p3), .unset, .unset, .unset, .unset, .unset] [(.int jl)])) _
          refine XS.istore Xj2.here hx rfl (hb hby at_67) rfl (l' := #[.val (.int p1), .val (.int p2), .val (.int p3), .val (.int p4), .val (.int jo), .val (.int jl), .val (.int (p4 &&& (7 : Int32))), .val (.int jl), .unset, .unset, .unset, .unset, .unset]) rfl ?_
          show Steps p.tables e below (Tj2.setTop (mkF m 69 #[.val (.int p1), .val (.int p2), .val (.int p3), .val (.int p4), .val (.int jo), .val (.int jl), .val (.int (p4 &&& (7 : Int32))), .val (.int jl), .unset, .unset, .unset, .unset, .unset] [])) _
          refine XS.goto Xj2.here hx rfl (pc0 := 69) (pc' := 99) rfl (hb hby at_69) (by decide) (by decide) ?_
          show Steps p.tables e below (Tj2.setTop (mkF m 99 #[.val (.int p1), .val (.int p2), .val (.int p3), .val (.int p4), .val (.int jo), .val (.int jl), .val (.int (p4 &&& (7 : Int32))), .val (.int jl), .unset, .unset, .unset, .unset, .unset] [])) _
          exact kt
        exact ⟨jl, Tj2, _, (Stand.mono Xj2 (by decide) (by decide)), Nj2, ej2, pre20⟩
      · have pre22 : own_Go p e below S0 (Tj2.setTop (mkF m 75 #[.val (.int p1), .val (.int p2), .val (.int p3), .val (.int p4), .val (.int jo), .val (.int jl), .val (.int (p4 &&& (7 : Int32))), .val (.int p3), .unset, .unset, .unset, .unset, .unset] [(.int (3 : Int32)), (.int (p4 &&& (7 : Int32)))])) := by
          intro t kt
          refine pre19 t ?_
          refine XS.icmpYes Xj2.here hx rfl (pc0 := 62) (pc' := 72) rfl (hb hby at_62) rfl (feq hc18).2 (by decide) (by decide) ?_
          show Steps p.tables e below (Tj2.setTop (mkF m 72 #[.val (.int p1), .val (.int p2), .val (.int p3), .val (.int p4), .val (.int jo), .val (.int jl), .val (.int (p4 &&& (7 : Int32))), .val (.int p3), .unset, .unset, .unset, .unset, .unset] [])) _
          refine XS.iload Xj2.here hx rfl (hb hby at_72) rfl ?_
          show Steps p.tables e below (Tj2.setTop (mkF m 74 #[.val (.int p1), .val (.int p2), .val (.int p3), .val (.int p4), .val (.int jo), .val (.int jl), .val (.int (p4 &&& (7 : Int32))), .val (.int p3), .unset, .unset, .unset, .unset, .unset] [(.int (p4 &&& (7 : Int32)))])) _
          refine XS.iconst Xj2.here hx rfl (hb hby at_74) ?_
          show Steps p.tables e below (Tj2.setTop (mkF m 75 #[.val (.int p1), .val (.int p2), .val (.int p3), .val (.int p4), .val (.int jo), .val (.int jl), .val (.int (p4 &&& (7 : Int32))), .val (.int p3), .unset, .unset, .unset, .unset, .unset] [(.int (3 : Int32)), (.int (p4 &&& (7 : Int32)))])) _
          exact kt
        by_cases hc21 : (p4 &&& (7 : Int32)) = (3 : Int32)
        · have pre23 : own_Go p e below S0 (Tj2.setTop (mkF m 99 #[.val (.int p1), .val (.int p2), .val (.int p3), .val (.int p4), .val (.int jo), .val (.int jl), .val (.int (p4 &&& (7 : Int32))), .val (.int (jo - (1 : Int32))), .unset, .unset, .unset, .unset, .unset] [])) := by
            intro t kt
            refine pre22 t ?_
            refine XS.icmpNo Xj2.here hx rfl (hb hby at_75) rfl (teq hc21).2 ?_
            show Steps p.tables e below (Tj2.setTop (mkF m 78 #[.val (.int p1), .val (.int p2), .val (.int p3), .val (.int p4), .val (.int jo), .val (.int jl), .val (.int (p4 &&& (7 : Int32))), .val (.int p3), .unset, .unset, .unset, .unset, .unset] [])) _
            refine XS.iload Xj2.here hx rfl (hb hby at_78) rfl ?_
            show Steps p.tables e below (Tj2.setTop (mkF m 80 #[.val (.int p1), .val (.int p2), .val (.int p3), .val (.int p4), .val (.int jo), .val (.int jl), .val (.int (p4 &&& (7 : Int32))), .val (.int p3), .unset, .unset, .unset, .unset, .unset] [(.int jo)])) _
            refine XS.iconst Xj2.here hx rfl (hb hby at_80) ?_
            show Steps p.tables e below (Tj2.setTop (mkF m 81 #[.val (.int p1), .val (.int p2), .val (.int p3), .val (.int p4), .val (.int jo), .val (.int jl), .val (.int (p4 &&& (7 : Int32))), .val (.int p3), .unset, .unset, .unset, .unset, .unset] [(.int (1 : Int32)), (.int jo)])) _
            refine XS.isub Xj2.here hx rfl (hb hby at_81) rfl ?_
            show Steps p.tables e below (Tj2.setTop (mkF m 82 #[.val (.int p1), .val (.int p2), .val (.int p3), .val (.int p4), .val (.int jo), .val (.int jl), .val (.int (p4 &&& (7 : Int32))), .val (.int p3), .unset, .unset, .unset, .unset, .unset] [(.int (jo - (1 : Int32)))])) _
            refine XS.istore Xj2.here hx rfl (hb hby at_82) rfl (l' := #[.val (.int p1), .val (.int p2), .val (.int p3), .val (.int p4), .val (.int jo), .val (.int jl), .val (.int (p4 &&& (7 : Int32))), .val (.int (jo - (1 : Int32))), .unset, .unset, .unset, .unset, .unset]) rfl ?_
            show Steps p.tables e below (Tj2.setTop (mkF m 84 #[.val (.int p1), .val (.int p2), .val (.int p3), .val (.int p4), .val (.int jo), .val (.int jl), .val (.int (p4 &&& (7 : Int32))), .val (.int (jo - (1 : Int32))), .unset, .unset, .unset, .unset, .unset] [])) _
            refine XS.goto Xj2.here hx rfl (pc0 := 84) (pc' := 99) rfl (hb hby at_84) (by decide) (by decide) ?_
            show Steps p.tables e below (Tj2.setTop (mkF m 99 #[.val (.int p1), .val (.int p2), .val (.int p3), .val (.int p4), .val (.int jo), .val (.int jl), .val (.int (p4 &&& (7 : Int32))), .val (.int (jo - (1 : Int32))), .unset, .unset, .unset, .unset, .unset] [])) _
            exact kt
          exact ⟨(jo - (1 : Int32)), Tj2, _, (Stand.mono Xj2 (by decide) (by decide)), Nj2, ej2, pre23⟩
        · have pre25 : own_Go p e below S0 (Tj2.setTop (mkF m 90 #[.val (.int p1), .val (.int p2), .val (.int p3), .val (.int p4), .val (.int jo), .val (.int jl), .val (.int (p4 &&& (7 : Int32))), .val (.int p3), .unset, .unset, .unset, .unset, .unset] [(.int (4 : Int32)), (.int (p4 &&& (7 : Int32)))])) := by
            intro t kt
            refine pre22 t ?_
            refine XS.icmpYes Xj2.here hx rfl (pc0 := 75) (pc' := 87) rfl (hb hby at_75) rfl (feq hc21).2 (by decide) (by decide) ?_
            show Steps p.tables e below (Tj2.setTop (mkF m 87 #[.val (.int p1), .val (.int p2), .val (.int p3), .val (.int p4), .val (.int jo), .val (.int jl), .val (.int (p4 &&& (7 : Int32))), .val (.int p3), .unset, .unset, .unset, .unset, .unset] [])) _
            refine XS.iload Xj2.here hx rfl (hb hby at_87) rfl ?_
            show Steps p.tables e below (Tj2.setTop (mkF m 89 #[.val (.int p1), .val (.int p2), .val (.int p3), .val (.int p4), .val (.int jo), .val (.int jl), .val (.int (p4 &&& (7 : Int32))), .val (.int p3), .unset, .unset, .unset, .unset, .unset] [(.int (p4 &&& (7 : Int32)))])) _
            refine XS.iconst Xj2.here hx rfl (hb hby at_89) ?_
            show Steps p.tables e below (Tj2.setTop (mkF m 90 #[.val (.int p1), .val (.int p2), .val (.int p3), .val (.int p4), .val (.int jo), .val (.int jl), .val (.int (p4 &&& (7 : Int32))), .val (.int p3), .unset, .unset, .unset, .unset, .unset] [(.int (4 : Int32)), (.int (p4 &&& (7 : Int32)))])) _
            exact kt
          by_cases hc24 : (p4 &&& (7 : Int32)) = (4 : Int32)
          · have pre26 : own_Go p e below S0 (Tj2.setTop (mkF m 99 #[.val (.int p1), .val (.int p2), .val (.int p3), .val (.int p4), .val (.int jo), .val (.int jl), .val (.int (p4 &&& (7 : Int32))), .val (.int (jl + (1 : Int32))), .unset, .unset, .unset, .unset, .unset] [])) := by
              intro t kt
              refine pre25 t ?_
              refine XS.icmpNo Xj2.here hx rfl (hb hby at_90) rfl (teq hc24).2 ?_
              show Steps p.tables e below (Tj2.setTop (mkF m 93 #[.val (.int p1), .val (.int p2), .val (.int p3), .val (.int p4), .val (.int jo), .val (.int jl), .val (.int (p4 &&& (7 : Int32))), .val (.int p3), .unset, .unset, .unset, .unset, .unset] [])) _
              refine XS.iload Xj2.here hx rfl (hb hby at_93) rfl ?_
              show Steps p.tables e below (Tj2.setTop (mkF m 95 #[.val (.int p1), .val (.int p2), .val (.int p3), .val (.int p4), .val (.int jo), .val (.int jl), .val (.int (p4 &&& (7 : Int32))), .val (.int p3), .unset, .unset, .unset, .unset, .unset] [(.int jl)])) _
              refine XS.iconst Xj2.here hx rfl (hb hby at_95) ?_
              show Steps p.tables e below (Tj2.setTop (mkF m 96 #[.val (.int p1), .val (.int p2), .val (.int p3), .val (.int p4), .val (.int jo), .val (.int jl), .val (.int (p4 &&& (7 : Int32))), .val (.int p3), .unset, .unset, .unset, .unset, .unset] [(.int (1 : Int32)), (.int jl)])) _
              refine XS.iadd Xj2.here hx rfl (hb hby at_96) rfl ?_
              show Steps p.tables e below (Tj2.setTop (mkF m 97 #[.val (.int p1), .val (.int p2), .val (.int p3), .val (.int p4), .val (.int jo), .val (.int jl), .val (.int (p4 &&& (7 : Int32))), .val (.int p3), .unset, .unset, .unset, .unset, .unset] [(.int (jl + (1 : Int32)))])) _
              refine XS.istore Xj2.here hx rfl (hb hby at_97) rfl (l' := #[.val (.int p1), .val (.int p2), .val (.int p3), .val (.int p4), .val (.int jo), .val (.int jl), .val (.int (p4 &&& (7 : Int32))), .val (.int (jl + (1 : Int32))), .unset, .unset, .unset, .unset, .unset]) rfl ?_
              show Steps p.tables e below (Tj2.setTop (mkF m 99 #[.val (.int p1), .val (.int p2), .val (.int p3), .val (.int p4), .val (.int jo), .val (.int jl), .val (.int (p4 &&& (7 : Int32))), .val (.int (jl + (1 : Int32))), .unset, .unset, .unset, .unset, .unset] [])) _
              exact kt
            exact ⟨(jl + (1 : Int32)), Tj2, _, (Stand.mono Xj2 (by decide) (by decide)), Nj2, ej2, pre26⟩
          · have pre27 : own_Go p e below S0 (Tj2.setTop (mkF m 99 #[.val (.int p1), .val (.int p2), .val (.int p3), .val (.int p4), .val (.int jo), .val (.int jl), .val (.int (p4 &&& (7 : Int32))), .val (.int p3), .unset, .unset, .unset, .unset, .unset] [])) := by
              intro t kt
              refine pre25 t ?_
              refine XS.icmpYes Xj2.here hx rfl (pc0 := 90) (pc' := 99) rfl (hb hby at_90) rfl (feq hc24).2 (by decide) (by decide) ?_
              show Steps p.tables e below (Tj2.setTop (mkF m 99 #[.val (.int p1), .val (.int p2), .val (.int p3), .val (.int p4), .val (.int jo), .val (.int jl), .val (.int (p4 &&& (7 : Int32))), .val (.int p3), .unset, .unset, .unset, .unset, .unset] [])) _
              exact kt
            exact ⟨p3, Tj2, _, (Stand.mono Xj2 (by decide) (by decide)), Nj2, ej2, pre27⟩
  have pre28 : own_Go p e below S0 (Tj14.setTop (mkF m 104 #[.val (.int p1), .val (.int p2), .val (.int p3), .val (.int p4), .val (.int jo), .val (.int jl), .val (.int (p4 &&& (7 : Int32))), .val (.int jr), .val (.int (jr.toInt16.toInt32)), .unset, .unset, .unset, .unset] [])) := by
    intro t kt
    refine prej14 t ?_
    refine XS.iload Xj14.here hx rfl (hb hby at_99) rfl ?_
    show Steps p.tables e below (Tj14.setTop (mkF m 101 #[.val (.int p1), .val (.int p2), .val (.int p3), .val (.int p4), .val (.int jo), .val (.int jl), .val (.int (p4 &&& (7 : Int32))), .val (.int jr), .unset, .unset, .unset, .unset, .unset] [(.int jr)])) _
    refine XS.i2s Xj14.here hx rfl (hb hby at_101) rfl ?_
    show Steps p.tables e below (Tj14.setTop (mkF m 102 #[.val (.int p1), .val (.int p2), .val (.int p3), .val (.int p4), .val (.int jo), .val (.int jl), .val (.int (p4 &&& (7 : Int32))), .val (.int jr), .unset, .unset, .unset, .unset, .unset] [(.int (jr.toInt16.toInt32))])) _
    refine XS.istore Xj14.here hx rfl (hb hby at_102) rfl (l' := #[.val (.int p1), .val (.int p2), .val (.int p3), .val (.int p4), .val (.int jo), .val (.int jl), .val (.int (p4 &&& (7 : Int32))), .val (.int jr), .val (.int (jr.toInt16.toInt32)), .unset, .unset, .unset, .unset]) rfl ?_
    show Steps p.tables e below (Tj14.setTop (mkF m 104 #[.val (.int p1), .val (.int p2), .val (.int p3), .val (.int p4), .val (.int jo), .val (.int jl), .val (.int (p4 &&& (7 : Int32))), .val (.int jr), .val (.int (jr.toInt16.toInt32)), .unset, .unset, .unset, .unset] [])) _
    exact kt
  obtain ⟨T29, h29, X29, e29, E29, A29, D29, -, st29⟩ := newO Xj14 hx hZ hown (hw _ (own_w 0 rfl)) (hw _ (own_w 1 rfl)) (hw _ (own_w 2 rfl)) ej14 (g := (mkF m 104 #[.val (.int p1), .val (.int p2), .val (.int p3), .val (.int p4), .val (.int jo), .val (.int jl), .val (.int (p4 &&& (7 : Int32))), .val (.int jr), .val (.int (jr.toInt16.toInt32)), .unset, .unset, .unset, .unset] [])) rfl (hb hby at_104) (by decide) (by decide)
  obtain ⟨b29, g29⟩ : ∃ z, z = h0.size := ⟨_, rfl⟩
  rw [← g29] at A29 D29 st29
  have ge30 : n0 ≤ b29 := Nat.le_trans Z0 (Nat.le_of_eq g29.symm)
  have zs31 : n0 ≤ h29.size := Nat.le_trans Z0 E29.1
  have fd32 : Fld Z h29 b29 "com/example/eurybates/eurybates/protocol/VersionRange" "message" "Ljava/lang/String;" .null := D29 (Or.inr (hw _ (own_w 18 rfl))) (ty := (.object "java/lang/String")) (by decide)
  have fd33 : Fld Z h29 b29 "com/example/eurybates/eurybates/protocol/VersionRange" "oldest" "S" (.int (0 : Int32)) := D29 (Or.inr (hw _ (own_w 20 rfl))) (ty := .short) (by decide)
  have fd34 : Fld Z h29 b29 "com/example/eurybates/eurybates/protocol/VersionRange" "latest" "S" (.int (0 : Int32)) := D29 (Or.inr (hw _ (own_w 22 rfl))) (ty := .short) (by decide)
  have pre35 : own_Go p e below S0 (T29.setTop (mkF m 108 #[.val (.int p1), .val (.int p2), .val (.int p3), .val (.int p4), .val (.int jo), .val (.int jl), .val (.int (p4 &&& (7 : Int32))), .val (.int jr), .val (.int (jr.toInt16.toInt32)), .unset, .unset, .unset, .unset] [(.ref b29), (.ref b29)])) := by
    intro t kt
    refine pre28 t ?_
    refine st29 _ ?_
    show Steps p.tables e below (T29.setTop (mkF m 107 #[.val (.int p1), .val (.int p2), .val (.int p3), .val (.int p4), .val (.int jo), .val (.int jl), .val (.int (p4 &&& (7 : Int32))), .val (.int jr), .val (.int (jr.toInt16.toInt32)), .unset, .unset, .unset, .unset] [(.ref b29)])) _
    refine XS.dup X29.here hx rfl (hb hby at_107) rfl rfl ?_
    show Steps p.tables e below (T29.setTop (mkF m 108 #[.val (.int p1), .val (.int p2), .val (.int p3), .val (.int p4), .val (.int jo), .val (.int jl), .val (.int (p4 &&& (7 : Int32))), .val (.int jr), .val (.int (jr.toInt16.toInt32)), .unset, .unset, .unset, .unset] [(.ref b29), (.ref b29)])) _
    exact kt
  obtain ⟨b36, T36, h36, k36, X36, e36, E36, hS36, hk36, hZ, hown, st36⟩ := ldcS (s := s) (vm0 := s.vm) X29 hx hZ hown (hw _ (own_w 3 rfl)) (own_strAtoms a0 Z hw) e29 (own_since s 0) (Nat.zero_le _) (g := (mkF m 108 #[.val (.int p1), .val (.int p2), .val (.int p3), .val (.int p4), .val (.int jo), .val (.int jl), .val (.int (p4 &&& (7 : Int32))), .val (.int jr), .val (.int (jr.toInt16.toInt32)), .unset, .unset, .unset, .unset] [(.ref b29), (.ref b29)])) rfl (hb hby at_108) (n := 4) (by decide +kernel) (by decide) (by decide) (by decide)
  have zs37 : n0 ≤ h36.size := Nat.le_trans zs31 E36.1
  have pre38 : own_Go p e below S0 (T36.setTop (mkF m 114 #[.val (.int p1), .val (.int p2), .val (.int p3), .val (.int p4), .val (.int jo), .val (.int jl), .val (.int (p4 &&& (7 : Int32))), .val (.int jr), .val (.int (jr.toInt16.toInt32)), .unset, .unset, .unset, .unset] [(.int jl), (.int jo), (.ref b36), (.ref b29), (.ref b29)])) := by
    intro t kt
    refine pre35 t ?_
    refine st36 _ ?_
    show Steps p.tables e below (T36.setTop (mkF m 110 #[.val (.int p1), .val (.int p2), .val (.int p3), .val (.int p4), .val (.int jo), .val (.int jl), .val (.int (p4 &&& (7 : Int32))), .val (.int jr), .val (.int (jr.toInt16.toInt32)), .unset, .unset, .unset, .unset] [(.ref b36), (.ref b29), (.ref b29)])) _
    refine XS.iload X36.here hx rfl (hb hby at_110) rfl ?_
    show Steps p.tables e below (T36.setTop (mkF m 112 #[.val (.int p1), .val (.int p2), .val (.int p3), .val (.int p4), .val (.int jo), .val (.int jl), .val (.int (p4 &&& (7 : Int32))), .val (.int jr), .val (.int (jr.toInt16.toInt32)), .unset, .unset, .unset, .unset] [(.int jo), (.ref b36), (.ref b29), (.ref b29)])) _
    refine XS.iload X36.here hx rfl (hb hby at_112) rfl ?_
    show Steps p.tables e below (T36.setTop (mkF m 114 #[.val (.int p1), .val (.int p2), .val (.int p3), .val (.int p4), .val (.int jo), .val (.int jl), .val (.int (p4 &&& (7 : Int32))), .val (.int jr), .val (.int (jr.toInt16.toInt32)), .unset, .unset, .unset, .unset] [(.int jl), (.int jo), (.ref b36), (.ref b29), (.ref b29)])) _
    exact kt
  have f39 : Exa Z h36 b29 "com/example/eurybates/eurybates/protocol/VersionRange" := (A29.ext E36)
  have f40 : Fld Z h36 b29 "com/example/eurybates/eurybates/protocol/VersionRange" "message" "Ljava/lang/String;" .null := (fd32.ext E36)
  have f41 : Fld Z h36 b29 "com/example/eurybates/eurybates/protocol/VersionRange" "oldest" "S" (.int (0 : Int32)) := (fd33.ext E36)
  have f42 : Fld Z h36 b29 "com/example/eurybates/eurybates/protocol/VersionRange" "latest" "S" (.int (0 : Int32)) := (fd34.ext E36)
  obtain ⟨_, _, ⟨T43, L43, k43, n43⟩, -, X43, ⟨Lc43, hQ43, l43, y43, z43⟩, st43⟩ := X36.specialBack hx (y := (⟨"com/example/eurybates/eurybates/protocol/VersionRange", "<init>", "(Ljava/lang/String;II)V"⟩ : MethodName)) rfl hown (mvT hZ (hw _ (own_w 11 rfl))) (mvT hZ (hw _ (own_w 12 rfl))) (mvT hZ (hw _ (own_w 13 rfl))) (by decide) (backOf (W := 1) (rm1 l Z a0 hw [] b29 b36 jo jl h36 n0 zs37 f39 f40 f41 f42 ge30) hZ (hw _ (own_w 13 rfl)) (hw _ (own_w 2 rfl)) (by decide) (by decide)) (g := (mkF m 114 #[.val (.int p1), .val (.int p2), .val (.int p3), .val (.int p4), .val (.int jo), .val (.int jl), .val (.int (p4 &&& (7 : Int32))), .val (.int jr), .val (.int (jr.toInt16.toInt32)), .unset, .unset, .unset, .unset] [(.int jl), (.int jo), (.ref b36), (.ref b29), (.ref b29)])) rfl (by rw [hml]; rfl) (Steps.refl _) (a := b29) (argsL := [(.ref b36), (.int jo), (.int jl)]) (rest := [(.ref b29)]) (lenOf pd_1 rfl) rfl (by show 2 * 0 + _ ≤ _; exact Nat.le_of_eq rfl) (hb hby at_114) (fun _ _ => ⟨rfl, e36, (by decide : 3 + 0 ≤ _), (by decide : 11 + 0 ≤ _)⟩)
  dsimp only [Pt.U, Pt.locs, Pt.cells, Pt.slots] at X43 l43 y43 z43 st43 hQ43
  subst l43 y43 z43
  obtain ⟨rfl, Nq43, K43, g44, g45, g46⟩ := hQ43
  have N43 := Fr.app Nj14 Nq43
  have zs47 : n0 ≤ T43.heap.size := Nat.le_trans zs37 K43.1
  have hk48 : _ ≤ T43.heap.size := Nat.le_trans hk36 K43.1
  have pre49 : own_Go p e below S0 (T43.setTop (mkF m 123 #[.val (.int p1), .val (.int p2), .val (.int p3), .val (.int p4), .val (.int jo), .val (.int jl), .val (.int (p4 &&& (7 : Int32))), .val (.int jr), .val (.int (jr.toInt16.toInt32)), .val (.ref b29), .unset, .unset, .unset] [(.int (jr.toInt16.toInt32)), (.ref b29)])) := by
    intro t kt
    refine pre38 t ?_
    refine st43.trans ?_
    show Steps p.tables e below (T43.setTop (mkF m 117 #[.val (.int p1), .val (.int p2), .val (.int p3), .val (.int p4), .val (.int jo), .val (.int jl), .val (.int (p4 &&& (7 : Int32))), .val (.int jr), .val (.int (jr.toInt16.toInt32)), .unset, .unset, .unset, .unset] [(.ref b29)])) _
    refine XS.astore X43.here hx rfl (hb hby at_117) rfl rfl (l' := #[.val (.int p1), .val (.int p2), .val (.int p3), .val (.int p4), .val (.int jo), .val (.int jl), .val (.int (p4 &&& (7 : Int32))), .val (.int jr), .val (.int (jr.toInt16.toInt32)), .val (.ref b29), .unset, .unset, .unset]) rfl ?_
    show Steps p.tables e below (T43.setTop (mkF m 119 #[.val (.int p1), .val (.int p2), .val (.int p3), .val (.int p4), .val (.int jo), .val (.int jl), .val (.int (p4 &&& (7 : Int32))), .val (.int jr), .val (.int (jr.toInt16.toInt32)), .val (.ref b29), .unset, .unset, .unset] [])) _
    refine XS.aload X43.here hx rfl (hb hby at_119) rfl rfl ?_
    show Steps p.tables e below (T43.setTop (mkF m 121 #[.val (.int p1), .val (.int p2), .val (.int p3), .val (.int p4), .val (.int jo), .val (.int jl), .val (.int (p4 &&& (7 : Int32))), .val (.int jr), .val (.int (jr.toInt16.toInt32)), .val (.ref b29), .unset, .unset, .unset] [(.ref b29)])) _
    refine XS.iload X43.here hx rfl (hb hby at_121) rfl ?_
    show Steps p.tables e below (T43.setTop (mkF m 123 #[.val (.int p1), .val (.int p2), .val (.int p3), .val (.int p4), .val (.int jo), .val (.int jl), .val (.int (p4 &&& (7 : Int32))), .val (.int jr), .val (.int (jr.toInt16.toInt32)), .val (.ref b29), .unset, .unset, .unset] [(.int (jr.toInt16.toInt32)), (.ref b29)])) _
    exact kt
  obtain ⟨cq50, kq50, qa50, qb50, qc50⟩ := isOf hZ rfl g44
  obtain ⟨_, _, ⟨T50, L50, k50, n50⟩, -, X50, ⟨Lc50, hQ50, l50, y50, z50⟩, st50⟩ := X43.virtualBack hx (y := (⟨"com/example/eurybates/eurybates/protocol/VersionRange", "holds", "(S)Z"⟩ : MethodName)) (z := (⟨"com/example/eurybates/eurybates/protocol/VersionRange", "holds", "(S)Z"⟩ : MethodName)) hown (mvT hZ (hw _ (own_w 23 rfl))) (mvT hZ (hw _ (own_w 24 rfl))) (notFace_of_selects (args := #[]) (mvT hZ (hw _ (own_w 26 rfl)))) (mvT hZ (hw _ (own_w 26 rfl))) (mvT hZ (hw _ (own_w 25 rfl))) (by decide) (backOf (W := 0) (rm3 l Z a0 hw [] b29 (jr.toInt16.toInt32) (nar .short (jo.toInt16.toInt32)) (nar .short (jl.toInt16.toInt32)) T43.heap n0 zs47 g45 g46) hZ (hw _ (own_w 27 rfl)) (hw _ (own_w 2 rfl)) (by decide) (by decide)) qa50 qc50 (g := (mkF m 123 #[.val (.int p1), .val (.int p2), .val (.int p3), .val (.int p4), .val (.int jo), .val (.int jl), .val (.int (p4 &&& (7 : Int32))), .val (.int jr), .val (.int (jr.toInt16.toInt32)), .val (.ref b29), .unset, .unset, .unset] [(.int (jr.toInt16.toInt32)), (.ref b29)])) rfl (by rw [hml]; rfl) (Steps.refl _) (argsL := [(.int (jr.toInt16.toInt32))]) (rest := []) (lenOf pd_2 rfl) rfl (by show 2 * 0 + _ ≤ _; exact Nat.le_of_eq rfl) (hb hby at_123) (fun _ _ => ⟨rfl, rfl, (by decide : 3 + 0 ≤ _), (by decide : 11 + 0 ≤ _)⟩)
  dsimp only [Pt.U, Pt.locs, Pt.cells, Pt.slots] at X50 l50 y50 z50 st50 hQ50
  subst l50 y50 z50
  obtain ⟨rfl, Nq50, eq50⟩ := hQ50
  have N50 := Fr.app N43 Nq50
  have pre52 : own_Go p e below S0 (T50.setTop (mkF m 136 #[.val (.int p1), .val (.int p2), .val (.int p3), .val (.int p4), .val (.int jo), .val (.int jl), .val (.int (p4 &&& (7 : Int32))), .val (.int jr), .val (.int (jr.toInt16.toInt32)), .val (.ref b29), .val (.int (own_holds b29 (jr.toInt16.toInt32) (nar .short (jo.toInt16.toInt32)) (nar .short (jl.toInt16.toInt32)))), .val (.int (jr.toInt16.toInt32)), .unset] [(.int jl), (.int jo)])) := by
    intro t kt
    refine pre49 t ?_
    refine st50.trans ?_
    show Steps p.tables e below (T50.setTop (mkF m 126 #[.val (.int p1), .val (.int p2), .val (.int p3), .val (.int p4), .val (.int jo), .val (.int jl), .val (.int (p4 &&& (7 : Int32))), .val (.int jr), .val (.int (jr.toInt16.toInt32)), .val (.ref b29), .unset, .unset, .unset] [(.int (own_holds b29 (jr.toInt16.toInt32) (nar .short (jo.toInt16.toInt32)) (nar .short (jl.toInt16.toInt32))))])) _
    refine XS.istore X50.here hx rfl (hb hby at_126) rfl (l' := #[.val (.int p1), .val (.int p2), .val (.int p3), .val (.int p4), .val (.int jo), .val (.int jl), .val (.int (p4 &&& (7 : Int32))), .val (.int jr), .val (.int (jr.toInt16.toInt32)), .val (.ref b29), .val (.int (own_holds b29 (jr.toInt16.toInt32) (nar .short (jo.toInt16.toInt32)) (nar .short (jl.toInt16.toInt32)))), .unset, .unset]) rfl ?_
    show Steps p.tables e below (T50.setTop (mkF m 128 #[.val (.int p1), .val (.int p2), .val (.int p3), .val (.int p4), .val (.int jo), .val (.int jl), .val (.int (p4 &&& (7 : Int32))), .val (.int jr), .val (.int (jr.toInt16.toInt32)), .val (.ref b29), .val (.int (own_holds b29 (jr.toInt16.toInt32) (nar .short (jo.toInt16.toInt32)) (nar .short (jl.toInt16.toInt32)))), .unset, .unset] [])) _
    refine XS.iload X50.here hx rfl (hb hby at_128) rfl ?_
    show Steps p.tables e below (T50.setTop (mkF m 130 #[.val (.int p1), .val (.int p2), .val (.int p3), .val (.int p4), .val (.int jo), .val (.int jl), .val (.int (p4 &&& (7 : Int32))), .val (.int jr), .val (.int (jr.toInt16.toInt32)), .val (.ref b29), .val (.int (own_holds b29 (jr.toInt16.toInt32) (nar .short (jo.toInt16.toInt32)) (nar .short (jl.toInt16.toInt32)))), .unset, .unset] [(.int (jr.toInt16.toInt32))])) _
    refine XS.istore X50.here hx rfl (hb hby at_130) rfl (l' := #[.val (.int p1), .val (.int p2), .val (.int p3), .val (.int p4), .val (.int jo), .val (.int jl), .val (.int (p4 &&& (7 : Int32))), .val (.int jr), .val (.int (jr.toInt16.toInt32)), .val (.ref b29), .val (.int (own_holds b29 (jr.toInt16.toInt32) (nar .short (jo.toInt16.toInt32)) (nar .short (jl.toInt16.toInt32)))), .val (.int (jr.toInt16.toInt32)), .unset]) rfl ?_
    show Steps p.tables e below (T50.setTop (mkF m 132 #[.val (.int p1), .val (.int p2), .val (.int p3), .val (.int p4), .val (.int jo), .val (.int jl), .val (.int (p4 &&& (7 : Int32))), .val (.int jr), .val (.int (jr.toInt16.toInt32)), .val (.ref b29), .val (.int (own_holds b29 (jr.toInt16.toInt32) (nar .short (jo.toInt16.toInt32)) (nar .short (jl.toInt16.toInt32)))), .val (.int (jr.toInt16.toInt32)), .unset] [])) _
    refine XS.iload X50.here hx rfl (hb hby at_132) rfl ?_
    show Steps p.tables e below (T50.setTop (mkF m 134 #[.val (.int p1), .val (.int p2), .val (.int p3), .val (.int p4), .val (.int jo), .val (.int jl), .val (.int (p4 &&& (7 : Int32))), .val (.int jr), .val (.int (jr.toInt16.toInt32)), .val (.ref b29), .val (.int (own_holds b29 (jr.toInt16.toInt32) (nar .short (jo.toInt16.toInt32)) (nar .short (jl.toInt16.toInt32)))), .val (.int (jr.toInt16.toInt32)), .unset] [(.int jo)])) _
    refine XS.iload X50.here hx rfl (hb hby at_134) rfl ?_
    show Steps p.tables e below (T50.setTop (mkF m 136 #[.val (.int p1), .val (.int p2), .val (.int p3), .val (.int p4), .val (.int jo), .val (.int jl), .val (.int (p4 &&& (7 : Int32))), .val (.int jr), .val (.int (jr.toInt16.toInt32)), .val (.ref b29), .val (.int (own_holds b29 (jr.toInt16.toInt32) (nar .short (jo.toInt16.toInt32)) (nar .short (jl.toInt16.toInt32)))), .val (.int (jr.toInt16.toInt32)), .unset] [(.int jl), (.int jo)])) _
    exact kt
  by_cases hc51 : jl < jo
  · have pre53 : own_Go p e below S0 (T50.setTop (mkF m 175 #[.val (.int p1), .val (.int p2), .val (.int p3), .val (.int p4), .val (.int jo), .val (.int jl), .val (.int (p4 &&& (7 : Int32))), .val (.int jr), .val (.int (jr.toInt16.toInt32)), .val (.ref b29), .val (.int (own_holds b29 (jr.toInt16.toInt32) (nar .short (jo.toInt16.toInt32)) (nar .short (jl.toInt16.toInt32)))), .val (.int (jr.toInt16.toInt32)), .val (.int (0 : Int32))] [(.int (1 : Int32))])) := by
      intro t kt
      refine pre52 t ?_
      refine XS.icmpYes X50.here hx rfl (pc0 := 136) (pc' := 160) rfl (hb hby at_136) rfl (tlt hc51).2.2.1 (by decide) (by decide) ?_
      show Steps p.tables e below (T50.setTop (mkF m 160 #[.val (.int p1), .val (.int p2), .val (.int p3), .val (.int p4), .val (.int jo), .val (.int jl), .val (.int (p4 &&& (7 : Int32))), .val (.int jr), .val (.int (jr.toInt16.toInt32)), .val (.ref b29), .val (.int (own_holds b29 (jr.toInt16.toInt32) (nar .short (jo.toInt16.toInt32)) (nar .short (jl.toInt16.toInt32)))), .val (.int (jr.toInt16.toInt32)), .unset] [])) _
      refine XS.iconst X50.here hx rfl (hb hby at_160) ?_
      show Steps p.tables e below (T50.setTop (mkF m 161 #[.val (.int p1), .val (.int p2), .val (.int p3), .val (.int p4), .val (.int jo), .val (.int jl), .val (.int (p4 &&& (7 : Int32))), .val (.int jr), .val (.int (jr.toInt16.toInt32)), .val (.ref b29), .val (.int (own_holds b29 (jr.toInt16.toInt32) (nar .short (jo.toInt16.toInt32)) (nar .short (jl.toInt16.toInt32)))), .val (.int (jr.toInt16.toInt32)), .unset] [(.int (0 : Int32))])) _
      refine XS.istore X50.here hx rfl (hb hby at_161) rfl (l' := #[.val (.int p1), .val (.int p2), .val (.int p3), .val (.int p4), .val (.int jo), .val (.int jl), .val (.int (p4 &&& (7 : Int32))), .val (.int jr), .val (.int (jr.toInt16.toInt32)), .val (.ref b29), .val (.int (own_holds b29 (jr.toInt16.toInt32) (nar .short (jo.toInt16.toInt32)) (nar .short (jl.toInt16.toInt32)))), .val (.int (jr.toInt16.toInt32)), .val (.int (0 : Int32))]) rfl ?_
      show Steps p.tables e below (T50.setTop (mkF m 163 #[.val (.int p1), .val (.int p2), .val (.int p3), .val (.int p4), .val (.int jo), .val (.int jl), .val (.int (p4 &&& (7 : Int32))), .val (.int jr), .val (.int (jr.toInt16.toInt32)), .val (.ref b29), .val (.int (own_holds b29 (jr.toInt16.toInt32) (nar .short (jo.toInt16.toInt32)) (nar .short (jl.toInt16.toInt32)))), .val (.int (jr.toInt16.toInt32)), .val (.int (0 : Int32))] [])) _
      refine XS.iload X50.here hx rfl (hb hby at_163) rfl ?_
      show Steps p.tables e below (T50.setTop (mkF m 165 #[.val (.int p1), .val (.int p2), .val (.int p3), .val (.int p4), .val (.int jo), .val (.int jl), .val (.int (p4 &&& (7 : Int32))), .val (.int jr), .val (.int (jr.toInt16.toInt32)), .val (.ref b29), .val (.int (own_holds b29 (jr.toInt16.toInt32) (nar .short (jo.toInt16.toInt32)) (nar .short (jl.toInt16.toInt32)))), .val (.int (jr.toInt16.toInt32)), .val (.int (0 : Int32))] [(.int (own_holds b29 (jr.toInt16.toInt32) (nar .short (jo.toInt16.toInt32)) (nar .short (jl.toInt16.toInt32))))])) _
      refine XS.iload X50.here hx rfl (hb hby at_165) rfl ?_
      show Steps p.tables e below (T50.setTop (mkF m 167 #[.val (.int p1), .val (.int p2), .val (.int p3), .val (.int p4), .val (.int jo), .val (.int jl), .val (.int (p4 &&& (7 : Int32))), .val (.int jr), .val (.int (jr.toInt16.toInt32)), .val (.ref b29), .val (.int (own_holds b29 (jr.toInt16.toInt32) (nar .short (jo.toInt16.toInt32)) (nar .short (jl.toInt16.toInt32)))), .val (.int (jr.toInt16.toInt32)), .val (.int (0 : Int32))] [(.int (0 : Int32)), (.int (own_holds b29 (jr.toInt16.toInt32) (nar .short (jo.toInt16.toInt32)) (nar .short (jl.toInt16.toInt32))))])) _
      refine XS.icmpNo X50.here hx rfl (hb hby at_167) rfl (teq ((own_pin _ _ _ _ ho hl).trans (if_pos hc51))).2 ?_
      show Steps p.tables e below (T50.setTop (mkF m 170 #[.val (.int p1), .val (.int p2), .val (.int p3), .val (.int p4), .val (.int jo), .val (.int jl), .val (.int (p4 &&& (7 : Int32))), .val (.int jr), .val (.int (jr.toInt16.toInt32)), .val (.ref b29), .val (.int (own_holds b29 (jr.toInt16.toInt32) (nar .short (jo.toInt16.toInt32)) (nar .short (jl.toInt16.toInt32)))), .val (.int (jr.toInt16.toInt32)), .val (.int (0 : Int32))] [])) _
      refine XS.iconst X50.here hx rfl (hb hby at_170) ?_
      show Steps p.tables e below (T50.setTop (mkF m 171 #[.val (.int p1), .val (.int p2), .val (.int p3), .val (.int p4), .val (.int jo), .val (.int jl), .val (.int (p4 &&& (7 : Int32))), .val (.int jr), .val (.int (jr.toInt16.toInt32)), .val (.ref b29), .val (.int (own_holds b29 (jr.toInt16.toInt32) (nar .short (jo.toInt16.toInt32)) (nar .short (jl.toInt16.toInt32)))), .val (.int (jr.toInt16.toInt32)), .val (.int (0 : Int32))] [(.int (1 : Int32))])) _
      refine XS.goto X50.here hx rfl (pc0 := 171) (pc' := 175) rfl (hb hby at_171) (by decide) (by decide) ?_
      show Steps p.tables e below (T50.setTop (mkF m 175 #[.val (.int p1), .val (.int p2), .val (.int p3), .val (.int p4), .val (.int jo), .val (.int jl), .val (.int (p4 &&& (7 : Int32))), .val (.int jr), .val (.int (jr.toInt16.toInt32)), .val (.ref b29), .val (.int (own_holds b29 (jr.toInt16.toInt32) (nar .short (jo.toInt16.toInt32)) (nar .short (jl.toInt16.toInt32)))), .val (.int (jr.toInt16.toInt32)), .val (.int (0 : Int32))] [(.int (1 : Int32))])) _
      exact kt
    obtain ⟨fs, hr, hrun, hended, hRW⟩ := Stand.leaveW (s := s) (vm₁ := T36.vm) X50 hS36 (by rw [eq50]; exact hk48) (v := some (.int (1 : Int32))) (fun h => by rw [Bd.returns] at h; cases h)
    refine ⟨_, _, fin _ (pre53 _ ?_), hrun, hended, _, _, rfl, ?_, own_wideMono hRW (by decide) (by decide)⟩
    · exact retN X50 hx (t := .boolean) Bd.returns (by simp) (hb hby at_175) hr
    · show Q0 Z p1 p2 p3 p4 h0 n0 _ T50.heap _
      rw [eq50]
      exact ⟨rfl, N50⟩
  · have pre54 : own_Go p e below S0 (T50.setTop (mkF m 145 #[.val (.int p1), .val (.int p2), .val (.int p3), .val (.int p4), .val (.int jo), .val (.int jl), .val (.int (p4 &&& (7 : Int32))), .val (.int jr), .val (.int (jr.toInt16.toInt32)), .val (.ref b29), .val (.int (own_holds b29 (jr.toInt16.toInt32) (nar .short (jo.toInt16.toInt32)) (nar .short (jl.toInt16.toInt32)))), .val (.int (jr.toInt16.toInt32)), .unset] [(.int jl), (.int (jr.toInt16.toInt32)), (.int jo)])) := by
      intro t kt
      refine pre52 t ?_
      refine XS.icmpNo X50.here hx rfl (hb hby at_136) rfl (flt hc51).2.2.1 ?_
      show Steps p.tables e below (T50.setTop (mkF m 139 #[.val (.int p1), .val (.int p2), .val (.int p3), .val (.int p4), .val (.int jo), .val (.int jl), .val (.int (p4 &&& (7 : Int32))), .val (.int jr), .val (.int (jr.toInt16.toInt32)), .val (.ref b29), .val (.int (own_holds b29 (jr.toInt16.toInt32) (nar .short (jo.toInt16.toInt32)) (nar .short (jl.toInt16.toInt32)))), .val (.int (jr.toInt16.toInt32)), .unset] [])) _
      refine XS.iload X50.here hx rfl (hb hby at_139) rfl ?_
      show Steps p.tables e below (T50.setTop (mkF m 141 #[.val (.int p1), .val (.int p2), .val (.int p3), .val (.int p4), .val (.int jo), .val (.int jl), .val (.int (p4 &&& (7 : Int32))), .val (.int jr), .val (.int (jr.toInt16.toInt32)), .val (.ref b29), .val (.int (own_holds b29 (jr.toInt16.toInt32) (nar .short (jo.toInt16.toInt32)) (nar .short (jl.toInt16.toInt32)))), .val (.int (jr.toInt16.toInt32)), .unset] [(.int jo)])) _
      refine XS.iload X50.here hx rfl (hb hby at_141) rfl ?_
      show Steps p.tables e below (T50.setTop (mkF m 143 #[.val (.int p1), .val (.int p2), .val (.int p3), .val (.int p4), .val (.int jo), .val (.int jl), .val (.int (p4 &&& (7 : Int32))), .val (.int jr), .val (.int (jr.toInt16.toInt32)), .val (.ref b29), .val (.int (own_holds b29 (jr.toInt16.toInt32) (nar .short (jo.toInt16.toInt32)) (nar .short (jl.toInt16.toInt32)))), .val (.int (jr.toInt16.toInt32)), .unset] [(.int (jr.toInt16.toInt32)), (.int jo)])) _
      refine XS.iload X50.here hx rfl (hb hby at_143) rfl ?_
      show Steps p.tables e below (T50.setTop (mkF m 145 #[.val (.int p1), .val (.int p2), .val (.int p3), .val (.int p4), .val (.int jo), .val (.int jl), .val (.int (p4 &&& (7 : Int32))), .val (.int jr), .val (.int (jr.toInt16.toInt32)), .val (.ref b29), .val (.int (own_holds b29 (jr.toInt16.toInt32) (nar .short (jo.toInt16.toInt32)) (nar .short (jl.toInt16.toInt32)))), .val (.int (jr.toInt16.toInt32)), .unset] [(.int jl), (.int (jr.toInt16.toInt32)), (.int jo)])) _
      exact kt
    obtain ⟨_, _, ⟨T55, L55, k55, n55⟩, -, X55, ⟨Lc55, hQ55, l55, y55, z55⟩, st55⟩ := Jvm.LawKit.callS X50 hx (y := (⟨"java/lang/Math", "min", "(II)I"⟩ : MethodName)) hown (mvT hZ (hw _ (own_w 28 rfl))) (mvT hZ (hw _ (own_w 29 rfl))) (mvT hZ (hw _ (own_w 30 rfl))) (mvT hZ (hw _ (own_w 31 rfl))) (by decide) (backOf (W := 1) (rm4 l Z a0 hw [] (jr.toInt16.toInt32) jl T43.heap n0 zs47 ) hZ (hw _ (own_w 31 rfl)) (hw _ (own_w 30 rfl)) (by decide) (by decide)) (g := (mkF m 145 #[.val (.int p1), .val (.int p2), .val (.int p3), .val (.int p4), .val (.int jo), .val (.int jl), .val (.int (p4 &&& (7 : Int32))), .val (.int jr), .val (.int (jr.toInt16.toInt32)), .val (.ref b29), .val (.int (own_holds b29 (jr.toInt16.toInt32) (nar .short (jo.toInt16.toInt32)) (nar .short (jl.toInt16.toInt32)))), .val (.int (jr.toInt16.toInt32)), .unset] [(.int jl), (.int (jr.toInt16.toInt32)), (.int jo)])) rfl (by rw [hml]; rfl) (argsL := [(.int (jr.toInt16.toInt32)), (.int jl)]) (rest := [(.int jo)]) (lenOf pd_0 rfl) rfl (by show 2 * 0 + _ ≤ _; exact Nat.le_of_eq rfl) (hb hby at_145) (fun _ _ => ⟨rfl, eq50, (by decide : 3 + 0 ≤ _), (by decide : 11 + 0 ≤ _)⟩)
    dsimp only [Pt.U, Pt.locs, Pt.cells, Pt.slots] at X55 l55 y55 z55 st55 hQ55
    subst l55 y55 z55
    obtain ⟨rfl, Nq55, eq55⟩ := hQ55
    have N55 := Fr.app N50 Nq55
    have pre56 : own_Go p e below S0 (T55.setTop (mkF m 148 #[.val (.int p1), .val (.int p2), .val (.int p3), .val (.int p4), .val (.int jo), .val (.int jl), .val (.int (p4 &&& (7 : Int32))), .val (.int jr), .val (.int (jr.toInt16.toInt32)), .val (.ref b29), .val (.int (own_holds b29 (jr.toInt16.toInt32) (nar .short (jo.toInt16.toInt32)) (nar .short (jl.toInt16.toInt32)))), .val (.int (jr.toInt16.toInt32)), .unset] [(.int (own_min (jr.toInt16.toInt32) jl)), (.int jo)])) := by
      intro t kt
      refine pre54 t ?_
      refine st55 _ ?_
      show Steps p.tables e below (T55.setTop (mkF m 148 #[.val (.int p1), .val (.int p2), .val (.int p3), .val (.int p4), .val (.int jo), .val (.int jl), .val (.int (p4 &&& (7 : Int32))), .val (.int jr), .val (.int (jr.toInt16.toInt32)), .val (.ref b29), .val (.int (own_holds b29 (jr.toInt16.toInt32) (nar .short (jo.toInt16.toInt32)) (nar .short (jl.toInt16.toInt32)))), .val (.int (jr.toInt16.toInt32)), .unset] [(.int (own_min (jr.toInt16.toInt32) jl)), (.int jo)])) _
      exact kt
    obtain ⟨_, _, ⟨T57, L57, k57, n57⟩, -, X57, ⟨Lc57, hQ57, l57, y57, z57⟩, st57⟩ := Jvm.LawKit.callS X55 hx (y := (⟨"java/lang/Math", "max", "(II)I"⟩ : MethodName)) hown (mvT hZ (hw _ (own_w 32 rfl))) (mvT hZ (hw _ (own_w 33 rfl))) (mvT hZ (hw _ (own_w 30 rfl))) (mvT hZ (hw _ (own_w 34 rfl))) (by decide) (backOf (W := 0) (rm5 l Z a0 hw [] jo (own_min (jr.toInt16.toInt32) jl) T43.heap n0 zs47 ) hZ (hw _ (own_w 34 rfl)) (hw _ (own_w 30 rfl)) (by decide) (by decide)) (g := (mkF m 148 #[.val (.int p1), .val (.int p2), .val (.int p3), .val (.int p4), .val (.int jo), .val (.int jl), .val (.int (p4 &&& (7 : Int32))), .val (.int jr), .val (.int (jr.toInt16.toInt32)), .val (.ref b29), .val (.int (own_holds b29 (jr.toInt16.toInt32) (nar .short (jo.toInt16.toInt32)) (nar .short (jl.toInt16.toInt32)))), .val (.int (jr.toInt16.toInt32)), .unset] [(.int (own_min (jr.toInt16.toInt32) jl)), (.int jo)])) rfl (by rw [hml]; rfl) (argsL := [(.int jo), (.int (own_min (jr.toInt16.toInt32) jl))]) (rest := []) (lenOf pd_0 rfl) rfl (by show 2 * 0 + _ ≤ _; exact Nat.le_of_eq rfl) (hb hby at_148) (fun _ _ => ⟨rfl, eq55, (by decide : 3 + 0 ≤ _), (by decide : 11 + 0 ≤ _)⟩)
    dsimp only [Pt.U, Pt.locs, Pt.cells, Pt.slots] at X57 l57 y57 z57 st57 hQ57
    subst l57 y57 z57
    obtain ⟨rfl, Nq57, eq57⟩ := hQ57
    have N57 := Fr.app N55 Nq57
    have pre59 : own_Go p e below S0 (T57.setTop (mkF m 153 #[.val (.int p1), .val (.int p2), .val (.int p3), .val (.int p4), .val (.int jo), .val (.int jl), .val (.int (p4 &&& (7 : Int32))), .val (.int jr), .val (.int (jr.toInt16.toInt32)), .val (.ref b29), .val (.int (own_holds b29 (jr.toInt16.toInt32) (nar .short (jo.toInt16.toInt32)) (nar .short (jl.toInt16.toInt32)))), .val (.int (jr.toInt16.toInt32)), .unset] [(.int (jr.toInt16.toInt32)), (.int (own_max jo (own_min (jr.toInt16.toInt32) jl)))])) := by
      intro t kt
      refine pre56 t ?_
      refine st57 _ ?_
      show Steps p.tables e below (T57.setTop (mkF m 151 #[.val (.int p1), .val (.int p2), .val (.int p3), .val (.int p4), .val (.int jo), .val (.int jl), .val (.int (p4 &&& (7 : Int32))), .val (.int jr), .val (.int (jr.toInt16.toInt32)), .val (.ref b29), .val (.int (own_holds b29 (jr.toInt16.toInt32) (nar .short (jo.toInt16.toInt32)) (nar .short (jl.toInt16.toInt32)))), .val (.int (jr.toInt16.toInt32)), .unset] [(.int (own_max jo (own_min (jr.toInt16.toInt32) jl)))])) _
      refine XS.iload X57.here hx rfl (hb hby at_151) rfl ?_
      show Steps p.tables e below (T57.setTop (mkF m 153 #[.val (.int p1), .val (.int p2), .val (.int p3), .val (.int p4), .val (.int jo), .val (.int jl), .val (.int (p4 &&& (7 : Int32))), .val (.int jr), .val (.int (jr.toInt16.toInt32)), .val (.ref b29), .val (.int (own_holds b29 (jr.toInt16.toInt32) (nar .short (jo.toInt16.toInt32)) (nar .short (jl.toInt16.toInt32)))), .val (.int (jr.toInt16.toInt32)), .unset] [(.int (jr.toInt16.toInt32)), (.int (own_max jo (own_min (jr.toInt16.toInt32) jl)))])) _
      exact kt
    by_cases hc58 : (own_max jo (own_min (jr.toInt16.toInt32) jl)) = (jr.toInt16.toInt32)
    · have pre60 : own_Go p e below S0 (T57.setTop (mkF m 175 #[.val (.int p1), .val (.int p2), .val (.int p3), .val (.int p4), .val (.int jo), .val (.int jl), .val (.int (p4 &&& (7 : Int32))), .val (.int jr), .val (.int (jr.toInt16.toInt32)), .val (.ref b29), .val (.int (own_holds b29 (jr.toInt16.toInt32) (nar .short (jo.toInt16.toInt32)) (nar .short (jl.toInt16.toInt32)))), .val (.int (jr.toInt16.toInt32)), .val (.int (1 : Int32))] [(.int (1 : Int32))])) := by
        intro t kt
        refine pre59 t ?_
        refine XS.icmpNo X57.here hx rfl (hb hby at_153) rfl (teq hc58).2 ?_
        show Steps p.tables e below (T57.setTop (mkF m 156 #[.val (.int p1), .val (.int p2), .val (.int p3), .val (.int p4), .val (.int jo), .val (.int jl), .val (.int (p4 &&& (7 : Int32))), .val (.int jr), .val (.int (jr.toInt16.toInt32)), .val (.ref b29), .val (.int (own_holds b29 (jr.toInt16.toInt32) (nar .short (jo.toInt16.toInt32)) (nar .short (jl.toInt16.toInt32)))), .val (.int (jr.toInt16.toInt32)), .unset] [])) _
        refine XS.iconst X57.here hx rfl (hb hby at_156) ?_
        show Steps p.tables e below (T57.setTop (mkF m 157 #[.val (.int p1), .val (.int p2), .val (.int p3), .val (.int p4), .val (.int jo), .val (.int jl), .val (.int (p4 &&& (7 : Int32))), .val (.int jr), .val (.int (jr.toInt16.toInt32)), .val (.ref b29), .val (.int (own_holds b29 (jr.toInt16.toInt32) (nar .short (jo.toInt16.toInt32)) (nar .short (jl.toInt16.toInt32)))), .val (.int (jr.toInt16.toInt32)), .unset] [(.int (1 : Int32))])) _
        refine XS.goto X57.here hx rfl (pc0 := 157) (pc' := 161) rfl (hb hby at_157) (by decide) (by decide) ?_
        show Steps p.tables e below (T57.setTop (mkF m 161 #[.val (.int p1), .val (.int p2), .val (.int p3), .val (.int p4), .val (.int jo), .val (.int jl), .val (.int (p4 &&& (7 : Int32))), .val (.int jr), .val (.int (jr.toInt16.toInt32)), .val (.ref b29), .val (.int (own_holds b29 (jr.toInt16.toInt32) (nar .short (jo.toInt16.toInt32)) (nar .short (jl.toInt16.toInt32)))), .val (.int (jr.toInt16.toInt32)), .unset] [(.int (1 : Int32))])) _
        refine XS.istore X57.here hx rfl (hb hby at_161) rfl (l' := #[.val (.int p1), .val (.int p2), .val (.int p3), .val (.int p4), .val (.int jo), .val (.int jl), .val (.int (p4 &&& (7 : Int32))), .val (.int jr), .val (.int (jr.toInt16.toInt32)), .val (.ref b29), .val (.int (own_holds b29 (jr.toInt16.toInt32) (nar .short (jo.toInt16.toInt32)) (nar .short (jl.toInt16.toInt32)))), .val (.int (jr.toInt16.toInt32)), .val (.int (1 : Int32))]) rfl ?_
        show Steps p.tables e below (T57.setTop (mkF m 163 #[.val (.int p1), .val (.int p2), .val (.int p3), .val (.int p4), .val (.int jo), .val (.int jl), .val (.int (p4 &&& (7 : Int32))), .val (.int jr), .val (.int (jr.toInt16.toInt32)), .val (.ref b29), .val (.int (own_holds b29 (jr.toInt16.toInt32) (nar .short (jo.toInt16.toInt32)) (nar .short (jl.toInt16.toInt32)))), .val (.int (jr.toInt16.toInt32)), .val (.int (1 : Int32))] [])) _
        refine XS.iload X57.here hx rfl (hb hby at_163) rfl ?_
        show Steps p.tables e below (T57.setTop (mkF m 165 #[.val (.int p1), .val (.int p2), .val (.int p3), .val (.int p4), .val (.int jo), .val (.int jl), .val (.int (p4 &&& (7 : Int32))), .val (.int jr), .val (.int (jr.toInt16.toInt32)), .val (.ref b29), .val (.int (own_holds b29 (jr.toInt16.toInt32) (nar .short (jo.toInt16.toInt32)) (nar .short (jl.toInt16.toInt32)))), .val (.int (jr.toInt16.toInt32)), .val (.int (1 : Int32))] [(.int (own_holds b29 (jr.toInt16.toInt32) (nar .short (jo.toInt16.toInt32)) (nar .short (jl.toInt16.toInt32))))])) _
        refine XS.iload X57.here hx rfl (hb hby at_165) rfl ?_
        show Steps p.tables e below (T57.setTop (mkF m 167 #[.val (.int p1), .val (.int p2), .val (.int p3), .val (.int p4), .val (.int jo), .val (.int jl), .val (.int (p4 &&& (7 : Int32))), .val (.int jr), .val (.int (jr.toInt16.toInt32)), .val (.ref b29), .val (.int (own_holds b29 (jr.toInt16.toInt32) (nar .short (jo.toInt16.toInt32)) (nar .short (jl.toInt16.toInt32)))), .val (.int (jr.toInt16.toInt32)), .val (.int (1 : Int32))] [(.int (1 : Int32)), (.int (own_holds b29 (jr.toInt16.toInt32) (nar .short (jo.toInt16.toInt32)) (nar .short (jl.toInt16.toInt32))))])) _
        refine XS.icmpNo X57.here hx rfl (hb hby at_167) rfl (teq ((own_pin _ _ _ _ ho hl).trans ((if_neg hc51).trans (if_pos hc58)))).2 ?_
        show Steps p.tables e below (T57.setTop (mkF m 170 #[.val (.int p1), .val (.int p2), .val (.int p3), .val (.int p4), .val (.int jo), .val (.int jl), .val (.int (p4 &&& (7 : Int32))), .val (.int jr), .val (.int (jr.toInt16.toInt32)), .val (.ref b29), .val (.int (own_holds b29 (jr.toInt16.toInt32) (nar .short (jo.toInt16.toInt32)) (nar .short (jl.toInt16.toInt32)))), .val (.int (jr.toInt16.toInt32)), .val (.int (1 : Int32))] [])) _
        refine XS.iconst X57.here hx rfl (hb hby at_170) ?_
        show Steps p.tables e below (T57.setTop (mkF m 171 #[.val (.int p1), .val (.int p2), .val (.int p3), .val (.int p4), .val (.int jo), .val (.int jl), .val (.int (p4 &&& (7 : Int32))), .val (.int jr), .val (.int (jr.toInt16.toInt32)), .val (.ref b29), .val (.int (own_holds b29 (jr.toInt16.toInt32) (nar .short (jo.toInt16.toInt32)) (nar .short (jl.toInt16.toInt32)))), .val (.int (jr.toInt16.toInt32)), .val (.int (1 : Int32))] [(.int (1 : Int32))])) _
        refine XS.goto X57.here hx rfl (pc0 := 171) (pc' := 175) rfl (hb hby at_171) (by decide) (by decide) ?_
        show Steps p.tables e below (T57.setTop (mkF m 175 #[.val (.int p1), .val (.int p2), .val (.int p3), .val (.int p4), .val (.int jo), .val (.int jl), .val (.int (p4 &&& (7 : Int32))), .val (.int jr), .val (.int (jr.toInt16.toInt32)), .val (.ref b29), .val (.int (own_holds b29 (jr.toInt16.toInt32) (nar .short (jo.toInt16.toInt32)) (nar .short (jl.toInt16.toInt32)))), .val (.int (jr.toInt16.toInt32)), .val (.int (1 : Int32))] [(.int (1 : Int32))])) _
        exact kt
      obtain ⟨fs, hr, hrun, hended, hRW⟩ := Stand.leaveW (s := s) (vm₁ := T36.vm) X57 hS36 (by rw [eq57]; exact hk48) (v := some (.int (1 : Int32))) (fun h => by rw [Bd.returns] at h; cases h)
      refine ⟨_, _, fin _ (pre60 _ ?_), hrun, hended, _, _, rfl, ?_, own_wideMono hRW (by decide) (by decide)⟩
      · exact retN X57 hx (t := .boolean) Bd.returns (by simp) (hb hby at_175) hr
      · show Q0 Z p1 p2 p3 p4 h0 n0 _ T57.heap _
        rw [eq57]
        exact ⟨rfl, N57⟩
    · have pre61 : own_Go p e below S0 (T57.setTop (mkF m 175 #[.val (.int p1), .val (.int p2), .val (.int p3), .val (.int p4), .val (.int jo), .val (.int jl), .val (.int (p4 &&& (7 : Int32))), .val (.int jr), .val (.int (jr.toInt16.toInt32)), .val (.ref b29), .val (.int (own_holds b29 (jr.toInt16.toInt32) (nar .short (jo.toInt16.toInt32)) (nar .short (jl.toInt16.toInt32)))), .val (.int (jr.toInt16.toInt32)), .val (.int (0 : Int32))] [(.int (1 : Int32))])) := by
        intro t kt
        refine pre59 t ?_
        refine XS.icmpYes X57.here hx rfl (pc0 := 153) (pc' := 160) rfl (hb hby at_153) rfl (feq hc58).2 (by decide) (by decide) ?_
        show Steps p.tables e below (T57.setTop (mkF m 160 #[.val (.int p1), .val (.int p2), .val (.int p3), .val (.int p4), .val (.int jo), .val (.int jl), .val (.int (p4 &&& (7 : Int32))), .val (.int jr), .val (.int (jr.toInt16.toInt32)), .val (.ref b29), .val (.int (own_holds b29 (jr.toInt16.toInt32) (nar .short (jo.toInt16.toInt32)) (nar .short (jl.toInt16.toInt32)))), .val (.int (jr.toInt16.toInt32)), .unset] [])) _
        refine XS.iconst X57.here hx rfl (hb hby at_160) ?_
        show Steps p.tables e below (T57.setTop (mkF m 161 #[.val (.int p1), .val (.int p2), .val (.int p3), .val (.int p4), .val (.int jo), .val (.int jl), .val (.int (p4 &&& (7 : Int32))), .val (.int jr), .val (.int (jr.toInt16.toInt32)), .val (.ref b29), .val (.int (own_holds b29 (jr.toInt16.toInt32) (nar .short (jo.toInt16.toInt32)) (nar .short (jl.toInt16.toInt32)))), .val (.int (jr.toInt16.toInt32)), .unset] [(.int (0 : Int32))])) _
        refine XS.istore X57.here hx rfl (hb hby at_161) rfl (l' := #[.val (.int p1), .val (.int p2), .val (.int p3), .val (.int p4), .val (.int jo), .val (.int jl), .val (.int (p4 &&& (7 : Int32))), .val (.int jr), .val (.int (jr.toInt16.toInt32)), .val (.ref b29), .val (.int (own_holds b29 (jr.toInt16.toInt32) (nar .short (jo.toInt16.toInt32)) (nar .short (jl.toInt16.toInt32)))), .val (.int (jr.toInt16.toInt32)), .val (.int (0 : Int32))]) rfl ?_
        show Steps p.tables e below (T57.setTop (mkF m 163 #[.val (.int p1), .val (.int p2), .val (.int p3), .val (.int p4), .val (.int jo), .val (.int jl), .val (.int (p4 &&& (7 : Int32))), .val (.int jr), .val (.int (jr.toInt16.toInt32)), .val (.ref b29), .val (.int (own_holds b29 (jr.toInt16.toInt32) (nar .short (jo.toInt16.toInt32)) (nar .short (jl.toInt16.toInt32)))), .val (.int (jr.toInt16.toInt32)), .val (.int (0 : Int32))] [])) _
        refine XS.iload X57.here hx rfl (hb hby at_163) rfl ?_
        show Steps p.tables e below (T57.setTop (mkF m 165 #[.val (.int p1), .val (.int p2), .val (.int p3), .val (.int p4), .val (.int jo), .val (.int jl), .val (.int (p4 &&& (7 : Int32))), .val (.int jr), .val (.int (jr.toInt16.toInt32)), .val (.ref b29), .val (.int (own_holds b29 (jr.toInt16.toInt32) (nar .short (jo.toInt16.toInt32)) (nar .short (jl.toInt16.toInt32)))), .val (.int (jr.toInt16.toInt32)), .val (.int (0 : Int32))] [(.int (own_holds b29 (jr.toInt16.toInt32) (nar .short (jo.toInt16.toInt32)) (nar .short (jl.toInt16.toInt32))))])) _
        refine XS.iload X57.here hx rfl (hb hby at_165) rfl ?_
        show Steps p.tables e below (T57.setTop (mkF m 167 #[.val (.int p1), .val (.int p2), .val (.int p3), .val (.int p4), .val (.int jo), .val (.int jl), .val (.int (p4 &&& (7 : Int32))), .val (.int jr), .val (.int (jr.toInt16.toInt32)), .val (.ref b29), .val (.int (own_holds b29 (jr.toInt16.toInt32) (nar .short (jo.toInt16.toInt32)) (nar .short (jl.toInt16.toInt32)))), .val (.int (jr.toInt16.toInt32)), .val (.int (0 : Int32))] [(.int (0 : Int32)), (.int (own_holds b29 (jr.toInt16.toInt32) (nar .short (jo.toInt16.toInt32)) (nar .short (jl.toInt16.toInt32))))])) _
        refine XS.icmpNo X57.here hx rfl (hb hby at_167) rfl (teq ((own_pin _ _ _ _ ho hl).trans ((if_neg hc51).trans (if_neg hc58)))).2 ?_
        show Steps p.tables e below (T57.setTop (mkF m 170 #[.val (.int p1), .val (.int p2), .val (.int p3), .val (.int p4), .val (.int jo), .val (.int jl), .val (.int (p4 &&& (7 : Int32))), .val (.int jr), .val (.int (jr.toInt16.toInt32)), .val (.ref b29), .val (.int (own_holds b29 (jr.toInt16.toInt32) (nar .short (jo.toInt16.toInt32)) (nar .short (jl.toInt16.toInt32)))), .val (.int (jr.toInt16.toInt32)), .val (.int (0 : Int32))] [])) _
        refine XS.iconst X57.here hx rfl (hb hby at_170) ?_
        show Steps p.tables e below (T57.setTop (mkF m 171 #[.val (.int p1), .val (.int p2), .val (.int p3), .val (.int p4), .val (.int jo), .val (.int jl), .val (.int (p4 &&& (7 : Int32))), .val (.int jr), .val (.int (jr.toInt16.toInt32)), .val (.ref b29), .val (.int (own_holds b29 (jr.toInt16.toInt32) (nar .short (jo.toInt16.toInt32)) (nar .short (jl.toInt16.toInt32)))), .val (.int (jr.toInt16.toInt32)), .val (.int (0 : Int32))] [(.int (1 : Int32))])) _
        refine XS.goto X57.here hx rfl (pc0 := 171) (pc' := 175) rfl (hb hby at_171) (by decide) (by decide) ?_
        show Steps p.tables e below (T57.setTop (mkF m 175 #[.val (.int p1), .val (.int p2), .val (.int p3), .val (.int p4), .val (.int jo), .val (.int jl), .val (.int (p4 &&& (7 : Int32))), .val (.int jr), .val (.int (jr.toInt16.toInt32)), .val (.ref b29), .val (.int (own_holds b29 (jr.toInt16.toInt32) (nar .short (jo.toInt16.toInt32)) (nar .short (jl.toInt16.toInt32)))), .val (.int (jr.toInt16.toInt32)), .val (.int (0 : Int32))] [(.int (1 : Int32))])) _
        exact kt
      obtain ⟨fs, hr, hrun, hended, hRW⟩ := Stand.leaveW (s := s) (vm₁ := T36.vm) X57 hS36 (by rw [eq57]; exact hk48) (v := some (.int (1 : Int32))) (fun h => by rw [Bd.returns] at h; cases h)
      refine ⟨_, _, fin _ (pre61 _ ?_), hrun, hended, _, _, rfl, ?_, own_wideMono hRW (by decide) (by decide)⟩
      · exact retN X57 hx (t := .boolean) Bd.returns (by simp) (hb hby at_175) hr
      · show Q0 Z p1 p2 p3 p4 h0 n0 _ T57.heap _
        rw [eq57]
        exact ⟨rfl, N57⟩

set_option maxRecDepth 65536 in
set_option maxHeartbeats 40000000 in
theorem comes_1 {Post : Tables → Env → Array Value → State → Outcome → State → Prop} (hpost : ∀ tb e args s v u, (limb_1_1.after args s (.returned v) u = true ∧ limb_1_2.after args s (.returned v) u = true ∧ True) → ReturnedEndW s (.returned v) u (Jvm.fieldLocs frame_1_writes args s ++ Jvm.arrayLocs frame_1_arrays args s ++ Jvm.staticLocs frame_1_statics s) 16 1152 → Post tb e args s (.returned v) u) :
    ArmFor flags0 classFile x code maxLocals ret World_1 tables_1 room_1 Calls_1 rest_1 Pre_1 Post := by
  intro l hfl _ _ p e ha hc hk s m args below hf hA hF happ hP
  obtain ⟨hcalls, hrest, hpre⟩ := hP
  obtain ⟨-, -, -, hnamed, -, -, -, hat⟩ := (Spec.applies_iff hf).mp happ
  obtain ⟨hg, hn⟩ := and_e (Cond.before_iff.mp (show (Jvm.Cond.and given_1 narrow_1).before args s = true from hpre))
  obtain ⟨hcount, hg0⟩ := and_e hg
  obtain ⟨ga0, hg1⟩ := and_e hg0
  obtain ⟨ga1, hg2⟩ := and_e hg1
  obtain ⟨ga2, hg3⟩ := and_e hg2
  have ga3 := hg3
  obtain ⟨w0, w1, w2, w3, rfl⟩ : ∃ w0 w1 w2 w3 : Value, args = #[w0, w1, w2, w3] := by
    have hs : args.size = 4 := by simpa [Cond.value, given_1] using hcount
    obtain ⟨L⟩ := args
    match L, hs with
    | [w0, w1, w2, w3], _ => exact ⟨w0, w1, w2, w3, rfl⟩
  have hw := fun d (hd : d ∈ tables_1) => atoms_spec (ws := Jvm.Cond.code x code maxLocals ret :: tables_1) hat d (List.mem_cons_of_mem _ hd)
  have hfit : Fit s := fun {y c} hc i hi => by
    obtain ⟨ha, rfl⟩ := Array.getElem?_eq_some_iff.mp hc
    have q := List.all_eq_true.mp ((Array.all_eq_true_iff_forall_mem.mp hF) _ (Array.getElem_mem ha)) i (List.mem_range.mpr hi)
    simpa [Array.getElem?_eq_getElem hi] using q
  obtain ⟨i0, ei0⟩ := is_v ga0
  obtain rfl : w0 = (.int i0) := Option.some.inj ei0
  obtain ⟨i1, ei1⟩ := is_v ga1
  obtain rfl : w1 = (.int i1) := Option.some.inj ei1
  obtain ⟨i2, ei2⟩ := is_v ga2
  obtain rfl : w2 = (.int i2) := Option.some.inj ei2
  obtain ⟨i3, ei3⟩ := is_v ga3
  obtain rfl : w3 = (.int i3) := Option.some.inj ei3
  obtain ⟨n, o, h1, h2, h3, _, L, rfl, ⟨rfl, N⟩, hq⟩ := rm0 l s _ hw tables_1 i0 i1 i2 i3 s.heap s.heap.size (Nat.le_refl _)  p e ha hc hk s m _ below hf ((Spec.applies_iff_loose hf).mp happ).1 ⟨rfl, State.Warmed39.refl s, rfl⟩ trivial
  refine ⟨n, _, h1, h2, h3, hpost _ _ _ _ _ _ ⟨Cond.after_iff.mpr rfl, Cond.after_iff.mpr (eq_i res_at (Term.int_eval (1)) rfl), trivial⟩ ⟨hq.1, hq.2.1, hq.2.2.1, (hq.2.2.2.sift fun y hy => Or.inr (N y hy)).mono (by decide) (by decide)⟩⟩
theorem main_1_1 : Claimed_1_1 := comes_1 fun _ _ _ _ _ _ h hF => ⟨h.1, hF⟩
theorem main_1_2 : Claimed_1_2 := comes_1 fun _ _ _ _ _ _ h hF => ⟨h.2.1, hF⟩

end Jvm.Pilot.@@N@@
namespace Jvm.Pilot.@@N@@
open Jvm Jvm.ClassFile Sem Op Lib Jvm.Free Jvm.Stand Jvm.Pilot.@@N@@.Jvm.D
/-! MADE BY PROGRAM (witnessworld.py) out of the Statement's table words and the real class files: 15 classes; the members and pool entries that the words name. The judged class is class 1, her method 1. -/
namespace start1
open Jvm.ClassFile
def u (s : String) : CpInfo := .utf8 (stringToUtf16 s)
/-- a pool by its gaps: so many unusable entries, then the entry; so many at the end -/
def gap : Nat → List CpInfo → List CpInfo
  | 0, r => r
  | n + 1, r => .unusable :: gap n r
def poolList (es : List (Nat × CpInfo)) (last : Nat) : List CpInfo := es.foldr (fun e r => gap e.1 (e.2 :: r)) (gap last [])
def pool (es : List (Nat × CpInfo)) (last : Nat) : Array CpInfo := ⟨poolList es last⟩
def fileOf (pool : Array CpInfo) (this : Nat) (attrs : Array Attribute := #[]) (ms : Array MethodInfo := #[]) (fl : Nat := 33) (sup : Nat := 0) (ifs : Array Nat := #[]) (fds : Array FieldInfo := #[]) : ClassFile where
  minorVersion := 0
  majorVersion := 65
  constantPool := pool
  accessFlags := fl
  thisClass := this
  superClass := sup
  interfaces := ifs
  fields := fds
  methods := ms
  attributes := attrs
def plain (name : String) (sup : Option ClassId) : Class where
  name := name
  kind := .ordinary
  loader := none
  accessFlags := 33
  super := sup
  interfaces := #[]
  cf := none
  fields := #[]
  methods := #[]
  instanceTypes := #[]
  staticTypes := #[]
  resolved := #[]
  callSites := []
  init := .initialized
  statics := none
  mirror := none

def pool0 : Array CpInfo := pool [(5, u "<init>"), (0, u "()V"), (1, .class_ 10), (1, u "java/lang/Object")] 113

def k0c0 : Code := { maxStack := 0, maxLocals := 1, code := object_method_1_code, exceptionTable := #[], attributes := #[] }
def k0m0 : Method := { name := "<init>", desc := "()V", sig := { parameters := [], returnType := none }, accessFlags := 1, code := some k0c0 }
/-- java/lang/Object -/
def k0 : Class := { plain "java/lang/Object" none with
  accessFlags := 33
  interfaces := #[]
  cf := some (fileOf pool0 8 #[] #[{ accessFlags := 1, nameIndex := 5, descriptorIndex := 6, attributes := #[] }] 33 0 #[] #[])
  fields := #[]
  methods := #[k0m0]
  instanceTypes := #[]
  staticTypes := #[]
  resolved := Array.replicate 124 none
  statics := none }

def pool1 : Array CpInfo := pool [(2, .class_ 4), (1, u "java/lang/Object"), (0, u "<init>"), (0, u "()V"), (0, .methodref 8 9), (0, .class_ 10), (0, .nameAndType 11 12), (0, u "java/lang/Math"), (0, u "min"), (0, u "(II)I"), (0, .methodref 8 14), (0, .nameAndType 15 12), (0, u "max"), (0, .class_ 17), (0, u "com/example/eurybates/eurybates/protocol/VersionRange"), (0, .string 19), (0, u "m"), (0, .methodref 16 21), (0, .nameAndType 5 22), (0, u "(Ljava/lang/String;II)V"), (0, .methodref 16 24), (0, .nameAndType 25 26), (0, u "holds"), (0, u "(S)Z"), (0, .class_ 28), (0, u "com/example/eurybates/eurybates/protocol/VersionRangeHoldsPinLaw"), (2, u "law"), (0, u "(IIII)Z")] 3

def k1m0 : Method := { name := "<init>", desc := "()V", sig := { parameters := [], returnType := none }, accessFlags := 1, code := none }
def k1c1 : Code := { maxStack := 5, maxLocals := 13, code := code, exceptionTable := #[], attributes := #[] }
def k1m1 : Method := { name := "law", desc := "(IIII)Z", sig := { parameters := [.int, .int, .int, .int], returnType := some .boolean }, accessFlags := 9, code := some k1c1 }
/-- com/example/eurybates/eurybates/protocol/VersionRangeHoldsPinLaw -/
def k1 : Class := { plain "com/example/eurybates/eurybates/protocol/VersionRangeHoldsPinLaw" (some 0) with
  accessFlags := 49
  interfaces := #[]
  cf := some (fileOf pool1 27 #[] #[{ accessFlags := 1, nameIndex := 5, descriptorIndex := 6, attributes := #[] }, { accessFlags := 9, nameIndex := 31, descriptorIndex := 32, attributes := #[] }] 49 2 #[] #[])
  fields := #[]
  methods := #[k1m0, k1m1]
  instanceTypes := #[]
  staticTypes := #[]
  resolved := Array.replicate 36 none
  statics := none }

def pool2 : Array CpInfo := pool [(8, .class_ 10), (1, u "com/example/eurybates/eurybates/protocol/VersionRange"), (0, u "<init>"), (0, u "(Ljava/lang/String;II)V"), (0, .methodref 14 15), (0, .class_ 16), (0, .nameAndType 11 17), (0, u "java/lang/Object"), (0, u "()V"), (0, .fieldref 8 19), (0, .nameAndType 20 21), (0, u "message"), (0, u "Ljava/lang/String;"), (0, .fieldref 8 23), (0, .nameAndType 24 25), (0, u "oldest"), (0, u "S"), (0, .fieldref 8 27), (0, .nameAndType 28 25), (0, u "latest"), (2, u "holds"), (0, u "(S)Z")] 53

def k2c0 : Code := { maxStack := 2, maxLocals := 4, code := prog_104_method_2_code, exceptionTable := #[], attributes := #[] }
def k2m0 : Method := { name := "<init>", desc := "(Ljava/lang/String;II)V", sig := { parameters := [(.object "java/lang/String"), .int, .int], returnType := none }, accessFlags := 0, code := some k2c0 }
def k2c1 : Code := { maxStack := 2, maxLocals := 2, code := prog_104_method_3_code, exceptionTable := #[], attributes := #[] }
def k2m1 : Method := { name := "holds", desc := "(S)Z", sig := { parameters := [.short], returnType := some .boolean }, accessFlags := 0, code := some k2c1 }
/-- com/example/eurybates/eurybates/protocol/VersionRange -/
def k2 : Class := { plain "com/example/eurybates/eurybates/protocol/VersionRange" (some 0) with
  accessFlags := 48
  interfaces := #[]
  cf := some (fileOf pool2 8 #[] #[{ accessFlags := 0, nameIndex := 11, descriptorIndex := 12, attributes := #[] }, { accessFlags := 0, nameIndex := 31, descriptorIndex := 32, attributes := #[] }] 48 14 #[] #[{ accessFlags := 18, nameIndex := 20, descriptorIndex := 21, attributes := #[] }, { accessFlags := 18, nameIndex := 24, descriptorIndex := 25, attributes := #[] }, { accessFlags := 18, nameIndex := 28, descriptorIndex := 25, attributes := #[] }])
  fields := #[{ name := "message", type := (.object "java/lang/String"), accessFlags := 18, slot := 0, constantValue := 0 }, { name := "oldest", type := .short, accessFlags := 18, slot := 1, constantValue := 0 }, { name := "latest", type := .short, accessFlags := 18, slot := 2, constantValue := 0 }]
  methods := #[k2m0, k2m1]
  instanceTypes := #[(.object "java/lang/String"), .short, .short]
  staticTypes := #[]
  resolved := Array.replicate 86 none
  statics := none }

def pool3 : Array CpInfo := pool [(1, .class_ 2), (0, u "java/io/Serializable"), (0, .class_ 4), (0, u "java/lang/Object")] 2

/-- java/io/Serializable -/
def k3 : Class := { plain "java/io/Serializable" (some 0) with
  accessFlags := 1537
  interfaces := #[]
  cf := some (fileOf pool3 1 #[] #[] 1537 3 #[] #[])
  fields := #[]
  methods := #[]
  instanceTypes := #[]
  staticTypes := #[]
  resolved := Array.replicate 7 none
  statics := none }

def pool4 : Array CpInfo := pool [(1, .class_ 2), (0, u "java/lang/Comparable"), (0, .class_ 4), (0, u "java/lang/Object")] 7

/-- java/lang/Comparable -/
def k4 : Class := { plain "java/lang/Comparable" (some 0) with
  accessFlags := 1537
  interfaces := #[]
  cf := some (fileOf pool4 1 #[] #[] 1537 3 #[] #[])
  fields := #[]
  methods := #[]
  instanceTypes := #[]
  staticTypes := #[]
  resolved := Array.replicate 12 none
  statics := none }

def pool5 : Array CpInfo := pool [(2, .class_ 4), (1, u "java/lang/CharSequence"), (42, .class_ 48), (0, u "java/lang/CharSequence$1CodePointIterator"), (10, .class_ 60), (0, u "java/lang/CharSequence$1CharIterator"), (5, .class_ 67), (0, u "java/lang/Object")] 63

/-- java/lang/CharSequence -/
def k5 : Class := { plain "java/lang/CharSequence" (some 0) with
  accessFlags := 1537
  interfaces := #[]
  cf := some (fileOf pool5 2 #[.nestMembers #[47, 59]] #[] 1537 66 #[] #[])
  fields := #[]
  methods := #[]
  instanceTypes := #[]
  staticTypes := #[]
  resolved := Array.replicate 131 none
  statics := none }

def pool6 : Array CpInfo := pool [(1, .class_ 2), (0, u "java/lang/constant/Constable"), (0, .class_ 4), (0, u "java/lang/Object")] 6

/-- java/lang/constant/Constable -/
def k6 : Class := { plain "java/lang/constant/Constable" (some 0) with
  accessFlags := 1537
  interfaces := #[]
  cf := some (fileOf pool6 1 #[] #[] 1537 3 #[] #[])
  fields := #[]
  methods := #[]
  instanceTypes := #[]
  staticTypes := #[]
  resolved := Array.replicate 11 none
  statics := none }

def pool7 : Array CpInfo := pool [(1, .class_ 2), (0, u "java/lang/constant/ConstantDesc"), (0, .class_ 4), (0, u "java/lang/Object")] 32

/-- java/lang/constant/ConstantDesc -/
def k7 : Class := { plain "java/lang/constant/ConstantDesc" (some 0) with
  accessFlags := 1537
  interfaces := #[]
  cf := some (fileOf pool7 1 #[] #[] 1537 3 #[] #[])
  fields := #[]
  methods := #[]
  instanceTypes := #[]
  staticTypes := #[]
  resolved := Array.replicate 37 none
  statics := none }

def pool8 : Array CpInfo := pool [(2, .class_ 4), (1, u "java/lang/Object"), (0, u "<init>"), (0, u "()V"), (3, .class_ 12), (1, u "java/lang/String"), (0, u "value"), (0, u "[B"), (2, u "coder"), (0, u "B"), (2, u "hash"), (0, u "I"), (2, u "hashIsZero"), (0, u "Z"), (13, u "COMPACT_STRINGS"), (534, .class_ 576), (0, u "java/lang/CharSequence"), (22, u "CASE_INSENSITIVE_ORDER"), (0, u "Ljava/util/Comparator;"), (500, u "serialPersistentFields"), (0, u "[Ljava/io/ObjectStreamField;"), (0, .class_ 1104), (0, u "java/lang/String$CaseInsensitiveComparator"), (1, .class_ 1107), (0, u "java/io/Serializable"), (0, .class_ 1109), (0, u "java/lang/Comparable"), (0, .class_ 1111), (0, u "java/lang/constant/Constable"), (0, .class_ 1113), (0, u "java/lang/constant/ConstantDesc"), (2, u "serialVersionUID"), (0, u "J"), (3, u "REPL"), (0, u "C"), (2, u "LATIN1"), (1, u "UTF16")] 323

def k8m0 : Method := { name := "<init>", desc := "()V", sig := { parameters := [], returnType := none }, accessFlags := 1, code := none }
/-- java/lang/String -/
def k8 : Class := { plain "java/lang/String" (some 0) with
  accessFlags := 49
  interfaces := #[3, 4, 5, 6, 7]
  cf := some (fileOf pool8 10 #[.nestMembers #[1103]] #[{ accessFlags := 1, nameIndex := 5, descriptorIndex := 6, attributes := #[] }] 49 2 #[1106, 1108, 575, 1110, 1112] #[{ accessFlags := 18, nameIndex := 13, descriptorIndex := 14, attributes := #[] }, { accessFlags := 18, nameIndex := 17, descriptorIndex := 18, attributes := #[] }, { accessFlags := 2, nameIndex := 21, descriptorIndex := 22, attributes := #[] }, { accessFlags := 2, nameIndex := 25, descriptorIndex := 26, attributes := #[] }, { accessFlags := 26, nameIndex := 1116, descriptorIndex := 1117, attributes := #[] }, { accessFlags := 24, nameIndex := 40, descriptorIndex := 26, attributes := #[] }, { accessFlags := 26, nameIndex := 1101, descriptorIndex := 1102, attributes := #[] }, { accessFlags := 26, nameIndex := 1121, descriptorIndex := 1122, attributes := #[] }, { accessFlags := 25, nameIndex := 599, descriptorIndex := 600, attributes := #[] }, { accessFlags := 24, nameIndex := 1125, descriptorIndex := 18, attributes := #[] }, { accessFlags := 24, nameIndex := 1127, descriptorIndex := 18, attributes := #[] }])
  fields := #[{ name := "value", type := (.array .byte), accessFlags := 18, slot := 0, constantValue := 0 }, { name := "coder", type := .byte, accessFlags := 18, slot := 1, constantValue := 0 }, { name := "hash", type := .int, accessFlags := 2, slot := 2, constantValue := 0 }, { name := "hashIsZero", type := .boolean, accessFlags := 2, slot := 3, constantValue := 0 }, { name := "serialVersionUID", type := .long, accessFlags := 26, slot := 0, constantValue := 0 }, { name := "COMPACT_STRINGS", type := .boolean, accessFlags := 24, slot := 1, constantValue := 0 }, { name := "serialPersistentFields", type := (.array (.object "java/io/ObjectStreamField")), accessFlags := 26, slot := 2, constantValue := 0 }, { name := "REPL", type := .char, accessFlags := 26, slot := 3, constantValue := 0 }, { name := "CASE_INSENSITIVE_ORDER", type := (.object "java/util/Comparator"), accessFlags := 25, slot := 4, constantValue := 0 }, { name := "LATIN1", type := .byte, accessFlags := 24, slot := 5, constantValue := 0 }, { name := "UTF16", type := .byte, accessFlags := 24, slot := 6, constantValue := 0 }]
  methods := #[k8m0]
  instanceTypes := #[(.array .byte), .byte, .int, .boolean]
  staticTypes := #[.long, .boolean, (.array (.object "java/io/ObjectStreamField")), .char, (.object "java/util/Comparator"), .byte, .byte]
  resolved := Array.replicate 1451 none
  statics := none }

def pool9 : Array CpInfo := pool [(1, .class_ 2), (0, u "java/lang/Math"), (1, .class_ 6), (1, u "java/lang/Object"), (0, u "<init>"), (0, u "()V"), (89, .class_ 100), (1, u "java/lang/Math$RandomNumberGeneratorHolder"), (71, u "negativeZeroFloatBits"), (0, u "J"), (2, u "negativeZeroDoubleBits"), (21, u "max"), (2, u "min"), (43, u "$assertionsDisabled"), (0, u "Z"), (88, u "(II)I"), (2, u "twoToTheDoubleScaleDown"), (0, u "D"), (4, u "twoToTheDoubleScaleUp"), (9, u "E"), (3, u "PI"), (2, u "TAU"), (2, u "DEGREES_TO_RADIANS"), (0, u "RADIANS_TO_DEGREES")] 94

def k9m0 : Method := { name := "<init>", desc := "()V", sig := { parameters := [], returnType := none }, accessFlags := 2, code := none }
def k9c1 : Code := { maxStack := 2, maxLocals := 2, code := jdk_29_method_65_code, exceptionTable := #[], attributes := #[] }
def k9m1 : Method := { name := "max", desc := "(II)I", sig := { parameters := [.int, .int], returnType := some .int }, accessFlags := 9, code := some k9c1 }
def k9c2 : Code := { maxStack := 2, maxLocals := 2, code := jdk_29_method_69_code, exceptionTable := #[], attributes := #[] }
def k9m2 : Method := { name := "min", desc := "(II)I", sig := { parameters := [.int, .int], returnType := some .int }, accessFlags := 9, code := some k9c2 }
/-- java/lang/Math -/
def k9 : Class := { plain "java/lang/Math" (some 0) with
  accessFlags := 49
  interfaces := #[]
  cf := some (fileOf pool9 1 #[.nestMembers #[98]] #[{ accessFlags := 2, nameIndex := 7, descriptorIndex := 8, attributes := #[] }, { accessFlags := 9, nameIndex := 198, descriptorIndex := 335, attributes := #[] }, { accessFlags := 9, nameIndex := 201, descriptorIndex := 335, attributes := #[] }] 49 4 #[] #[{ accessFlags := 25, nameIndex := 354, descriptorIndex := 339, attributes := #[] }, { accessFlags := 25, nameIndex := 358, descriptorIndex := 339, attributes := #[] }, { accessFlags := 25, nameIndex := 361, descriptorIndex := 339, attributes := #[] }, { accessFlags := 26, nameIndex := 364, descriptorIndex := 339, attributes := #[] }, { accessFlags := 26, nameIndex := 365, descriptorIndex := 339, attributes := #[] }, { accessFlags := 26, nameIndex := 172, descriptorIndex := 173, attributes := #[] }, { accessFlags := 26, nameIndex := 176, descriptorIndex := 173, attributes := #[] }, { accessFlags := 8, nameIndex := 344, descriptorIndex := 339, attributes := #[] }, { accessFlags := 8, nameIndex := 338, descriptorIndex := 339, attributes := #[] }, { accessFlags := 4120, nameIndex := 245, descriptorIndex := 246, attributes := #[] }])
  fields := #[{ name := "E", type := .double, accessFlags := 25, slot := 0, constantValue := 0 }, { name := "PI", type := .double, accessFlags := 25, slot := 1, constantValue := 0 }, { name := "TAU", type := .double, accessFlags := 25, slot := 2, constantValue := 0 }, { name := "DEGREES_TO_RADIANS", type := .double, accessFlags := 26, slot := 3, constantValue := 0 }, { name := "RADIANS_TO_DEGREES", type := .double, accessFlags := 26, slot := 4, constantValue := 0 }, { name := "negativeZeroFloatBits", type := .long, accessFlags := 26, slot := 5, constantValue := 0 }, { name := "negativeZeroDoubleBits", type := .long, accessFlags := 26, slot := 6, constantValue := 0 }, { name := "twoToTheDoubleScaleUp", type := .double, accessFlags := 8, slot := 7, constantValue := 0 }, { name := "twoToTheDoubleScaleDown", type := .double, accessFlags := 8, slot := 8, constantValue := 0 }, { name := "$assertionsDisabled", type := .boolean, accessFlags := 4120, slot := 9, constantValue := 0 }]
  methods := #[k9m0, k9m1, k9m2]
  instanceTypes := #[]
  staticTypes := #[.double, .double, .double, .double, .double, .long, .long, .double, .double, .boolean]
  resolved := Array.replicate 460 none
  statics := none }

def pool10 : Array CpInfo := pool [(1, u "java/lang/Cloneable"), (0, .class_ 1), (0, u "java/lang/Object"), (0, .class_ 3)] 3

/-- java/lang/Cloneable -/
def k10 : Class := { plain "java/lang/Cloneable" (some 0) with
  accessFlags := 1537
  interfaces := #[]
  cf := some (fileOf pool10 2 #[] #[] 1537 4 #[] #[])
  fields := #[]
  methods := #[]
  instanceTypes := #[]
  staticTypes := #[]
  resolved := Array.replicate 8 none
  statics := none }

/-- the primitive byte -/
def k11 : Class := { plain "byte" none with kind := .primitive 'B', accessFlags := 0x411 }
/-- [B -/
def k12 : Class := { plain "[B" (some 0) with kind := .array 11 .byte, interfaces := #[10, 3], accessFlags := 1041 }

/-- the primitive int -/
def k13 : Class := { plain "int" none with kind := .primitive 'I', accessFlags := 0x411 }
/-- [I -/
def k14 : Class := { plain "[I" (some 0) with kind := .array 13 .int, interfaces := #[10, 3], accessFlags := 1041 }

def heap : Heap := #[]
def classes : Array Class := #[k0, k1, k2, k3, k4, k5, k6, k7, k8, k9, k10, k11, k12, k13, k14]
def interned : List (Array UInt16 × Addr) := []
def slotsUsed : Nat := 0
def theMethod : MethodId := ⟨1, 1⟩
def args0 : Array Value := #[.int 5, .int 3, .int 4, .int 1]
def aboutOver (below : List Frame) : State where
  vm := { classes := classes, interned := interned.toArray }
  heap := heap
  slotsUsed := slotsUsed
  threads := #[{ frames := .invoking theMethod args0 :: below }]
def below0 : List Frame := [.native { method := ⟨0, 0⟩, args := #[] }]
def about1 : State := aboutOver below0
def p0 : Program := .bare "" "" ""
def e0 : Env := launch0.env 0 0 0
theorem w_frames : about1.frames = Frame.invoking theMethod args0 :: below0 := rfl
set_option maxRecDepth 65536 in
theorem w_args : argsFit about1.vm theMethod args0 = true := by decide +kernel
set_option maxRecDepth 65536 in
theorem w_heap : heapFits about1 = true := by decide +kernel
set_option maxRecDepth 65536 in
theorem w_runnable : about1.curStatus? = some .runnable := by decide +kernel
set_option maxRecDepth 65536 in
theorem w_alone : about1.alone = true := by decide +kernel
set_option maxRecDepth 65536 in
theorem w_named : about1.methodNamed? x = some theMethod := by decide +kernel
set_option maxRecDepth 65536 in
theorem w_hears : about1.hears theMethod below0 = true := by decide +kernel
set_option maxRecDepth 65536 in
theorem w_ripe : about1.ripe theMethod args0 below0 = true := by decide +kernel
theorem w_running : about1.status = .running := rfl
set_option maxRecDepth 65536 in
theorem w_room : about1.hasRoom e0.platform room_1 = true :=
  launch0.hasRoom_least _ room_1 (by decide +kernel) (by decide +kernel) (by decide +kernel) (by decide +kernel) (by decide +kernel) (by decide +kernel)
theorem allAtoms_all (ts : List Jvm.Cond) (a : Array Jvm.Value) (st : Jvm.State) : (allAtoms ts).before a st = ts.all (fun c => c.before a st) := by
  induction ts with
  | nil => rfl
  | cons c t ih =>
    show (Jvm.Cond.and c (allAtoms t)).before a st = _
    rw [Jvm.Cond.before_and, ih, List.all_cons]
def words1 : List Jvm.Cond := Jvm.Cond.code x code maxLocals ret :: tables_1
/-- a 'code' word, met by the world's own term for the bytes: nothing is compared byte by byte -/
theorem code_word {y : MethodName} {bytes : ByteArray} {mx : Nat} {rt : Option FieldType} {a : Array Value} {s : State} {m : MethodId} {meth : Method} {c : Code} (h1 : s.methodNamed? y = some m) (h2 : s.vm.method? m = some meth) (h3 : meth.code = some c) (h4 : c.code = bytes)
    (h5 : (c.maxLocals == mx && c.exceptionTable.isEmpty && decide (c.maxStack ≤ mostOperands) && decide (meth.sig.returnType = rt) && !meth.locks && decide (parseMethodDescriptor y.desc = some meth.sig)) = true) : (Jvm.Cond.code y bytes mx rt).before a s = true := by
  simp only [Bool.and_eq_true, beq_iff_eq, Bool.not_eq_true', decide_eq_true_eq] at h5
  obtain ⟨⟨⟨⟨⟨g1, g2⟩, g3⟩, g4⟩, g5⟩, g6⟩ := h5
  simp [Cond.before, Cond.holds, Cond.value, h1, h2, h3, h4, g1, g2, g3, g4, g5, g6]
def isCode : Jvm.Cond → Bool
  | .code _ _ _ _ => true
  | _ => false
theorem all_split {L : List Jvm.Cond} {P : Jvm.Cond → Bool} (h1 : L.all (fun c => isCode c || P c) = true) (h2 : ∀ c ∈ L.filter isCode, P c = true) : L.all P = true := by
  refine List.all_eq_true.mpr fun c hc => ?_
  have h := List.all_eq_true.mp h1 c hc
  rcases Bool.eq_false_or_eq_true (isCode c) with hi | hi
  · exact h2 c (List.mem_filter.mpr ⟨hc, hi⟩)
  · simpa [hi] using h
set_option maxRecDepth 65536 in
theorem w_c0 : (Jvm.Cond.code x code maxLocals ret).before args0 about1 = true := code_word (m := ⟨1, 1⟩) (meth := k1m1) (c := k1c1) (by decide +kernel) rfl rfl rfl (by decide +kernel)
set_option maxRecDepth 65536 in
theorem w_c1 : (Jvm.Cond.code ({ cls := "com/example/eurybates/eurybates/protocol/VersionRange", name := "<init>", desc := "(Ljava/lang/String;II)V" } : Jvm.MethodName) prog_104_method_2_code (4 : Nat) (Option.none : Option Jvm.ClassFile.FieldType)).before args0 about1 = true := code_word (m := ⟨2, 0⟩) (meth := k2m0) (c := k2c0) (by decide +kernel) rfl rfl rfl (by decide +kernel)
set_option maxRecDepth 65536 in
theorem w_c2 : (Jvm.Cond.code ({ cls := "java/lang/Object", name := "<init>", desc := "()V" } : Jvm.MethodName) object_method_1_code (1 : Nat) (Option.none : Option Jvm.ClassFile.FieldType)).before args0 about1 = true := code_word (m := ⟨0, 0⟩) (meth := k0m0) (c := k0c0) (by decide +kernel) rfl rfl rfl (by decide +kernel)
set_option maxRecDepth 65536 in
theorem w_c3 : (Jvm.Cond.code ({ cls := "com/example/eurybates/eurybates/protocol/VersionRange", name := "holds", desc := "(S)Z" } : Jvm.MethodName) prog_104_method_3_code (2 : Nat) (Option.some Jvm.ClassFile.FieldType.boolean)).before args0 about1 = true := code_word (m := ⟨2, 1⟩) (meth := k2m1) (c := k2c1) (by decide +kernel) rfl rfl rfl (by decide +kernel)
set_option maxRecDepth 65536 in
theorem w_c4 : (Jvm.Cond.code ({ cls := "java/lang/Math", name := "min", desc := "(II)I" } : Jvm.MethodName) jdk_29_method_69_code (2 : Nat) (Option.some Jvm.ClassFile.FieldType.int)).before args0 about1 = true := code_word (m := ⟨9, 2⟩) (meth := k9m2) (c := k9c2) (by decide +kernel) rfl rfl rfl (by decide +kernel)
set_option maxRecDepth 65536 in
theorem w_c5 : (Jvm.Cond.code ({ cls := "java/lang/Math", name := "max", desc := "(II)I" } : Jvm.MethodName) jdk_29_method_65_code (2 : Nat) (Option.some Jvm.ClassFile.FieldType.int)).before args0 about1 = true := code_word (m := ⟨9, 1⟩) (meth := k9m1) (c := k9c1) (by decide +kernel) rfl rfl rfl (by decide +kernel)
def codes1 : List Jvm.Cond := [Jvm.Cond.code x code maxLocals ret, Jvm.Cond.code ({ cls := "com/example/eurybates/eurybates/protocol/VersionRange", name := "<init>", desc := "(Ljava/lang/String;II)V" } : Jvm.MethodName) prog_104_method_2_code (4 : Nat) (Option.none : Option Jvm.ClassFile.FieldType), Jvm.Cond.code ({ cls := "java/lang/Object", name := "<init>", desc := "()V" } : Jvm.MethodName) object_method_1_code (1 : Nat) (Option.none : Option Jvm.ClassFile.FieldType), Jvm.Cond.code ({ cls := "com/example/eurybates/eurybates/protocol/VersionRange", name := "holds", desc := "(S)Z" } : Jvm.MethodName) prog_104_method_3_code (2 : Nat) (Option.some Jvm.ClassFile.FieldType.boolean), Jvm.Cond.code ({ cls := "java/lang/Math", name := "min", desc := "(II)I" } : Jvm.MethodName) jdk_29_method_69_code (2 : Nat) (Option.some Jvm.ClassFile.FieldType.int), Jvm.Cond.code ({ cls := "java/lang/Math", name := "max", desc := "(II)I" } : Jvm.MethodName) jdk_29_method_65_code (2 : Nat) (Option.some Jvm.ClassFile.FieldType.int)]
set_option maxRecDepth 65536 in
theorem codes_eq : words1.filter isCode = codes1 := rfl
theorem w_codes : ∀ c ∈ words1.filter isCode, c.before args0 about1 = true := by
  rw [codes_eq]
  intro c hc
  simp only [codes1, List.mem_cons, List.not_mem_nil, or_false] at hc
  rcases hc with rfl | rfl | rfl | rfl | rfl | rfl
  · exact w_c0
  · exact w_c1
  · exact w_c2
  · exact w_c3
  · exact w_c4
  · exact w_c5
set_option maxRecDepth 65536 in
theorem w_t1 : (words1.take 24).all (fun c => isCode c || c.before args0 about1) = true := by decide +kernel
set_option maxRecDepth 65536 in
theorem w_t2 : (words1.drop 24).all (fun c => isCode c || c.before args0 about1) = true := by decide +kernel
theorem w_tables : (allAtoms (Jvm.Cond.code x code maxLocals ret :: tables_1)).before args0 about1 = true := by
  rw [allAtoms_all]
  show words1.all (fun c => c.before args0 about1) = true
  refine all_split ?_ w_codes
  rw [← List.take_append_drop 24 words1, List.all_append, w_t1, w_t2]
  rfl
set_option maxRecDepth 65536 in
theorem w_case : (Jvm.Cond.and given_1 narrow_1).before args0 about1 = true := by decide +kernel
theorem w_applies : (headSpec (Jvm.Cond.code x code maxLocals ret :: tables_1) room_1).applies x e0.platform about1 = true :=
  (Spec.applies_iff w_frames).mpr ⟨w_running, w_runnable, w_alone, w_named, w_hears, w_ripe, w_room, w_tables⟩
theorem atStart : AtStart classFile x code maxLocals ret World_1 tables_1 room_1 Calls_1 rest_1 Pre_1 launch0 p0 e0 about1 theMethod args0 below0 :=
  ⟨lists_1, trivial, launch0.admits_env _ _ _, launch0.least_env, fairChoices_fair.cas, fairChoices_fair.clock, w_frames, w_args, w_heap, w_applies, trivial, trivial, w_case⟩
end start1
theorem witness_1 : WitnessClaimed_1 := ⟨start1.p0, start1.e0, start1.about1, start1.theMethod, start1.args0, start1.below0, start1.atStart⟩
end Jvm.Pilot.@@N@@
